import JvmDerived
import JvmDerived.Pilot.@@N@@Statement
import JvmDerived.Pilot.@@N@@Code
set_option linter.unusedVariables false
set_option linter.unusedSimpArgs false
namespace Jvm.RoadKit
open Sem ClassFile Op Lib Jvm.Stand Jvm.Free Jvm.LawKit
section New
variable {p : Program} {l : Launch} {e : Env} {R : Room} {s : State} {m : MethodId} {args : Array Value} {below : List Frame} {meth : Method} {c : Code} {T : State} {locs : List Loc} {cells slots : Nat}
theorem retI (X : Stand p l e R s m args below meth c T locs cells slots) (hx : p.tables.exec = Jvm.exec) {pc : Nat} {Ls : Array Slot} {z : Int32} {rest : List Value} (hret : meth.sig.returnType = some .int) (hd : decode c.code pc = .ok (.ireturn, 1)) {fs : List Frame}
    (hl : ∀ (f : JFrame) (acts : List Action), f.method = m → f.locked = none → f.entered = [] → (doReturn e (T.setTop f) acts (some (.int z))).1 = T.setFrames fs) : Steps p.tables e below (T.setTop (mkF m pc Ls (.int z :: rest))) (T.setFrames fs) := by
  have hm' : T.vm.method? m = some meth := X.method'
  have hn : narrow .int (.int z) = .int z := rfl
  show Steps p.tables e below (T.setTop { method := m, pc := pc, locals := Ls, stack := _ :: rest, locked := none }) _
  jvm_step X.here [X.here.top, hx, hd, hm', hret, hn]
  first | (intro acts; rw [hl _ acts rfl rfl rfl]) | rw [hl _ _ rfl rfl rfl]
  exact Steps.refl _
end New
end Jvm.RoadKit
namespace Jvm.Pilot.@@N@@
open Jvm Jvm.ClassFile Sem Op Lib Jvm.Free Jvm.Stand Jvm.LawKit Jvm.RoadKit Bundle Jvm.Pilot.@@N@@.Jvm.D
/-- what a body that writes nothing leaves -/
def QN (w : Option Value) (h0 : Heap) (n0 : Nat) (v : Option Value) (h : Heap) (L : List Loc) : Prop := v = w ∧ Fr n0 L ∧ h = h0
theorem own_ltI {a b : Int32} (h : a.toInt < b.toInt) : a < b := Int32.lt_iff_toInt_lt.mpr h
theorem own_geI {a b : Int32} (h : b.toInt ≤ a.toInt) : ¬ a < b := fun q => by have := Int32.lt_iff_toInt_lt.mp q; omega
theorem own_eqI {a b : Int32} (h : a.toInt = b.toInt) : a = b := Int32.toInt_inj.mp h
theorem own_neI {a b : Int32} (h : a.toInt ≠ b.toInt) : ¬ a = b := fun q => h (congrArg _ q)
theorem own_ltL {a b : Int64} (h : a.toInt < b.toInt) : a < b := Int64.lt_iff_toInt_lt.mpr h
theorem own_geL {a b : Int64} (h : b.toInt ≤ a.toInt) : ¬ a < b := fun q => by have := Int64.lt_iff_toInt_lt.mp q; omega
theorem own_eqL {a b : Int64} (h : a.toInt = b.toInt) : a = b := Int64.toInt_inj.mp h
theorem own_neL {a b : Int64} (h : a.toInt ≠ b.toInt) : ¬ a = b := fun q => h (congrArg _ q)
theorem own_irrI (a : Int32) : ¬ a < a := own_geI (by omega)
theorem own_irrL (a : Int64) : ¬ a < a := own_geL (by omega)
theorem own_irem (x y : Int32) : x - (x / y) * y = x % y := by
  apply Int32.toInt_inj.mp
  have h1 := Int32.le_toInt (x % y)
  have h2 := Int32.toInt_lt (x % y)
  rw [Int32.toInt_sub, Int32.toInt_mul, Int32.toInt_div, Int.bmod_mul_bmod, Int.sub_bmod_bmod, Int.mul_comm (x.toInt.tdiv y.toInt), ← Int.tmod_def, ← Int32.toInt_mod]
  exact Int.bmod_eq_of_le_mul_two (by omega) (by omega)
theorem own_fld {args : Array Value} {s : State} {t : Term} {n : Int32} (h : (Cond.eq t (.int n)).value args s none s [] = some true) : t.eval args s none [] s = some (.int n) := by
  obtain ⟨x, y, h1, h2, k1, k2⟩ := cmp_v (Or.inl h)
  have h3 : y = .int n := (Option.some.inj h2).symm
  subst h3
  obtain ⟨z, rfl⟩ := k2
  have h4 := gotT (Cond.eq_ints h1 h2) h
  rw [h1, h4]
theorem own_fldL {args : Array Value} {s : State} {t : Term} {n : Int64} (h : (Cond.eq t (.long n)).value args s none s [] = some true) : t.eval args s none [] s = some (.long n) := by
  obtain ⟨x, y, h1, h2, k1, k2⟩ := cmp_v (Or.inl h)
  have h3 : y = .long n := (Option.some.inj h2).symm
  subst h3
  obtain ⟨z, rfl⟩ := k2
  have h4 := gotT (eq_L h1 h2) h
  rw [h1, h4]
theorem own_ne {args : Array Value} {s : State} {t u : Term} {a b : Addr} {C n d : String} {i j : Int32} (ht : t.eval args s none [] s = some (.ref a)) (hu : u.eval args s none [] s = some (.ref b)) (h1 : (Cond.eq (.field t C n d) (.int i)).value args s none s [] = some true) (h2 : (Cond.eq (.field u C n d) (.int j)).value args s none s [] = some true) (hij : i ≠ j) : ¬ a = b := fun q => by
  subst q
  have e1 := own_fld h1
  have e2 := own_fld h2
  rw [fld_at ht] at e1
  rw [fld_at hu, e1] at e2
  exact hij (Value.int.inj (Option.some.inj e2))

def own_vs (q : Nat) (w : Int64) : List Value := (List.replicate 64 (.long (0 : Int64))).set q (.long w)
theorem own_vs_at {q : Nat} (w : Int64) (h : q < 64) : (own_vs q w).getD q (.long (0 : Int64)) = .long w := by
  simp [own_vs, List.getD, h]
theorem own_vs_ne {q i : Nat} (w : Int64) (h : i ≠ q) : (own_vs q w).getD i (.long (0 : Int64)) = .long (0 : Int64) := by
  simp only [own_vs, List.getD, List.getElem?_set_ne (Ne.symm h), List.getElem?_replicate]
  split <;> rfl
theorem own_nil (i : Nat) : List.getD ([] : List Value) i (.long (0 : Int64)) = .long (0 : Int64) := rfl
theorem own_rep (n i : Nat) : (List.replicate n (Value.long (0 : Int64))).getD i (.long (0 : Int64)) = .long (0 : Int64) := by
  simp only [List.getD, List.getElem?_replicate]; split <;> rfl
theorem own_cp {f : Nat → Value} {n m : Nat} (h : ∀ i, i < n → f i = .long (0 : Int64)) (i : Nat) : List.getD ([] : List Value) i (.long (0 : Int64)) = (((List.range n).map f) ++ List.replicate m (Value.long (0 : Int64))).getD i (.long (0 : Int64)) := by
  rw [own_nil]
  simp only [List.getD]
  rw [List.getElem?_append]
  split
  · next hl =>
    have hl' : i < n := by simpa using hl
    rw [List.getElem?_map, List.getElem?_range hl']
    exact (h i hl').symm
  · rw [List.getElem?_replicate]; split <;> rfl
theorem own_i {n : Nat} (h : n < 2147483648) : (Int32.ofNat n).toInt = n := Int32.toInt_ofNat_small h
theorem own_ofNat {x : Int32} {n : Nat} (h : x.toInt = n) : x = Int32.ofNat n := by
  have h1 := Int32.toInt_lt x
  exact Int32.toInt_inj.mp (by rw [h, own_i (by omega)])
theorem own_nlz : ∀ k : Fin 64, Jvm.Free.JP.Long_numberOfLeadingZeros_J.val ((1 : Int64) <<< (Int32.ofNat k.val).toInt64) = Int32.ofNat (63 - k.val) := by decide +kernel
theorem own_mask : ∀ k j : Fin 64, j.val ≤ k.val → (((1 : Int64) <<< (Int32.ofNat k.val).toInt64) &&& (((1 : Int64) <<< (Int32.ofNat j.val).toInt64) - (1 : Int64))) = 0 := by decide +kernel
theorem own_m63 {x : Int32} (h : 0 ≤ x.toInt) : (x &&& 0x3f) = Int32.ofNat (x.toInt.toNat % 64) := by
  have h1 := c_mask x 63 6 (by decide) (by decide)
  rw [show ((2 ^ 6 : Nat) : Int) = 64 from rfl] at h1
  exact own_ofNat (by rw [show (0x3f : Int32) = 63 from rfl, h1]; omega)
theorem own_set0 {vs : List Value} {q : Nat} (h0 : ∀ i, i ≠ q → vs.getD i (.long (0 : Int64)) = .long (0 : Int64)) (hl : q < vs.length) (i : Nat) : List.getD ([] : List Value) i (.long (0 : Int64)) = (vs.set q (.long (0 : Int64))).getD i (.long (0 : Int64)) := by
  by_cases hi : i = q
  · subst hi; simp [List.getD, hl]
  · have h := h0 i hi
    simp only [List.getD] at h ⊢
    rw [List.getElem?_set_ne (Ne.symm hi), h]; rfl
theorem own_set1 {q : Nat} (hq : q < 64) (i : Nat) : List.getD ([] : List Value) i (.long (0 : Int64)) = ((List.replicate 64 (Value.long (0 : Int64))).set q (.long (0 : Int64))).getD i (.long (0 : Int64)) :=
  own_set0 (fun i _ => own_rep 64 i) (by rw [List.length_replicate]; exact hq) i
def QC (Z : State) (a1 a2 : Addr) (h0 : Heap) (n0 : Nat) (v : Option Value) (h : Heap) (L : List Loc) : Prop := v = none ∧ Fr n0 L ∧ Keep h0 h [a1] ∧ Exa Z h a1 "com/example/deftab/deftab/reasoning/DependencySet" ∧ Fld Z h a1 "com/example/deftab/deftab/reasoning/DependencySet" "words" "[J" (.ref a2)
theorem pn_2 : plainName "com/example/deftab/deftab/reasoning/DependencySet" = true := by first | (simp [plainName, overriddenIn]; done) | decide +kernel
theorem ef_2 (m : MethodId) (x0 : Addr) (x1 : Addr) : entryFrame m #[(.ref x0), (.ref x1)] 2 = mkF m 0 #[.val (.ref x0), .val (.ref x1)] [] := by first | (simp [entryFrame, mkF, argsToLocals, Value.category]; done) | rfl
theorem d2_0 : decode prog_29_method_1_code 0 = .ok (.aload_n 0, 1) := by decide +kernel
theorem d2_1 : decode prog_29_method_1_code 1 = .ok (.invokespecial 1, 3) := by decide +kernel
theorem d2_4 : decode prog_29_method_1_code 4 = .ok (.aload_n 0, 1) := by decide +kernel
theorem d2_5 : decode prog_29_method_1_code 5 = .ok (.aload_n 1, 1) := by decide +kernel
theorem d2_6 : decode prog_29_method_1_code 6 = .ok (.putfield 7, 3) := by decide +kernel
theorem d2_9 : decode prog_29_method_1_code 9 = .ok (.return_, 1) := by decide +kernel
set_option maxRecDepth 65536 in
set_option maxHeartbeats 40000000 in
theorem rmC (l : Launch) (Z : State) (a0 : Array Value) (hw : ∀ d ∈ tables_1, d.before a0 Z = true) (ws : List Jvm.Cond) (a1 : Addr) (a2 : Addr) (h0 : Heap) (n0 : Nat) (Z0 : n0 ≤ h0.size) (E_a1 : Exa Z h0 a1 "com/example/deftab/deftab/reasoning/DependencySet") (F_words_a1 : Fld Z h0 a1 "com/example/deftab/deftab/reasoning/DependencySet" "words" "[J" .null) (g_a1 : n0 ≤ a1) :
    MetFree l (⟨"com/example/deftab/deftab/reasoning/DependencySet", "<init>", "([J)V"⟩ : MethodName) (head1 (Jvm.Cond.code (⟨"com/example/deftab/deftab/reasoning/DependencySet", "<init>", "([J)V"⟩ : MethodName) prog_29_method_1_code 2 none :: ws) ({ frames := 1, cells := 0, slots := 0, locals := 12 } : Room)) (fun a U => a = #[(.ref a1), (.ref a2)] ∧ Z.Warmed39 U.vm ∧ U.heap = h0) (fun _ _ _ _ _ => True) (fun _ U o U' => ∃ v L, o = .returned v ∧ QC Z a1 a2 h0 n0 v U'.heap L ∧ FrameEnd U o U' L ({ frames := 1, cells := 0, slots := 0, locals := 12 } : Room).cells ({ frames := 1, cells := 0, slots := 0, locals := 12 } : Room).slots) := by
  refine MetFree.of_bodySF (plainFor_of_name pn_2) hisR ?_
  intro p e s m args below meth c s₁ Bd hml0 hP hK
  obtain ⟨rfl, hZ, hh⟩ := hP
  have hx := Bd.exec
  have hby := Bd.bytes
  have hml : c.maxLocals = 2 := hml0
  have hown : s.vm.findClass "com/example/deftab/deftab/reasoning/DependencySet" = some m.cls := findClass_of_methodNamed Bd.named
  have hnm := (name_of_methodNamed Bd.named Bd.method).1
  have X0 : Stand p l e ({ frames := 1, cells := 0, slots := 0, locals := 12 } : Room) s m #[(.ref a1), (.ref a2)] below meth c s₁ [] 0 0 := Stand.of_body Bd
  have e0 : s₁.heap = h0 := by rw [← hh, Bd.state]; rfl
  have N0 := Fr.nil n0
  have pre0 : ∀ t, Steps p.tables e below (s₁.setTop (mkF m 0 #[.val (.ref a1), .val (.ref a2)] [])) t → Steps p.tables e below (s₁.setTop (entryFrame m #[(.ref a1), (.ref a2)] 2)) t := fun t k => castTop (ef_2 m a1 a2) k
  have K0 : Keep h0 h0 [a1] := Keep.refl _ _
  obtain ⟨T3, X3, e3, st3⟩ := initO X0 hx hZ hown (hw _ (List.mem_of_getElem? (i := 11) rfl)) (hw _ (List.mem_of_getElem? (i := 12) rfl)) (hw _ (List.mem_of_getElem? (i := 13) rfl)) e0 (g := (mkF m 1 #[.val (.ref a1), .val (.ref a2)] [(.ref a1)])) rfl (by rw [hml]; rfl) rfl (hb hby d2_1) (by decide) (W := 0) (by show 2 * 0 + _ ≤ _; exact Nat.le_of_eq rfl) (by decide)
  obtain ⟨T4, h4, X4, e4, W4, st4⟩ := putF X3 hx hZ hown (host := "") (Or.inl (hw _ (List.mem_of_getElem? (i := 14) rfl))) Via.refl e3 F_words_a1 E_a1 (Or.inr ⟨(hw _ (List.mem_of_getElem? (i := 15) rfl)), rfl, hnm⟩) (hw _ (List.mem_of_getElem? (i := 7) rfl)) (ty := (.array .long)) (by decide) rfl rfl (g := (mkF m 6 #[.val (.ref a1), .val (.ref a2)] [(.ref a2), (.ref a1)])) rfl rfl (hb hby d2_6)
  have E_a1_4 := E_a1.wr W4
  have SZ4 : n0 ≤ h4.size := by rw [W4.size]; exact Z0
  have K4 := K0.wr W4 (Or.inl (List.mem_of_getElem? (i := 0) rfl))
  have N4 := Fr.snoc X4 N0 g_a1
  have F_words_a1_4 := F_words_a1.same W4
  obtain ⟨fs, hr, hrun, hended, hW, hsame⟩ := X4.leave (v := none) (fun _ => rfl)
  refine ⟨_, _, pre0 _ ?_, hrun, hended, _, _, rfl, ?_, ⟨_, rfl⟩, hW, hsame.mono (by decide) (by decide)⟩
  · show Steps p.tables e below (s₁.setTop (mkF m 0 #[.val (.ref a1), .val (.ref a2)] [])) _
    refine XS.aloadN X0.here hx rfl (hb hby d2_0) rfl rfl ?_
    show Steps p.tables e below (s₁.setTop (mkF m 1 #[.val (.ref a1), .val (.ref a2)] [(.ref a1)])) _
    refine st3 _ ?_
    show Steps p.tables e below (T3.setTop (mkF m 4 #[.val (.ref a1), .val (.ref a2)] [])) _
    refine XS.aloadN X3.here hx rfl (hb hby d2_4) rfl rfl ?_
    show Steps p.tables e below (T3.setTop (mkF m 5 #[.val (.ref a1), .val (.ref a2)] [(.ref a1)])) _
    refine XS.aloadN X3.here hx rfl (hb hby d2_5) rfl rfl ?_
    show Steps p.tables e below (T3.setTop (mkF m 6 #[.val (.ref a1), .val (.ref a2)] [(.ref a2), (.ref a1)])) _
    refine st4 _ ?_
    show Steps p.tables e below (T4.setTop (mkF m 9 #[.val (.ref a1), .val (.ref a2)] [])) _
    exact X4.returnOut hx Bd.returns (hb hby d2_9) hr
  · show QC Z a1 a2 h0 n0 _ T4.heap _
    rw [e4]
    exact ⟨rfl, N4, K4, E_a1_4, F_words_a1_4⟩
def QO (Z : State) (zz : Int32) (q : Nat) (ww : Int64) (h0 : Heap) (n0 : Nat) (v : Option Value) (h : Heap) (L : List Loc) : Prop := ∃ (b u : Addr) (k : ClassId), v = some (.ref b) ∧ Fr n0 L ∧ Keep h0 h [] ∧ n0 ≤ b ∧ n0 ≤ u ∧ b ≠ u ∧ Exa Z h b "com/example/deftab/deftab/reasoning/DependencySet" ∧ Fld Z h b "com/example/deftab/deftab/reasoning/DependencySet" "words" "[J" (.ref u) ∧ Arv Z h u k .long zz (own_vs q ww) (.long (0 : Int64)) ∧ Exa Z h u "[J"
theorem pn_1 : plainName "com/example/deftab/deftab/reasoning/DependencySet" = true := by first | (simp [plainName, overriddenIn]; done) | decide +kernel
theorem ef_1 (m : MethodId) (x0 : Int32) : entryFrame m #[(.int x0)] 2 = mkF m 0 #[.val (.int x0), .unset] [] := by first | (simp [entryFrame, mkF, argsToLocals, Value.category]; done) | rfl
theorem d1_0 : decode prog_29_method_2_code 0 = .ok (.iload_n 0, 1) := by decide +kernel
theorem d1_1 : decode prog_29_method_2_code 1 = .ok (.bipush 64, 2) := by decide +kernel
theorem d1_3 : decode prog_29_method_2_code 3 = .ok (.idiv, 1) := by decide +kernel
theorem d1_4 : decode prog_29_method_2_code 4 = .ok (.iconst 1, 1) := by decide +kernel
theorem d1_5 : decode prog_29_method_2_code 5 = .ok (.iadd, 1) := by decide +kernel
theorem d1_6 : decode prog_29_method_2_code 6 = .ok (.newarray .long, 2) := by decide +kernel
theorem d1_8 : decode prog_29_method_2_code 8 = .ok (.astore_n 1, 1) := by decide +kernel
theorem d1_9 : decode prog_29_method_2_code 9 = .ok (.aload_n 1, 1) := by decide +kernel
theorem d1_10 : decode prog_29_method_2_code 10 = .ok (.iload_n 0, 1) := by decide +kernel
theorem d1_11 : decode prog_29_method_2_code 11 = .ok (.bipush 64, 2) := by decide +kernel
theorem d1_13 : decode prog_29_method_2_code 13 = .ok (.idiv, 1) := by decide +kernel
theorem d1_14 : decode prog_29_method_2_code 14 = .ok (.lconst 1, 1) := by decide +kernel
theorem d1_15 : decode prog_29_method_2_code 15 = .ok (.iload_n 0, 1) := by decide +kernel
theorem d1_16 : decode prog_29_method_2_code 16 = .ok (.lshl, 1) := by decide +kernel
theorem d1_17 : decode prog_29_method_2_code 17 = .ok (.lastore, 1) := by decide +kernel
theorem d1_18 : decode prog_29_method_2_code 18 = .ok (.new 8, 3) := by decide +kernel
theorem d1_21 : decode prog_29_method_2_code 21 = .ok (.dup, 1) := by decide +kernel
theorem d1_22 : decode prog_29_method_2_code 22 = .ok (.aload_n 1, 1) := by decide +kernel
theorem d1_23 : decode prog_29_method_2_code 23 = .ok (.invokespecial 15, 3) := by decide +kernel
theorem pd_0 : parseMethodDescriptor "([J)V" = some ⟨[(.array .long)], none⟩ := by decide +kernel
theorem d1_26 : decode prog_29_method_2_code 26 = .ok (.areturn, 1) := by decide +kernel
set_option maxRecDepth 65536 in
set_option maxHeartbeats 40000000 in
theorem rmO (l : Launch) (Z : State) (a0 : Array Value) (hw : ∀ d ∈ tables_1, d.before a0 Z = true) (ws : List Jvm.Cond) (p1 : Int32) (qq : Int32) (zz : Int32) (ww : Int64) (h0 : Heap) (n0 : Nat) (Z0 : n0 ≤ h0.size) (hq : (p1 / (64 : Int32)) = qq) (hz : (qq + (1 : Int32)) = zz) (hww : ((1 : Int64) <<< (p1 &&& 0x3f).toInt64) = ww) (zn : ¬ zz < 0) (zc : zz.toNatClampNeg ≤ 64) (qn : ¬ qq < 0) (qz : qq < zz) (q64 : qq.toNatClampNeg < 64) :
    MetFree l (⟨"com/example/deftab/deftab/reasoning/DependencySet", "of", "(I)Lcom/example/deftab/deftab/reasoning/DependencySet;"⟩ : MethodName) (head1 (Jvm.Cond.code (⟨"com/example/deftab/deftab/reasoning/DependencySet", "of", "(I)Lcom/example/deftab/deftab/reasoning/DependencySet;"⟩ : MethodName) prog_29_method_2_code 2 (some (.object "com/example/deftab/deftab/reasoning/DependencySet")) :: ws) ({ frames := 2, cells := 2, slots := 65, locals := 26 } : Room)) (fun a U => a = #[(.int p1)] ∧ Z.Warmed39 U.vm ∧ U.heap = h0) (fun _ _ _ _ _ => True) (fun _ U o U' => ∃ v L, o = .returned v ∧ QO Z zz qq.toNatClampNeg ww h0 n0 v U'.heap L ∧ FrameEnd U o U' L ({ frames := 2, cells := 2, slots := 65, locals := 26 } : Room).cells ({ frames := 2, cells := 2, slots := 65, locals := 26 } : Room).slots) := by
  refine MetFree.of_bodySF (plainFor_of_name pn_1) hisR ?_
  intro p e s m args below meth c s₁ Bd hml0 hP hK
  obtain ⟨rfl, hZ, hh⟩ := hP
  have hx := Bd.exec
  have hby := Bd.bytes
  have hml : c.maxLocals = 2 := hml0
  have hown : s.vm.findClass "com/example/deftab/deftab/reasoning/DependencySet" = some m.cls := findClass_of_methodNamed Bd.named
  have hnm := (name_of_methodNamed Bd.named Bd.method).1
  have X0 : Stand p l e ({ frames := 2, cells := 2, slots := 65, locals := 26 } : Room) s m #[(.int p1)] below meth c s₁ [] 0 0 := Stand.of_body Bd
  have e0 : s₁.heap = h0 := by rw [← hh, Bd.state]; rfl
  have N0 := Fr.nil n0
  have pre0 : ∀ t, Steps p.tables e below (s₁.setTop (mkF m 0 #[.val (.int p1), .unset] [])) t → Steps p.tables e below (s₁.setTop (entryFrame m #[(.int p1)] 2)) t := fun t k => castTop (ef_1 m p1) k
  have K0 : Keep h0 h0 [] := Keep.refl _ _
  obtain ⟨T2, h2, k2, X2, e2, E2, A2, B2, st2⟩ := newPE X0 hx hZ (hw _ (List.mem_of_getElem? (i := 5) rfl)) e0 (g := (mkF m 6 #[.val (.int p1), .unset] [(.int zz)])) rfl (hb hby d1_6) rfl zn (cap := 64) zc (by decide) (by decide) (by decide) (ad := "[J") rfl
  obtain ⟨b2, g2⟩ : ∃ z, z = h0.size := ⟨_, rfl⟩
  rw [← g2] at A2 B2 st2
  have g_b2 : n0 ≤ b2 := Nat.le_trans Z0 (Nat.le_of_eq g2.symm)
  have sz_b2 : h0.size ≤ b2 := Nat.le_of_eq g2.symm
  have s0_b2 : h0.size ≤ b2 := Nat.le_trans K0.1 (Nat.le_of_eq g2.symm)
  have SZ2 : n0 ≤ h2.size := Nat.le_trans Z0 E2.1
  have K2 := K0.ext E2
  have V_b2 : Arv Z h2 b2 k2 .long zz (List.replicate 64 (.long (0 : Int64))) (.long (0 : Int64)) := (Arv.new A2 zn).pad (pad_rep [] (.long (0 : Int64)) 64)
  have E_b2 := B2
  obtain ⟨clu3, Aru3, qu3, Su3, Mu3, Hu3, Gu3⟩ := id V_b2
  have hinu3 : ¬ (qq < 0 ∨ clu3.slots.size ≤ (qq).toNatClampNeg) := inb_of Su3 ⟨qn, qz⟩
  obtain ⟨T4, h4, X4, e4, W4, st4⟩ := stJ X2 hx hZ e2 Aru3 (j := qq) hinu3 (g := (mkF m 17 #[.val (.int p1), .val (.ref b2)] [(.long ww), (.int qq), (.ref b2)])) rfl rfl (hb hby d1_17)
  have E_b2_4 := E_b2.wr W4
  have SZ4 : n0 ≤ h4.size := by rw [W4.size]; exact SZ2
  have K4 := K2.wr W4 (Or.inr s0_b2)
  have N4 := Fr.snoc X4 N0 g_b2
  have V_b2_4 : Arv Z h4 b2 k2 .long zz (own_vs qq.toNatClampNeg ww) (.long (0 : Int64)) := Arv.set Aru3 qu3 Su3 Mu3 Hu3 Gu3 rfl W4 qq.toNatClampNeg rfl (by rw [List.length_replicate]; exact q64)
  obtain ⟨T5, h5, X5, e5, E5, A5, D5, -, st5⟩ := newO X4 hx hZ hown (hw _ (List.mem_of_getElem? (i := 6) rfl)) (hw _ (List.mem_of_getElem? (i := 7) rfl)) (hw _ (List.mem_of_getElem? (i := 3) rfl)) e4 (g := (mkF m 18 #[.val (.int p1), .val (.ref b2)] [])) rfl (hb hby d1_18) (by decide) (by decide)
  obtain ⟨b5, g5⟩ : ∃ z, z = h4.size := ⟨_, rfl⟩
  rw [← g5] at A5 D5 st5
  have ne_b2_b5 : b2 ≠ b5 := Nat.ne_of_lt (Nat.lt_of_lt_of_le V_b2_4.lt (Nat.le_of_eq g5.symm))
  have g_b5 : n0 ≤ b5 := Nat.le_trans SZ4 (Nat.le_of_eq g5.symm)
  have sz_b5 : h4.size ≤ b5 := Nat.le_of_eq g5.symm
  have s0_b5 : h0.size ≤ b5 := Nat.le_trans K4.1 (Nat.le_of_eq g5.symm)
  have V_b2_5 := V_b2_4.ext E5
  have E_b2_5 := E_b2_4.ext E5
  have SZ5 : n0 ≤ h5.size := Nat.le_trans SZ4 E5.1
  have K5 := K4.ext E5
  have E_b5 := A5
  have F_words_b5 : Fld Z h5 b5 "com/example/deftab/deftab/reasoning/DependencySet" "words" "[J" .null := D5 (Or.inr (hw _ (List.mem_of_getElem? (i := 15) rfl))) (ty := (.array .long)) (by decide)
  obtain ⟨_, _, ⟨T6, L6, k6, n6⟩, -, X6, ⟨Lc6, hQ6, l6, y6, z6⟩, st6⟩ := X5.specialBack hx (y := (⟨"com/example/deftab/deftab/reasoning/DependencySet", "<init>", "([J)V"⟩ : MethodName)) rfl hown (mvT hZ (hw _ (List.mem_of_getElem? (i := 8) rfl))) (mvT hZ (hw _ (List.mem_of_getElem? (i := 9) rfl))) (mvT hZ (hw _ (List.mem_of_getElem? (i := 10) rfl))) (by decide) (backOf (W := 1) (rmC l Z a0 hw [] b5 b2 h5 n0 SZ5 (E_b5) (F_words_b5) (g_b5)) hZ (hw _ (List.mem_of_getElem? (i := 10) rfl)) (hw _ (List.mem_of_getElem? (i := 3) rfl)) (by decide) (by decide)) (g := (mkF m 23 #[.val (.int p1), .val (.ref b2)] [(.ref b2), (.ref b5), (.ref b5)])) rfl (by rw [hml]; rfl) (Steps.refl _) (a := b5) (argsL := [(.ref b2)]) (rest := [(.ref b5)]) (lenOf pd_0 rfl) rfl (by show 2 * 0 + _ ≤ _; exact Nat.le_of_eq rfl) (hb hby d1_23) (fun _ _ => ⟨rfl, e5, (by decide : 2 + 0 ≤ _), (by decide : 65 + 0 ≤ _)⟩)
  dsimp only [Pt.U, Pt.locs, Pt.cells, Pt.slots] at X6 l6 y6 z6 st6 hQ6
  subst l6 y6 z6
  have e6 : T6.heap = T6.heap := rfl
  obtain ⟨rfl, N6q, KK6, xE6, xF6⟩ := hQ6
  have N6 := Fr.app N4 N6q
  have V_b2_6 := V_b2_5.keep KK6 (ninS ne_b2_b5 nin0)
  have E_b2_6 := E_b2_5.keep KK6
  have E_b5_6 := E_b5.keep KK6
  have SZ6 : n0 ≤ T6.heap.size := Nat.le_trans SZ5 KK6.1
  have K6 := Keep.trans K5 KK6 (allS (Or.inr s0_b5) all0)
  obtain ⟨fs, hr, hrun, hended, hW, hsame⟩ := X6.leave (v := some (.ref b5)) (fun h => by rw [Bd.returns] at h; cases h)
  refine ⟨_, _, pre0 _ ?_, hrun, hended, _, _, rfl, ?_, ⟨_, rfl⟩, hW, hsame.mono (by decide) (by decide)⟩
  · show Steps p.tables e below (s₁.setTop (mkF m 0 #[.val (.int p1), .unset] [])) _
    refine XS.iloadN X0.here hx rfl (hb hby d1_0) rfl ?_
    show Steps p.tables e below (s₁.setTop (mkF m 1 #[.val (.int p1), .unset] [(.int p1)])) _
    refine XS.bipush X0.here hx rfl (hb hby d1_1) ?_
    show Steps p.tables e below (s₁.setTop (mkF m 3 #[.val (.int p1), .unset] [(.int (64 : Int32)), (.int p1)])) _
    refine XS.idiv X0.here hx rfl (hb hby d1_3) rfl (by decide) ?_
    rw [hq]
    show Steps p.tables e below (s₁.setTop (mkF m 4 #[.val (.int p1), .unset] [(.int qq)])) _
    refine XS.iconst X0.here hx rfl (hb hby d1_4) ?_
    show Steps p.tables e below (s₁.setTop (mkF m 5 #[.val (.int p1), .unset] [(.int (1 : Int32)), (.int qq)])) _
    refine XS.iadd X0.here hx rfl (hb hby d1_5) rfl ?_
    rw [hz]
    show Steps p.tables e below (s₁.setTop (mkF m 6 #[.val (.int p1), .unset] [(.int zz)])) _
    refine st2 _ ?_
    show Steps p.tables e below (T2.setTop (mkF m 8 #[.val (.int p1), .unset] [(.ref b2)])) _
    refine XS.astoreN X2.here hx rfl (hb hby d1_8) rfl rfl (l' := #[.val (.int p1), .val (.ref b2)]) rfl ?_
    show Steps p.tables e below (T2.setTop (mkF m 9 #[.val (.int p1), .val (.ref b2)] [])) _
    refine XS.aloadN X2.here hx rfl (hb hby d1_9) rfl rfl ?_
    show Steps p.tables e below (T2.setTop (mkF m 10 #[.val (.int p1), .val (.ref b2)] [(.ref b2)])) _
    refine XS.iloadN X2.here hx rfl (hb hby d1_10) rfl ?_
    show Steps p.tables e below (T2.setTop (mkF m 11 #[.val (.int p1), .val (.ref b2)] [(.int p1), (.ref b2)])) _
    refine XS.bipush X2.here hx rfl (hb hby d1_11) ?_
    show Steps p.tables e below (T2.setTop (mkF m 13 #[.val (.int p1), .val (.ref b2)] [(.int (64 : Int32)), (.int p1), (.ref b2)])) _
    refine XS.idiv X2.here hx rfl (hb hby d1_13) rfl (by decide) ?_
    rw [hq]
    show Steps p.tables e below (T2.setTop (mkF m 14 #[.val (.int p1), .val (.ref b2)] [(.int qq), (.ref b2)])) _
    refine XS.lconst X2.here hx rfl (hb hby d1_14) ?_
    show Steps p.tables e below (T2.setTop (mkF m 15 #[.val (.int p1), .val (.ref b2)] [(.long (1 : Int64)), (.int qq), (.ref b2)])) _
    refine XS.iloadN X2.here hx rfl (hb hby d1_15) rfl ?_
    show Steps p.tables e below (T2.setTop (mkF m 16 #[.val (.int p1), .val (.ref b2)] [(.int p1), (.long (1 : Int64)), (.int qq), (.ref b2)])) _
    refine XS.lshl X2.here hx rfl (hb hby d1_16) rfl ?_
    rw [hww]
    show Steps p.tables e below (T2.setTop (mkF m 17 #[.val (.int p1), .val (.ref b2)] [(.long ww), (.int qq), (.ref b2)])) _
    refine st4 _ ?_
    show Steps p.tables e below (T4.setTop (mkF m 18 #[.val (.int p1), .val (.ref b2)] [])) _
    refine st5 _ ?_
    show Steps p.tables e below (T5.setTop (mkF m 21 #[.val (.int p1), .val (.ref b2)] [(.ref b5)])) _
    refine XS.dup X5.here hx rfl (hb hby d1_21) rfl rfl ?_
    show Steps p.tables e below (T5.setTop (mkF m 22 #[.val (.int p1), .val (.ref b2)] [(.ref b5), (.ref b5)])) _
    refine XS.aloadN X5.here hx rfl (hb hby d1_22) rfl rfl ?_
    show Steps p.tables e below (T5.setTop (mkF m 23 #[.val (.int p1), .val (.ref b2)] [(.ref b2), (.ref b5), (.ref b5)])) _
    refine st6.trans ?_
    show Steps p.tables e below (T6.setTop (mkF m 26 #[.val (.int p1), .val (.ref b2)] [(.ref b5)])) _
    jvm_step X6.here [X6.here.top, hx, (hb hby d1_26), X6.method', Bd.returns, Value.isRef, FieldType.isReference]
    first | (intro acts; rw [hr _ acts rfl rfl rfl]) | rw [hr _ _ rfl rfl rfl]
    exact Steps.refl _
  · show QO Z zz qq.toNatClampNeg ww h0 n0 _ T6.heap _
    rw [e6]
    exact ⟨b5, b2, k2, rfl, N6, K6, g_b5, g_b2, (Ne.symm ne_b2_b5), xE6, xF6, V_b2_6, E_b2_6⟩
theorem own_tabI {Z s : State} {a0 args : Array Value} (hZ : Z.Warmed39 s.vm) (hw : ∀ d ∈ tables_1, d.before a0 Z = true) : Jvm.Free.JP.Integer_numberOfLeadingZeros_I.tab.before args s = true := by
  refine Jvm.Free.XT.unparts (mvT hZ (hw _ (List.mem_of_getElem? (i := 28) rfl))) fun w hm => ?_
  rcases List.mem_cons.mp hm with rfl | hm
  · exact mvT hZ (hw _ (List.mem_of_getElem? (i := 27) rfl))
  rcases List.mem_cons.mp hm with rfl | hm
  · exact mvT hZ (hw _ (List.mem_of_getElem? (i := 29) rfl))
  · exact absurd hm (List.not_mem_nil)
theorem own_tabJ {Z s : State} {a0 args : Array Value} (hZ : Z.Warmed39 s.vm) (hw : ∀ d ∈ tables_1, d.before a0 Z = true) : Jvm.Free.JP.Long_numberOfLeadingZeros_J.tab.before args s = true := by
  refine Jvm.Free.XT.unparts (mvT hZ (hw _ (List.mem_of_getElem? (i := 24) rfl))) fun w hm => ?_
  rcases List.mem_cons.mp hm with rfl | hm
  · exact mvT hZ (hw _ (List.mem_of_getElem? (i := 23) rfl))
  rcases List.mem_cons.mp hm with rfl | hm
  · exact own_tabI hZ hw
  rcases List.mem_cons.mp hm with rfl | hm
  · exact mvT hZ (hw _ (List.mem_of_getElem? (i := 25) rfl))
  rcases List.mem_cons.mp hm with rfl | hm
  · exact mvT hZ (hw _ (List.mem_of_getElem? (i := 26) rfl))
  · exact absurd hm (List.not_mem_nil)
theorem pn_4 : plainName "com/example/deftab/deftab/reasoning/DependencySet" = true := by first | (simp [plainName, overriddenIn]; done) | decide +kernel
theorem ef_4 (m : MethodId) (x0 : Addr) : entryFrame m #[(.ref x0)] 2 = mkF m 0 #[.val (.ref x0), .unset] [] := by first | (simp [entryFrame, mkF, argsToLocals, Value.category]; done) | rfl
theorem d4_0 : decode prog_29_method_6_code 0 = .ok (.aload_n 0, 1) := by decide +kernel
theorem d4_1 : decode prog_29_method_6_code 1 = .ok (.getfield 7, 3) := by decide +kernel
theorem d4_4 : decode prog_29_method_6_code 4 = .ok (.arraylength, 1) := by decide +kernel
theorem d4_5 : decode prog_29_method_6_code 5 = .ok (.iconst 1, 1) := by decide +kernel
theorem d4_6 : decode prog_29_method_6_code 6 = .ok (.isub, 1) := by decide +kernel
theorem d4_7 : decode prog_29_method_6_code 7 = .ok (.istore_n 1, 1) := by decide +kernel
theorem d4_8 : decode prog_29_method_6_code 8 = .ok (.iload_n 1, 1) := by decide +kernel
theorem d4_9 : decode prog_29_method_6_code 9 = .ok (.ifCond .ge 7, 3) := by decide +kernel
theorem d4_12 : decode prog_29_method_6_code 12 = .ok (.iconst (-1), 1) := by decide +kernel
theorem d4_13 : decode prog_29_method_6_code 13 = .ok (.goto 22, 3) := by decide +kernel
theorem d4_35 : decode prog_29_method_6_code 35 = .ok (.ireturn, 1) := by decide +kernel
set_option maxRecDepth 65536 in
set_option maxHeartbeats 40000000 in
theorem rmM0 (l : Launch) (Z : State) (a0 : Array Value) (hw : ∀ d ∈ tables_1, d.before a0 Z = true) (ws : List Jvm.Cond) (a1 : Addr) (u : Addr) (k : ClassId) (vs : List Value) (h0 : Heap) (n0 : Nat) (Z0 : n0 ≤ h0.size) (F_words_a1 : Fld Z h0 a1 "com/example/deftab/deftab/reasoning/DependencySet" "words" "[J" (.ref u)) (V_u : Arv Z h0 u k .long (0 : Int32) vs (.long (0 : Int64))) :
    MetFree l (⟨"com/example/deftab/deftab/reasoning/DependencySet", "max", "()I"⟩ : MethodName) (head1 (Jvm.Cond.code (⟨"com/example/deftab/deftab/reasoning/DependencySet", "max", "()I"⟩ : MethodName) prog_29_method_6_code 2 (some .int) :: ws) ({ frames := 0, cells := 0, slots := 0, locals := 0 } : Room)) (fun a U => a = #[(.ref a1)] ∧ Z.Warmed39 U.vm ∧ U.heap = h0) (fun _ _ _ _ _ => True) (fun _ U o U' => ∃ v L, o = .returned v ∧ QN (some (.int (-1 : Int32))) h0 n0 v U'.heap L ∧ FrameEnd U o U' L ({ frames := 0, cells := 0, slots := 0, locals := 0 } : Room).cells ({ frames := 0, cells := 0, slots := 0, locals := 0 } : Room).slots) := by
  refine MetFree.of_bodySF (plainFor_of_name pn_4) hisR ?_
  intro p e s m args below meth c s₁ Bd hml0 hP hK
  obtain ⟨rfl, hZ, hh⟩ := hP
  have hx := Bd.exec
  have hby := Bd.bytes
  have hml : c.maxLocals = 2 := hml0
  have hown : s.vm.findClass "com/example/deftab/deftab/reasoning/DependencySet" = some m.cls := findClass_of_methodNamed Bd.named
  have hnm := (name_of_methodNamed Bd.named Bd.method).1
  have X0 : Stand p l e ({ frames := 0, cells := 0, slots := 0, locals := 0 } : Room) s m #[(.ref a1)] below meth c s₁ [] 0 0 := Stand.of_body Bd
  have e0 : s₁.heap = h0 := by rw [← hh, Bd.state]; rfl
  have N0 := Fr.nil n0
  have pre0 : ∀ t, Steps p.tables e below (s₁.setTop (mkF m 0 #[.val (.ref a1), .unset] [])) t → Steps p.tables e below (s₁.setTop (entryFrame m #[(.ref a1)] 2)) t := fun t k => castTop (ef_4 m a1) k
  obtain ⟨T2, X2, e2, st2⟩ := getF X0 hx hZ hown (host := "") (Or.inl (hw _ (List.mem_of_getElem? (i := 14) rfl))) Via.refl e0 F_words_a1 (g := (mkF m 1 #[.val (.ref a1), .unset] [(.ref a1)])) rfl rfl (hb hby d4_1)
  obtain ⟨clu3, Aru3, -, Su3, Mu3, -, -⟩ := id V_u
  obtain ⟨fs, hr, hrun, hended, hW, hsame⟩ := X2.leave (v := some (.int (-1 : Int32))) (fun h => by rw [Bd.returns] at h; cases h)
  refine ⟨_, _, pre0 _ ?_, hrun, hended, _, _, rfl, ?_, ⟨_, rfl⟩, hW, hsame.mono (by decide) (by decide)⟩
  · show Steps p.tables e below (s₁.setTop (mkF m 0 #[.val (.ref a1), .unset] [])) _
    refine XS.aloadN X0.here hx rfl (hb hby d4_0) rfl rfl ?_
    show Steps p.tables e below (s₁.setTop (mkF m 1 #[.val (.ref a1), .unset] [(.ref a1)])) _
    refine st2 _ ?_
    show Steps p.tables e below (T2.setTop (mkF m 4 #[.val (.ref a1), .unset] [(.ref u)])) _
    refine X2.arraylength hx (by rw [e2]; exact Aru3.1) (State.isArrayOf_alike hZ.alike Aru3.2.1) (g := (mkF m 4 #[.val (.ref a1), .unset] [(.ref u)])) rfl rfl (hb hby d4_4) _ ?_
    rw [len_of Su3 Mu3]
    show Steps p.tables e below (T2.setTop (mkF m 5 #[.val (.ref a1), .unset] [(.int (0 : Int32))])) _
    refine XS.iconst X2.here hx rfl (hb hby d4_5) ?_
    show Steps p.tables e below (T2.setTop (mkF m 6 #[.val (.ref a1), .unset] [(.int (1 : Int32)), (.int (0 : Int32))])) _
    refine XS.isub X2.here hx rfl (hb hby d4_6) rfl ?_
    show Steps p.tables e below (T2.setTop (mkF m 7 #[.val (.ref a1), .unset] [(.int (-1 : Int32))])) _
    refine XS.istoreN X2.here hx rfl (hb hby d4_7) rfl (l' := #[.val (.ref a1), .val (.int (-1 : Int32))]) rfl ?_
    show Steps p.tables e below (T2.setTop (mkF m 8 #[.val (.ref a1), .val (.int (-1 : Int32))] [])) _
    refine XS.iloadN X2.here hx rfl (hb hby d4_8) rfl ?_
    show Steps p.tables e below (T2.setTop (mkF m 9 #[.val (.ref a1), .val (.int (-1 : Int32))] [(.int (-1 : Int32))])) _
    refine XS.ifNo X2.here hx rfl (hb hby d4_9) rfl ((if0 _ _).trans (tlt (by decide : (-1 : Int32) < (0 : Int32))).2.1) ?_
    show Steps p.tables e below (T2.setTop (mkF m 12 #[.val (.ref a1), .val (.int (-1 : Int32))] [])) _
    refine XS.iconst X2.here hx rfl (hb hby d4_12) ?_
    show Steps p.tables e below (T2.setTop (mkF m 13 #[.val (.ref a1), .val (.int (-1 : Int32))] [(.int (-1 : Int32))])) _
    refine XS.goto X2.here hx rfl (pc0 := 13) (pc' := 35) rfl (hb hby d4_13) (by decide) (by decide) ?_
    show Steps p.tables e below (T2.setTop (mkF m 35 #[.val (.ref a1), .val (.int (-1 : Int32))] [(.int (-1 : Int32))])) _
    exact retI X2 hx Bd.returns (hb hby d4_35) hr
  · show QN (some (.int (-1 : Int32))) h0 n0 _ T2.heap _
    rw [e2]
    exact ⟨rfl, N0, rfl⟩
theorem d4_16 : decode prog_29_method_6_code 16 = .ok (.iload_n 1, 1) := by decide +kernel
theorem d4_17 : decode prog_29_method_6_code 17 = .ok (.bipush 64, 2) := by decide +kernel
theorem d4_19 : decode prog_29_method_6_code 19 = .ok (.imul, 1) := by decide +kernel
theorem d4_20 : decode prog_29_method_6_code 20 = .ok (.bipush 64, 2) := by decide +kernel
theorem d4_22 : decode prog_29_method_6_code 22 = .ok (.iadd, 1) := by decide +kernel
theorem d4_23 : decode prog_29_method_6_code 23 = .ok (.iconst 1, 1) := by decide +kernel
theorem d4_24 : decode prog_29_method_6_code 24 = .ok (.isub, 1) := by decide +kernel
theorem d4_25 : decode prog_29_method_6_code 25 = .ok (.aload_n 0, 1) := by decide +kernel
theorem d4_26 : decode prog_29_method_6_code 26 = .ok (.getfield 7, 3) := by decide +kernel
theorem d4_29 : decode prog_29_method_6_code 29 = .ok (.iload_n 1, 1) := by decide +kernel
theorem d4_30 : decode prog_29_method_6_code 30 = .ok (.laload, 1) := by decide +kernel
theorem d4_31 : decode prog_29_method_6_code 31 = .ok (.invokestatic 43, 3) := by decide +kernel
theorem pd_1 : parseMethodDescriptor "(J)I" = some ⟨[.long], some .int⟩ := by decide +kernel
theorem d4_34 : decode prog_29_method_6_code 34 = .ok (.isub, 1) := by decide +kernel
set_option maxRecDepth 65536 in
set_option maxHeartbeats 40000000 in
theorem rmM1 (l : Launch) (Z : State) (a0 : Array Value) (hw : ∀ d ∈ tables_1, d.before a0 Z = true) (ws : List Jvm.Cond) (a1 : Addr) (u : Addr) (k : ClassId) (vs : List Value) (nz : Int32) (ii : Int32) (wv : Int64) (mx : Int32) (h0 : Heap) (n0 : Nat) (Z0 : n0 ≤ h0.size) (F_words_a1 : Fld Z h0 a1 "com/example/deftab/deftab/reasoning/DependencySet" "words" "[J" (.ref u)) (V_u : Arv Z h0 u k .long nz vs (.long (0 : Int64))) (hii : (nz - (1 : Int32)) = ii) (in0 : ¬ ii < 0) (inz : ii < nz) (hv : vs.getD ii.toNatClampNeg (.long (0 : Int64)) = .long wv) (hmx : ((((ii * (64 : Int32)) + (64 : Int32)) - (1 : Int32)) - (Jvm.Free.JP.Long_numberOfLeadingZeros_J.val wv)) = mx) :
    MetFree l (⟨"com/example/deftab/deftab/reasoning/DependencySet", "max", "()I"⟩ : MethodName) (head1 (Jvm.Cond.code (⟨"com/example/deftab/deftab/reasoning/DependencySet", "max", "()I"⟩ : MethodName) prog_29_method_6_code 2 (some .int) :: ws) ({ frames := 2, cells := 0, slots := 0, locals := 29 } : Room)) (fun a U => a = #[(.ref a1)] ∧ Z.Warmed39 U.vm ∧ U.heap = h0) (fun _ _ _ _ _ => True) (fun _ U o U' => ∃ v L, o = .returned v ∧ QN (some (.int mx)) h0 n0 v U'.heap L ∧ FrameEnd U o U' L ({ frames := 2, cells := 0, slots := 0, locals := 29 } : Room).cells ({ frames := 2, cells := 0, slots := 0, locals := 29 } : Room).slots) := by
  refine MetFree.of_bodySF (plainFor_of_name pn_4) hisR ?_
  intro p e s m args below meth c s₁ Bd hml0 hP hK
  obtain ⟨rfl, hZ, hh⟩ := hP
  have hx := Bd.exec
  have hby := Bd.bytes
  have hml : c.maxLocals = 2 := hml0
  have hown : s.vm.findClass "com/example/deftab/deftab/reasoning/DependencySet" = some m.cls := findClass_of_methodNamed Bd.named
  have hnm := (name_of_methodNamed Bd.named Bd.method).1
  have X0 : Stand p l e ({ frames := 2, cells := 0, slots := 0, locals := 29 } : Room) s m #[(.ref a1)] below meth c s₁ [] 0 0 := Stand.of_body Bd
  have e0 : s₁.heap = h0 := by rw [← hh, Bd.state]; rfl
  have N0 := Fr.nil n0
  have pre0 : ∀ t, Steps p.tables e below (s₁.setTop (mkF m 0 #[.val (.ref a1), .unset] [])) t → Steps p.tables e below (s₁.setTop (entryFrame m #[(.ref a1)] 2)) t := fun t k => castTop (ef_4 m a1) k
  obtain ⟨T2, X2, e2, st2⟩ := getF X0 hx hZ hown (host := "") (Or.inl (hw _ (List.mem_of_getElem? (i := 14) rfl))) Via.refl e0 F_words_a1 (g := (mkF m 1 #[.val (.ref a1), .unset] [(.ref a1)])) rfl rfl (hb hby d4_1)
  obtain ⟨clu3, Aru3, -, Su3, Mu3, -, -⟩ := id V_u
  obtain ⟨T4, X4, e4, st4⟩ := getF X2 hx hZ hown (host := "") (Or.inl (hw _ (List.mem_of_getElem? (i := 14) rfl))) Via.refl e2 F_words_a1 (g := (mkF m 26 #[.val (.ref a1), .val (.int ii)] [(.ref a1), (.int (((ii * (64 : Int32)) + (64 : Int32)) - (1 : Int32)))])) rfl rfl (hb hby d4_26)
  obtain ⟨clu5, Aru5, qu5, Su5, Mu5, Hu5, Gu5⟩ := id V_u
  have hinu5 : ¬ (ii < 0 ∨ clu5.slots.size ≤ (ii).toNatClampNeg) := inb_of Su5 ⟨in0, inz⟩
  have hatu5 : clu5.slots[(ii).toNatClampNeg]? = some (.long wv) := Hu5.at hinu5 hv
  obtain ⟨_, _, ⟨T6, L6, k6, n6⟩, -, X6, ⟨⟨rfl, e6⟩, l6, y6, z6⟩, st6⟩ := Jvm.LawKit.callS X4 hx (y := (⟨"java/lang/Long", "numberOfLeadingZeros", "(J)I"⟩ : MethodName)) hown (mvT hZ (hw _ (List.mem_of_getElem? (i := 21) rfl))) (mvT hZ (hw _ (List.mem_of_getElem? (i := 22) rfl))) (mvT hZ (hw _ (List.mem_of_getElem? (i := 23) rfl))) (mvT hZ (hw _ (List.mem_of_getElem? (i := 24) rfl))) (by decide) (Jvm.Free.JP.Long_numberOfLeadingZeros_J.pays (W := 1) wv (own_tabJ hZ hw) (by decide) (by decide)) (g := (mkF m 31 #[.val (.ref a1), .val (.int ii)] [(.long wv), (.int (((ii * (64 : Int32)) + (64 : Int32)) - (1 : Int32)))])) rfl (by rw [hml]; rfl) (argsL := [(.long wv)]) (rest := [(.int (((ii * (64 : Int32)) + (64 : Int32)) - (1 : Int32)))]) (lenOf pd_1 rfl) rfl (by show 2 * 0 + _ ≤ _; exact Nat.le_of_eq rfl) (hb hby d4_31) (fun _ _ => ⟨(by decide : 0 + 0 ≤ _), (by decide : 0 + 0 ≤ _), rfl, trivial⟩)
  dsimp only [Pt.U, Pt.locs, Pt.cells, Pt.slots] at X6 l6 y6 z6 st6 e6
  rw [l6, y6, z6, List.append_nil] at X6
  have e6' : T6.heap = h0 := e6.trans e4
  obtain ⟨fs, hr, hrun, hended, hW, hsame⟩ := X6.leave (v := some (.int mx)) (fun h => by rw [Bd.returns] at h; cases h)
  refine ⟨_, _, pre0 _ ?_, hrun, hended, _, _, rfl, ?_, ⟨_, rfl⟩, hW, hsame.mono (by decide) (by decide)⟩
  · show Steps p.tables e below (s₁.setTop (mkF m 0 #[.val (.ref a1), .unset] [])) _
    refine XS.aloadN X0.here hx rfl (hb hby d4_0) rfl rfl ?_
    show Steps p.tables e below (s₁.setTop (mkF m 1 #[.val (.ref a1), .unset] [(.ref a1)])) _
    refine st2 _ ?_
    show Steps p.tables e below (T2.setTop (mkF m 4 #[.val (.ref a1), .unset] [(.ref u)])) _
    refine X2.arraylength hx (by rw [e2]; exact Aru3.1) (State.isArrayOf_alike hZ.alike Aru3.2.1) (g := (mkF m 4 #[.val (.ref a1), .unset] [(.ref u)])) rfl rfl (hb hby d4_4) _ ?_
    rw [len_of Su3 Mu3]
    show Steps p.tables e below (T2.setTop (mkF m 5 #[.val (.ref a1), .unset] [(.int nz)])) _
    refine XS.iconst X2.here hx rfl (hb hby d4_5) ?_
    show Steps p.tables e below (T2.setTop (mkF m 6 #[.val (.ref a1), .unset] [(.int (1 : Int32)), (.int nz)])) _
    refine XS.isub X2.here hx rfl (hb hby d4_6) rfl ?_
    rw [hii]
    show Steps p.tables e below (T2.setTop (mkF m 7 #[.val (.ref a1), .unset] [(.int ii)])) _
    refine XS.istoreN X2.here hx rfl (hb hby d4_7) rfl (l' := #[.val (.ref a1), .val (.int ii)]) rfl ?_
    show Steps p.tables e below (T2.setTop (mkF m 8 #[.val (.ref a1), .val (.int ii)] [])) _
    refine XS.iloadN X2.here hx rfl (hb hby d4_8) rfl ?_
    show Steps p.tables e below (T2.setTop (mkF m 9 #[.val (.ref a1), .val (.int ii)] [(.int ii)])) _
    refine XS.ifYes X2.here hx rfl (pc0 := 9) (pc' := 16) rfl (hb hby d4_9) rfl ((if0 _ _).trans (flt (in0 : ¬ (ii < (0 : Int32)))).2.1) (by decide) (by decide) ?_
    show Steps p.tables e below (T2.setTop (mkF m 16 #[.val (.ref a1), .val (.int ii)] [])) _
    refine XS.iloadN X2.here hx rfl (hb hby d4_16) rfl ?_
    show Steps p.tables e below (T2.setTop (mkF m 17 #[.val (.ref a1), .val (.int ii)] [(.int ii)])) _
    refine XS.bipush X2.here hx rfl (hb hby d4_17) ?_
    show Steps p.tables e below (T2.setTop (mkF m 19 #[.val (.ref a1), .val (.int ii)] [(.int (64 : Int32)), (.int ii)])) _
    refine XS.imul X2.here hx rfl (hb hby d4_19) rfl ?_
    show Steps p.tables e below (T2.setTop (mkF m 20 #[.val (.ref a1), .val (.int ii)] [(.int (ii * (64 : Int32)))])) _
    refine XS.bipush X2.here hx rfl (hb hby d4_20) ?_
    show Steps p.tables e below (T2.setTop (mkF m 22 #[.val (.ref a1), .val (.int ii)] [(.int (64 : Int32)), (.int (ii * (64 : Int32)))])) _
    refine XS.iadd X2.here hx rfl (hb hby d4_22) rfl ?_
    show Steps p.tables e below (T2.setTop (mkF m 23 #[.val (.ref a1), .val (.int ii)] [(.int ((ii * (64 : Int32)) + (64 : Int32)))])) _
    refine XS.iconst X2.here hx rfl (hb hby d4_23) ?_
    show Steps p.tables e below (T2.setTop (mkF m 24 #[.val (.ref a1), .val (.int ii)] [(.int (1 : Int32)), (.int ((ii * (64 : Int32)) + (64 : Int32)))])) _
    refine XS.isub X2.here hx rfl (hb hby d4_24) rfl ?_
    show Steps p.tables e below (T2.setTop (mkF m 25 #[.val (.ref a1), .val (.int ii)] [(.int (((ii * (64 : Int32)) + (64 : Int32)) - (1 : Int32)))])) _
    refine XS.aloadN X2.here hx rfl (hb hby d4_25) rfl rfl ?_
    show Steps p.tables e below (T2.setTop (mkF m 26 #[.val (.ref a1), .val (.int ii)] [(.ref a1), (.int (((ii * (64 : Int32)) + (64 : Int32)) - (1 : Int32)))])) _
    refine st4 _ ?_
    show Steps p.tables e below (T4.setTop (mkF m 29 #[.val (.ref a1), .val (.int ii)] [(.ref u), (.int (((ii * (64 : Int32)) + (64 : Int32)) - (1 : Int32)))])) _
    refine XS.iloadN X4.here hx rfl (hb hby d4_29) rfl ?_
    show Steps p.tables e below (T4.setTop (mkF m 30 #[.val (.ref a1), .val (.int ii)] [(.int ii), (.ref u), (.int (((ii * (64 : Int32)) + (64 : Int32)) - (1 : Int32)))])) _
    refine X4.laload hx (j := ii) (v := (.long wv)) (by rw [e4]; exact Aru5.1) (State.isArrayOf_alike hZ.alike Aru5.2.1) Aru5.2.2 hinu5 hatu5 (g := (mkF m 30 #[.val (.ref a1), .val (.int ii)] [(.int ii), (.ref u), (.int (((ii * (64 : Int32)) + (64 : Int32)) - (1 : Int32)))])) rfl rfl (hb hby d4_30) _ ?_
    show Steps p.tables e below (T4.setTop (mkF m 31 #[.val (.ref a1), .val (.int ii)] [(.long wv), (.int (((ii * (64 : Int32)) + (64 : Int32)) - (1 : Int32)))])) _
    refine st6 _ ?_
    show Steps p.tables e below (T6.setTop (mkF m 34 #[.val (.ref a1), .val (.int ii)] [(.int (Jvm.Free.JP.Long_numberOfLeadingZeros_J.val wv)), (.int (((ii * (64 : Int32)) + (64 : Int32)) - (1 : Int32)))])) _
    refine XS.isub X6.here hx rfl (hb hby d4_34) rfl ?_
    rw [hmx]
    show Steps p.tables e below (T6.setTop (mkF m 35 #[.val (.ref a1), .val (.int ii)] [(.int mx)])) _
    exact retI X6 hx Bd.returns (hb hby d4_35) hr
  · show QN (some (.int mx)) h0 n0 _ T6.heap _
    rw [e6']
    exact ⟨rfl, N0, rfl⟩
theorem ef_9 (m : MethodId) (x0 : Int32) (x1 : Int32) : entryFrame m #[(.int x0), (.int x1)] 2 = mkF m 0 #[.val (.int x0), .val (.int x1)] [] := by first | (simp [entryFrame, mkF, argsToLocals, Value.category]; done) | rfl
theorem d9_0 : decode jdk_29_method_69_code 0 = .ok (.iload_n 0, 1) := by decide +kernel
theorem d9_1 : decode jdk_29_method_69_code 1 = .ok (.iload_n 1, 1) := by decide +kernel
theorem d9_2 : decode jdk_29_method_69_code 2 = .ok (.if_icmp .gt 7, 3) := by decide +kernel
theorem d9_9 : decode jdk_29_method_69_code 9 = .ok (.iload_n 1, 1) := by decide +kernel
theorem d9_10 : decode jdk_29_method_69_code 10 = .ok (.ireturn, 1) := by decide +kernel
set_option maxRecDepth 65536 in
set_option maxHeartbeats 40000000 in
theorem rmN (l : Launch) (Z : State) (a0 : Array Value) (hw : ∀ d ∈ tables_1, d.before a0 Z = true) (ws : List Jvm.Cond) (p1 : Int32) (p2 : Int32) (h0 : Heap) (n0 : Nat) (Z0 : n0 ≤ h0.size) (hgt : p2 < p1) :
    MetFree l (⟨"java/lang/Math", "min", "(II)I"⟩ : MethodName) (head1 (Jvm.Cond.code (⟨"java/lang/Math", "min", "(II)I"⟩ : MethodName) jdk_29_method_69_code 2 (some .int) :: ws) ({ frames := 0, cells := 0, slots := 0, locals := 0 } : Room)) (fun a U => a = #[(.int p1), (.int p2)] ∧ Z.Warmed39 U.vm ∧ U.heap = h0) (fun _ _ _ _ _ => True) (fun _ U o U' => ∃ v L, o = .returned v ∧ QN (some (.int p2)) h0 n0 v U'.heap L ∧ FrameEnd U o U' L ({ frames := 0, cells := 0, slots := 0, locals := 0 } : Room).cells ({ frames := 0, cells := 0, slots := 0, locals := 0 } : Room).slots) := by
  refine MetFree.of_bodySF (Jvm.Free.JP.mathPlain rfl (by decide +kernel)) hisR ?_
  intro p e s m args below meth c s₁ Bd hml0 hP hK
  obtain ⟨rfl, hZ, hh⟩ := hP
  have hx := Bd.exec
  have hby := Bd.bytes
  have hml : c.maxLocals = 2 := hml0
  have hown : s.vm.findClass "java/lang/Math" = some m.cls := findClass_of_methodNamed Bd.named
  have hnm := (name_of_methodNamed Bd.named Bd.method).1
  have X0 : Stand p l e ({ frames := 0, cells := 0, slots := 0, locals := 0 } : Room) s m #[(.int p1), (.int p2)] below meth c s₁ [] 0 0 := Stand.of_body Bd
  have e0 : s₁.heap = h0 := by rw [← hh, Bd.state]; rfl
  have N0 := Fr.nil n0
  have pre0 : ∀ t, Steps p.tables e below (s₁.setTop (mkF m 0 #[.val (.int p1), .val (.int p2)] [])) t → Steps p.tables e below (s₁.setTop (entryFrame m #[(.int p1), (.int p2)] 2)) t := fun t k => castTop (ef_9 m p1 p2) k
  obtain ⟨fs, hr, hrun, hended, hW, hsame⟩ := X0.leave (v := some (.int p2)) (fun h => by rw [Bd.returns] at h; cases h)
  refine ⟨_, _, pre0 _ ?_, hrun, hended, _, _, rfl, ?_, ⟨_, rfl⟩, hW, hsame.mono (by decide) (by decide)⟩
  · show Steps p.tables e below (s₁.setTop (mkF m 0 #[.val (.int p1), .val (.int p2)] [])) _
    refine XS.iloadN X0.here hx rfl (hb hby d9_0) rfl ?_
    show Steps p.tables e below (s₁.setTop (mkF m 1 #[.val (.int p1), .val (.int p2)] [(.int p1)])) _
    refine XS.iloadN X0.here hx rfl (hb hby d9_1) rfl ?_
    show Steps p.tables e below (s₁.setTop (mkF m 2 #[.val (.int p1), .val (.int p2)] [(.int p2), (.int p1)])) _
    refine XS.icmpYes X0.here hx rfl (pc0 := 2) (pc' := 9) rfl (hb hby d9_2) rfl (tlt (hgt : p2 < p1)).2.2.1 (by decide) (by decide) ?_
    show Steps p.tables e below (s₁.setTop (mkF m 9 #[.val (.int p1), .val (.int p2)] [])) _
    refine XS.iloadN X0.here hx rfl (hb hby d9_9) rfl ?_
    show Steps p.tables e below (s₁.setTop (mkF m 10 #[.val (.int p1), .val (.int p2)] [(.int p2)])) _
    exact retI X0 hx Bd.returns (hb hby d9_10) hr
  · show QN (some (.int p2)) h0 n0 _ s₁.heap _
    rw [e0]
    exact ⟨rfl, N0, rfl⟩
def QY (Z : State) (nz : Int32) (vs : List Value) (h0 : Heap) (n0 : Nat) (v : Option Value) (h : Heap) (L : List Loc) : Prop := ∃ (b : Addr) (k : ClassId), v = some (.ref b) ∧ Fr n0 L ∧ Keep h0 h [] ∧ n0 ≤ b ∧ h0.size ≤ b ∧ Arv Z h b k .long nz vs (.long (0 : Int64)) ∧ Exa Z h b "[J"
theorem pn_8 : plainName "java/util/Arrays" = true := by first | (simp [plainName, overriddenIn]; done) | decide +kernel
theorem ef_8 (m : MethodId) (x0 : Addr) (x1 : Int32) : entryFrame m #[(.ref x0), (.int x1)] 3 = mkF m 0 #[.val (.ref x0), .val (.int x1), .unset] [] := by first | (simp [entryFrame, mkF, argsToLocals, Value.category]; done) | rfl
theorem d8_0 : decode jdk_65_method_124_code 0 = .ok (.iload_n 1, 1) := by decide +kernel
theorem d8_1 : decode jdk_65_method_124_code 1 = .ok (.aload_n 0, 1) := by decide +kernel
theorem d8_2 : decode jdk_65_method_124_code 2 = .ok (.arraylength, 1) := by decide +kernel
theorem d8_3 : decode jdk_65_method_124_code 3 = .ok (.if_icmp .ne 11, 3) := by decide +kernel
theorem d8_6 : decode jdk_65_method_124_code 6 = .ok (.aload_n 0, 1) := by decide +kernel
theorem d8_7 : decode jdk_65_method_124_code 7 = .ok (.invokevirtual 319, 3) := by decide +kernel
theorem d8_10 : decode jdk_65_method_124_code 10 = .ok (.checkcast 320, 3) := by decide +kernel
theorem d8_13 : decode jdk_65_method_124_code 13 = .ok (.areturn, 1) := by decide +kernel
set_option maxRecDepth 65536 in
set_option maxHeartbeats 40000000 in
theorem rmY (l : Launch) (Z : State) (a0 : Array Value) (hw : ∀ d ∈ tables_1, d.before a0 Z = true) (ws : List Jvm.Cond) (a1 : Addr) (p2 : Int32) (k : ClassId) (vs : List Value) (h0 : Heap) (n0 : Nat) (Z0 : n0 ≤ h0.size) (V_a1 : Arv Z h0 a1 k .long p2 vs (.long (0 : Int64))) (E_a1 : Exa Z h0 a1 "[J") (zc : p2.toNatClampNeg ≤ 64) :
    MetFree l (⟨"java/util/Arrays", "copyOf", "([JI)[J"⟩ : MethodName) (head1 (Jvm.Cond.code (⟨"java/util/Arrays", "copyOf", "([JI)[J"⟩ : MethodName) jdk_65_method_124_code 3 (some (.array .long)) :: ws) ({ frames := 1, cells := 1, slots := 64, locals := 40 } : Room)) (fun a U => a = #[(.ref a1), (.int p2)] ∧ Z.Warmed39 U.vm ∧ U.heap = h0) (fun _ _ _ _ _ => True) (fun _ U o U' => ∃ v L, o = .returned v ∧ QY Z p2 vs h0 n0 v U'.heap L ∧ FrameEnd U o U' L ({ frames := 1, cells := 1, slots := 64, locals := 40 } : Room).cells ({ frames := 1, cells := 1, slots := 64, locals := 40 } : Room).slots) := by
  refine MetFree.of_bodySF (plainFor_of_name pn_8) hisR ?_
  intro p e s m args below meth c s₁ Bd hml0 hP hK
  obtain ⟨rfl, hZ, hh⟩ := hP
  have hx := Bd.exec
  have hby := Bd.bytes
  have hml : c.maxLocals = 3 := hml0
  have hown : s.vm.findClass "java/util/Arrays" = some m.cls := findClass_of_methodNamed Bd.named
  have hnm := (name_of_methodNamed Bd.named Bd.method).1
  have X0 : Stand p l e ({ frames := 1, cells := 1, slots := 64, locals := 40 } : Room) s m #[(.ref a1), (.int p2)] below meth c s₁ [] 0 0 := Stand.of_body Bd
  have e0 : s₁.heap = h0 := by rw [← hh, Bd.state]; rfl
  have N0 := Fr.nil n0
  have pre0 : ∀ t, Steps p.tables e below (s₁.setTop (mkF m 0 #[.val (.ref a1), .val (.int p2), .unset] [])) t → Steps p.tables e below (s₁.setTop (entryFrame m #[(.ref a1), (.int p2)] 3)) t := fun t k => castTop (ef_8 m a1 p2) k
  have K0 : Keep h0 h0 [] := Keep.refl _ _
  obtain ⟨clu3, Aru3, -, Su3, Mu3, -, -⟩ := id V_a1
  obtain ⟨T4, h4, X4, e4, E4, A4, B4, st4⟩ := cloneH X0 hx hZ hown (hw _ (List.mem_of_getElem? (i := 40) rfl)) (hw _ (List.mem_of_getElem? (i := 41) rfl)) (hw _ (List.mem_of_getElem? (i := 45) rfl)) (hw _ (List.mem_of_getElem? (i := 43) rfl)) (hw _ (List.mem_of_getElem? (i := 44) rfl)) (hw _ (List.mem_of_getElem? (i := 46) rfl)) e0 (Arv.arh V_a1) E_a1 (g := (mkF m 7 #[.val (.ref a1), .val (.int p2), .unset] [(.ref a1)])) rfl (by rw [hml]; rfl) rfl (hb hby d8_7) (by decide) (W := 0) (cap := 64) (by show 2 * 0 + _ ≤ _; exact Nat.le_of_eq rfl) (by decide) zc (by decide) (by decide)
  obtain ⟨b4, g4⟩ : ∃ z, z = h0.size := ⟨_, rfl⟩
  rw [← g4] at A4 B4 st4
  have ne_a1_b4 : a1 ≠ b4 := Nat.ne_of_lt (Nat.lt_of_lt_of_le V_a1.lt (Nat.le_of_eq g4.symm))
  have g_b4 : n0 ≤ b4 := Nat.le_trans Z0 (Nat.le_of_eq g4.symm)
  have sz_b4 : h0.size ≤ b4 := Nat.le_of_eq g4.symm
  have s0_b4 : h0.size ≤ b4 := Nat.le_trans K0.1 (Nat.le_of_eq g4.symm)
  have V_a1_4 := V_a1.ext E4
  have E_a1_4 := E_a1.ext E4
  have SZ4 : n0 ≤ h4.size := Nat.le_trans Z0 E4.1
  have K4 := K0.ext E4
  have V_b4 : Arv Z h4 b4 k .long p2 vs (.long (0 : Int64)) := A4
  have E_b4 := B4
  obtain ⟨T5, X5, e5, st5⟩ := castY X4 hx hZ hown (hw _ (List.mem_of_getElem? (i := 47) rfl)) e4 (Ins.self E_b4) (g := (mkF m 10 #[.val (.ref a1), .val (.int p2), .unset] [(.ref b4)])) rfl rfl (hb hby d8_10)
  obtain ⟨fs, hr, hrun, hended, hW, hsame⟩ := X5.leave (v := some (.ref b4)) (fun h => by rw [Bd.returns] at h; cases h)
  refine ⟨_, _, pre0 _ ?_, hrun, hended, _, _, rfl, ?_, ⟨_, rfl⟩, hW, hsame.mono (by decide) (by decide)⟩
  · show Steps p.tables e below (s₁.setTop (mkF m 0 #[.val (.ref a1), .val (.int p2), .unset] [])) _
    refine XS.iloadN X0.here hx rfl (hb hby d8_0) rfl ?_
    show Steps p.tables e below (s₁.setTop (mkF m 1 #[.val (.ref a1), .val (.int p2), .unset] [(.int p2)])) _
    refine XS.aloadN X0.here hx rfl (hb hby d8_1) rfl rfl ?_
    show Steps p.tables e below (s₁.setTop (mkF m 2 #[.val (.ref a1), .val (.int p2), .unset] [(.ref a1), (.int p2)])) _
    refine X0.arraylength hx (by rw [e0]; exact Aru3.1) (State.isArrayOf_alike hZ.alike Aru3.2.1) (g := (mkF m 2 #[.val (.ref a1), .val (.int p2), .unset] [(.ref a1), (.int p2)])) rfl rfl (hb hby d8_2) _ ?_
    rw [len_of Su3 Mu3]
    show Steps p.tables e below (s₁.setTop (mkF m 3 #[.val (.ref a1), .val (.int p2), .unset] [(.int p2), (.int p2)])) _
    refine XS.icmpNo X0.here hx rfl (hb hby d8_3) rfl (teq (rfl : p2 = p2)).2 ?_
    show Steps p.tables e below (s₁.setTop (mkF m 6 #[.val (.ref a1), .val (.int p2), .unset] [])) _
    refine XS.aloadN X0.here hx rfl (hb hby d8_6) rfl rfl ?_
    show Steps p.tables e below (s₁.setTop (mkF m 7 #[.val (.ref a1), .val (.int p2), .unset] [(.ref a1)])) _
    refine st4 _ ?_
    show Steps p.tables e below (T4.setTop (mkF m 10 #[.val (.ref a1), .val (.int p2), .unset] [(.ref b4)])) _
    refine st5 _ ?_
    show Steps p.tables e below (T5.setTop (mkF m 13 #[.val (.ref a1), .val (.int p2), .unset] [(.ref b4)])) _
    jvm_step X5.here [X5.here.top, hx, (hb hby d8_13), X5.method', Bd.returns, Value.isRef, FieldType.isReference]
    first | (intro acts; rw [hr _ acts rfl rfl rfl]) | rw [hr _ _ rfl rfl rfl]
    exact Steps.refl _
  · show QY Z p2 vs h0 n0 _ T5.heap _
    rw [e5]
    exact ⟨b4, k, rfl, N0, K4, g_b4, s0_b4, V_b4, E_b4⟩
theorem d8_14 : decode jdk_65_method_124_code 14 = .ok (.iload_n 1, 1) := by decide +kernel
theorem d8_15 : decode jdk_65_method_124_code 15 = .ok (.newarray .long, 2) := by decide +kernel
theorem d8_17 : decode jdk_65_method_124_code 17 = .ok (.astore_n 2, 1) := by decide +kernel
theorem d8_18 : decode jdk_65_method_124_code 18 = .ok (.aload_n 0, 1) := by decide +kernel
theorem d8_19 : decode jdk_65_method_124_code 19 = .ok (.iconst 0, 1) := by decide +kernel
theorem d8_20 : decode jdk_65_method_124_code 20 = .ok (.aload_n 2, 1) := by decide +kernel
theorem d8_21 : decode jdk_65_method_124_code 21 = .ok (.iconst 0, 1) := by decide +kernel
theorem d8_22 : decode jdk_65_method_124_code 22 = .ok (.aload_n 0, 1) := by decide +kernel
theorem d8_23 : decode jdk_65_method_124_code 23 = .ok (.arraylength, 1) := by decide +kernel
theorem d8_24 : decode jdk_65_method_124_code 24 = .ok (.iload_n 1, 1) := by decide +kernel
theorem d8_25 : decode jdk_65_method_124_code 25 = .ok (.invokestatic 304, 3) := by decide +kernel
theorem pd_2 : parseMethodDescriptor "(II)I" = some ⟨[.int, .int], some .int⟩ := by decide +kernel
theorem d8_28 : decode jdk_65_method_124_code 28 = .ok (.invokestatic 150, 3) := by decide +kernel
theorem d8_31 : decode jdk_65_method_124_code 31 = .ok (.aload_n 2, 1) := by decide +kernel
theorem d8_32 : decode jdk_65_method_124_code 32 = .ok (.areturn, 1) := by decide +kernel
set_option maxRecDepth 65536 in
set_option maxHeartbeats 40000000 in
theorem rmZ (l : Launch) (Z : State) (a0 : Array Value) (hw : ∀ d ∈ tables_1, d.before a0 Z = true) (ws : List Jvm.Cond) (a1 : Addr) (p2 : Int32) (k : ClassId) (nz : Int32) (vs : List Value) (h0 : Heap) (n0 : Nat) (Z0 : n0 ≤ h0.size) (V_a1 : Arv Z h0 a1 k .long nz vs (.long (0 : Int64))) (zn : ¬ p2 < 0) (zc : p2.toNatClampNeg ≤ 64) (lt : p2 < nz) (le : p2.toNatClampNeg ≤ nz.toNatClampNeg) (zero : ∀ i, i < p2.toNatClampNeg → vs.getD i (.long (0 : Int64)) = (.long (0 : Int64))) :
    MetFree l (⟨"java/util/Arrays", "copyOf", "([JI)[J"⟩ : MethodName) (head1 (Jvm.Cond.code (⟨"java/util/Arrays", "copyOf", "([JI)[J"⟩ : MethodName) jdk_65_method_124_code 3 (some (.array .long)) :: ws) ({ frames := 1, cells := 1, slots := 64, locals := 40 } : Room)) (fun a U => a = #[(.ref a1), (.int p2)] ∧ Z.Warmed39 U.vm ∧ U.heap = h0) (fun _ _ _ _ _ => True) (fun _ U o U' => ∃ v L, o = .returned v ∧ QY Z p2 [] h0 n0 v U'.heap L ∧ FrameEnd U o U' L ({ frames := 1, cells := 1, slots := 64, locals := 40 } : Room).cells ({ frames := 1, cells := 1, slots := 64, locals := 40 } : Room).slots) := by
  refine MetFree.of_bodySF (plainFor_of_name pn_8) hisR ?_
  intro p e s m args below meth c s₁ Bd hml0 hP hK
  obtain ⟨rfl, hZ, hh⟩ := hP
  have hx := Bd.exec
  have hby := Bd.bytes
  have hml : c.maxLocals = 3 := hml0
  have hown : s.vm.findClass "java/util/Arrays" = some m.cls := findClass_of_methodNamed Bd.named
  have hnm := (name_of_methodNamed Bd.named Bd.method).1
  have X0 : Stand p l e ({ frames := 1, cells := 1, slots := 64, locals := 40 } : Room) s m #[(.ref a1), (.int p2)] below meth c s₁ [] 0 0 := Stand.of_body Bd
  have e0 : s₁.heap = h0 := by rw [← hh, Bd.state]; rfl
  have N0 := Fr.nil n0
  have pre0 : ∀ t, Steps p.tables e below (s₁.setTop (mkF m 0 #[.val (.ref a1), .val (.int p2), .unset] [])) t → Steps p.tables e below (s₁.setTop (entryFrame m #[(.ref a1), (.int p2)] 3)) t := fun t k => castTop (ef_8 m a1 p2) k
  have K0 : Keep h0 h0 [] := Keep.refl _ _
  obtain ⟨clu3, Aru3, -, Su3, Mu3, -, -⟩ := id V_a1
  obtain ⟨T4, h4, k4, X4, e4, E4, A4, B4, st4⟩ := newPE X0 hx hZ (hw _ (List.mem_of_getElem? (i := 5) rfl)) e0 (g := (mkF m 15 #[.val (.ref a1), .val (.int p2), .unset] [(.int p2)])) rfl (hb hby d8_15) rfl zn (cap := 64) zc (by decide) (by decide) (by decide) (ad := "[J") rfl
  obtain ⟨b4, g4⟩ : ∃ z, z = h0.size := ⟨_, rfl⟩
  rw [← g4] at A4 B4 st4
  have ne_a1_b4 : a1 ≠ b4 := Nat.ne_of_lt (Nat.lt_of_lt_of_le V_a1.lt (Nat.le_of_eq g4.symm))
  have g_b4 : n0 ≤ b4 := Nat.le_trans Z0 (Nat.le_of_eq g4.symm)
  have sz_b4 : h0.size ≤ b4 := Nat.le_of_eq g4.symm
  have s0_b4 : h0.size ≤ b4 := Nat.le_trans K0.1 (Nat.le_of_eq g4.symm)
  have V_a1_4 := V_a1.ext E4
  have SZ4 : n0 ≤ h4.size := Nat.le_trans Z0 E4.1
  have K4 := K0.ext E4
  have V_b4 : Arv Z h4 b4 k4 .long p2 (List.replicate 64 (.long (0 : Int64))) (.long (0 : Int64)) := (Arv.new A4 zn).pad (pad_rep [] (.long (0 : Int64)) 64)
  have E_b4 := B4
  obtain ⟨clu5, Aru5, -, Su5, Mu5, -, -⟩ := id V_a1_4
  obtain ⟨_, _, ⟨T6, L6, k6, n6⟩, -, X6, ⟨Lc6, hQ6, l6, y6, z6⟩, st6⟩ := Jvm.LawKit.callS X4 hx (y := (⟨"java/lang/Math", "min", "(II)I"⟩ : MethodName)) hown (mvT hZ (hw _ (List.mem_of_getElem? (i := 49) rfl))) (mvT hZ (hw _ (List.mem_of_getElem? (i := 50) rfl))) (mvT hZ (hw _ (List.mem_of_getElem? (i := 51) rfl))) (mvT hZ (hw _ (List.mem_of_getElem? (i := 52) rfl))) (by decide) (backOf (W := 4) (rmN l Z a0 hw [] nz p2 h4 n0 SZ4 (lt)) hZ (hw _ (List.mem_of_getElem? (i := 52) rfl)) (hw _ (List.mem_of_getElem? (i := 51) rfl)) (by decide) (by decide)) (g := (mkF m 25 #[.val (.ref a1), .val (.int p2), .val (.ref b4)] [(.int p2), (.int nz), (.int (0 : Int32)), (.ref b4), (.int (0 : Int32)), (.ref a1)])) rfl (by rw [hml]; rfl) (argsL := [(.int nz), (.int p2)]) (rest := [(.int (0 : Int32)), (.ref b4), (.int (0 : Int32)), (.ref a1)]) (lenOf pd_2 rfl) rfl (by show 2 * 0 + _ ≤ _; exact Nat.le_of_eq rfl) (hb hby d8_25) (fun _ _ => ⟨rfl, e4, (by decide : 1 + 0 ≤ _), (by decide : 64 + 0 ≤ _)⟩)
  dsimp only [Pt.U, Pt.locs, Pt.cells, Pt.slots] at X6 l6 y6 z6 st6 hQ6
  subst l6 y6 z6
  obtain ⟨rfl, N6q, e6⟩ := hQ6
  have N6 := Fr.app N0 N6q
  obtain ⟨T7, h7, L7, X7, e7, N7, KK7, A7, st7⟩ := cpA X6 hx hZ hown (hw _ (List.mem_of_getElem? (i := 53) rfl)) (hw _ (List.mem_of_getElem? (i := 56) rfl)) (hw _ (List.mem_of_getElem? (i := 54) rfl)) (hw _ (List.mem_of_getElem? (i := 55) rfl)) e6 V_a1_4 V_b4 (Or.inl ⟨rfl, rfl⟩) (by decide) (by decide) zn (by rw [show (0 : Int32).toNatClampNeg = 0 from rfl]; omega) (by rw [show (0 : Int32).toNatClampNeg = 0 from rfl]; omega) rfl (by rw [show (0 : Int32).toNatClampNeg = 0 from rfl, List.length_replicate]; omega) N6 g_b4 (g := (mkF m 28 #[.val (.ref a1), .val (.int p2), .val (.ref b4)] [(.int p2), (.int (0 : Int32)), (.ref b4), (.int (0 : Int32)), (.ref a1)])) rfl (by rw [hml]; rfl) rfl (hb hby d8_28) (by decide) (W := 0) (by show 2 * 0 + _ ≤ _; exact Nat.le_of_eq rfl) (by decide)
  have V_a1_7 := V_a1_4.keep KK7 (ninS ne_a1_b4 nin0)
  have E_b4_7 := E_b4.keep KK7
  have SZ7 : n0 ≤ h7.size := Nat.le_trans SZ4 KK7.1
  have K7 := Keep.trans K4 KK7 (allS (Or.inr s0_b4) all0)
  have V_b4_7 : Arv Z h7 b4 k4 .long p2 [] (.long (0 : Int64)) := by
    refine A7.pad fun i => ?_
    simp only [show (0 : Int32).toNatClampNeg = 0 from rfl, List.take_zero, List.nil_append, Nat.zero_add, List.drop_replicate]
    exact own_cp zero i
  obtain ⟨fs, hr, hrun, hended, hW, hsame⟩ := X7.leave (v := some (.ref b4)) (fun h => by rw [Bd.returns] at h; cases h)
  refine ⟨_, _, pre0 _ ?_, hrun, hended, _, _, rfl, ?_, ⟨_, rfl⟩, hW, hsame.mono (by decide) (by decide)⟩
  · show Steps p.tables e below (s₁.setTop (mkF m 0 #[.val (.ref a1), .val (.int p2), .unset] [])) _
    refine XS.iloadN X0.here hx rfl (hb hby d8_0) rfl ?_
    show Steps p.tables e below (s₁.setTop (mkF m 1 #[.val (.ref a1), .val (.int p2), .unset] [(.int p2)])) _
    refine XS.aloadN X0.here hx rfl (hb hby d8_1) rfl rfl ?_
    show Steps p.tables e below (s₁.setTop (mkF m 2 #[.val (.ref a1), .val (.int p2), .unset] [(.ref a1), (.int p2)])) _
    refine X0.arraylength hx (by rw [e0]; exact Aru3.1) (State.isArrayOf_alike hZ.alike Aru3.2.1) (g := (mkF m 2 #[.val (.ref a1), .val (.int p2), .unset] [(.ref a1), (.int p2)])) rfl rfl (hb hby d8_2) _ ?_
    rw [len_of Su3 Mu3]
    show Steps p.tables e below (s₁.setTop (mkF m 3 #[.val (.ref a1), .val (.int p2), .unset] [(.int nz), (.int p2)])) _
    refine XS.icmpYes X0.here hx rfl (pc0 := 3) (pc' := 14) rfl (hb hby d8_3) rfl (feq (fun q => absurd (q ▸ lt) (own_irrI _) : ¬ (p2 = nz))).2 (by decide) (by decide) ?_
    show Steps p.tables e below (s₁.setTop (mkF m 14 #[.val (.ref a1), .val (.int p2), .unset] [])) _
    refine XS.iloadN X0.here hx rfl (hb hby d8_14) rfl ?_
    show Steps p.tables e below (s₁.setTop (mkF m 15 #[.val (.ref a1), .val (.int p2), .unset] [(.int p2)])) _
    refine st4 _ ?_
    show Steps p.tables e below (T4.setTop (mkF m 17 #[.val (.ref a1), .val (.int p2), .unset] [(.ref b4)])) _
    refine XS.astoreN X4.here hx rfl (hb hby d8_17) rfl rfl (l' := #[.val (.ref a1), .val (.int p2), .val (.ref b4)]) rfl ?_
    show Steps p.tables e below (T4.setTop (mkF m 18 #[.val (.ref a1), .val (.int p2), .val (.ref b4)] [])) _
    refine XS.aloadN X4.here hx rfl (hb hby d8_18) rfl rfl ?_
    show Steps p.tables e below (T4.setTop (mkF m 19 #[.val (.ref a1), .val (.int p2), .val (.ref b4)] [(.ref a1)])) _
    refine XS.iconst X4.here hx rfl (hb hby d8_19) ?_
    show Steps p.tables e below (T4.setTop (mkF m 20 #[.val (.ref a1), .val (.int p2), .val (.ref b4)] [(.int (0 : Int32)), (.ref a1)])) _
    refine XS.aloadN X4.here hx rfl (hb hby d8_20) rfl rfl ?_
    show Steps p.tables e below (T4.setTop (mkF m 21 #[.val (.ref a1), .val (.int p2), .val (.ref b4)] [(.ref b4), (.int (0 : Int32)), (.ref a1)])) _
    refine XS.iconst X4.here hx rfl (hb hby d8_21) ?_
    show Steps p.tables e below (T4.setTop (mkF m 22 #[.val (.ref a1), .val (.int p2), .val (.ref b4)] [(.int (0 : Int32)), (.ref b4), (.int (0 : Int32)), (.ref a1)])) _
    refine XS.aloadN X4.here hx rfl (hb hby d8_22) rfl rfl ?_
    show Steps p.tables e below (T4.setTop (mkF m 23 #[.val (.ref a1), .val (.int p2), .val (.ref b4)] [(.ref a1), (.int (0 : Int32)), (.ref b4), (.int (0 : Int32)), (.ref a1)])) _
    refine X4.arraylength hx (by rw [e4]; exact Aru5.1) (State.isArrayOf_alike hZ.alike Aru5.2.1) (g := (mkF m 23 #[.val (.ref a1), .val (.int p2), .val (.ref b4)] [(.ref a1), (.int (0 : Int32)), (.ref b4), (.int (0 : Int32)), (.ref a1)])) rfl rfl (hb hby d8_23) _ ?_
    rw [len_of Su5 Mu5]
    show Steps p.tables e below (T4.setTop (mkF m 24 #[.val (.ref a1), .val (.int p2), .val (.ref b4)] [(.int nz), (.int (0 : Int32)), (.ref b4), (.int (0 : Int32)), (.ref a1)])) _
    refine XS.iloadN X4.here hx rfl (hb hby d8_24) rfl ?_
    show Steps p.tables e below (T4.setTop (mkF m 25 #[.val (.ref a1), .val (.int p2), .val (.ref b4)] [(.int p2), (.int nz), (.int (0 : Int32)), (.ref b4), (.int (0 : Int32)), (.ref a1)])) _
    refine st6 _ ?_
    show Steps p.tables e below (T6.setTop (mkF m 28 #[.val (.ref a1), .val (.int p2), .val (.ref b4)] [(.int p2), (.int (0 : Int32)), (.ref b4), (.int (0 : Int32)), (.ref a1)])) _
    refine st7 _ ?_
    show Steps p.tables e below (T7.setTop (mkF m 31 #[.val (.ref a1), .val (.int p2), .val (.ref b4)] [])) _
    refine XS.aloadN X7.here hx rfl (hb hby d8_31) rfl rfl ?_
    show Steps p.tables e below (T7.setTop (mkF m 32 #[.val (.ref a1), .val (.int p2), .val (.ref b4)] [(.ref b4)])) _
    jvm_step X7.here [X7.here.top, hx, (hb hby d8_32), X7.method', Bd.returns, Value.isRef, FieldType.isReference]
    first | (intro acts; rw [hr _ acts rfl rfl rfl]) | rw [hr _ _ rfl rfl rfl]
    exact Steps.refl _
  · show QY Z p2 [] h0 n0 _ T7.heap _
    rw [e7]
    exact ⟨b4, k4, rfl, N7, K7, g_b4, s0_b4, V_b4_7, E_b4_7⟩
theorem pn_7 : plainName "com/example/deftab/deftab/reasoning/DependencySet" = true := by first | (simp [plainName, overriddenIn]; done) | decide +kernel
theorem ef_7 (m : MethodId) (x0 : Addr) (x1 : Int32) : entryFrame m #[(.ref x0), (.int x1)] 4 = mkF m 0 #[.val (.ref x0), .val (.int x1), .unset, .unset] [] := by first | (simp [entryFrame, mkF, argsToLocals, Value.category]; done) | rfl
theorem d7_0 : decode prog_29_method_4_code 0 = .ok (.iload_n 1, 1) := by decide +kernel
theorem d7_1 : decode prog_29_method_4_code 1 = .ok (.aload_n 0, 1) := by decide +kernel
theorem d7_2 : decode prog_29_method_4_code 2 = .ok (.invokevirtual 34, 3) := by decide +kernel
theorem pd_3 : parseMethodDescriptor "()I" = some ⟨[], some .int⟩ := by decide +kernel
theorem d7_5 : decode prog_29_method_4_code 5 = .ok (.if_icmp .le 5, 3) := by decide +kernel
theorem d7_8 : decode prog_29_method_4_code 8 = .ok (.aload_n 0, 1) := by decide +kernel
theorem d7_9 : decode prog_29_method_4_code 9 = .ok (.areturn, 1) := by decide +kernel
set_option maxRecDepth 65536 in
set_option maxHeartbeats 40000000 in
theorem rmB1 (l : Launch) (Z : State) (a0 : Array Value) (hw : ∀ d ∈ tables_1, d.before a0 Z = true) (ws : List Jvm.Cond) (a1 : Addr) (p2 : Int32) (u : Addr) (k : ClassId) (vs : List Value) (nz : Int32) (ii : Int32) (wv : Int64) (mx : Int32) (h0 : Heap) (n0 : Nat) (Z0 : n0 ≤ h0.size) (E_a1 : Exa Z h0 a1 "com/example/deftab/deftab/reasoning/DependencySet") (F_words_a1 : Fld Z h0 a1 "com/example/deftab/deftab/reasoning/DependencySet" "words" "[J" (.ref u)) (V_u : Arv Z h0 u k .long nz vs (.long (0 : Int64))) (hii : (nz - (1 : Int32)) = ii) (in0 : ¬ ii < 0) (inz : ii < nz) (hv : vs.getD ii.toNatClampNeg (.long (0 : Int64)) = .long wv) (hmx : ((((ii * (64 : Int32)) + (64 : Int32)) - (1 : Int32)) - (Jvm.Free.JP.Long_numberOfLeadingZeros_J.val wv)) = mx) (hgt : mx < p2) :
    MetFree l (⟨"com/example/deftab/deftab/reasoning/DependencySet", "below", "(I)Lcom/example/deftab/deftab/reasoning/DependencySet;"⟩ : MethodName) (head1 (Jvm.Cond.code (⟨"com/example/deftab/deftab/reasoning/DependencySet", "below", "(I)Lcom/example/deftab/deftab/reasoning/DependencySet;"⟩ : MethodName) prog_29_method_4_code 4 (some (.object "com/example/deftab/deftab/reasoning/DependencySet")) :: ws) ({ frames := 3, cells := 0, slots := 0, locals := 43 } : Room)) (fun a U => a = #[(.ref a1), (.int p2)] ∧ Z.Warmed39 U.vm ∧ U.heap = h0) (fun _ _ _ _ _ => True) (fun _ U o U' => ∃ v L, o = .returned v ∧ QN (some (.ref a1)) h0 n0 v U'.heap L ∧ FrameEnd U o U' L ({ frames := 3, cells := 0, slots := 0, locals := 43 } : Room).cells ({ frames := 3, cells := 0, slots := 0, locals := 43 } : Room).slots) := by
  refine MetFree.of_bodySF (plainFor_of_name pn_7) hisR ?_
  intro p e s m args below meth c s₁ Bd hml0 hP hK
  obtain ⟨rfl, hZ, hh⟩ := hP
  have hx := Bd.exec
  have hby := Bd.bytes
  have hml : c.maxLocals = 4 := hml0
  have hown : s.vm.findClass "com/example/deftab/deftab/reasoning/DependencySet" = some m.cls := findClass_of_methodNamed Bd.named
  have hnm := (name_of_methodNamed Bd.named Bd.method).1
  have X0 : Stand p l e ({ frames := 3, cells := 0, slots := 0, locals := 43 } : Room) s m #[(.ref a1), (.int p2)] below meth c s₁ [] 0 0 := Stand.of_body Bd
  have e0 : s₁.heap = h0 := by rw [← hh, Bd.state]; rfl
  have N0 := Fr.nil n0
  have pre0 : ∀ t, Steps p.tables e below (s₁.setTop (mkF m 0 #[.val (.ref a1), .val (.int p2), .unset, .unset] [])) t → Steps p.tables e below (s₁.setTop (entryFrame m #[(.ref a1), (.int p2)] 4)) t := fun t k => castTop (ef_7 m a1 p2) k
  obtain ⟨cq3, kq3, q3a, q3b, q3c⟩ := isOf hZ e0 E_a1
  obtain ⟨_, _, ⟨T3, L3, k3, n3⟩, -, X3, ⟨Lc3, hQ3, l3, y3, z3⟩, st3⟩ := X0.virtualBack hx (y := (⟨"com/example/deftab/deftab/reasoning/DependencySet", "max", "()I"⟩ : MethodName)) (z := (⟨"com/example/deftab/deftab/reasoning/DependencySet", "max", "()I"⟩ : MethodName)) hown (mvT hZ (hw _ (List.mem_of_getElem? (i := 35) rfl))) (mvT hZ (hw _ (List.mem_of_getElem? (i := 17) rfl))) (notFace_of_selects (args := #[]) (mvT hZ (hw _ (List.mem_of_getElem? (i := 19) rfl)))) (mvT hZ (hw _ (List.mem_of_getElem? (i := 19) rfl))) (mvT hZ (hw _ (List.mem_of_getElem? (i := 18) rfl))) (by decide) (backOf (W := 1) (rmM1 l Z a0 hw [] a1 u k vs nz ii wv mx h0 n0 Z0 (F_words_a1) (V_u) (hii) (in0) (inz) (hv) (hmx)) hZ (hw _ (List.mem_of_getElem? (i := 20) rfl)) (hw _ (List.mem_of_getElem? (i := 3) rfl)) (by decide) (by decide)) q3a q3c (g := (mkF m 2 #[.val (.ref a1), .val (.int p2), .unset, .unset] [(.ref a1), (.int p2)])) rfl (by rw [hml]; rfl) (Steps.refl _) (argsL := []) (rest := [(.int p2)]) (lenOf pd_3 rfl) rfl (by show 2 * 0 + _ ≤ _; exact Nat.le_of_eq rfl) (hb hby d7_2) (fun _ _ => ⟨rfl, e0, (by decide : 0 + 0 ≤ _), (by decide : 0 + 0 ≤ _)⟩)
  dsimp only [Pt.U, Pt.locs, Pt.cells, Pt.slots] at X3 l3 y3 z3 st3 hQ3
  subst l3 y3 z3
  obtain ⟨rfl, N3q, e3⟩ := hQ3
  have N3 := Fr.app N0 N3q
  obtain ⟨fs, hr, hrun, hended, hW, hsame⟩ := X3.leave (v := some (.ref a1)) (fun h => by rw [Bd.returns] at h; cases h)
  refine ⟨_, _, pre0 _ ?_, hrun, hended, _, _, rfl, ?_, ⟨_, rfl⟩, hW, hsame.mono (by decide) (by decide)⟩
  · show Steps p.tables e below (s₁.setTop (mkF m 0 #[.val (.ref a1), .val (.int p2), .unset, .unset] [])) _
    refine XS.iloadN X0.here hx rfl (hb hby d7_0) rfl ?_
    show Steps p.tables e below (s₁.setTop (mkF m 1 #[.val (.ref a1), .val (.int p2), .unset, .unset] [(.int p2)])) _
    refine XS.aloadN X0.here hx rfl (hb hby d7_1) rfl rfl ?_
    show Steps p.tables e below (s₁.setTop (mkF m 2 #[.val (.ref a1), .val (.int p2), .unset, .unset] [(.ref a1), (.int p2)])) _
    refine st3.trans ?_
    show Steps p.tables e below (T3.setTop (mkF m 5 #[.val (.ref a1), .val (.int p2), .unset, .unset] [(.int mx), (.int p2)])) _
    refine XS.icmpNo X3.here hx rfl (hb hby d7_5) rfl (tlt (hgt : mx < p2)).2.2.2 ?_
    show Steps p.tables e below (T3.setTop (mkF m 8 #[.val (.ref a1), .val (.int p2), .unset, .unset] [])) _
    refine XS.aloadN X3.here hx rfl (hb hby d7_8) rfl rfl ?_
    show Steps p.tables e below (T3.setTop (mkF m 9 #[.val (.ref a1), .val (.int p2), .unset, .unset] [(.ref a1)])) _
    jvm_step X3.here [X3.here.top, hx, (hb hby d7_9), X3.method', Bd.returns, Value.isRef, FieldType.isReference]
    first | (intro acts; rw [hr _ acts rfl rfl rfl]) | rw [hr _ _ rfl rfl rfl]
    exact Steps.refl _
  · show QN (some (.ref a1)) h0 n0 _ T3.heap _
    rw [e3]
    exact ⟨rfl, N3, rfl⟩
def QB (Z : State) (h0 : Heap) (n0 : Nat) (v : Option Value) (h : Heap) (L : List Loc) : Prop := ∃ (b r : Addr) (k : ClassId), v = some (.ref b) ∧ Fr n0 L ∧ Keep h0 h [] ∧ Exa Z h b "com/example/deftab/deftab/reasoning/DependencySet" ∧ Fld Z h b "com/example/deftab/deftab/reasoning/DependencySet" "words" "[J" (.ref r) ∧ Arv Z h r k .long (0 : Int32) [] (.long (0 : Int64))
theorem d7_41 : decode prog_29_method_4_code 41 = .ok (.iload_n 3, 1) := by decide +kernel
theorem d7_42 : decode prog_29_method_4_code 42 = .ok (.ifCond .le 19, 3) := by decide +kernel
theorem d7_45 : decode prog_29_method_4_code 45 = .ok (.aload_n 2, 1) := by decide +kernel
theorem d7_46 : decode prog_29_method_4_code 46 = .ok (.iload_n 3, 1) := by decide +kernel
theorem d7_47 : decode prog_29_method_4_code 47 = .ok (.iconst 1, 1) := by decide +kernel
theorem d7_48 : decode prog_29_method_4_code 48 = .ok (.isub, 1) := by decide +kernel
theorem d7_49 : decode prog_29_method_4_code 49 = .ok (.laload, 1) := by decide +kernel
theorem d7_50 : decode prog_29_method_4_code 50 = .ok (.lconst 0, 1) := by decide +kernel
theorem d7_51 : decode prog_29_method_4_code 51 = .ok (.lcmp, 1) := by decide +kernel
theorem d7_52 : decode prog_29_method_4_code 52 = .ok (.ifCond .ne 9, 3) := by decide +kernel
theorem d7_55 : decode prog_29_method_4_code 55 = .ok (.iinc 3 (-1), 3) := by decide +kernel
theorem d7_58 : decode prog_29_method_4_code 58 = .ok (.goto (-17), 3) := by decide +kernel
set_option maxRecDepth 65536 in
set_option maxHeartbeats 40000000 in
theorem loopB {p : Program} {l : Launch} {e : Env} {R : Room} {s : State} {m : MethodId} {args : Array Value} {below : List Frame} {meth : Method} {c : Code} {T : State} {locs : List Loc} {cells slots : Nat} {Z : State} {h : Heap} {a1 b : Addr} {p2 z2 : Int32} {k : ClassId}
    (X : Stand p l e R s m args below meth c T locs cells slots) (hx : p.tables.exec = Jvm.exec) (hZ : Z.Warmed39 s.vm) (hby : c.code = prog_29_method_4_code) (eT : T.heap = h) (V : Arv Z h b k .long z2 [] (.long (0 : Int64))) (t : State)
    (kt : Steps p.tables e below (T.setTop (mkF m 61 #[.val (.ref a1), .val (.int p2), .val (.ref b), .val (.int (0 : Int32))] [])) t) :
    ∀ n : Nat, n ≤ z2.toNatClampNeg → n < 2147483648 → Steps p.tables e below (T.setTop (mkF m 41 #[.val (.ref a1), .val (.int p2), .val (.ref b), .val (.int (Int32.ofNat n))] [])) t := by
  obtain ⟨cl, Ar, -, Sz, Mz, Hs, -⟩ := V
  intro n
  induction n with
  | zero =>
    intro _ _
    show Steps p.tables e below (T.setTop (mkF m 41 #[.val (.ref a1), .val (.int p2), .val (.ref b), .val (.int (0 : Int32))] [])) _
    refine XS.iloadN X.here hx rfl (hb hby d7_41) rfl ?_
    show Steps p.tables e below (T.setTop (mkF m 42 #[.val (.ref a1), .val (.int p2), .val (.ref b), .val (.int (0 : Int32))] [(.int (0 : Int32))])) _
    refine XS.ifYes X.here hx rfl (pc0 := 42) (pc' := 61) rfl (hb hby d7_42) rfl ((if0 _ _).trans (flt (by decide : ¬ ((0 : Int32) < (0 : Int32)))).2.2.2) (by decide) (by decide) ?_
    exact kt
  | succ n ih =>
    intro ha hb'
    have hi := own_i (n := n + 1) hb'
    have hj : ((Int32.ofNat (n + 1)) - (1 : Int32)) = Int32.ofNat n := by
      have q := c_isub (Int32.ofNat (n + 1)) 1
      have q1 := rng32 ((Int32.ofNat (n + 1)) - (1 : Int32))
      rw [hi, show (1 : Int32).toInt = 1 from rfl] at q
      exact own_ofNat (by omega)
    have hjn := own_i (n := n) (by omega)
    have n1 : ¬ (Int32.ofNat n) < 0 := own_geI (by rw [hjn, show (0 : Int32).toInt = 0 from rfl]; omega)
    have hjc : (Int32.ofNat n).toNatClampNeg = n := by have q := nat_of n1; omega
    have n2 : ¬ ((Int32.ofNat n) < 0 ∨ cl.slots.size ≤ (Int32.ofNat n).toNatClampNeg) := by rw [hjc, Sz]; exact fun q => q.elim n1 (by omega)
    have hat : cl.slots[(Int32.ofNat n).toNatClampNeg]? = some (.long (0 : Int64)) := Hs.at n2 rfl
    show Steps p.tables e below (T.setTop (mkF m 41 #[.val (.ref a1), .val (.int p2), .val (.ref b), .val (.int (Int32.ofNat (n + 1)))] [])) _
    refine XS.iloadN X.here hx rfl (hb hby d7_41) rfl ?_
    show Steps p.tables e below (T.setTop (mkF m 42 #[.val (.ref a1), .val (.int p2), .val (.ref b), .val (.int (Int32.ofNat (n + 1)))] [(.int (Int32.ofNat (n + 1)))])) _
    refine XS.ifNo X.here hx rfl (hb hby d7_42) rfl ((if0 _ _).trans (tlt (own_ltI (by rw [hi, show (0 : Int32).toInt = 0 from rfl]; omega) : (0 : Int32) < (Int32.ofNat (n + 1)))).2.2.2) ?_
    show Steps p.tables e below (T.setTop (mkF m 45 #[.val (.ref a1), .val (.int p2), .val (.ref b), .val (.int (Int32.ofNat (n + 1)))] [])) _
    refine XS.aloadN X.here hx rfl (hb hby d7_45) rfl rfl ?_
    show Steps p.tables e below (T.setTop (mkF m 46 #[.val (.ref a1), .val (.int p2), .val (.ref b), .val (.int (Int32.ofNat (n + 1)))] [(.ref b)])) _
    refine XS.iloadN X.here hx rfl (hb hby d7_46) rfl ?_
    show Steps p.tables e below (T.setTop (mkF m 47 #[.val (.ref a1), .val (.int p2), .val (.ref b), .val (.int (Int32.ofNat (n + 1)))] [(.int (Int32.ofNat (n + 1))), (.ref b)])) _
    refine XS.iconst X.here hx rfl (hb hby d7_47) ?_
    show Steps p.tables e below (T.setTop (mkF m 48 #[.val (.ref a1), .val (.int p2), .val (.ref b), .val (.int (Int32.ofNat (n + 1)))] [(.int (1 : Int32)), (.int (Int32.ofNat (n + 1))), (.ref b)])) _
    refine XS.isub X.here hx rfl (hb hby d7_48) rfl ?_
    rw [hj]
    show Steps p.tables e below (T.setTop (mkF m 49 #[.val (.ref a1), .val (.int p2), .val (.ref b), .val (.int (Int32.ofNat (n + 1)))] [(.int (Int32.ofNat n)), (.ref b)])) _
    refine X.laload hx (j := (Int32.ofNat n)) (v := (.long (0 : Int64))) (by rw [eT]; exact Ar.1) (State.isArrayOf_alike hZ.alike Ar.2.1) Ar.2.2 n2 hat (g := (mkF m 49 #[.val (.ref a1), .val (.int p2), .val (.ref b), .val (.int (Int32.ofNat (n + 1)))] [(.int (Int32.ofNat n)), (.ref b)])) rfl rfl (hb hby d7_49) _ ?_
    show Steps p.tables e below (T.setTop (mkF m 50 #[.val (.ref a1), .val (.int p2), .val (.ref b), .val (.int (Int32.ofNat (n + 1)))] [(.long (0 : Int64))])) _
    refine XS.lconst X.here hx rfl (hb hby d7_50) ?_
    show Steps p.tables e below (T.setTop (mkF m 51 #[.val (.ref a1), .val (.int p2), .val (.ref b), .val (.int (Int32.ofNat (n + 1)))] [(.long (0 : Int64)), (.long (0 : Int64))])) _
    refine XS.lcmp X.here hx rfl (hb hby d7_51) rfl ?_
    show Steps p.tables e below (T.setTop (mkF m 52 #[.val (.ref a1), .val (.int p2), .val (.ref b), .val (.int (Int32.ofNat (n + 1)))] [(.int (lcmpW (0 : Int64) (0 : Int64)))])) _
    refine XS.ifNo X.here hx rfl (hb hby d7_52) rfl ((if0 _ _).trans (teq ((lw_eq _ _).mpr rfl)).2) ?_
    show Steps p.tables e below (T.setTop (mkF m 55 #[.val (.ref a1), .val (.int p2), .val (.ref b), .val (.int (Int32.ofNat (n + 1)))] [])) _
    have hk : (Int32.ofNat (n + 1)) + (-1 : Int32) = Int32.ofNat n := by
      have q := c_iadd (Int32.ofNat (n + 1)) (-1)
      have q1 := rng32 ((Int32.ofNat (n + 1)) + (-1))
      rw [hi, show (-1 : Int32).toInt = -1 from rfl] at q
      exact own_ofNat (by omega)
    refine XS.iinc X.here hx rfl (hb hby d7_55) rfl (l' := #[.val (.ref a1), .val (.int p2), .val (.ref b), .val (.int ((Int32.ofNat (n + 1)) + (-1 : Int32)))]) rfl ?_
    rw [hk]
    show Steps p.tables e below (T.setTop (mkF m 58 #[.val (.ref a1), .val (.int p2), .val (.ref b), .val (.int (Int32.ofNat n))] [])) _
    refine XS.goto X.here hx rfl (pc0 := 58) (pc' := 41) rfl (hb hby d7_58) (by decide) (by decide) ?_
    exact ih (by omega) (by omega)
theorem d7_10 : decode prog_29_method_4_code 10 = .ok (.aload_n 0, 1) := by decide +kernel
theorem d7_11 : decode prog_29_method_4_code 11 = .ok (.getfield 7, 3) := by decide +kernel
theorem d7_14 : decode prog_29_method_4_code 14 = .ok (.iload_n 1, 1) := by decide +kernel
theorem d7_15 : decode prog_29_method_4_code 15 = .ok (.bipush 64, 2) := by decide +kernel
theorem d7_17 : decode prog_29_method_4_code 17 = .ok (.idiv, 1) := by decide +kernel
theorem d7_18 : decode prog_29_method_4_code 18 = .ok (.iconst 1, 1) := by decide +kernel
theorem d7_19 : decode prog_29_method_4_code 19 = .ok (.iadd, 1) := by decide +kernel
theorem d7_20 : decode prog_29_method_4_code 20 = .ok (.invokestatic 28, 3) := by decide +kernel
theorem pd_4 : parseMethodDescriptor "([JI)[J" = some ⟨[(.array .long), .int], some (.array .long)⟩ := by decide +kernel
theorem d7_23 : decode prog_29_method_4_code 23 = .ok (.astore_n 2, 1) := by decide +kernel
theorem d7_24 : decode prog_29_method_4_code 24 = .ok (.aload_n 2, 1) := by decide +kernel
theorem d7_25 : decode prog_29_method_4_code 25 = .ok (.aload_n 2, 1) := by decide +kernel
theorem d7_26 : decode prog_29_method_4_code 26 = .ok (.arraylength, 1) := by decide +kernel
theorem d7_27 : decode prog_29_method_4_code 27 = .ok (.iconst 1, 1) := by decide +kernel
theorem d7_28 : decode prog_29_method_4_code 28 = .ok (.isub, 1) := by decide +kernel
theorem d7_29 : decode prog_29_method_4_code 29 = .ok (.dup2, 1) := by decide +kernel
theorem d7_30 : decode prog_29_method_4_code 30 = .ok (.laload, 1) := by decide +kernel
theorem d7_31 : decode prog_29_method_4_code 31 = .ok (.lconst 1, 1) := by decide +kernel
theorem d7_32 : decode prog_29_method_4_code 32 = .ok (.iload_n 1, 1) := by decide +kernel
theorem d7_33 : decode prog_29_method_4_code 33 = .ok (.lshl, 1) := by decide +kernel
theorem d7_34 : decode prog_29_method_4_code 34 = .ok (.lconst 1, 1) := by decide +kernel
theorem d7_35 : decode prog_29_method_4_code 35 = .ok (.lsub, 1) := by decide +kernel
theorem d7_36 : decode prog_29_method_4_code 36 = .ok (.land, 1) := by decide +kernel
theorem d7_37 : decode prog_29_method_4_code 37 = .ok (.lastore, 1) := by decide +kernel
theorem d7_38 : decode prog_29_method_4_code 38 = .ok (.aload_n 2, 1) := by decide +kernel
theorem d7_39 : decode prog_29_method_4_code 39 = .ok (.arraylength, 1) := by decide +kernel
theorem d7_40 : decode prog_29_method_4_code 40 = .ok (.istore_n 3, 1) := by decide +kernel
theorem d7_61 : decode prog_29_method_4_code 61 = .ok (.new 8, 3) := by decide +kernel
theorem d7_64 : decode prog_29_method_4_code 64 = .ok (.dup, 1) := by decide +kernel
theorem d7_65 : decode prog_29_method_4_code 65 = .ok (.aload_n 2, 1) := by decide +kernel
theorem d7_66 : decode prog_29_method_4_code 66 = .ok (.iload_n 3, 1) := by decide +kernel
theorem d7_67 : decode prog_29_method_4_code 67 = .ok (.invokestatic 28, 3) := by decide +kernel
theorem d7_70 : decode prog_29_method_4_code 70 = .ok (.invokespecial 15, 3) := by decide +kernel
theorem d7_73 : decode prog_29_method_4_code 73 = .ok (.areturn, 1) := by decide +kernel
set_option maxRecDepth 65536 in
set_option maxHeartbeats 40000000 in
theorem rmB2 (l : Launch) (Z : State) (a0 : Array Value) (hw : ∀ d ∈ tables_1, d.before a0 Z = true) (ws : List Jvm.Cond) (a1 : Addr) (p2 : Int32) (u : Addr) (k : ClassId) (vs : List Value) (nz : Int32) (ii : Int32) (wv : Int64) (mx : Int32) (q2 : Int32) (z2 : Int32) (ms : Int64) (h0 : Heap) (n0 : Nat) (Z0 : n0 ≤ h0.size) (E_a1 : Exa Z h0 a1 "com/example/deftab/deftab/reasoning/DependencySet") (F_words_a1 : Fld Z h0 a1 "com/example/deftab/deftab/reasoning/DependencySet" "words" "[J" (.ref u)) (V_u : Arv Z h0 u k .long nz vs (.long (0 : Int64))) (hii : (nz - (1 : Int32)) = ii) (in0 : ¬ ii < 0) (inz : ii < nz) (hv : vs.getD ii.toNatClampNeg (.long (0 : Int64)) = .long wv) (hmx : ((((ii * (64 : Int32)) + (64 : Int32)) - (1 : Int32)) - (Jvm.Free.JP.Long_numberOfLeadingZeros_J.val wv)) = mx) (E_u : Exa Z h0 u "[J") (hle : ¬ mx < p2) (hq2 : (p2 / (64 : Int32)) = q2) (hz2 : (q2 + (1 : Int32)) = z2) (hz3 : (z2 - (1 : Int32)) = q2) (z2n : ¬ z2 < 0) (z2p : (0 : Int32) < z2) (z2c : z2.toNatClampNeg ≤ 64) (q2n : ¬ q2 < 0) (q2z : q2 < z2) (q2c : q2.toNatClampNeg < 64) (hms : (((1 : Int64) <<< (p2 &&& 0x3f).toInt64) - (1 : Int64)) = ms) (hnz : z2 = nz) (hl : vs.getD q2.toNatClampNeg (.long (0 : Int64)) = .long wv) (hand : (wv &&& ms) = (0 : Int64)) (vsl : q2.toNatClampNeg < vs.length) (vs0 : ∀ i, i ≠ q2.toNatClampNeg → vs.getD i (.long (0 : Int64)) = (.long (0 : Int64))) :
    MetFree l (⟨"com/example/deftab/deftab/reasoning/DependencySet", "below", "(I)Lcom/example/deftab/deftab/reasoning/DependencySet;"⟩ : MethodName) (head1 (Jvm.Cond.code (⟨"com/example/deftab/deftab/reasoning/DependencySet", "below", "(I)Lcom/example/deftab/deftab/reasoning/DependencySet;"⟩ : MethodName) prog_29_method_4_code 4 (some (.object "com/example/deftab/deftab/reasoning/DependencySet")) :: ws) ({ frames := 3, cells := 3, slots := 129, locals := 56 } : Room)) (fun a U => a = #[(.ref a1), (.int p2)] ∧ Z.Warmed39 U.vm ∧ U.heap = h0) (fun _ _ _ _ _ => True) (fun _ U o U' => ∃ v L, o = .returned v ∧ QB Z h0 n0 v U'.heap L ∧ FrameEnd U o U' L ({ frames := 3, cells := 3, slots := 129, locals := 56 } : Room).cells ({ frames := 3, cells := 3, slots := 129, locals := 56 } : Room).slots) := by
  refine MetFree.of_bodySF (plainFor_of_name pn_7) hisR ?_
  intro p e s m args below meth c s₁ Bd hml0 hP hK
  obtain ⟨rfl, hZ, hh⟩ := hP
  have hx := Bd.exec
  have hby := Bd.bytes
  have hml : c.maxLocals = 4 := hml0
  have hown : s.vm.findClass "com/example/deftab/deftab/reasoning/DependencySet" = some m.cls := findClass_of_methodNamed Bd.named
  have hnm := (name_of_methodNamed Bd.named Bd.method).1
  have X0 : Stand p l e ({ frames := 3, cells := 3, slots := 129, locals := 56 } : Room) s m #[(.ref a1), (.int p2)] below meth c s₁ [] 0 0 := Stand.of_body Bd
  have e0 : s₁.heap = h0 := by rw [← hh, Bd.state]; rfl
  have N0 := Fr.nil n0
  have pre0 : ∀ t, Steps p.tables e below (s₁.setTop (mkF m 0 #[.val (.ref a1), .val (.int p2), .unset, .unset] [])) t → Steps p.tables e below (s₁.setTop (entryFrame m #[(.ref a1), (.int p2)] 4)) t := fun t k => castTop (ef_7 m a1 p2) k
  have K0 : Keep h0 h0 [] := Keep.refl _ _
  obtain ⟨cq3, kq3, q3a, q3b, q3c⟩ := isOf hZ e0 E_a1
  obtain ⟨_, _, ⟨T3, L3, k3, n3⟩, -, X3, ⟨Lc3, hQ3, l3, y3, z3⟩, st3⟩ := X0.virtualBack hx (y := (⟨"com/example/deftab/deftab/reasoning/DependencySet", "max", "()I"⟩ : MethodName)) (z := (⟨"com/example/deftab/deftab/reasoning/DependencySet", "max", "()I"⟩ : MethodName)) hown (mvT hZ (hw _ (List.mem_of_getElem? (i := 35) rfl))) (mvT hZ (hw _ (List.mem_of_getElem? (i := 17) rfl))) (notFace_of_selects (args := #[]) (mvT hZ (hw _ (List.mem_of_getElem? (i := 19) rfl)))) (mvT hZ (hw _ (List.mem_of_getElem? (i := 19) rfl))) (mvT hZ (hw _ (List.mem_of_getElem? (i := 18) rfl))) (by decide) (backOf (W := 1) (rmM1 l Z a0 hw [] a1 u k vs nz ii wv mx h0 n0 Z0 (F_words_a1) (V_u) (hii) (in0) (inz) (hv) (hmx)) hZ (hw _ (List.mem_of_getElem? (i := 20) rfl)) (hw _ (List.mem_of_getElem? (i := 3) rfl)) (by decide) (by decide)) q3a q3c (g := (mkF m 2 #[.val (.ref a1), .val (.int p2), .unset, .unset] [(.ref a1), (.int p2)])) rfl (by rw [hml]; rfl) (Steps.refl _) (argsL := []) (rest := [(.int p2)]) (lenOf pd_3 rfl) rfl (by show 2 * 0 + _ ≤ _; exact Nat.le_of_eq rfl) (hb hby d7_2) (fun _ _ => ⟨rfl, e0, (by decide : 0 + 0 ≤ _), (by decide : 0 + 0 ≤ _)⟩)
  dsimp only [Pt.U, Pt.locs, Pt.cells, Pt.slots] at X3 l3 y3 z3 st3 hQ3
  subst l3 y3 z3
  obtain ⟨rfl, N3q, e3⟩ := hQ3
  have N3 := Fr.app N0 N3q
  obtain ⟨T4, X4, e4, st4⟩ := getF X3 hx hZ hown (host := "") (Or.inl (hw _ (List.mem_of_getElem? (i := 14) rfl))) Via.refl e3 F_words_a1 (g := (mkF m 11 #[.val (.ref a1), .val (.int p2), .unset, .unset] [(.ref a1)])) rfl rfl (hb hby d7_11)
  obtain ⟨_, _, ⟨T5, L5, k5, n5⟩, -, X5, ⟨Lc5, hQ5, l5, y5, z5⟩, st5⟩ := Jvm.LawKit.callS X4 hx (y := (⟨"java/util/Arrays", "copyOf", "([JI)[J"⟩ : MethodName)) hown (mvT hZ (hw _ (List.mem_of_getElem? (i := 36) rfl))) (mvT hZ (hw _ (List.mem_of_getElem? (i := 37) rfl))) (mvT hZ (hw _ (List.mem_of_getElem? (i := 38) rfl))) (mvT hZ (hw _ (List.mem_of_getElem? (i := 39) rfl))) (by decide) (backOf (W := 0) (rmY l Z a0 hw [] u z2 k vs h0 n0 Z0 (hnz ▸ V_u) (E_u) (z2c)) hZ (hw _ (List.mem_of_getElem? (i := 39) rfl)) (hw _ (List.mem_of_getElem? (i := 38) rfl)) (by decide) (by decide)) (g := (mkF m 20 #[.val (.ref a1), .val (.int p2), .unset, .unset] [(.int z2), (.ref u)])) rfl (by rw [hml]; rfl) (argsL := [(.ref u), (.int z2)]) (rest := []) (lenOf pd_4 rfl) rfl (by show 2 * 0 + _ ≤ _; exact Nat.le_of_eq rfl) (hb hby d7_20) (fun _ _ => ⟨rfl, e4, (by decide : 0 + 1 ≤ _), (by decide : 0 + 64 ≤ _)⟩)
  dsimp only [Pt.U, Pt.locs, Pt.cells, Pt.slots] at X5 l5 y5 z5 st5 hQ5
  subst l5 y5 z5
  have e5 : T5.heap = T5.heap := rfl
  obtain ⟨bc5, kc5, rfl, N5q, KK5, g_bc5, s1_bc5, V_bc5, E_bc5⟩ := hQ5
  have N5 := Fr.app N3 N5q
  have ne_a1_bc5 : a1 ≠ bc5 := Nat.ne_of_lt (Nat.lt_of_lt_of_le E_a1.lt s1_bc5)
  have ne_u_bc5 : u ≠ bc5 := Nat.ne_of_lt (Nat.lt_of_lt_of_le V_u.lt s1_bc5)
  have s0_bc5 : h0.size ≤ bc5 := Nat.le_trans K0.1 s1_bc5
  have E_a1_5 := E_a1.keep KK5
  have F_words_a1_5 := F_words_a1.keep KK5 nin0
  have V_u_5 := V_u.keep KK5 nin0
  have E_u_5 := E_u.keep KK5
  have SZ5 : n0 ≤ T5.heap.size := Nat.le_trans Z0 KK5.1
  have K5 := Keep.trans K0 KK5 all0
  obtain ⟨clu6, Aru6, -, Su6, Mu6, -, -⟩ := id V_bc5
  obtain ⟨clu7, Aru7, qu7, Su7, Mu7, Hu7, Gu7⟩ := id V_bc5
  have hinu7 : ¬ (q2 < 0 ∨ clu7.slots.size ≤ (q2).toNatClampNeg) := inb_of Su7 ⟨q2n, q2z⟩
  have hatu7 : clu7.slots[(q2).toNatClampNeg]? = some (.long wv) := Hu7.at hinu7 hl
  obtain ⟨clu8, Aru8, qu8, Su8, Mu8, Hu8, Gu8⟩ := id V_bc5
  have hinu8 : ¬ (q2 < 0 ∨ clu8.slots.size ≤ (q2).toNatClampNeg) := inb_of Su8 ⟨q2n, q2z⟩
  obtain ⟨T9, h9, X9, e9, W9, st9⟩ := stJ X5 hx hZ e5 Aru8 (j := q2) hinu8 (g := (mkF m 37 #[.val (.ref a1), .val (.int p2), .val (.ref bc5), .unset] [(.long (0 : Int64)), (.int q2), (.ref bc5)])) rfl rfl (hb hby d7_37)
  have E_a1_9 := E_a1_5.wr W9
  have F_words_a1_9 := F_words_a1_5.other W9 (Or.inl ne_a1_bc5)
  have V_u_9 := V_u_5.other W9 ne_u_bc5
  have E_u_9 := E_u_5.wr W9
  have E_bc5_9 := E_bc5.wr W9
  have SZ9 : n0 ≤ h9.size := by rw [W9.size]; exact SZ5
  have K9 := K5.wr W9 (Or.inr s0_bc5)
  have N9 := Fr.snoc X9 N5 g_bc5
  have V_bc5_9 : Arv Z h9 bc5 kc5 .long z2 [] (.long (0 : Int64)) := (Arv.set Aru8 qu8 Su8 Mu8 Hu8 Gu8 rfl W9 q2.toNatClampNeg rfl (by exact vsl)).pad fun i => own_set0 vs0 vsl i
  obtain ⟨clu10, Aru10, -, Su10, Mu10, -, -⟩ := id V_bc5_9
  have pre_11 : ∀ t, Steps p.tables e below (T9.setTop (mkF m 41 #[.val (.ref a1), .val (.int p2), .val (.ref bc5), .val (.int z2)] [])) t → Steps p.tables e below (s₁.setTop (entryFrame m #[(.ref a1), (.int p2)] 4)) t := by
    intro t kt
    refine pre0 _ ?_
    show Steps p.tables e below (s₁.setTop (mkF m 0 #[.val (.ref a1), .val (.int p2), .unset, .unset] [])) _
    refine XS.iloadN X0.here hx rfl (hb hby d7_0) rfl ?_
    show Steps p.tables e below (s₁.setTop (mkF m 1 #[.val (.ref a1), .val (.int p2), .unset, .unset] [(.int p2)])) _
    refine XS.aloadN X0.here hx rfl (hb hby d7_1) rfl rfl ?_
    show Steps p.tables e below (s₁.setTop (mkF m 2 #[.val (.ref a1), .val (.int p2), .unset, .unset] [(.ref a1), (.int p2)])) _
    refine st3.trans ?_
    show Steps p.tables e below (T3.setTop (mkF m 5 #[.val (.ref a1), .val (.int p2), .unset, .unset] [(.int mx), (.int p2)])) _
    refine XS.icmpYes X3.here hx rfl (pc0 := 5) (pc' := 10) rfl (hb hby d7_5) rfl (flt (hle : ¬ (mx < p2))).2.2.2 (by decide) (by decide) ?_
    show Steps p.tables e below (T3.setTop (mkF m 10 #[.val (.ref a1), .val (.int p2), .unset, .unset] [])) _
    refine XS.aloadN X3.here hx rfl (hb hby d7_10) rfl rfl ?_
    show Steps p.tables e below (T3.setTop (mkF m 11 #[.val (.ref a1), .val (.int p2), .unset, .unset] [(.ref a1)])) _
    refine st4 _ ?_
    show Steps p.tables e below (T4.setTop (mkF m 14 #[.val (.ref a1), .val (.int p2), .unset, .unset] [(.ref u)])) _
    refine XS.iloadN X4.here hx rfl (hb hby d7_14) rfl ?_
    show Steps p.tables e below (T4.setTop (mkF m 15 #[.val (.ref a1), .val (.int p2), .unset, .unset] [(.int p2), (.ref u)])) _
    refine XS.bipush X4.here hx rfl (hb hby d7_15) ?_
    show Steps p.tables e below (T4.setTop (mkF m 17 #[.val (.ref a1), .val (.int p2), .unset, .unset] [(.int (64 : Int32)), (.int p2), (.ref u)])) _
    refine XS.idiv X4.here hx rfl (hb hby d7_17) rfl (by decide) ?_
    rw [hq2]
    show Steps p.tables e below (T4.setTop (mkF m 18 #[.val (.ref a1), .val (.int p2), .unset, .unset] [(.int q2), (.ref u)])) _
    refine XS.iconst X4.here hx rfl (hb hby d7_18) ?_
    show Steps p.tables e below (T4.setTop (mkF m 19 #[.val (.ref a1), .val (.int p2), .unset, .unset] [(.int (1 : Int32)), (.int q2), (.ref u)])) _
    refine XS.iadd X4.here hx rfl (hb hby d7_19) rfl ?_
    rw [hz2]
    show Steps p.tables e below (T4.setTop (mkF m 20 #[.val (.ref a1), .val (.int p2), .unset, .unset] [(.int z2), (.ref u)])) _
    refine st5 _ ?_
    show Steps p.tables e below (T5.setTop (mkF m 23 #[.val (.ref a1), .val (.int p2), .unset, .unset] [(.ref bc5)])) _
    refine XS.astoreN X5.here hx rfl (hb hby d7_23) rfl rfl (l' := #[.val (.ref a1), .val (.int p2), .val (.ref bc5), .unset]) rfl ?_
    show Steps p.tables e below (T5.setTop (mkF m 24 #[.val (.ref a1), .val (.int p2), .val (.ref bc5), .unset] [])) _
    refine XS.aloadN X5.here hx rfl (hb hby d7_24) rfl rfl ?_
    show Steps p.tables e below (T5.setTop (mkF m 25 #[.val (.ref a1), .val (.int p2), .val (.ref bc5), .unset] [(.ref bc5)])) _
    refine XS.aloadN X5.here hx rfl (hb hby d7_25) rfl rfl ?_
    show Steps p.tables e below (T5.setTop (mkF m 26 #[.val (.ref a1), .val (.int p2), .val (.ref bc5), .unset] [(.ref bc5), (.ref bc5)])) _
    refine X5.arraylength hx (by rw [e5]; exact Aru6.1) (State.isArrayOf_alike hZ.alike Aru6.2.1) (g := (mkF m 26 #[.val (.ref a1), .val (.int p2), .val (.ref bc5), .unset] [(.ref bc5), (.ref bc5)])) rfl rfl (hb hby d7_26) _ ?_
    rw [len_of Su6 Mu6]
    show Steps p.tables e below (T5.setTop (mkF m 27 #[.val (.ref a1), .val (.int p2), .val (.ref bc5), .unset] [(.int z2), (.ref bc5)])) _
    refine XS.iconst X5.here hx rfl (hb hby d7_27) ?_
    show Steps p.tables e below (T5.setTop (mkF m 28 #[.val (.ref a1), .val (.int p2), .val (.ref bc5), .unset] [(.int (1 : Int32)), (.int z2), (.ref bc5)])) _
    refine XS.isub X5.here hx rfl (hb hby d7_28) rfl ?_
    rw [hz3]
    show Steps p.tables e below (T5.setTop (mkF m 29 #[.val (.ref a1), .val (.int p2), .val (.ref bc5), .unset] [(.int q2), (.ref bc5)])) _
    jvm_step X5.here [X5.here.top, hx, (hb hby d7_29), Value.category]
    show Steps p.tables e below (T5.setTop (mkF m 30 #[.val (.ref a1), .val (.int p2), .val (.ref bc5), .unset] [(.int q2), (.ref bc5), (.int q2), (.ref bc5)])) _
    refine X5.laload hx (j := q2) (v := (.long wv)) (by rw [e5]; exact Aru7.1) (State.isArrayOf_alike hZ.alike Aru7.2.1) Aru7.2.2 hinu7 hatu7 (g := (mkF m 30 #[.val (.ref a1), .val (.int p2), .val (.ref bc5), .unset] [(.int q2), (.ref bc5), (.int q2), (.ref bc5)])) rfl rfl (hb hby d7_30) _ ?_
    show Steps p.tables e below (T5.setTop (mkF m 31 #[.val (.ref a1), .val (.int p2), .val (.ref bc5), .unset] [(.long wv), (.int q2), (.ref bc5)])) _
    refine XS.lconst X5.here hx rfl (hb hby d7_31) ?_
    show Steps p.tables e below (T5.setTop (mkF m 32 #[.val (.ref a1), .val (.int p2), .val (.ref bc5), .unset] [(.long (1 : Int64)), (.long wv), (.int q2), (.ref bc5)])) _
    refine XS.iloadN X5.here hx rfl (hb hby d7_32) rfl ?_
    show Steps p.tables e below (T5.setTop (mkF m 33 #[.val (.ref a1), .val (.int p2), .val (.ref bc5), .unset] [(.int p2), (.long (1 : Int64)), (.long wv), (.int q2), (.ref bc5)])) _
    refine XS.lshl X5.here hx rfl (hb hby d7_33) rfl ?_
    show Steps p.tables e below (T5.setTop (mkF m 34 #[.val (.ref a1), .val (.int p2), .val (.ref bc5), .unset] [(.long ((1 : Int64) <<< (p2 &&& 0x3f).toInt64)), (.long wv), (.int q2), (.ref bc5)])) _
    refine XS.lconst X5.here hx rfl (hb hby d7_34) ?_
    show Steps p.tables e below (T5.setTop (mkF m 35 #[.val (.ref a1), .val (.int p2), .val (.ref bc5), .unset] [(.long (1 : Int64)), (.long ((1 : Int64) <<< (p2 &&& 0x3f).toInt64)), (.long wv), (.int q2), (.ref bc5)])) _
    refine XS.lsub X5.here hx rfl (hb hby d7_35) rfl ?_
    rw [hms]
    show Steps p.tables e below (T5.setTop (mkF m 36 #[.val (.ref a1), .val (.int p2), .val (.ref bc5), .unset] [(.long ms), (.long wv), (.int q2), (.ref bc5)])) _
    refine XS.land X5.here hx rfl (hb hby d7_36) rfl ?_
    rw [hand]
    show Steps p.tables e below (T5.setTop (mkF m 37 #[.val (.ref a1), .val (.int p2), .val (.ref bc5), .unset] [(.long (0 : Int64)), (.int q2), (.ref bc5)])) _
    refine st9 _ ?_
    show Steps p.tables e below (T9.setTop (mkF m 38 #[.val (.ref a1), .val (.int p2), .val (.ref bc5), .unset] [])) _
    refine XS.aloadN X9.here hx rfl (hb hby d7_38) rfl rfl ?_
    show Steps p.tables e below (T9.setTop (mkF m 39 #[.val (.ref a1), .val (.int p2), .val (.ref bc5), .unset] [(.ref bc5)])) _
    refine X9.arraylength hx (by rw [e9]; exact Aru10.1) (State.isArrayOf_alike hZ.alike Aru10.2.1) (g := (mkF m 39 #[.val (.ref a1), .val (.int p2), .val (.ref bc5), .unset] [(.ref bc5)])) rfl rfl (hb hby d7_39) _ ?_
    rw [len_of Su10 Mu10]
    show Steps p.tables e below (T9.setTop (mkF m 40 #[.val (.ref a1), .val (.int p2), .val (.ref bc5), .unset] [(.int z2)])) _
    refine XS.istoreN X9.here hx rfl (hb hby d7_40) rfl (l' := #[.val (.ref a1), .val (.int p2), .val (.ref bc5), .val (.int z2)]) rfl ?_
    exact kt
  have pre_12 : ∀ t, Steps p.tables e below (T9.setTop (mkF m 61 #[.val (.ref a1), .val (.int p2), .val (.ref bc5), .val (.int (0 : Int32))] [])) t → Steps p.tables e below (s₁.setTop (entryFrame m #[(.ref a1), (.int p2)] 4)) t := by
    intro t kt
    refine pre_11 _ ?_
    have q := loopB X9 hx hZ hby e9 V_bc5_9 t kt z2.toNatClampNeg (Nat.le_refl _) (by omega)
    have q1 : Int32.ofNat z2.toNatClampNeg = z2 := (own_ofNat (nat_of z2n)).symm
    rw [q1] at q
    exact q
  obtain ⟨T13, h13, X13, e13, E13, A13, D13, -, st13⟩ := newO X9 hx hZ hown (hw _ (List.mem_of_getElem? (i := 6) rfl)) (hw _ (List.mem_of_getElem? (i := 7) rfl)) (hw _ (List.mem_of_getElem? (i := 3) rfl)) e9 (g := (mkF m 61 #[.val (.ref a1), .val (.int p2), .val (.ref bc5), .val (.int (0 : Int32))] [])) rfl (hb hby d7_61) (by decide) (by decide)
  obtain ⟨b13, g13⟩ : ∃ z, z = h9.size := ⟨_, rfl⟩
  rw [← g13] at A13 D13 st13
  have ne_a1_b13 : a1 ≠ b13 := Nat.ne_of_lt (Nat.lt_of_lt_of_le E_a1_9.lt (Nat.le_of_eq g13.symm))
  have ne_u_b13 : u ≠ b13 := Nat.ne_of_lt (Nat.lt_of_lt_of_le V_u_9.lt (Nat.le_of_eq g13.symm))
  have ne_bc5_b13 : bc5 ≠ b13 := Nat.ne_of_lt (Nat.lt_of_lt_of_le V_bc5_9.lt (Nat.le_of_eq g13.symm))
  have g_b13 : n0 ≤ b13 := Nat.le_trans SZ9 (Nat.le_of_eq g13.symm)
  have sz_b13 : h9.size ≤ b13 := Nat.le_of_eq g13.symm
  have s0_b13 : h0.size ≤ b13 := Nat.le_trans K9.1 (Nat.le_of_eq g13.symm)
  have E_a1_13 := E_a1_9.ext E13
  have F_words_a1_13 := F_words_a1_9.ext E13
  have V_u_13 := V_u_9.ext E13
  have E_u_13 := E_u_9.ext E13
  have V_bc5_13 := V_bc5_9.ext E13
  have E_bc5_13 := E_bc5_9.ext E13
  have SZ13 : n0 ≤ h13.size := Nat.le_trans SZ9 E13.1
  have K13 := K9.ext E13
  have E_b13 := A13
  have F_words_b13 : Fld Z h13 b13 "com/example/deftab/deftab/reasoning/DependencySet" "words" "[J" .null := D13 (Or.inr (hw _ (List.mem_of_getElem? (i := 15) rfl))) (ty := (.array .long)) (by decide)
  obtain ⟨_, _, ⟨T14, L14, k14, n14⟩, -, X14, ⟨Lc14, hQ14, l14, y14, z14⟩, st14⟩ := Jvm.LawKit.callS X13 hx (y := (⟨"java/util/Arrays", "copyOf", "([JI)[J"⟩ : MethodName)) hown (mvT hZ (hw _ (List.mem_of_getElem? (i := 36) rfl))) (mvT hZ (hw _ (List.mem_of_getElem? (i := 37) rfl))) (mvT hZ (hw _ (List.mem_of_getElem? (i := 38) rfl))) (mvT hZ (hw _ (List.mem_of_getElem? (i := 39) rfl))) (by decide) (backOf (W := 2) (rmZ l Z a0 hw [] bc5 (0 : Int32) kc5 z2 [] h13 n0 SZ13 (V_bc5_13) (by decide) (by decide) (z2p) (Nat.zero_le _) (fun i hi => absurd hi (Nat.not_lt_zero i))) hZ (hw _ (List.mem_of_getElem? (i := 39) rfl)) (hw _ (List.mem_of_getElem? (i := 38) rfl)) (by decide) (by decide)) (g := (mkF m 67 #[.val (.ref a1), .val (.int p2), .val (.ref bc5), .val (.int (0 : Int32))] [(.int (0 : Int32)), (.ref bc5), (.ref b13), (.ref b13)])) rfl (by rw [hml]; rfl) (argsL := [(.ref bc5), (.int (0 : Int32))]) (rest := [(.ref b13), (.ref b13)]) (lenOf pd_4 rfl) rfl (by show 2 * 0 + _ ≤ _; exact Nat.le_of_eq rfl) (hb hby d7_67) (fun _ _ => ⟨rfl, e13, (by decide : 2 + 1 ≤ _), (by decide : 65 + 64 ≤ _)⟩)
  dsimp only [Pt.U, Pt.locs, Pt.cells, Pt.slots] at X14 l14 y14 z14 st14 hQ14
  subst l14 y14 z14
  have e14 : T14.heap = T14.heap := rfl
  obtain ⟨bc14, kc14, rfl, N14q, KK14, g_bc14, s1_bc14, V_bc14, E_bc14⟩ := hQ14
  have N14 := Fr.app N9 N14q
  have ne_a1_bc14 : a1 ≠ bc14 := Nat.ne_of_lt (Nat.lt_of_lt_of_le E_a1_13.lt s1_bc14)
  have ne_u_bc14 : u ≠ bc14 := Nat.ne_of_lt (Nat.lt_of_lt_of_le V_u_13.lt s1_bc14)
  have ne_bc5_bc14 : bc5 ≠ bc14 := Nat.ne_of_lt (Nat.lt_of_lt_of_le V_bc5_13.lt s1_bc14)
  have ne_b13_bc14 : b13 ≠ bc14 := Nat.ne_of_lt (Nat.lt_of_lt_of_le E_b13.lt s1_bc14)
  have s0_bc14 : h0.size ≤ bc14 := Nat.le_trans K13.1 s1_bc14
  have E_a1_14 := E_a1_13.keep KK14
  have F_words_a1_14 := F_words_a1_13.keep KK14 nin0
  have V_u_14 := V_u_13.keep KK14 nin0
  have E_u_14 := E_u_13.keep KK14
  have V_bc5_14 := V_bc5_13.keep KK14 nin0
  have E_bc5_14 := E_bc5_13.keep KK14
  have E_b13_14 := E_b13.keep KK14
  have F_words_b13_14 := F_words_b13.keep KK14 nin0
  have SZ14 : n0 ≤ T14.heap.size := Nat.le_trans SZ13 KK14.1
  have K14 := Keep.trans K13 KK14 all0
  obtain ⟨_, _, ⟨T15, L15, k15, n15⟩, -, X15, ⟨Lc15, hQ15, l15, y15, z15⟩, st15⟩ := X14.specialBack hx (y := (⟨"com/example/deftab/deftab/reasoning/DependencySet", "<init>", "([J)V"⟩ : MethodName)) rfl hown (mvT hZ (hw _ (List.mem_of_getElem? (i := 8) rfl))) (mvT hZ (hw _ (List.mem_of_getElem? (i := 9) rfl))) (mvT hZ (hw _ (List.mem_of_getElem? (i := 10) rfl))) (by decide) (backOf (W := 1) (rmC l Z a0 hw [] b13 bc14 T14.heap n0 SZ14 (E_b13_14) (F_words_b13_14) (g_b13)) hZ (hw _ (List.mem_of_getElem? (i := 10) rfl)) (hw _ (List.mem_of_getElem? (i := 3) rfl)) (by decide) (by decide)) (g := (mkF m 70 #[.val (.ref a1), .val (.int p2), .val (.ref bc5), .val (.int (0 : Int32))] [(.ref bc14), (.ref b13), (.ref b13)])) rfl (by rw [hml]; rfl) (Steps.refl _) (a := b13) (argsL := [(.ref bc14)]) (rest := [(.ref b13)]) (lenOf pd_0 rfl) rfl (by show 2 * 0 + _ ≤ _; exact Nat.le_of_eq rfl) (hb hby d7_70) (fun _ _ => ⟨rfl, e14, (by decide : 3 + 0 ≤ _), (by decide : 129 + 0 ≤ _)⟩)
  dsimp only [Pt.U, Pt.locs, Pt.cells, Pt.slots] at X15 l15 y15 z15 st15 hQ15
  subst l15 y15 z15
  have e15 : T15.heap = T15.heap := rfl
  obtain ⟨rfl, N15q, KK15, xE15, xF15⟩ := hQ15
  have N15 := Fr.app N14 N15q
  have E_a1_15 := E_a1_14.keep KK15
  have F_words_a1_15 := F_words_a1_14.keep KK15 (ninS ne_a1_b13 nin0)
  have V_u_15 := V_u_14.keep KK15 (ninS ne_u_b13 nin0)
  have E_u_15 := E_u_14.keep KK15
  have V_bc5_15 := V_bc5_14.keep KK15 (ninS ne_bc5_b13 nin0)
  have E_bc5_15 := E_bc5_14.keep KK15
  have E_b13_15 := E_b13_14.keep KK15
  have V_bc14_15 := V_bc14.keep KK15 (ninS (Ne.symm ne_b13_bc14) nin0)
  have E_bc14_15 := E_bc14.keep KK15
  have SZ15 : n0 ≤ T15.heap.size := Nat.le_trans SZ14 KK15.1
  have K15 := Keep.trans K14 KK15 (allS (Or.inr s0_b13) all0)
  obtain ⟨fs, hr, hrun, hended, hW, hsame⟩ := X15.leave (v := some (.ref b13)) (fun h => by rw [Bd.returns] at h; cases h)
  refine ⟨_, _, pre_12 _ ?_, hrun, hended, _, _, rfl, ?_, ⟨_, rfl⟩, hW, hsame.mono (by decide) (by decide)⟩
  · show Steps p.tables e below (T9.setTop (mkF m 61 #[.val (.ref a1), .val (.int p2), .val (.ref bc5), .val (.int (0 : Int32))] [])) _
    refine st13 _ ?_
    show Steps p.tables e below (T13.setTop (mkF m 64 #[.val (.ref a1), .val (.int p2), .val (.ref bc5), .val (.int (0 : Int32))] [(.ref b13)])) _
    refine XS.dup X13.here hx rfl (hb hby d7_64) rfl rfl ?_
    show Steps p.tables e below (T13.setTop (mkF m 65 #[.val (.ref a1), .val (.int p2), .val (.ref bc5), .val (.int (0 : Int32))] [(.ref b13), (.ref b13)])) _
    refine XS.aloadN X13.here hx rfl (hb hby d7_65) rfl rfl ?_
    show Steps p.tables e below (T13.setTop (mkF m 66 #[.val (.ref a1), .val (.int p2), .val (.ref bc5), .val (.int (0 : Int32))] [(.ref bc5), (.ref b13), (.ref b13)])) _
    refine XS.iloadN X13.here hx rfl (hb hby d7_66) rfl ?_
    show Steps p.tables e below (T13.setTop (mkF m 67 #[.val (.ref a1), .val (.int p2), .val (.ref bc5), .val (.int (0 : Int32))] [(.int (0 : Int32)), (.ref bc5), (.ref b13), (.ref b13)])) _
    refine st14 _ ?_
    show Steps p.tables e below (T14.setTop (mkF m 70 #[.val (.ref a1), .val (.int p2), .val (.ref bc5), .val (.int (0 : Int32))] [(.ref bc14), (.ref b13), (.ref b13)])) _
    refine st15.trans ?_
    show Steps p.tables e below (T15.setTop (mkF m 73 #[.val (.ref a1), .val (.int p2), .val (.ref bc5), .val (.int (0 : Int32))] [(.ref b13)])) _
    jvm_step X15.here [X15.here.top, hx, (hb hby d7_73), X15.method', Bd.returns, Value.isRef, FieldType.isReference]
    first | (intro acts; rw [hr _ acts rfl rfl rfl]) | rw [hr _ _ rfl rfl rfl]
    exact Steps.refl _
  · show QB Z h0 n0 _ T15.heap _
    rw [e15]
    exact ⟨b13, bc14, kc14, rfl, N15, K15, xE15, xF15, V_bc14_15⟩
set_option maxRecDepth 65536 in
set_option maxHeartbeats 40000000 in
theorem rmB3 (l : Launch) (Z : State) (a0 : Array Value) (hw : ∀ d ∈ tables_1, d.before a0 Z = true) (ws : List Jvm.Cond) (a1 : Addr) (p2 : Int32) (u : Addr) (k : ClassId) (vs : List Value) (nz : Int32) (ii : Int32) (wv : Int64) (mx : Int32) (q2 : Int32) (z2 : Int32) (ms : Int64) (h0 : Heap) (n0 : Nat) (Z0 : n0 ≤ h0.size) (E_a1 : Exa Z h0 a1 "com/example/deftab/deftab/reasoning/DependencySet") (F_words_a1 : Fld Z h0 a1 "com/example/deftab/deftab/reasoning/DependencySet" "words" "[J" (.ref u)) (V_u : Arv Z h0 u k .long nz vs (.long (0 : Int64))) (hii : (nz - (1 : Int32)) = ii) (in0 : ¬ ii < 0) (inz : ii < nz) (hv : vs.getD ii.toNatClampNeg (.long (0 : Int64)) = .long wv) (hmx : ((((ii * (64 : Int32)) + (64 : Int32)) - (1 : Int32)) - (Jvm.Free.JP.Long_numberOfLeadingZeros_J.val wv)) = mx) (E_u : Exa Z h0 u "[J") (hle : ¬ mx < p2) (hq2 : (p2 / (64 : Int32)) = q2) (hz2 : (q2 + (1 : Int32)) = z2) (hz3 : (z2 - (1 : Int32)) = q2) (z2n : ¬ z2 < 0) (z2p : (0 : Int32) < z2) (z2c : z2.toNatClampNeg ≤ 64) (q2n : ¬ q2 < 0) (q2z : q2 < z2) (q2c : q2.toNatClampNeg < 64) (hms : (((1 : Int64) <<< (p2 &&& 0x3f).toInt64) - (1 : Int64)) = ms) (hlt : z2 < nz) (hln : z2.toNatClampNeg ≤ nz.toNatClampNeg) (zero : ∀ i, i < z2.toNatClampNeg → vs.getD i (.long (0 : Int64)) = (.long (0 : Int64))) :
    MetFree l (⟨"com/example/deftab/deftab/reasoning/DependencySet", "below", "(I)Lcom/example/deftab/deftab/reasoning/DependencySet;"⟩ : MethodName) (head1 (Jvm.Cond.code (⟨"com/example/deftab/deftab/reasoning/DependencySet", "below", "(I)Lcom/example/deftab/deftab/reasoning/DependencySet;"⟩ : MethodName) prog_29_method_4_code 4 (some (.object "com/example/deftab/deftab/reasoning/DependencySet")) :: ws) ({ frames := 3, cells := 3, slots := 129, locals := 56 } : Room)) (fun a U => a = #[(.ref a1), (.int p2)] ∧ Z.Warmed39 U.vm ∧ U.heap = h0) (fun _ _ _ _ _ => True) (fun _ U o U' => ∃ v L, o = .returned v ∧ QB Z h0 n0 v U'.heap L ∧ FrameEnd U o U' L ({ frames := 3, cells := 3, slots := 129, locals := 56 } : Room).cells ({ frames := 3, cells := 3, slots := 129, locals := 56 } : Room).slots) := by
  refine MetFree.of_bodySF (plainFor_of_name pn_7) hisR ?_
  intro p e s m args below meth c s₁ Bd hml0 hP hK
  obtain ⟨rfl, hZ, hh⟩ := hP
  have hx := Bd.exec
  have hby := Bd.bytes
  have hml : c.maxLocals = 4 := hml0
  have hown : s.vm.findClass "com/example/deftab/deftab/reasoning/DependencySet" = some m.cls := findClass_of_methodNamed Bd.named
  have hnm := (name_of_methodNamed Bd.named Bd.method).1
  have X0 : Stand p l e ({ frames := 3, cells := 3, slots := 129, locals := 56 } : Room) s m #[(.ref a1), (.int p2)] below meth c s₁ [] 0 0 := Stand.of_body Bd
  have e0 : s₁.heap = h0 := by rw [← hh, Bd.state]; rfl
  have N0 := Fr.nil n0
  have pre0 : ∀ t, Steps p.tables e below (s₁.setTop (mkF m 0 #[.val (.ref a1), .val (.int p2), .unset, .unset] [])) t → Steps p.tables e below (s₁.setTop (entryFrame m #[(.ref a1), (.int p2)] 4)) t := fun t k => castTop (ef_7 m a1 p2) k
  have K0 : Keep h0 h0 [] := Keep.refl _ _
  have hand : ((0 : Int64) &&& ms) = (0 : Int64) := Int64.zero_and
  obtain ⟨cq3, kq3, q3a, q3b, q3c⟩ := isOf hZ e0 E_a1
  obtain ⟨_, _, ⟨T3, L3, k3, n3⟩, -, X3, ⟨Lc3, hQ3, l3, y3, z3⟩, st3⟩ := X0.virtualBack hx (y := (⟨"com/example/deftab/deftab/reasoning/DependencySet", "max", "()I"⟩ : MethodName)) (z := (⟨"com/example/deftab/deftab/reasoning/DependencySet", "max", "()I"⟩ : MethodName)) hown (mvT hZ (hw _ (List.mem_of_getElem? (i := 35) rfl))) (mvT hZ (hw _ (List.mem_of_getElem? (i := 17) rfl))) (notFace_of_selects (args := #[]) (mvT hZ (hw _ (List.mem_of_getElem? (i := 19) rfl)))) (mvT hZ (hw _ (List.mem_of_getElem? (i := 19) rfl))) (mvT hZ (hw _ (List.mem_of_getElem? (i := 18) rfl))) (by decide) (backOf (W := 1) (rmM1 l Z a0 hw [] a1 u k vs nz ii wv mx h0 n0 Z0 (F_words_a1) (V_u) (hii) (in0) (inz) (hv) (hmx)) hZ (hw _ (List.mem_of_getElem? (i := 20) rfl)) (hw _ (List.mem_of_getElem? (i := 3) rfl)) (by decide) (by decide)) q3a q3c (g := (mkF m 2 #[.val (.ref a1), .val (.int p2), .unset, .unset] [(.ref a1), (.int p2)])) rfl (by rw [hml]; rfl) (Steps.refl _) (argsL := []) (rest := [(.int p2)]) (lenOf pd_3 rfl) rfl (by show 2 * 0 + _ ≤ _; exact Nat.le_of_eq rfl) (hb hby d7_2) (fun _ _ => ⟨rfl, e0, (by decide : 0 + 0 ≤ _), (by decide : 0 + 0 ≤ _)⟩)
  dsimp only [Pt.U, Pt.locs, Pt.cells, Pt.slots] at X3 l3 y3 z3 st3 hQ3
  subst l3 y3 z3
  obtain ⟨rfl, N3q, e3⟩ := hQ3
  have N3 := Fr.app N0 N3q
  obtain ⟨T4, X4, e4, st4⟩ := getF X3 hx hZ hown (host := "") (Or.inl (hw _ (List.mem_of_getElem? (i := 14) rfl))) Via.refl e3 F_words_a1 (g := (mkF m 11 #[.val (.ref a1), .val (.int p2), .unset, .unset] [(.ref a1)])) rfl rfl (hb hby d7_11)
  obtain ⟨_, _, ⟨T5, L5, k5, n5⟩, -, X5, ⟨Lc5, hQ5, l5, y5, z5⟩, st5⟩ := Jvm.LawKit.callS X4 hx (y := (⟨"java/util/Arrays", "copyOf", "([JI)[J"⟩ : MethodName)) hown (mvT hZ (hw _ (List.mem_of_getElem? (i := 36) rfl))) (mvT hZ (hw _ (List.mem_of_getElem? (i := 37) rfl))) (mvT hZ (hw _ (List.mem_of_getElem? (i := 38) rfl))) (mvT hZ (hw _ (List.mem_of_getElem? (i := 39) rfl))) (by decide) (backOf (W := 0) (rmZ l Z a0 hw [] u z2 k nz vs h0 n0 Z0 (V_u) (z2n) (z2c) (hlt) (hln) (zero)) hZ (hw _ (List.mem_of_getElem? (i := 39) rfl)) (hw _ (List.mem_of_getElem? (i := 38) rfl)) (by decide) (by decide)) (g := (mkF m 20 #[.val (.ref a1), .val (.int p2), .unset, .unset] [(.int z2), (.ref u)])) rfl (by rw [hml]; rfl) (argsL := [(.ref u), (.int z2)]) (rest := []) (lenOf pd_4 rfl) rfl (by show 2 * 0 + _ ≤ _; exact Nat.le_of_eq rfl) (hb hby d7_20) (fun _ _ => ⟨rfl, e4, (by decide : 0 + 1 ≤ _), (by decide : 0 + 64 ≤ _)⟩)
  dsimp only [Pt.U, Pt.locs, Pt.cells, Pt.slots] at X5 l5 y5 z5 st5 hQ5
  subst l5 y5 z5
  have e5 : T5.heap = T5.heap := rfl
  obtain ⟨bc5, kc5, rfl, N5q, KK5, g_bc5, s1_bc5, V_bc5, E_bc5⟩ := hQ5
  have N5 := Fr.app N3 N5q
  have ne_a1_bc5 : a1 ≠ bc5 := Nat.ne_of_lt (Nat.lt_of_lt_of_le E_a1.lt s1_bc5)
  have ne_u_bc5 : u ≠ bc5 := Nat.ne_of_lt (Nat.lt_of_lt_of_le V_u.lt s1_bc5)
  have s0_bc5 : h0.size ≤ bc5 := Nat.le_trans K0.1 s1_bc5
  have E_a1_5 := E_a1.keep KK5
  have F_words_a1_5 := F_words_a1.keep KK5 nin0
  have V_u_5 := V_u.keep KK5 nin0
  have E_u_5 := E_u.keep KK5
  have SZ5 : n0 ≤ T5.heap.size := Nat.le_trans Z0 KK5.1
  have K5 := Keep.trans K0 KK5 all0
  have V_bc5' : Arv Z T5.heap bc5 kc5 .long z2 (List.replicate 64 (.long (0 : Int64))) (.long (0 : Int64)) := V_bc5.pad (pad_rep [] (.long (0 : Int64)) 64)
  obtain ⟨clu6, Aru6, -, Su6, Mu6, -, -⟩ := id V_bc5'
  obtain ⟨clu7, Aru7, qu7, Su7, Mu7, Hu7, Gu7⟩ := id V_bc5'
  have hinu7 : ¬ (q2 < 0 ∨ clu7.slots.size ≤ (q2).toNatClampNeg) := inb_of Su7 ⟨q2n, q2z⟩
  have hatu7 : clu7.slots[(q2).toNatClampNeg]? = some (.long (0 : Int64)) := Hu7.at hinu7 (own_rep _ _)
  obtain ⟨clu8, Aru8, qu8, Su8, Mu8, Hu8, Gu8⟩ := id V_bc5'
  have hinu8 : ¬ (q2 < 0 ∨ clu8.slots.size ≤ (q2).toNatClampNeg) := inb_of Su8 ⟨q2n, q2z⟩
  obtain ⟨T9, h9, X9, e9, W9, st9⟩ := stJ X5 hx hZ e5 Aru8 (j := q2) hinu8 (g := (mkF m 37 #[.val (.ref a1), .val (.int p2), .val (.ref bc5), .unset] [(.long (0 : Int64)), (.int q2), (.ref bc5)])) rfl rfl (hb hby d7_37)
  have E_a1_9 := E_a1_5.wr W9
  have F_words_a1_9 := F_words_a1_5.other W9 (Or.inl ne_a1_bc5)
  have V_u_9 := V_u_5.other W9 ne_u_bc5
  have E_u_9 := E_u_5.wr W9
  have E_bc5_9 := E_bc5.wr W9
  have SZ9 : n0 ≤ h9.size := by rw [W9.size]; exact SZ5
  have K9 := K5.wr W9 (Or.inr s0_bc5)
  have N9 := Fr.snoc X9 N5 g_bc5
  have V_bc5_9 : Arv Z h9 bc5 kc5 .long z2 [] (.long (0 : Int64)) := (Arv.set Aru8 qu8 Su8 Mu8 Hu8 Gu8 rfl W9 q2.toNatClampNeg rfl (by rw [List.length_replicate]; exact q2c)).pad fun i => own_set1 q2c i
  obtain ⟨clu10, Aru10, -, Su10, Mu10, -, -⟩ := id V_bc5_9
  have pre_11 : ∀ t, Steps p.tables e below (T9.setTop (mkF m 41 #[.val (.ref a1), .val (.int p2), .val (.ref bc5), .val (.int z2)] [])) t → Steps p.tables e below (s₁.setTop (entryFrame m #[(.ref a1), (.int p2)] 4)) t := by
    intro t kt
    refine pre0 _ ?_
    show Steps p.tables e below (s₁.setTop (mkF m 0 #[.val (.ref a1), .val (.int p2), .unset, .unset] [])) _
    refine XS.iloadN X0.here hx rfl (hb hby d7_0) rfl ?_
    show Steps p.tables e below (s₁.setTop (mkF m 1 #[.val (.ref a1), .val (.int p2), .unset, .unset] [(.int p2)])) _
    refine XS.aloadN X0.here hx rfl (hb hby d7_1) rfl rfl ?_
    show Steps p.tables e below (s₁.setTop (mkF m 2 #[.val (.ref a1), .val (.int p2), .unset, .unset] [(.ref a1), (.int p2)])) _
    refine st3.trans ?_
    show Steps p.tables e below (T3.setTop (mkF m 5 #[.val (.ref a1), .val (.int p2), .unset, .unset] [(.int mx), (.int p2)])) _
    refine XS.icmpYes X3.here hx rfl (pc0 := 5) (pc' := 10) rfl (hb hby d7_5) rfl (flt (hle : ¬ (mx < p2))).2.2.2 (by decide) (by decide) ?_
    show Steps p.tables e below (T3.setTop (mkF m 10 #[.val (.ref a1), .val (.int p2), .unset, .unset] [])) _
    refine XS.aloadN X3.here hx rfl (hb hby d7_10) rfl rfl ?_
    show Steps p.tables e below (T3.setTop (mkF m 11 #[.val (.ref a1), .val (.int p2), .unset, .unset] [(.ref a1)])) _
    refine st4 _ ?_
    show Steps p.tables e below (T4.setTop (mkF m 14 #[.val (.ref a1), .val (.int p2), .unset, .unset] [(.ref u)])) _
    refine XS.iloadN X4.here hx rfl (hb hby d7_14) rfl ?_
    show Steps p.tables e below (T4.setTop (mkF m 15 #[.val (.ref a1), .val (.int p2), .unset, .unset] [(.int p2), (.ref u)])) _
    refine XS.bipush X4.here hx rfl (hb hby d7_15) ?_
    show Steps p.tables e below (T4.setTop (mkF m 17 #[.val (.ref a1), .val (.int p2), .unset, .unset] [(.int (64 : Int32)), (.int p2), (.ref u)])) _
    refine XS.idiv X4.here hx rfl (hb hby d7_17) rfl (by decide) ?_
    rw [hq2]
    show Steps p.tables e below (T4.setTop (mkF m 18 #[.val (.ref a1), .val (.int p2), .unset, .unset] [(.int q2), (.ref u)])) _
    refine XS.iconst X4.here hx rfl (hb hby d7_18) ?_
    show Steps p.tables e below (T4.setTop (mkF m 19 #[.val (.ref a1), .val (.int p2), .unset, .unset] [(.int (1 : Int32)), (.int q2), (.ref u)])) _
    refine XS.iadd X4.here hx rfl (hb hby d7_19) rfl ?_
    rw [hz2]
    show Steps p.tables e below (T4.setTop (mkF m 20 #[.val (.ref a1), .val (.int p2), .unset, .unset] [(.int z2), (.ref u)])) _
    refine st5 _ ?_
    show Steps p.tables e below (T5.setTop (mkF m 23 #[.val (.ref a1), .val (.int p2), .unset, .unset] [(.ref bc5)])) _
    refine XS.astoreN X5.here hx rfl (hb hby d7_23) rfl rfl (l' := #[.val (.ref a1), .val (.int p2), .val (.ref bc5), .unset]) rfl ?_
    show Steps p.tables e below (T5.setTop (mkF m 24 #[.val (.ref a1), .val (.int p2), .val (.ref bc5), .unset] [])) _
    refine XS.aloadN X5.here hx rfl (hb hby d7_24) rfl rfl ?_
    show Steps p.tables e below (T5.setTop (mkF m 25 #[.val (.ref a1), .val (.int p2), .val (.ref bc5), .unset] [(.ref bc5)])) _
    refine XS.aloadN X5.here hx rfl (hb hby d7_25) rfl rfl ?_
    show Steps p.tables e below (T5.setTop (mkF m 26 #[.val (.ref a1), .val (.int p2), .val (.ref bc5), .unset] [(.ref bc5), (.ref bc5)])) _
    refine X5.arraylength hx (by rw [e5]; exact Aru6.1) (State.isArrayOf_alike hZ.alike Aru6.2.1) (g := (mkF m 26 #[.val (.ref a1), .val (.int p2), .val (.ref bc5), .unset] [(.ref bc5), (.ref bc5)])) rfl rfl (hb hby d7_26) _ ?_
    rw [len_of Su6 Mu6]
    show Steps p.tables e below (T5.setTop (mkF m 27 #[.val (.ref a1), .val (.int p2), .val (.ref bc5), .unset] [(.int z2), (.ref bc5)])) _
    refine XS.iconst X5.here hx rfl (hb hby d7_27) ?_
    show Steps p.tables e below (T5.setTop (mkF m 28 #[.val (.ref a1), .val (.int p2), .val (.ref bc5), .unset] [(.int (1 : Int32)), (.int z2), (.ref bc5)])) _
    refine XS.isub X5.here hx rfl (hb hby d7_28) rfl ?_
    rw [hz3]
    show Steps p.tables e below (T5.setTop (mkF m 29 #[.val (.ref a1), .val (.int p2), .val (.ref bc5), .unset] [(.int q2), (.ref bc5)])) _
    jvm_step X5.here [X5.here.top, hx, (hb hby d7_29), Value.category]
    show Steps p.tables e below (T5.setTop (mkF m 30 #[.val (.ref a1), .val (.int p2), .val (.ref bc5), .unset] [(.int q2), (.ref bc5), (.int q2), (.ref bc5)])) _
    refine X5.laload hx (j := q2) (v := (.long (0 : Int64))) (by rw [e5]; exact Aru7.1) (State.isArrayOf_alike hZ.alike Aru7.2.1) Aru7.2.2 hinu7 hatu7 (g := (mkF m 30 #[.val (.ref a1), .val (.int p2), .val (.ref bc5), .unset] [(.int q2), (.ref bc5), (.int q2), (.ref bc5)])) rfl rfl (hb hby d7_30) _ ?_
    show Steps p.tables e below (T5.setTop (mkF m 31 #[.val (.ref a1), .val (.int p2), .val (.ref bc5), .unset] [(.long (0 : Int64)), (.int q2), (.ref bc5)])) _
    refine XS.lconst X5.here hx rfl (hb hby d7_31) ?_
    show Steps p.tables e below (T5.setTop (mkF m 32 #[.val (.ref a1), .val (.int p2), .val (.ref bc5), .unset] [(.long (1 : Int64)), (.long (0 : Int64)), (.int q2), (.ref bc5)])) _
    refine XS.iloadN X5.here hx rfl (hb hby d7_32) rfl ?_
    show Steps p.tables e below (T5.setTop (mkF m 33 #[.val (.ref a1), .val (.int p2), .val (.ref bc5), .unset] [(.int p2), (.long (1 : Int64)), (.long (0 : Int64)), (.int q2), (.ref bc5)])) _
    refine XS.lshl X5.here hx rfl (hb hby d7_33) rfl ?_
    show Steps p.tables e below (T5.setTop (mkF m 34 #[.val (.ref a1), .val (.int p2), .val (.ref bc5), .unset] [(.long ((1 : Int64) <<< (p2 &&& 0x3f).toInt64)), (.long (0 : Int64)), (.int q2), (.ref bc5)])) _
    refine XS.lconst X5.here hx rfl (hb hby d7_34) ?_
    show Steps p.tables e below (T5.setTop (mkF m 35 #[.val (.ref a1), .val (.int p2), .val (.ref bc5), .unset] [(.long (1 : Int64)), (.long ((1 : Int64) <<< (p2 &&& 0x3f).toInt64)), (.long (0 : Int64)), (.int q2), (.ref bc5)])) _
    refine XS.lsub X5.here hx rfl (hb hby d7_35) rfl ?_
    rw [hms]
    show Steps p.tables e below (T5.setTop (mkF m 36 #[.val (.ref a1), .val (.int p2), .val (.ref bc5), .unset] [(.long ms), (.long (0 : Int64)), (.int q2), (.ref bc5)])) _
    refine XS.land X5.here hx rfl (hb hby d7_36) rfl ?_
    rw [hand]
    show Steps p.tables e below (T5.setTop (mkF m 37 #[.val (.ref a1), .val (.int p2), .val (.ref bc5), .unset] [(.long (0 : Int64)), (.int q2), (.ref bc5)])) _
    refine st9 _ ?_
    show Steps p.tables e below (T9.setTop (mkF m 38 #[.val (.ref a1), .val (.int p2), .val (.ref bc5), .unset] [])) _
    refine XS.aloadN X9.here hx rfl (hb hby d7_38) rfl rfl ?_
    show Steps p.tables e below (T9.setTop (mkF m 39 #[.val (.ref a1), .val (.int p2), .val (.ref bc5), .unset] [(.ref bc5)])) _
    refine X9.arraylength hx (by rw [e9]; exact Aru10.1) (State.isArrayOf_alike hZ.alike Aru10.2.1) (g := (mkF m 39 #[.val (.ref a1), .val (.int p2), .val (.ref bc5), .unset] [(.ref bc5)])) rfl rfl (hb hby d7_39) _ ?_
    rw [len_of Su10 Mu10]
    show Steps p.tables e below (T9.setTop (mkF m 40 #[.val (.ref a1), .val (.int p2), .val (.ref bc5), .unset] [(.int z2)])) _
    refine XS.istoreN X9.here hx rfl (hb hby d7_40) rfl (l' := #[.val (.ref a1), .val (.int p2), .val (.ref bc5), .val (.int z2)]) rfl ?_
    exact kt
  have pre_12 : ∀ t, Steps p.tables e below (T9.setTop (mkF m 61 #[.val (.ref a1), .val (.int p2), .val (.ref bc5), .val (.int (0 : Int32))] [])) t → Steps p.tables e below (s₁.setTop (entryFrame m #[(.ref a1), (.int p2)] 4)) t := by
    intro t kt
    refine pre_11 _ ?_
    have q := loopB X9 hx hZ hby e9 V_bc5_9 t kt z2.toNatClampNeg (Nat.le_refl _) (by omega)
    have q1 : Int32.ofNat z2.toNatClampNeg = z2 := (own_ofNat (nat_of z2n)).symm
    rw [q1] at q
    exact q
  obtain ⟨T13, h13, X13, e13, E13, A13, D13, -, st13⟩ := newO X9 hx hZ hown (hw _ (List.mem_of_getElem? (i := 6) rfl)) (hw _ (List.mem_of_getElem? (i := 7) rfl)) (hw _ (List.mem_of_getElem? (i := 3) rfl)) e9 (g := (mkF m 61 #[.val (.ref a1), .val (.int p2), .val (.ref bc5), .val (.int (0 : Int32))] [])) rfl (hb hby d7_61) (by decide) (by decide)
  obtain ⟨b13, g13⟩ : ∃ z, z = h9.size := ⟨_, rfl⟩
  rw [← g13] at A13 D13 st13
  have ne_a1_b13 : a1 ≠ b13 := Nat.ne_of_lt (Nat.lt_of_lt_of_le E_a1_9.lt (Nat.le_of_eq g13.symm))
  have ne_u_b13 : u ≠ b13 := Nat.ne_of_lt (Nat.lt_of_lt_of_le V_u_9.lt (Nat.le_of_eq g13.symm))
  have ne_bc5_b13 : bc5 ≠ b13 := Nat.ne_of_lt (Nat.lt_of_lt_of_le V_bc5_9.lt (Nat.le_of_eq g13.symm))
  have g_b13 : n0 ≤ b13 := Nat.le_trans SZ9 (Nat.le_of_eq g13.symm)
  have sz_b13 : h9.size ≤ b13 := Nat.le_of_eq g13.symm
  have s0_b13 : h0.size ≤ b13 := Nat.le_trans K9.1 (Nat.le_of_eq g13.symm)
  have E_a1_13 := E_a1_9.ext E13
  have F_words_a1_13 := F_words_a1_9.ext E13
  have V_u_13 := V_u_9.ext E13
  have E_u_13 := E_u_9.ext E13
  have V_bc5_13 := V_bc5_9.ext E13
  have E_bc5_13 := E_bc5_9.ext E13
  have SZ13 : n0 ≤ h13.size := Nat.le_trans SZ9 E13.1
  have K13 := K9.ext E13
  have E_b13 := A13
  have F_words_b13 : Fld Z h13 b13 "com/example/deftab/deftab/reasoning/DependencySet" "words" "[J" .null := D13 (Or.inr (hw _ (List.mem_of_getElem? (i := 15) rfl))) (ty := (.array .long)) (by decide)
  obtain ⟨_, _, ⟨T14, L14, k14, n14⟩, -, X14, ⟨Lc14, hQ14, l14, y14, z14⟩, st14⟩ := Jvm.LawKit.callS X13 hx (y := (⟨"java/util/Arrays", "copyOf", "([JI)[J"⟩ : MethodName)) hown (mvT hZ (hw _ (List.mem_of_getElem? (i := 36) rfl))) (mvT hZ (hw _ (List.mem_of_getElem? (i := 37) rfl))) (mvT hZ (hw _ (List.mem_of_getElem? (i := 38) rfl))) (mvT hZ (hw _ (List.mem_of_getElem? (i := 39) rfl))) (by decide) (backOf (W := 2) (rmZ l Z a0 hw [] bc5 (0 : Int32) kc5 z2 [] h13 n0 SZ13 (V_bc5_13) (by decide) (by decide) (z2p) (Nat.zero_le _) (fun i hi => absurd hi (Nat.not_lt_zero i))) hZ (hw _ (List.mem_of_getElem? (i := 39) rfl)) (hw _ (List.mem_of_getElem? (i := 38) rfl)) (by decide) (by decide)) (g := (mkF m 67 #[.val (.ref a1), .val (.int p2), .val (.ref bc5), .val (.int (0 : Int32))] [(.int (0 : Int32)), (.ref bc5), (.ref b13), (.ref b13)])) rfl (by rw [hml]; rfl) (argsL := [(.ref bc5), (.int (0 : Int32))]) (rest := [(.ref b13), (.ref b13)]) (lenOf pd_4 rfl) rfl (by show 2 * 0 + _ ≤ _; exact Nat.le_of_eq rfl) (hb hby d7_67) (fun _ _ => ⟨rfl, e13, (by decide : 2 + 1 ≤ _), (by decide : 65 + 64 ≤ _)⟩)
  dsimp only [Pt.U, Pt.locs, Pt.cells, Pt.slots] at X14 l14 y14 z14 st14 hQ14
  subst l14 y14 z14
  have e14 : T14.heap = T14.heap := rfl
  obtain ⟨bc14, kc14, rfl, N14q, KK14, g_bc14, s1_bc14, V_bc14, E_bc14⟩ := hQ14
  have N14 := Fr.app N9 N14q
  have ne_a1_bc14 : a1 ≠ bc14 := Nat.ne_of_lt (Nat.lt_of_lt_of_le E_a1_13.lt s1_bc14)
  have ne_u_bc14 : u ≠ bc14 := Nat.ne_of_lt (Nat.lt_of_lt_of_le V_u_13.lt s1_bc14)
  have ne_bc5_bc14 : bc5 ≠ bc14 := Nat.ne_of_lt (Nat.lt_of_lt_of_le V_bc5_13.lt s1_bc14)
  have ne_b13_bc14 : b13 ≠ bc14 := Nat.ne_of_lt (Nat.lt_of_lt_of_le E_b13.lt s1_bc14)
  have s0_bc14 : h0.size ≤ bc14 := Nat.le_trans K13.1 s1_bc14
  have E_a1_14 := E_a1_13.keep KK14
  have F_words_a1_14 := F_words_a1_13.keep KK14 nin0
  have V_u_14 := V_u_13.keep KK14 nin0
  have E_u_14 := E_u_13.keep KK14
  have V_bc5_14 := V_bc5_13.keep KK14 nin0
  have E_bc5_14 := E_bc5_13.keep KK14
  have E_b13_14 := E_b13.keep KK14
  have F_words_b13_14 := F_words_b13.keep KK14 nin0
  have SZ14 : n0 ≤ T14.heap.size := Nat.le_trans SZ13 KK14.1
  have K14 := Keep.trans K13 KK14 all0
  obtain ⟨_, _, ⟨T15, L15, k15, n15⟩, -, X15, ⟨Lc15, hQ15, l15, y15, z15⟩, st15⟩ := X14.specialBack hx (y := (⟨"com/example/deftab/deftab/reasoning/DependencySet", "<init>", "([J)V"⟩ : MethodName)) rfl hown (mvT hZ (hw _ (List.mem_of_getElem? (i := 8) rfl))) (mvT hZ (hw _ (List.mem_of_getElem? (i := 9) rfl))) (mvT hZ (hw _ (List.mem_of_getElem? (i := 10) rfl))) (by decide) (backOf (W := 1) (rmC l Z a0 hw [] b13 bc14 T14.heap n0 SZ14 (E_b13_14) (F_words_b13_14) (g_b13)) hZ (hw _ (List.mem_of_getElem? (i := 10) rfl)) (hw _ (List.mem_of_getElem? (i := 3) rfl)) (by decide) (by decide)) (g := (mkF m 70 #[.val (.ref a1), .val (.int p2), .val (.ref bc5), .val (.int (0 : Int32))] [(.ref bc14), (.ref b13), (.ref b13)])) rfl (by rw [hml]; rfl) (Steps.refl _) (a := b13) (argsL := [(.ref bc14)]) (rest := [(.ref b13)]) (lenOf pd_0 rfl) rfl (by show 2 * 0 + _ ≤ _; exact Nat.le_of_eq rfl) (hb hby d7_70) (fun _ _ => ⟨rfl, e14, (by decide : 3 + 0 ≤ _), (by decide : 129 + 0 ≤ _)⟩)
  dsimp only [Pt.U, Pt.locs, Pt.cells, Pt.slots] at X15 l15 y15 z15 st15 hQ15
  subst l15 y15 z15
  have e15 : T15.heap = T15.heap := rfl
  obtain ⟨rfl, N15q, KK15, xE15, xF15⟩ := hQ15
  have N15 := Fr.app N14 N15q
  have E_a1_15 := E_a1_14.keep KK15
  have F_words_a1_15 := F_words_a1_14.keep KK15 (ninS ne_a1_b13 nin0)
  have V_u_15 := V_u_14.keep KK15 (ninS ne_u_b13 nin0)
  have E_u_15 := E_u_14.keep KK15
  have V_bc5_15 := V_bc5_14.keep KK15 (ninS ne_bc5_b13 nin0)
  have E_bc5_15 := E_bc5_14.keep KK15
  have E_b13_15 := E_b13_14.keep KK15
  have V_bc14_15 := V_bc14.keep KK15 (ninS (Ne.symm ne_b13_bc14) nin0)
  have E_bc14_15 := E_bc14.keep KK15
  have SZ15 : n0 ≤ T15.heap.size := Nat.le_trans SZ14 KK15.1
  have K15 := Keep.trans K14 KK15 (allS (Or.inr s0_b13) all0)
  obtain ⟨fs, hr, hrun, hended, hW, hsame⟩ := X15.leave (v := some (.ref b13)) (fun h => by rw [Bd.returns] at h; cases h)
  refine ⟨_, _, pre_12 _ ?_, hrun, hended, _, _, rfl, ?_, ⟨_, rfl⟩, hW, hsame.mono (by decide) (by decide)⟩
  · show Steps p.tables e below (T9.setTop (mkF m 61 #[.val (.ref a1), .val (.int p2), .val (.ref bc5), .val (.int (0 : Int32))] [])) _
    refine st13 _ ?_
    show Steps p.tables e below (T13.setTop (mkF m 64 #[.val (.ref a1), .val (.int p2), .val (.ref bc5), .val (.int (0 : Int32))] [(.ref b13)])) _
    refine XS.dup X13.here hx rfl (hb hby d7_64) rfl rfl ?_
    show Steps p.tables e below (T13.setTop (mkF m 65 #[.val (.ref a1), .val (.int p2), .val (.ref bc5), .val (.int (0 : Int32))] [(.ref b13), (.ref b13)])) _
    refine XS.aloadN X13.here hx rfl (hb hby d7_65) rfl rfl ?_
    show Steps p.tables e below (T13.setTop (mkF m 66 #[.val (.ref a1), .val (.int p2), .val (.ref bc5), .val (.int (0 : Int32))] [(.ref bc5), (.ref b13), (.ref b13)])) _
    refine XS.iloadN X13.here hx rfl (hb hby d7_66) rfl ?_
    show Steps p.tables e below (T13.setTop (mkF m 67 #[.val (.ref a1), .val (.int p2), .val (.ref bc5), .val (.int (0 : Int32))] [(.int (0 : Int32)), (.ref bc5), (.ref b13), (.ref b13)])) _
    refine st14 _ ?_
    show Steps p.tables e below (T14.setTop (mkF m 70 #[.val (.ref a1), .val (.int p2), .val (.ref bc5), .val (.int (0 : Int32))] [(.ref bc14), (.ref b13), (.ref b13)])) _
    refine st15.trans ?_
    show Steps p.tables e below (T15.setTop (mkF m 73 #[.val (.ref a1), .val (.int p2), .val (.ref bc5), .val (.int (0 : Int32))] [(.ref b13)])) _
    jvm_step X15.here [X15.here.top, hx, (hb hby d7_73), X15.method', Bd.returns, Value.isRef, FieldType.isReference]
    first | (intro acts; rw [hr _ acts rfl rfl rfl]) | rw [hr _ _ rfl rfl rfl]
    exact Steps.refl _
  · show QB Z h0 n0 _ T15.heap _
    rw [e15]
    exact ⟨b13, bc14, kc14, rfl, N15, K15, xE15, xF15, V_bc14_15⟩
theorem own_div {a qq : Int32} (h0 : 0 ≤ a.toInt) (hq : (a / (64 : Int32)) = qq) : qq.toInt = a.toInt / 64 := by
  rw [← hq]; exact (c_idiv a 64 64 rfl (by decide)).1 h0
theorem own_inc {qq zz : Int32} (h0 : 0 ≤ qq.toInt) (h1 : qq.toInt < 100000) (hz : (qq + (1 : Int32)) = zz) : zz.toInt = qq.toInt + 1 := by
  have q := c_iadd qq 1
  have q1 := rng32 zz
  rw [hz, show (1 : Int32).toInt = 1 from rfl] at q
  omega
theorem own_dec {qq zz : Int32} (h0 : 0 ≤ qq.toInt) (h : zz.toInt = qq.toInt + 1) : (zz - (1 : Int32)) = qq := by
  have q := c_isub zz 1
  have q1 := rng32 (zz - 1)
  have q2 := rng32 zz
  rw [show (1 : Int32).toInt = 1 from rfl] at q
  exact Int32.toInt_inj.mp (by omega)
theorem own_nn {x : Int32} (h : 0 ≤ x.toInt) : ¬ x < 0 := own_geI (by rw [show (0 : Int32).toInt = 0 from rfl]; exact h)
theorem own_ww {a : Int32} (h : 0 ≤ a.toInt) : ((1 : Int64) <<< (a &&& 0x3f).toInt64) = (1 : Int64) <<< (Int32.ofNat (a.toInt.toNat % 64)).toInt64 := by rw [own_m63 h]
theorem own_mx {a qq : Int32} {ww : Int64} (h0 : 0 ≤ a.toInt) (h1 : a.toInt < 4096) (hq : qq.toInt = a.toInt / 64) (hww : ((1 : Int64) <<< (a &&& 0x3f).toInt64) = ww) : ((((qq * (64 : Int32)) + (64 : Int32)) - (1 : Int32)) - (Jvm.Free.JP.Long_numberOfLeadingZeros_J.val ww)) = a := by
  rw [own_ww h0] at hww
  have hk : a.toInt.toNat % 64 < 64 := Nat.mod_lt _ (by decide)
  have hn : Jvm.Free.JP.Long_numberOfLeadingZeros_J.val ((1 : Int64) <<< (Int32.ofNat (a.toInt.toNat % 64)).toInt64) = Int32.ofNat (63 - a.toInt.toNat % 64) := own_nlz ⟨_, hk⟩
  rw [← hww, hn]
  have e1 := own_i (n := 63 - a.toInt.toNat % 64) (by omega)
  have m1 := c_imul qq 64
  rw [show (64 : Int32).toInt = 64 from rfl] at m1
  have r1 := rng32 (qq * 64)
  have m2 := c_iadd (qq * 64) 64
  rw [show (64 : Int32).toInt = 64 from rfl] at m2
  have r2 := rng32 (qq * 64 + 64)
  have m3 := c_isub (qq * 64 + 64) 1
  rw [show (1 : Int32).toInt = 1 from rfl] at m3
  have r3 := rng32 (qq * 64 + 64 - 1)
  have m4 := c_isub (qq * 64 + 64 - 1) (Int32.ofNat (63 - a.toInt.toNat % 64))
  have r4 := rng32 (qq * 64 + 64 - 1 - Int32.ofNat (63 - a.toInt.toNat % 64))
  rw [e1] at m4
  exact Int32.toInt_inj.mp (by omega)
theorem own_and {a b : Int32} {ww ms : Int64} (h0 : 0 ≤ a.toInt) (h1 : 0 ≤ b.toInt) (hk : b.toInt.toNat % 64 ≤ a.toInt.toNat % 64) (hww : ((1 : Int64) <<< (a &&& 0x3f).toInt64) = ww) (hms : (((1 : Int64) <<< (b &&& 0x3f).toInt64) - (1 : Int64)) = ms) : (ww &&& ms) = (0 : Int64) := by
  rw [← hww, ← hms, own_ww h0, own_ww h1]
  exact own_mask ⟨_, Nat.mod_lt _ (by decide)⟩ ⟨_, Nat.mod_lt _ (by decide)⟩ hk
theorem own_vsl {i q : Nat} {w : Int64} (h : i < 64) : i < (own_vs q w).length := by rw [own_vs, List.length_set, List.length_replicate]; exact h
def QF (n0 : Nat) (v : Option Value) (h : Heap) (L : List Loc) : Prop := v = some (.int 1) ∧ Fr n0 L
theorem pn_0 : plainName "com/example/deftab/deftab/reasoning/DependencySetOfPinLaw" = true := by first | (simp [plainName, overriddenIn]; done) | decide +kernel
theorem ef_0 (m : MethodId) (x0 : Int32) (x1 : Int32) : entryFrame m #[(.int x0), (.int x1)] maxLocals = mkF m 0 #[.val (.int x0), .val (.int x1), .unset, .unset, .unset, .unset, .unset] [] := by first | (simp [entryFrame, mkF, argsToLocals, Value.category, maxLocals]; done) | rfl
theorem pd_5 : parseMethodDescriptor "(I)Lcom/example/deftab/deftab/reasoning/DependencySet;" = some ⟨[.int], some (.object "com/example/deftab/deftab/reasoning/DependencySet")⟩ := by decide +kernel
set_option maxRecDepth 65536 in
set_option maxHeartbeats 40000000 in
theorem rm0 (l : Launch) (Z : State) (a0 : Array Value) (hw : ∀ d ∈ tables_1, d.before a0 Z = true) (ws : List Jvm.Cond) (p1 : Int32) (p2 : Int32) (h0 : Heap) (n0 : Nat) (Z0 : n0 ≤ h0.size) :
    MetFree l x (head1 (Jvm.Cond.code x code maxLocals ret :: ws) room_1) (fun a U => a = #[(.int p1), (.int p2)] ∧ Z.Warmed39 U.vm ∧ U.heap = h0) (fun _ _ _ _ _ => True) (fun _ U o U' => ∃ v L, o = .returned v ∧ QF n0 v U'.heap L ∧ FrameEnd U o U' L room_1.cells room_1.slots) := by
  refine MetFree.of_bodySF (plainFor_of_name pn_0) hisR ?_
  intro p e s m args below meth c s₁ Bd hml0 hP hK
  obtain ⟨rfl, hZ, hh⟩ := hP
  have hx := Bd.exec
  have hby := Bd.bytes
  have hml : c.maxLocals = 7 := hml0
  have hown : s.vm.findClass "com/example/deftab/deftab/reasoning/DependencySetOfPinLaw" = some m.cls := findClass_of_methodNamed Bd.named
  have hnm := (name_of_methodNamed Bd.named Bd.method).1
  have X0 : Stand p l e room_1 s m #[(.int p1), (.int p2)] below meth c s₁ [] 0 0 := Stand.of_body Bd
  have e0 : s₁.heap = h0 := by rw [← hh, Bd.state]; rfl
  have N0 := Fr.nil n0
  have pre0 : ∀ t, Steps p.tables e below (s₁.setTop (mkF m 0 #[.val (.int p1), .val (.int p2), .unset, .unset, .unset, .unset, .unset] [])) t → Steps p.tables e below (s₁.setTop (entryFrame m #[(.int p1), (.int p2)] maxLocals)) t := fun t k => castTop (ef_0 m p1 p2) k
  obtain ⟨a, hxa⟩ : ∃ z, ((p1 &&& (2147483647 : Int32)) % (4096 : Int32)) = z := ⟨_, rfl⟩
  have ma := c_mask p1 2147483647 31 (by decide) (by decide)
  rw [show ((2 ^ 31 : Nat) : Int) = 2147483648 from rfl] at ma
  have ra := (c_irem (p1 &&& 2147483647) 4096 4096 rfl).1 (by omega)
  rw [hxa] at ra
  have pa : 0 ≤ a.toInt := by omega
  have ua : a.toInt < 4096 := by omega
  obtain ⟨b, hxb⟩ : ∃ z, ((p2 &&& (2147483647 : Int32)) % (4096 : Int32)) = z := ⟨_, rfl⟩
  have mb := c_mask p2 2147483647 31 (by decide) (by decide)
  rw [show ((2 ^ 31 : Nat) : Int) = 2147483648 from rfl] at mb
  have rb := (c_irem (p2 &&& 2147483647) 4096 4096 rfl).1 (by omega)
  rw [hxb] at rb
  have pb : 0 ≤ b.toInt := by omega
  have ub : b.toInt < 4096 := by omega
  obtain ⟨qq, hqq⟩ : ∃ t, (a / (64 : Int32)) = t := ⟨_, rfl⟩
  obtain ⟨zz, hzz⟩ : ∃ t, (qq + (1 : Int32)) = t := ⟨_, rfl⟩
  have qq1 := own_div pa hqq
  have zz1 := own_inc (by omega) (by omega) hzz
  have zzd := own_dec (by omega) zz1
  have qqn : ¬ qq < 0 := own_nn (by omega)
  have zzn : ¬ zz < 0 := own_nn (by omega)
  have qqc := nat_of qqn
  have zzc := nat_of zzn
  have qq64 : qq.toNatClampNeg < 64 := by omega
  have zz64 : zz.toNatClampNeg ≤ 64 := by omega
  have qqzz : qq < zz := own_ltI (by omega)
  have zzp : (0 : Int32) < zz := own_ltI (by rw [show (0 : Int32).toInt = 0 from rfl]; omega)
  obtain ⟨am, ham⟩ : ∃ t, (((1 : Int64) <<< (a &&& 0x3f).toInt64) - (1 : Int64)) = t := ⟨_, rfl⟩
  obtain ⟨qb, hqb⟩ : ∃ t, (b / (64 : Int32)) = t := ⟨_, rfl⟩
  obtain ⟨zb, hzb⟩ : ∃ t, (qb + (1 : Int32)) = t := ⟨_, rfl⟩
  have qb1 := own_div pb hqb
  have zb1 := own_inc (by omega) (by omega) hzb
  have zbd := own_dec (by omega) zb1
  have qbn : ¬ qb < 0 := own_nn (by omega)
  have zbn : ¬ zb < 0 := own_nn (by omega)
  have qbc := nat_of qbn
  have zbc := nat_of zbn
  have qb64 : qb.toNatClampNeg < 64 := by omega
  have zb64 : zb.toNatClampNeg ≤ 64 := by omega
  have qbzb : qb < zb := own_ltI (by omega)
  have zbp : (0 : Int32) < zb := own_ltI (by rw [show (0 : Int32).toInt = 0 from rfl]; omega)
  obtain ⟨bm, hbm⟩ : ∃ t, (((1 : Int64) <<< (b &&& 0x3f).toInt64) - (1 : Int64)) = t := ⟨_, rfl⟩
  obtain ⟨ww, hww⟩ : ∃ t, ((1 : Int64) <<< (a &&& 0x3f).toInt64) = t := ⟨_, rfl⟩
  have hv := own_vs_at ww qq64
  have hmx := own_mx pa ua qq1 hww
  obtain ⟨_, _, ⟨T3, L3, k3, n3⟩, -, X3, ⟨Lc3, hQ3, l3, y3, z3⟩, st3⟩ := Jvm.LawKit.callS X0 hx (y := (⟨"com/example/deftab/deftab/reasoning/DependencySet", "of", "(I)Lcom/example/deftab/deftab/reasoning/DependencySet;"⟩ : MethodName)) hown (mvT hZ (hw _ (List.mem_of_getElem? (i := 1) rfl))) (mvT hZ (hw _ (List.mem_of_getElem? (i := 2) rfl))) (mvT hZ (hw _ (List.mem_of_getElem? (i := 3) rfl))) (mvT hZ (hw _ (List.mem_of_getElem? (i := 4) rfl))) (by decide) (backOf (W := 0) (rmO l Z a0 hw [] a qq zz ww h0 n0 Z0 (hqq) (hzz) (hww) (zzn) (zz64) (qqn) (qqzz) (qq64)) hZ (hw _ (List.mem_of_getElem? (i := 4) rfl)) (hw _ (List.mem_of_getElem? (i := 3) rfl)) (by decide) (by decide)) (g := (mkF m 19 #[.val (.int p1), .val (.int p2), .val (.int a), .val (.int b), .unset, .unset, .unset] [(.int a)])) rfl (by rw [hml]; rfl) (argsL := [(.int a)]) (rest := []) (lenOf pd_5 rfl) rfl (by show 2 * 0 + _ ≤ _; exact Nat.le_of_eq rfl) (hb hby at_19) (fun _ _ => ⟨rfl, e0, (by decide : 0 + 2 ≤ _), (by decide : 0 + 65 ≤ _)⟩)
  dsimp only [Pt.U, Pt.locs, Pt.cells, Pt.slots] at X3 l3 y3 z3 st3 hQ3
  subst l3 y3 z3
  have e3 : T3.heap = T3.heap := rfl
  obtain ⟨ob3, ou3, ok3, rfl, N3q, KK3, -, -, -, xE3, xF3, xV3, xU3⟩ := hQ3
  have N3 := Fr.app N0 N3q
  have SZ3 : n0 ≤ T3.heap.size := Nat.le_trans Z0 KK3.1
  obtain ⟨cq4, kq4, q4a, q4b, q4c⟩ := isOf hZ e3 xE3
  obtain ⟨_, _, ⟨T4, L4, k4, n4⟩, -, X4, ⟨Lc4, hQ4, l4, y4, z4⟩, st4⟩ := X3.virtualBack hx (y := (⟨"com/example/deftab/deftab/reasoning/DependencySet", "max", "()I"⟩ : MethodName)) (z := (⟨"com/example/deftab/deftab/reasoning/DependencySet", "max", "()I"⟩ : MethodName)) hown (mvT hZ (hw _ (List.mem_of_getElem? (i := 16) rfl))) (mvT hZ (hw _ (List.mem_of_getElem? (i := 17) rfl))) (notFace_of_selects (args := #[]) (mvT hZ (hw _ (List.mem_of_getElem? (i := 19) rfl)))) (mvT hZ (hw _ (List.mem_of_getElem? (i := 19) rfl))) (mvT hZ (hw _ (List.mem_of_getElem? (i := 18) rfl))) (by decide) (backOf (W := 0) (rmM1 l Z a0 hw [] ob3 ou3 ok3 (own_vs qq.toNatClampNeg ww) zz qq ww a T3.heap n0 SZ3 (xF3) (xV3) (zzd) (qqn) (qqzz) (hv) (hmx)) hZ (hw _ (List.mem_of_getElem? (i := 20) rfl)) (hw _ (List.mem_of_getElem? (i := 3) rfl)) (by decide) (by decide)) q4a q4c (g := (mkF m 26 #[.val (.int p1), .val (.int p2), .val (.int a), .val (.int b), .val (.ref ob3), .unset, .unset] [(.ref ob3)])) rfl (by rw [hml]; rfl) (Steps.refl _) (argsL := []) (rest := []) (lenOf pd_3 rfl) rfl (by show 2 * 0 + _ ≤ _; exact Nat.le_of_eq rfl) (hb hby at_26) (fun _ _ => ⟨rfl, e3, (by decide : 2 + 0 ≤ _), (by decide : 65 + 0 ≤ _)⟩)
  dsimp only [Pt.U, Pt.locs, Pt.cells, Pt.slots] at X4 l4 y4 z4 st4 hQ4
  subst l4 y4 z4
  obtain ⟨rfl, N4q, e4⟩ := hQ4
  have N4 := Fr.app N3 N4q
  obtain ⟨cq5, kq5, q5a, q5b, q5c⟩ := isOf hZ e4 xE3
  obtain ⟨_, _, ⟨T5, L5, k5, n5⟩, -, X5, ⟨Lc5, hQ5, l5, y5, z5⟩, st5⟩ := X4.virtualBack hx (y := (⟨"com/example/deftab/deftab/reasoning/DependencySet", "below", "(I)Lcom/example/deftab/deftab/reasoning/DependencySet;"⟩ : MethodName)) (z := (⟨"com/example/deftab/deftab/reasoning/DependencySet", "below", "(I)Lcom/example/deftab/deftab/reasoning/DependencySet;"⟩ : MethodName)) hown (mvT hZ (hw _ (List.mem_of_getElem? (i := 30) rfl))) (mvT hZ (hw _ (List.mem_of_getElem? (i := 31) rfl))) (notFace_of_selects (args := #[]) (mvT hZ (hw _ (List.mem_of_getElem? (i := 33) rfl)))) (mvT hZ (hw _ (List.mem_of_getElem? (i := 33) rfl))) (mvT hZ (hw _ (List.mem_of_getElem? (i := 32) rfl))) (by decide) (backOf (W := 0) (rmB2 l Z a0 hw [] ob3 a ou3 ok3 (own_vs qq.toNatClampNeg ww) zz qq ww a qq zz am T3.heap n0 SZ3 (xE3) (xF3) (xV3) (zzd) (qqn) (qqzz) (hv) (hmx) (xU3) (own_irrI _) (hqq) (hzz) (zzd) (zzn) (zzp) (zz64) (qqn) (qqzz) (qq64) (ham) (rfl) (hv) (own_and pa pa (Nat.le_refl _) hww ham) (own_vsl qq64) (fun i hi => own_vs_ne ww hi)) hZ (hw _ (List.mem_of_getElem? (i := 34) rfl)) (hw _ (List.mem_of_getElem? (i := 3) rfl)) (by decide) (by decide)) q5a q5c (g := (mkF m 48 #[.val (.int p1), .val (.int p2), .val (.int a), .val (.int b), .val (.ref ob3), .val (.int (1 : Int32)), .unset] [(.int a), (.ref ob3)])) rfl (by rw [hml]; rfl) (Steps.refl _) (argsL := [(.int a)]) (rest := []) (lenOf pd_5 rfl) rfl (by show 2 * 0 + _ ≤ _; exact Nat.le_of_eq rfl) (hb hby at_48) (fun _ _ => ⟨rfl, e4, (by decide : 2 + 3 ≤ _), (by decide : 65 + 129 ≤ _)⟩)
  dsimp only [Pt.U, Pt.locs, Pt.cells, Pt.slots] at X5 l5 y5 z5 st5 hQ5
  subst l5 y5 z5
  have e5 : T5.heap = T5.heap := rfl
  obtain ⟨pb5, pr5, pk5, rfl, N5q, KK5, xE5, xF5, xV5⟩ := hQ5
  have N5 := Fr.app N4 N5q
  have E_ob3_5 := xE3.keep KK5
  have F_words_ob3_5 := xF3.keep KK5 nin0
  have V_ou3_5 := xV3.keep KK5 nin0
  have E_ou3_5 := xU3.keep KK5
  have SZ5 : n0 ≤ T5.heap.size := Nat.le_trans SZ3 KK5.1
  obtain ⟨cq6, kq6, q6a, q6b, q6c⟩ := isOf hZ e5 xE5
  obtain ⟨_, _, ⟨T6, L6, k6, n6⟩, -, X6, ⟨Lc6, hQ6, l6, y6, z6⟩, st6⟩ := X5.virtualBack hx (y := (⟨"com/example/deftab/deftab/reasoning/DependencySet", "max", "()I"⟩ : MethodName)) (z := (⟨"com/example/deftab/deftab/reasoning/DependencySet", "max", "()I"⟩ : MethodName)) hown (mvT hZ (hw _ (List.mem_of_getElem? (i := 16) rfl))) (mvT hZ (hw _ (List.mem_of_getElem? (i := 17) rfl))) (notFace_of_selects (args := #[]) (mvT hZ (hw _ (List.mem_of_getElem? (i := 19) rfl)))) (mvT hZ (hw _ (List.mem_of_getElem? (i := 19) rfl))) (mvT hZ (hw _ (List.mem_of_getElem? (i := 18) rfl))) (by decide) (backOf (W := 0) (rmM0 l Z a0 hw [] pb5 pr5 pk5 [] T5.heap n0 SZ5 (xF5) (xV5)) hZ (hw _ (List.mem_of_getElem? (i := 20) rfl)) (hw _ (List.mem_of_getElem? (i := 3) rfl)) (by decide) (by decide)) q6a q6c (g := (mkF m 51 #[.val (.int p1), .val (.int p2), .val (.int a), .val (.int b), .val (.ref ob3), .val (.int (1 : Int32)), .unset] [(.ref pb5)])) rfl (by rw [hml]; rfl) (Steps.refl _) (argsL := []) (rest := []) (lenOf pd_3 rfl) rfl (by show 2 * 0 + _ ≤ _; exact Nat.le_of_eq rfl) (hb hby at_51) (fun _ _ => ⟨rfl, e5, (by decide : 5 + 0 ≤ _), (by decide : 194 + 0 ≤ _)⟩)
  dsimp only [Pt.U, Pt.locs, Pt.cells, Pt.slots] at X6 l6 y6 z6 st6 hQ6
  subst l6 y6 z6
  obtain ⟨rfl, N6q, e6⟩ := hQ6
  have N6 := Fr.app N5 N6q
  have pre_7 : ∀ t, Steps p.tables e below (T6.setTop (mkF m 65 #[.val (.int p1), .val (.int p2), .val (.int a), .val (.int b), .val (.ref ob3), .val (.int (1 : Int32)), .unset] [])) t → Steps p.tables e below (s₁.setTop (entryFrame m #[(.int p1), (.int p2)] maxLocals)) t := by
    intro t kt
    refine pre0 _ ?_
    show Steps p.tables e below (s₁.setTop (mkF m 0 #[.val (.int p1), .val (.int p2), .unset, .unset, .unset, .unset, .unset] [])) _
    refine XS.iloadN X0.here hx rfl (hb hby at_0) rfl ?_
    show Steps p.tables e below (s₁.setTop (mkF m 1 #[.val (.int p1), .val (.int p2), .unset, .unset, .unset, .unset, .unset] [(.int p1)])) _
    refine X0.ldcI hx hown (mvT hZ (hw _ (List.mem_of_getElem? (i := 0) rfl))) (g := (mkF m 1 #[.val (.int p1), .val (.int p2), .unset, .unset, .unset, .unset, .unset] [(.int p1)])) rfl (hb hby at_1) ?_
    show Steps p.tables e below (s₁.setTop (mkF m 3 #[.val (.int p1), .val (.int p2), .unset, .unset, .unset, .unset, .unset] [(.int (2147483647 : Int32)), (.int p1)])) _
    refine XS.iand X0.here hx rfl (hb hby at_3) rfl ?_
    show Steps p.tables e below (s₁.setTop (mkF m 4 #[.val (.int p1), .val (.int p2), .unset, .unset, .unset, .unset, .unset] [(.int (p1 &&& (2147483647 : Int32)))])) _
    refine XS.sipush X0.here hx rfl (hb hby at_4) ?_
    show Steps p.tables e below (s₁.setTop (mkF m 7 #[.val (.int p1), .val (.int p2), .unset, .unset, .unset, .unset, .unset] [(.int (4096 : Int32)), (.int (p1 &&& (2147483647 : Int32)))])) _
    refine XS.irem X0.here hx rfl (hb hby at_7) rfl (by decide) ?_
    rw [own_irem]
    rw [hxa]
    show Steps p.tables e below (s₁.setTop (mkF m 8 #[.val (.int p1), .val (.int p2), .unset, .unset, .unset, .unset, .unset] [(.int a)])) _
    refine XS.istoreN X0.here hx rfl (hb hby at_8) rfl (l' := #[.val (.int p1), .val (.int p2), .val (.int a), .unset, .unset, .unset, .unset]) rfl ?_
    show Steps p.tables e below (s₁.setTop (mkF m 9 #[.val (.int p1), .val (.int p2), .val (.int a), .unset, .unset, .unset, .unset] [])) _
    refine XS.iloadN X0.here hx rfl (hb hby at_9) rfl ?_
    show Steps p.tables e below (s₁.setTop (mkF m 10 #[.val (.int p1), .val (.int p2), .val (.int a), .unset, .unset, .unset, .unset] [(.int p2)])) _
    refine X0.ldcI hx hown (mvT hZ (hw _ (List.mem_of_getElem? (i := 0) rfl))) (g := (mkF m 10 #[.val (.int p1), .val (.int p2), .val (.int a), .unset, .unset, .unset, .unset] [(.int p2)])) rfl (hb hby at_10) ?_
    show Steps p.tables e below (s₁.setTop (mkF m 12 #[.val (.int p1), .val (.int p2), .val (.int a), .unset, .unset, .unset, .unset] [(.int (2147483647 : Int32)), (.int p2)])) _
    refine XS.iand X0.here hx rfl (hb hby at_12) rfl ?_
    show Steps p.tables e below (s₁.setTop (mkF m 13 #[.val (.int p1), .val (.int p2), .val (.int a), .unset, .unset, .unset, .unset] [(.int (p2 &&& (2147483647 : Int32)))])) _
    refine XS.sipush X0.here hx rfl (hb hby at_13) ?_
    show Steps p.tables e below (s₁.setTop (mkF m 16 #[.val (.int p1), .val (.int p2), .val (.int a), .unset, .unset, .unset, .unset] [(.int (4096 : Int32)), (.int (p2 &&& (2147483647 : Int32)))])) _
    refine XS.irem X0.here hx rfl (hb hby at_16) rfl (by decide) ?_
    rw [own_irem]
    rw [hxb]
    show Steps p.tables e below (s₁.setTop (mkF m 17 #[.val (.int p1), .val (.int p2), .val (.int a), .unset, .unset, .unset, .unset] [(.int b)])) _
    refine XS.istoreN X0.here hx rfl (hb hby at_17) rfl (l' := #[.val (.int p1), .val (.int p2), .val (.int a), .val (.int b), .unset, .unset, .unset]) rfl ?_
    show Steps p.tables e below (s₁.setTop (mkF m 18 #[.val (.int p1), .val (.int p2), .val (.int a), .val (.int b), .unset, .unset, .unset] [])) _
    refine XS.iloadN X0.here hx rfl (hb hby at_18) rfl ?_
    show Steps p.tables e below (s₁.setTop (mkF m 19 #[.val (.int p1), .val (.int p2), .val (.int a), .val (.int b), .unset, .unset, .unset] [(.int a)])) _
    refine st3 _ ?_
    show Steps p.tables e below (T3.setTop (mkF m 22 #[.val (.int p1), .val (.int p2), .val (.int a), .val (.int b), .unset, .unset, .unset] [(.ref ob3)])) _
    refine XS.astore X3.here hx rfl (hb hby at_22) rfl rfl (l' := #[.val (.int p1), .val (.int p2), .val (.int a), .val (.int b), .val (.ref ob3), .unset, .unset]) rfl ?_
    show Steps p.tables e below (T3.setTop (mkF m 24 #[.val (.int p1), .val (.int p2), .val (.int a), .val (.int b), .val (.ref ob3), .unset, .unset] [])) _
    refine XS.aload X3.here hx rfl (hb hby at_24) rfl rfl ?_
    show Steps p.tables e below (T3.setTop (mkF m 26 #[.val (.int p1), .val (.int p2), .val (.int a), .val (.int b), .val (.ref ob3), .unset, .unset] [(.ref ob3)])) _
    refine st4.trans ?_
    show Steps p.tables e below (T4.setTop (mkF m 29 #[.val (.int p1), .val (.int p2), .val (.int a), .val (.int b), .val (.ref ob3), .unset, .unset] [(.int a)])) _
    refine XS.iloadN X4.here hx rfl (hb hby at_29) rfl ?_
    show Steps p.tables e below (T4.setTop (mkF m 30 #[.val (.int p1), .val (.int p2), .val (.int a), .val (.int b), .val (.ref ob3), .unset, .unset] [(.int a), (.int a)])) _
    refine XS.icmpNo X4.here hx rfl (hb hby at_30) rfl (teq ((rfl) : a = a)).2 ?_
    show Steps p.tables e below (T4.setTop (mkF m 33 #[.val (.int p1), .val (.int p2), .val (.int a), .val (.int b), .val (.ref ob3), .unset, .unset] [])) _
    refine XS.iconst X4.here hx rfl (hb hby at_33) ?_
    show Steps p.tables e below (T4.setTop (mkF m 34 #[.val (.int p1), .val (.int p2), .val (.int a), .val (.int b), .val (.ref ob3), .unset, .unset] [(.int (1 : Int32))])) _
    refine XS.goto X4.here hx rfl (pc0 := 34) (pc' := 38) rfl (hb hby at_34) (by decide) (by decide) ?_
    show Steps p.tables e below (T4.setTop (mkF m 38 #[.val (.int p1), .val (.int p2), .val (.int a), .val (.int b), .val (.ref ob3), .unset, .unset] [(.int (1 : Int32))])) _
    refine XS.istore X4.here hx rfl (hb hby at_38) rfl (l' := #[.val (.int p1), .val (.int p2), .val (.int a), .val (.int b), .val (.ref ob3), .val (.int (1 : Int32)), .unset]) rfl ?_
    show Steps p.tables e below (T4.setTop (mkF m 40 #[.val (.int p1), .val (.int p2), .val (.int a), .val (.int b), .val (.ref ob3), .val (.int (1 : Int32)), .unset] [])) _
    refine XS.iload X4.here hx rfl (hb hby at_40) rfl ?_
    show Steps p.tables e below (T4.setTop (mkF m 42 #[.val (.int p1), .val (.int p2), .val (.int a), .val (.int b), .val (.ref ob3), .val (.int (1 : Int32)), .unset] [(.int (1 : Int32))])) _
    refine XS.ifNo X4.here hx rfl (hb hby at_42) rfl ((if0 _ _).trans (feq (by decide : ¬ ((1 : Int32) = (0 : Int32)))).1) ?_
    show Steps p.tables e below (T4.setTop (mkF m 45 #[.val (.int p1), .val (.int p2), .val (.int a), .val (.int b), .val (.ref ob3), .val (.int (1 : Int32)), .unset] [])) _
    refine XS.aload X4.here hx rfl (hb hby at_45) rfl rfl ?_
    show Steps p.tables e below (T4.setTop (mkF m 47 #[.val (.int p1), .val (.int p2), .val (.int a), .val (.int b), .val (.ref ob3), .val (.int (1 : Int32)), .unset] [(.ref ob3)])) _
    refine XS.iloadN X4.here hx rfl (hb hby at_47) rfl ?_
    show Steps p.tables e below (T4.setTop (mkF m 48 #[.val (.int p1), .val (.int p2), .val (.int a), .val (.int b), .val (.ref ob3), .val (.int (1 : Int32)), .unset] [(.int a), (.ref ob3)])) _
    refine st5.trans ?_
    show Steps p.tables e below (T5.setTop (mkF m 51 #[.val (.int p1), .val (.int p2), .val (.int a), .val (.int b), .val (.ref ob3), .val (.int (1 : Int32)), .unset] [(.ref pb5)])) _
    refine st6.trans ?_
    show Steps p.tables e below (T6.setTop (mkF m 54 #[.val (.int p1), .val (.int p2), .val (.int a), .val (.int b), .val (.ref ob3), .val (.int (1 : Int32)), .unset] [(.int (-1 : Int32))])) _
    refine XS.iconst X6.here hx rfl (hb hby at_54) ?_
    show Steps p.tables e below (T6.setTop (mkF m 55 #[.val (.int p1), .val (.int p2), .val (.int a), .val (.int b), .val (.ref ob3), .val (.int (1 : Int32)), .unset] [(.int (-1 : Int32)), (.int (-1 : Int32))])) _
    refine XS.icmpNo X6.here hx rfl (hb hby at_55) rfl (teq ((rfl) : (-1 : Int32) = (-1 : Int32))).2 ?_
    show Steps p.tables e below (T6.setTop (mkF m 58 #[.val (.int p1), .val (.int p2), .val (.int a), .val (.int b), .val (.ref ob3), .val (.int (1 : Int32)), .unset] [])) _
    refine XS.iconst X6.here hx rfl (hb hby at_58) ?_
    show Steps p.tables e below (T6.setTop (mkF m 59 #[.val (.int p1), .val (.int p2), .val (.int a), .val (.int b), .val (.ref ob3), .val (.int (1 : Int32)), .unset] [(.int (1 : Int32))])) _
    refine XS.goto X6.here hx rfl (pc0 := 59) (pc' := 63) rfl (hb hby at_59) (by decide) (by decide) ?_
    show Steps p.tables e below (T6.setTop (mkF m 63 #[.val (.int p1), .val (.int p2), .val (.int a), .val (.int b), .val (.ref ob3), .val (.int (1 : Int32)), .unset] [(.int (1 : Int32))])) _
    refine XS.istore X6.here hx rfl (hb hby at_63) rfl (l' := #[.val (.int p1), .val (.int p2), .val (.int a), .val (.int b), .val (.ref ob3), .val (.int (1 : Int32)), .unset]) rfl ?_
    exact kt
  by_cases kl : a < b
  · skip
    obtain ⟨cq8, kq8, q8a, q8b, q8c⟩ := isOf hZ e6 E_ob3_5
    obtain ⟨_, _, ⟨T8, L8, k8, n8⟩, -, X8, ⟨Lc8, hQ8, l8, y8, z8⟩, st8⟩ := X6.virtualBack hx (y := (⟨"com/example/deftab/deftab/reasoning/DependencySet", "below", "(I)Lcom/example/deftab/deftab/reasoning/DependencySet;"⟩ : MethodName)) (z := (⟨"com/example/deftab/deftab/reasoning/DependencySet", "below", "(I)Lcom/example/deftab/deftab/reasoning/DependencySet;"⟩ : MethodName)) hown (mvT hZ (hw _ (List.mem_of_getElem? (i := 30) rfl))) (mvT hZ (hw _ (List.mem_of_getElem? (i := 31) rfl))) (notFace_of_selects (args := #[]) (mvT hZ (hw _ (List.mem_of_getElem? (i := 33) rfl)))) (mvT hZ (hw _ (List.mem_of_getElem? (i := 33) rfl))) (mvT hZ (hw _ (List.mem_of_getElem? (i := 32) rfl))) (by decide) (backOf (W := 0) (rmB1 l Z a0 hw [] ob3 b ou3 ok3 (own_vs qq.toNatClampNeg ww) zz qq ww a T5.heap n0 SZ5 (E_ob3_5) (F_words_ob3_5) (V_ou3_5) (zzd) (qqn) (qqzz) (hv) (hmx) (kl)) hZ (hw _ (List.mem_of_getElem? (i := 34) rfl)) (hw _ (List.mem_of_getElem? (i := 3) rfl)) (by decide) (by decide)) q8a q8c (g := (mkF m 85 #[.val (.int p1), .val (.int p2), .val (.int a), .val (.int b), .val (.ref ob3), .val (.int (1 : Int32)), .val (.int a)] [(.int b), (.ref ob3)])) rfl (by rw [hml]; rfl) (Steps.refl _) (argsL := [(.int b)]) (rest := []) (lenOf pd_5 rfl) rfl (by show 2 * 0 + _ ≤ _; exact Nat.le_of_eq rfl) (hb hby at_85) (fun _ _ => ⟨rfl, e6, (by decide : 5 + 0 ≤ _), (by decide : 194 + 0 ≤ _)⟩)
    dsimp only [Pt.U, Pt.locs, Pt.cells, Pt.slots] at X8 l8 y8 z8 st8 hQ8
    subst l8 y8 z8
    obtain ⟨rfl, N8q, e8⟩ := hQ8
    have N8 := Fr.app N6 N8q
    obtain ⟨cq9, kq9, q9a, q9b, q9c⟩ := isOf hZ e8 E_ob3_5
    obtain ⟨_, _, ⟨T9, L9, k9, n9⟩, -, X9, ⟨Lc9, hQ9, l9, y9, z9⟩, st9⟩ := X8.virtualBack hx (y := (⟨"com/example/deftab/deftab/reasoning/DependencySet", "max", "()I"⟩ : MethodName)) (z := (⟨"com/example/deftab/deftab/reasoning/DependencySet", "max", "()I"⟩ : MethodName)) hown (mvT hZ (hw _ (List.mem_of_getElem? (i := 16) rfl))) (mvT hZ (hw _ (List.mem_of_getElem? (i := 17) rfl))) (notFace_of_selects (args := #[]) (mvT hZ (hw _ (List.mem_of_getElem? (i := 19) rfl)))) (mvT hZ (hw _ (List.mem_of_getElem? (i := 19) rfl))) (mvT hZ (hw _ (List.mem_of_getElem? (i := 18) rfl))) (by decide) (backOf (W := 0) (rmM1 l Z a0 hw [] ob3 ou3 ok3 (own_vs qq.toNatClampNeg ww) zz qq ww a T5.heap n0 SZ5 (F_words_ob3_5) (V_ou3_5) (zzd) (qqn) (qqzz) (hv) (hmx)) hZ (hw _ (List.mem_of_getElem? (i := 20) rfl)) (hw _ (List.mem_of_getElem? (i := 3) rfl)) (by decide) (by decide)) q9a q9c (g := (mkF m 88 #[.val (.int p1), .val (.int p2), .val (.int a), .val (.int b), .val (.ref ob3), .val (.int (1 : Int32)), .val (.int a)] [(.ref ob3)])) rfl (by rw [hml]; rfl) (Steps.refl _) (argsL := []) (rest := []) (lenOf pd_3 rfl) rfl (by show 2 * 0 + _ ≤ _; exact Nat.le_of_eq rfl) (hb hby at_88) (fun _ _ => ⟨rfl, e8, (by decide : 5 + 0 ≤ _), (by decide : 194 + 0 ≤ _)⟩)
    dsimp only [Pt.U, Pt.locs, Pt.cells, Pt.slots] at X9 l9 y9 z9 st9 hQ9
    subst l9 y9 z9
    obtain ⟨rfl, N9q, e9⟩ := hQ9
    have N9 := Fr.app N8 N9q
    obtain ⟨fs, hr, hrun, hended, hW, hsame⟩ := X9.leave (v := some (.int (1 : Int32))) (fun h => by rw [Bd.returns] at h; cases h)
    refine ⟨_, _, pre_7 _ ?_, hrun, hended, _, _, rfl, ?_, ⟨_, rfl⟩, hW, hsame.mono (by decide) (by decide)⟩
    · show Steps p.tables e below (T6.setTop (mkF m 65 #[.val (.int p1), .val (.int p2), .val (.int a), .val (.int b), .val (.ref ob3), .val (.int (1 : Int32)), .unset] [])) _
      refine XS.iloadN X6.here hx rfl (hb hby at_65) rfl ?_
      show Steps p.tables e below (T6.setTop (mkF m 66 #[.val (.int p1), .val (.int p2), .val (.int a), .val (.int b), .val (.ref ob3), .val (.int (1 : Int32)), .unset] [(.int a)])) _
      refine XS.iloadN X6.here hx rfl (hb hby at_66) rfl ?_
      show Steps p.tables e below (T6.setTop (mkF m 67 #[.val (.int p1), .val (.int p2), .val (.int a), .val (.int b), .val (.ref ob3), .val (.int (1 : Int32)), .unset] [(.int b), (.int a)])) _
      refine XS.icmpNo X6.here hx rfl (hb hby at_67) rfl (tlt (kl : a < b)).2.1 ?_
      show Steps p.tables e below (T6.setTop (mkF m 70 #[.val (.int p1), .val (.int p2), .val (.int a), .val (.int b), .val (.ref ob3), .val (.int (1 : Int32)), .unset] [])) _
      refine XS.iloadN X6.here hx rfl (hb hby at_70) rfl ?_
      show Steps p.tables e below (T6.setTop (mkF m 71 #[.val (.int p1), .val (.int p2), .val (.int a), .val (.int b), .val (.ref ob3), .val (.int (1 : Int32)), .unset] [(.int a)])) _
      refine XS.goto X6.here hx rfl (pc0 := 71) (pc' := 75) rfl (hb hby at_71) (by decide) (by decide) ?_
      show Steps p.tables e below (T6.setTop (mkF m 75 #[.val (.int p1), .val (.int p2), .val (.int a), .val (.int b), .val (.ref ob3), .val (.int (1 : Int32)), .unset] [(.int a)])) _
      refine XS.istore X6.here hx rfl (hb hby at_75) rfl (l' := #[.val (.int p1), .val (.int p2), .val (.int a), .val (.int b), .val (.ref ob3), .val (.int (1 : Int32)), .val (.int a)]) rfl ?_
      show Steps p.tables e below (T6.setTop (mkF m 77 #[.val (.int p1), .val (.int p2), .val (.int a), .val (.int b), .val (.ref ob3), .val (.int (1 : Int32)), .val (.int a)] [])) _
      refine XS.iload X6.here hx rfl (hb hby at_77) rfl ?_
      show Steps p.tables e below (T6.setTop (mkF m 79 #[.val (.int p1), .val (.int p2), .val (.int a), .val (.int b), .val (.ref ob3), .val (.int (1 : Int32)), .val (.int a)] [(.int (1 : Int32))])) _
      refine XS.ifNo X6.here hx rfl (hb hby at_79) rfl ((if0 _ _).trans (feq (by decide : ¬ ((1 : Int32) = (0 : Int32)))).1) ?_
      show Steps p.tables e below (T6.setTop (mkF m 82 #[.val (.int p1), .val (.int p2), .val (.int a), .val (.int b), .val (.ref ob3), .val (.int (1 : Int32)), .val (.int a)] [])) _
      refine XS.aload X6.here hx rfl (hb hby at_82) rfl rfl ?_
      show Steps p.tables e below (T6.setTop (mkF m 84 #[.val (.int p1), .val (.int p2), .val (.int a), .val (.int b), .val (.ref ob3), .val (.int (1 : Int32)), .val (.int a)] [(.ref ob3)])) _
      refine XS.iloadN X6.here hx rfl (hb hby at_84) rfl ?_
      show Steps p.tables e below (T6.setTop (mkF m 85 #[.val (.int p1), .val (.int p2), .val (.int a), .val (.int b), .val (.ref ob3), .val (.int (1 : Int32)), .val (.int a)] [(.int b), (.ref ob3)])) _
      refine st8.trans ?_
      show Steps p.tables e below (T8.setTop (mkF m 88 #[.val (.int p1), .val (.int p2), .val (.int a), .val (.int b), .val (.ref ob3), .val (.int (1 : Int32)), .val (.int a)] [(.ref ob3)])) _
      refine st9.trans ?_
      show Steps p.tables e below (T9.setTop (mkF m 91 #[.val (.int p1), .val (.int p2), .val (.int a), .val (.int b), .val (.ref ob3), .val (.int (1 : Int32)), .val (.int a)] [(.int a)])) _
      refine XS.iload X9.here hx rfl (hb hby at_91) rfl ?_
      show Steps p.tables e below (T9.setTop (mkF m 93 #[.val (.int p1), .val (.int p2), .val (.int a), .val (.int b), .val (.ref ob3), .val (.int (1 : Int32)), .val (.int a)] [(.int a), (.int a)])) _
      refine XS.icmpNo X9.here hx rfl (hb hby at_93) rfl (teq ((rfl) : a = a)).2 ?_
      show Steps p.tables e below (T9.setTop (mkF m 96 #[.val (.int p1), .val (.int p2), .val (.int a), .val (.int b), .val (.ref ob3), .val (.int (1 : Int32)), .val (.int a)] [])) _
      refine XS.iconst X9.here hx rfl (hb hby at_96) ?_
      show Steps p.tables e below (T9.setTop (mkF m 97 #[.val (.int p1), .val (.int p2), .val (.int a), .val (.int b), .val (.ref ob3), .val (.int (1 : Int32)), .val (.int a)] [(.int (1 : Int32))])) _
      refine XS.goto X9.here hx rfl (pc0 := 97) (pc' := 101) rfl (hb hby at_97) (by decide) (by decide) ?_
      show Steps p.tables e below (T9.setTop (mkF m 101 #[.val (.int p1), .val (.int p2), .val (.int a), .val (.int b), .val (.ref ob3), .val (.int (1 : Int32)), .val (.int a)] [(.int (1 : Int32))])) _
      refine XS.istore X9.here hx rfl (hb hby at_101) rfl (l' := #[.val (.int p1), .val (.int p2), .val (.int a), .val (.int b), .val (.ref ob3), .val (.int (1 : Int32)), .val (.int a)]) rfl ?_
      show Steps p.tables e below (T9.setTop (mkF m 103 #[.val (.int p1), .val (.int p2), .val (.int a), .val (.int b), .val (.ref ob3), .val (.int (1 : Int32)), .val (.int a)] [])) _
      refine XS.iload X9.here hx rfl (hb hby at_103) rfl ?_
      show Steps p.tables e below (T9.setTop (mkF m 105 #[.val (.int p1), .val (.int p2), .val (.int a), .val (.int b), .val (.ref ob3), .val (.int (1 : Int32)), .val (.int a)] [(.int (1 : Int32))])) _
      exact retN X9 hx (t := .boolean) Bd.returns (by simp) (hb hby at_105) hr
    · show QF n0 _ T9.heap _
      rw [e9]
      exact ⟨rfl, N9⟩
  have kl' := mt Int32.lt_iff_toInt_lt.mpr kl
  by_cases kq : qb.toInt = qq.toInt
  · skip
    have kqq : qb = qq := Int32.toInt_inj.mp kq
    have kz : zb = zz := Int32.toInt_inj.mp (by omega)
    obtain ⟨cq10, kq10, q10a, q10b, q10c⟩ := isOf hZ e6 E_ob3_5
    obtain ⟨_, _, ⟨T10, L10, k10, n10⟩, -, X10, ⟨Lc10, hQ10, l10, y10, z10⟩, st10⟩ := X6.virtualBack hx (y := (⟨"com/example/deftab/deftab/reasoning/DependencySet", "below", "(I)Lcom/example/deftab/deftab/reasoning/DependencySet;"⟩ : MethodName)) (z := (⟨"com/example/deftab/deftab/reasoning/DependencySet", "below", "(I)Lcom/example/deftab/deftab/reasoning/DependencySet;"⟩ : MethodName)) hown (mvT hZ (hw _ (List.mem_of_getElem? (i := 30) rfl))) (mvT hZ (hw _ (List.mem_of_getElem? (i := 31) rfl))) (notFace_of_selects (args := #[]) (mvT hZ (hw _ (List.mem_of_getElem? (i := 33) rfl)))) (mvT hZ (hw _ (List.mem_of_getElem? (i := 33) rfl))) (mvT hZ (hw _ (List.mem_of_getElem? (i := 32) rfl))) (by decide) (backOf (W := 0) (rmB2 l Z a0 hw [] ob3 b ou3 ok3 (own_vs qq.toNatClampNeg ww) zz qq ww a qb zb bm T5.heap n0 SZ5 (E_ob3_5) (F_words_ob3_5) (V_ou3_5) (zzd) (qqn) (qqzz) (hv) (hmx) (E_ou3_5) (kl) (hqb) (hzb) (zbd) (zbn) (zbp) (zb64) (qbn) (qbzb) (qb64) (hbm) (kz) (by rw [kqq]; exact hv) (own_and pa pb (by omega) hww hbm) (own_vsl qb64) (fun i hi => own_vs_ne ww (by rw [← kqq]; exact hi))) hZ (hw _ (List.mem_of_getElem? (i := 34) rfl)) (hw _ (List.mem_of_getElem? (i := 3) rfl)) (by decide) (by decide)) q10a q10c (g := (mkF m 85 #[.val (.int p1), .val (.int p2), .val (.int a), .val (.int b), .val (.ref ob3), .val (.int (1 : Int32)), .val (.int (-1 : Int32))] [(.int b), (.ref ob3)])) rfl (by rw [hml]; rfl) (Steps.refl _) (argsL := [(.int b)]) (rest := []) (lenOf pd_5 rfl) rfl (by show 2 * 0 + _ ≤ _; exact Nat.le_of_eq rfl) (hb hby at_85) (fun _ _ => ⟨rfl, e6, (by decide : 5 + 3 ≤ _), (by decide : 194 + 129 ≤ _)⟩)
    dsimp only [Pt.U, Pt.locs, Pt.cells, Pt.slots] at X10 l10 y10 z10 st10 hQ10
    subst l10 y10 z10
    have e10 : T10.heap = T10.heap := rfl
    obtain ⟨pb10, pr10, pk10, rfl, N10q, KK10, xE10, xF10, xV10⟩ := hQ10
    have N10 := Fr.app N6 N10q
    have E_ob3_10 := E_ob3_5.keep KK10
    have F_words_ob3_10 := F_words_ob3_5.keep KK10 nin0
    have V_ou3_10 := V_ou3_5.keep KK10 nin0
    have E_ou3_10 := E_ou3_5.keep KK10
    have E_pb5_10 := xE5.keep KK10
    have F_words_pb5_10 := xF5.keep KK10 nin0
    have V_pr5_10 := xV5.keep KK10 nin0
    have SZ10 : n0 ≤ T10.heap.size := Nat.le_trans SZ5 KK10.1
    obtain ⟨cq11, kq11, q11a, q11b, q11c⟩ := isOf hZ e10 xE10
    obtain ⟨_, _, ⟨T11, L11, k11, n11⟩, -, X11, ⟨Lc11, hQ11, l11, y11, z11⟩, st11⟩ := X10.virtualBack hx (y := (⟨"com/example/deftab/deftab/reasoning/DependencySet", "max", "()I"⟩ : MethodName)) (z := (⟨"com/example/deftab/deftab/reasoning/DependencySet", "max", "()I"⟩ : MethodName)) hown (mvT hZ (hw _ (List.mem_of_getElem? (i := 16) rfl))) (mvT hZ (hw _ (List.mem_of_getElem? (i := 17) rfl))) (notFace_of_selects (args := #[]) (mvT hZ (hw _ (List.mem_of_getElem? (i := 19) rfl)))) (mvT hZ (hw _ (List.mem_of_getElem? (i := 19) rfl))) (mvT hZ (hw _ (List.mem_of_getElem? (i := 18) rfl))) (by decide) (backOf (W := 0) (rmM0 l Z a0 hw [] pb10 pr10 pk10 [] T10.heap n0 SZ10 (xF10) (xV10)) hZ (hw _ (List.mem_of_getElem? (i := 20) rfl)) (hw _ (List.mem_of_getElem? (i := 3) rfl)) (by decide) (by decide)) q11a q11c (g := (mkF m 88 #[.val (.int p1), .val (.int p2), .val (.int a), .val (.int b), .val (.ref ob3), .val (.int (1 : Int32)), .val (.int (-1 : Int32))] [(.ref pb10)])) rfl (by rw [hml]; rfl) (Steps.refl _) (argsL := []) (rest := []) (lenOf pd_3 rfl) rfl (by show 2 * 0 + _ ≤ _; exact Nat.le_of_eq rfl) (hb hby at_88) (fun _ _ => ⟨rfl, e10, (by decide : 8 + 0 ≤ _), (by decide : 323 + 0 ≤ _)⟩)
    dsimp only [Pt.U, Pt.locs, Pt.cells, Pt.slots] at X11 l11 y11 z11 st11 hQ11
    subst l11 y11 z11
    obtain ⟨rfl, N11q, e11⟩ := hQ11
    have N11 := Fr.app N10 N11q
    obtain ⟨fs, hr, hrun, hended, hW, hsame⟩ := X11.leave (v := some (.int (1 : Int32))) (fun h => by rw [Bd.returns] at h; cases h)
    refine ⟨_, _, pre_7 _ ?_, hrun, hended, _, _, rfl, ?_, ⟨_, rfl⟩, hW, hsame.mono (by decide) (by decide)⟩
    · show Steps p.tables e below (T6.setTop (mkF m 65 #[.val (.int p1), .val (.int p2), .val (.int a), .val (.int b), .val (.ref ob3), .val (.int (1 : Int32)), .unset] [])) _
      refine XS.iloadN X6.here hx rfl (hb hby at_65) rfl ?_
      show Steps p.tables e below (T6.setTop (mkF m 66 #[.val (.int p1), .val (.int p2), .val (.int a), .val (.int b), .val (.ref ob3), .val (.int (1 : Int32)), .unset] [(.int a)])) _
      refine XS.iloadN X6.here hx rfl (hb hby at_66) rfl ?_
      show Steps p.tables e below (T6.setTop (mkF m 67 #[.val (.int p1), .val (.int p2), .val (.int a), .val (.int b), .val (.ref ob3), .val (.int (1 : Int32)), .unset] [(.int b), (.int a)])) _
      refine XS.icmpYes X6.here hx rfl (pc0 := 67) (pc' := 74) rfl (hb hby at_67) rfl (flt (kl : ¬ (a < b))).2.1 (by decide) (by decide) ?_
      show Steps p.tables e below (T6.setTop (mkF m 74 #[.val (.int p1), .val (.int p2), .val (.int a), .val (.int b), .val (.ref ob3), .val (.int (1 : Int32)), .unset] [])) _
      refine XS.iconst X6.here hx rfl (hb hby at_74) ?_
      show Steps p.tables e below (T6.setTop (mkF m 75 #[.val (.int p1), .val (.int p2), .val (.int a), .val (.int b), .val (.ref ob3), .val (.int (1 : Int32)), .unset] [(.int (-1 : Int32))])) _
      refine XS.istore X6.here hx rfl (hb hby at_75) rfl (l' := #[.val (.int p1), .val (.int p2), .val (.int a), .val (.int b), .val (.ref ob3), .val (.int (1 : Int32)), .val (.int (-1 : Int32))]) rfl ?_
      show Steps p.tables e below (T6.setTop (mkF m 77 #[.val (.int p1), .val (.int p2), .val (.int a), .val (.int b), .val (.ref ob3), .val (.int (1 : Int32)), .val (.int (-1 : Int32))] [])) _
      refine XS.iload X6.here hx rfl (hb hby at_77) rfl ?_
      show Steps p.tables e below (T6.setTop (mkF m 79 #[.val (.int p1), .val (.int p2), .val (.int a), .val (.int b), .val (.ref ob3), .val (.int (1 : Int32)), .val (.int (-1 : Int32))] [(.int (1 : Int32))])) _
      refine XS.ifNo X6.here hx rfl (hb hby at_79) rfl ((if0 _ _).trans (feq (by decide : ¬ ((1 : Int32) = (0 : Int32)))).1) ?_
      show Steps p.tables e below (T6.setTop (mkF m 82 #[.val (.int p1), .val (.int p2), .val (.int a), .val (.int b), .val (.ref ob3), .val (.int (1 : Int32)), .val (.int (-1 : Int32))] [])) _
      refine XS.aload X6.here hx rfl (hb hby at_82) rfl rfl ?_
      show Steps p.tables e below (T6.setTop (mkF m 84 #[.val (.int p1), .val (.int p2), .val (.int a), .val (.int b), .val (.ref ob3), .val (.int (1 : Int32)), .val (.int (-1 : Int32))] [(.ref ob3)])) _
      refine XS.iloadN X6.here hx rfl (hb hby at_84) rfl ?_
      show Steps p.tables e below (T6.setTop (mkF m 85 #[.val (.int p1), .val (.int p2), .val (.int a), .val (.int b), .val (.ref ob3), .val (.int (1 : Int32)), .val (.int (-1 : Int32))] [(.int b), (.ref ob3)])) _
      refine st10.trans ?_
      show Steps p.tables e below (T10.setTop (mkF m 88 #[.val (.int p1), .val (.int p2), .val (.int a), .val (.int b), .val (.ref ob3), .val (.int (1 : Int32)), .val (.int (-1 : Int32))] [(.ref pb10)])) _
      refine st11.trans ?_
      show Steps p.tables e below (T11.setTop (mkF m 91 #[.val (.int p1), .val (.int p2), .val (.int a), .val (.int b), .val (.ref ob3), .val (.int (1 : Int32)), .val (.int (-1 : Int32))] [(.int (-1 : Int32))])) _
      refine XS.iload X11.here hx rfl (hb hby at_91) rfl ?_
      show Steps p.tables e below (T11.setTop (mkF m 93 #[.val (.int p1), .val (.int p2), .val (.int a), .val (.int b), .val (.ref ob3), .val (.int (1 : Int32)), .val (.int (-1 : Int32))] [(.int (-1 : Int32)), (.int (-1 : Int32))])) _
      refine XS.icmpNo X11.here hx rfl (hb hby at_93) rfl (teq ((rfl) : (-1 : Int32) = (-1 : Int32))).2 ?_
      show Steps p.tables e below (T11.setTop (mkF m 96 #[.val (.int p1), .val (.int p2), .val (.int a), .val (.int b), .val (.ref ob3), .val (.int (1 : Int32)), .val (.int (-1 : Int32))] [])) _
      refine XS.iconst X11.here hx rfl (hb hby at_96) ?_
      show Steps p.tables e below (T11.setTop (mkF m 97 #[.val (.int p1), .val (.int p2), .val (.int a), .val (.int b), .val (.ref ob3), .val (.int (1 : Int32)), .val (.int (-1 : Int32))] [(.int (1 : Int32))])) _
      refine XS.goto X11.here hx rfl (pc0 := 97) (pc' := 101) rfl (hb hby at_97) (by decide) (by decide) ?_
      show Steps p.tables e below (T11.setTop (mkF m 101 #[.val (.int p1), .val (.int p2), .val (.int a), .val (.int b), .val (.ref ob3), .val (.int (1 : Int32)), .val (.int (-1 : Int32))] [(.int (1 : Int32))])) _
      refine XS.istore X11.here hx rfl (hb hby at_101) rfl (l' := #[.val (.int p1), .val (.int p2), .val (.int a), .val (.int b), .val (.ref ob3), .val (.int (1 : Int32)), .val (.int (-1 : Int32))]) rfl ?_
      show Steps p.tables e below (T11.setTop (mkF m 103 #[.val (.int p1), .val (.int p2), .val (.int a), .val (.int b), .val (.ref ob3), .val (.int (1 : Int32)), .val (.int (-1 : Int32))] [])) _
      refine XS.iload X11.here hx rfl (hb hby at_103) rfl ?_
      show Steps p.tables e below (T11.setTop (mkF m 105 #[.val (.int p1), .val (.int p2), .val (.int a), .val (.int b), .val (.ref ob3), .val (.int (1 : Int32)), .val (.int (-1 : Int32))] [(.int (1 : Int32))])) _
      exact retN X11 hx (t := .boolean) Bd.returns (by simp) (hb hby at_105) hr
    · show QF n0 _ T11.heap _
      rw [e11]
      exact ⟨rfl, N11⟩
  · skip
    obtain ⟨cq12, kq12, q12a, q12b, q12c⟩ := isOf hZ e6 E_ob3_5
    obtain ⟨_, _, ⟨T12, L12, k12, n12⟩, -, X12, ⟨Lc12, hQ12, l12, y12, z12⟩, st12⟩ := X6.virtualBack hx (y := (⟨"com/example/deftab/deftab/reasoning/DependencySet", "below", "(I)Lcom/example/deftab/deftab/reasoning/DependencySet;"⟩ : MethodName)) (z := (⟨"com/example/deftab/deftab/reasoning/DependencySet", "below", "(I)Lcom/example/deftab/deftab/reasoning/DependencySet;"⟩ : MethodName)) hown (mvT hZ (hw _ (List.mem_of_getElem? (i := 30) rfl))) (mvT hZ (hw _ (List.mem_of_getElem? (i := 31) rfl))) (notFace_of_selects (args := #[]) (mvT hZ (hw _ (List.mem_of_getElem? (i := 33) rfl)))) (mvT hZ (hw _ (List.mem_of_getElem? (i := 33) rfl))) (mvT hZ (hw _ (List.mem_of_getElem? (i := 32) rfl))) (by decide) (backOf (W := 0) (rmB3 l Z a0 hw [] ob3 b ou3 ok3 (own_vs qq.toNatClampNeg ww) zz qq ww a qb zb bm T5.heap n0 SZ5 (E_ob3_5) (F_words_ob3_5) (V_ou3_5) (zzd) (qqn) (qqzz) (hv) (hmx) (E_ou3_5) (kl) (hqb) (hzb) (zbd) (zbn) (zbp) (zb64) (qbn) (qbzb) (qb64) (hbm) (own_ltI (by omega)) (by omega) (fun i hi => own_vs_ne ww (by omega))) hZ (hw _ (List.mem_of_getElem? (i := 34) rfl)) (hw _ (List.mem_of_getElem? (i := 3) rfl)) (by decide) (by decide)) q12a q12c (g := (mkF m 85 #[.val (.int p1), .val (.int p2), .val (.int a), .val (.int b), .val (.ref ob3), .val (.int (1 : Int32)), .val (.int (-1 : Int32))] [(.int b), (.ref ob3)])) rfl (by rw [hml]; rfl) (Steps.refl _) (argsL := [(.int b)]) (rest := []) (lenOf pd_5 rfl) rfl (by show 2 * 0 + _ ≤ _; exact Nat.le_of_eq rfl) (hb hby at_85) (fun _ _ => ⟨rfl, e6, (by decide : 5 + 3 ≤ _), (by decide : 194 + 129 ≤ _)⟩)
    dsimp only [Pt.U, Pt.locs, Pt.cells, Pt.slots] at X12 l12 y12 z12 st12 hQ12
    subst l12 y12 z12
    have e12 : T12.heap = T12.heap := rfl
    obtain ⟨pb12, pr12, pk12, rfl, N12q, KK12, xE12, xF12, xV12⟩ := hQ12
    have N12 := Fr.app N6 N12q
    have E_ob3_12 := E_ob3_5.keep KK12
    have F_words_ob3_12 := F_words_ob3_5.keep KK12 nin0
    have V_ou3_12 := V_ou3_5.keep KK12 nin0
    have E_ou3_12 := E_ou3_5.keep KK12
    have E_pb5_12 := xE5.keep KK12
    have F_words_pb5_12 := xF5.keep KK12 nin0
    have V_pr5_12 := xV5.keep KK12 nin0
    have SZ12 : n0 ≤ T12.heap.size := Nat.le_trans SZ5 KK12.1
    obtain ⟨cq13, kq13, q13a, q13b, q13c⟩ := isOf hZ e12 xE12
    obtain ⟨_, _, ⟨T13, L13, k13, n13⟩, -, X13, ⟨Lc13, hQ13, l13, y13, z13⟩, st13⟩ := X12.virtualBack hx (y := (⟨"com/example/deftab/deftab/reasoning/DependencySet", "max", "()I"⟩ : MethodName)) (z := (⟨"com/example/deftab/deftab/reasoning/DependencySet", "max", "()I"⟩ : MethodName)) hown (mvT hZ (hw _ (List.mem_of_getElem? (i := 16) rfl))) (mvT hZ (hw _ (List.mem_of_getElem? (i := 17) rfl))) (notFace_of_selects (args := #[]) (mvT hZ (hw _ (List.mem_of_getElem? (i := 19) rfl)))) (mvT hZ (hw _ (List.mem_of_getElem? (i := 19) rfl))) (mvT hZ (hw _ (List.mem_of_getElem? (i := 18) rfl))) (by decide) (backOf (W := 0) (rmM0 l Z a0 hw [] pb12 pr12 pk12 [] T12.heap n0 SZ12 (xF12) (xV12)) hZ (hw _ (List.mem_of_getElem? (i := 20) rfl)) (hw _ (List.mem_of_getElem? (i := 3) rfl)) (by decide) (by decide)) q13a q13c (g := (mkF m 88 #[.val (.int p1), .val (.int p2), .val (.int a), .val (.int b), .val (.ref ob3), .val (.int (1 : Int32)), .val (.int (-1 : Int32))] [(.ref pb12)])) rfl (by rw [hml]; rfl) (Steps.refl _) (argsL := []) (rest := []) (lenOf pd_3 rfl) rfl (by show 2 * 0 + _ ≤ _; exact Nat.le_of_eq rfl) (hb hby at_88) (fun _ _ => ⟨rfl, e12, (by decide : 8 + 0 ≤ _), (by decide : 323 + 0 ≤ _)⟩)
    dsimp only [Pt.U, Pt.locs, Pt.cells, Pt.slots] at X13 l13 y13 z13 st13 hQ13
    subst l13 y13 z13
    obtain ⟨rfl, N13q, e13⟩ := hQ13
    have N13 := Fr.app N12 N13q
    obtain ⟨fs, hr, hrun, hended, hW, hsame⟩ := X13.leave (v := some (.int (1 : Int32))) (fun h => by rw [Bd.returns] at h; cases h)
    refine ⟨_, _, pre_7 _ ?_, hrun, hended, _, _, rfl, ?_, ⟨_, rfl⟩, hW, hsame.mono (by decide) (by decide)⟩
    · show Steps p.tables e below (T6.setTop (mkF m 65 #[.val (.int p1), .val (.int p2), .val (.int a), .val (.int b), .val (.ref ob3), .val (.int (1 : Int32)), .unset] [])) _
      refine XS.iloadN X6.here hx rfl (hb hby at_65) rfl ?_
      show Steps p.tables e below (T6.setTop (mkF m 66 #[.val (.int p1), .val (.int p2), .val (.int a), .val (.int b), .val (.ref ob3), .val (.int (1 : Int32)), .unset] [(.int a)])) _
      refine XS.iloadN X6.here hx rfl (hb hby at_66) rfl ?_
      show Steps p.tables e below (T6.setTop (mkF m 67 #[.val (.int p1), .val (.int p2), .val (.int a), .val (.int b), .val (.ref ob3), .val (.int (1 : Int32)), .unset] [(.int b), (.int a)])) _
      refine XS.icmpYes X6.here hx rfl (pc0 := 67) (pc' := 74) rfl (hb hby at_67) rfl (flt (kl : ¬ (a < b))).2.1 (by decide) (by decide) ?_
      show Steps p.tables e below (T6.setTop (mkF m 74 #[.val (.int p1), .val (.int p2), .val (.int a), .val (.int b), .val (.ref ob3), .val (.int (1 : Int32)), .unset] [])) _
      refine XS.iconst X6.here hx rfl (hb hby at_74) ?_
      show Steps p.tables e below (T6.setTop (mkF m 75 #[.val (.int p1), .val (.int p2), .val (.int a), .val (.int b), .val (.ref ob3), .val (.int (1 : Int32)), .unset] [(.int (-1 : Int32))])) _
      refine XS.istore X6.here hx rfl (hb hby at_75) rfl (l' := #[.val (.int p1), .val (.int p2), .val (.int a), .val (.int b), .val (.ref ob3), .val (.int (1 : Int32)), .val (.int (-1 : Int32))]) rfl ?_
      show Steps p.tables e below (T6.setTop (mkF m 77 #[.val (.int p1), .val (.int p2), .val (.int a), .val (.int b), .val (.ref ob3), .val (.int (1 : Int32)), .val (.int (-1 : Int32))] [])) _
      refine XS.iload X6.here hx rfl (hb hby at_77) rfl ?_
      show Steps p.tables e below (T6.setTop (mkF m 79 #[.val (.int p1), .val (.int p2), .val (.int a), .val (.int b), .val (.ref ob3), .val (.int (1 : Int32)), .val (.int (-1 : Int32))] [(.int (1 : Int32))])) _
      refine XS.ifNo X6.here hx rfl (hb hby at_79) rfl ((if0 _ _).trans (feq (by decide : ¬ ((1 : Int32) = (0 : Int32)))).1) ?_
      show Steps p.tables e below (T6.setTop (mkF m 82 #[.val (.int p1), .val (.int p2), .val (.int a), .val (.int b), .val (.ref ob3), .val (.int (1 : Int32)), .val (.int (-1 : Int32))] [])) _
      refine XS.aload X6.here hx rfl (hb hby at_82) rfl rfl ?_
      show Steps p.tables e below (T6.setTop (mkF m 84 #[.val (.int p1), .val (.int p2), .val (.int a), .val (.int b), .val (.ref ob3), .val (.int (1 : Int32)), .val (.int (-1 : Int32))] [(.ref ob3)])) _
      refine XS.iloadN X6.here hx rfl (hb hby at_84) rfl ?_
      show Steps p.tables e below (T6.setTop (mkF m 85 #[.val (.int p1), .val (.int p2), .val (.int a), .val (.int b), .val (.ref ob3), .val (.int (1 : Int32)), .val (.int (-1 : Int32))] [(.int b), (.ref ob3)])) _
      refine st12.trans ?_
      show Steps p.tables e below (T12.setTop (mkF m 88 #[.val (.int p1), .val (.int p2), .val (.int a), .val (.int b), .val (.ref ob3), .val (.int (1 : Int32)), .val (.int (-1 : Int32))] [(.ref pb12)])) _
      refine st13.trans ?_
      show Steps p.tables e below (T13.setTop (mkF m 91 #[.val (.int p1), .val (.int p2), .val (.int a), .val (.int b), .val (.ref ob3), .val (.int (1 : Int32)), .val (.int (-1 : Int32))] [(.int (-1 : Int32))])) _
      refine XS.iload X13.here hx rfl (hb hby at_91) rfl ?_
      show Steps p.tables e below (T13.setTop (mkF m 93 #[.val (.int p1), .val (.int p2), .val (.int a), .val (.int b), .val (.ref ob3), .val (.int (1 : Int32)), .val (.int (-1 : Int32))] [(.int (-1 : Int32)), (.int (-1 : Int32))])) _
      refine XS.icmpNo X13.here hx rfl (hb hby at_93) rfl (teq ((rfl) : (-1 : Int32) = (-1 : Int32))).2 ?_
      show Steps p.tables e below (T13.setTop (mkF m 96 #[.val (.int p1), .val (.int p2), .val (.int a), .val (.int b), .val (.ref ob3), .val (.int (1 : Int32)), .val (.int (-1 : Int32))] [])) _
      refine XS.iconst X13.here hx rfl (hb hby at_96) ?_
      show Steps p.tables e below (T13.setTop (mkF m 97 #[.val (.int p1), .val (.int p2), .val (.int a), .val (.int b), .val (.ref ob3), .val (.int (1 : Int32)), .val (.int (-1 : Int32))] [(.int (1 : Int32))])) _
      refine XS.goto X13.here hx rfl (pc0 := 97) (pc' := 101) rfl (hb hby at_97) (by decide) (by decide) ?_
      show Steps p.tables e below (T13.setTop (mkF m 101 #[.val (.int p1), .val (.int p2), .val (.int a), .val (.int b), .val (.ref ob3), .val (.int (1 : Int32)), .val (.int (-1 : Int32))] [(.int (1 : Int32))])) _
      refine XS.istore X13.here hx rfl (hb hby at_101) rfl (l' := #[.val (.int p1), .val (.int p2), .val (.int a), .val (.int b), .val (.ref ob3), .val (.int (1 : Int32)), .val (.int (-1 : Int32))]) rfl ?_
      show Steps p.tables e below (T13.setTop (mkF m 103 #[.val (.int p1), .val (.int p2), .val (.int a), .val (.int b), .val (.ref ob3), .val (.int (1 : Int32)), .val (.int (-1 : Int32))] [])) _
      refine XS.iload X13.here hx rfl (hb hby at_103) rfl ?_
      show Steps p.tables e below (T13.setTop (mkF m 105 #[.val (.int p1), .val (.int p2), .val (.int a), .val (.int b), .val (.ref ob3), .val (.int (1 : Int32)), .val (.int (-1 : Int32))] [(.int (1 : Int32))])) _
      exact retN X13 hx (t := .boolean) Bd.returns (by simp) (hb hby at_105) hr
    · show QF n0 _ T13.heap _
      rw [e13]
      exact ⟨rfl, N13⟩
set_option maxRecDepth 65536 in
set_option maxHeartbeats 40000000 in
theorem comes_1 {Post : Tables → Env → Array Value → State → Outcome → State → Prop} (hpost : ∀ tb e args s v u, (limb_1_1.after args s (.returned v) u = true ∧ limb_1_2.after args s (.returned v) u = true ∧ True) → FrameEnd s (.returned v) u (Jvm.fieldLocs frame_1_writes args s ++ Jvm.arrayLocs frame_1_arrays args s ++ Jvm.staticLocs frame_1_statics s) 24 512 → Post tb e args s (.returned v) u) :
    ArmFor flags0 classFile x code maxLocals ret World_1 tables_1 room_1 Calls_1 rest_1 Pre_1 Post := by
  intro l hfl _ _ p e ha hc hk s m args below hf hA hF happ hP
  obtain ⟨hcalls, hrest, hpre⟩ := hP
  obtain ⟨-, -, -, hnamed, -, -, -, hat⟩ := (Spec.applies_iff hf).mp happ
  obtain ⟨hg, hn⟩ := and_e (Cond.before_iff.mp (show (Jvm.Cond.and given_1 narrow_1).before args s = true from hpre))
  obtain ⟨hg0, hg⟩ := and_e hg
  obtain ⟨gA0, hg⟩ := and_e hg
  have gA1 := hg
  obtain ⟨w0, w1, rfl⟩ : ∃ w0 w1 : Value, args = #[w0, w1] := by
    have hs : args.size = 2 := by simpa [Cond.value, given_1] using hg0
    obtain ⟨L⟩ := args
    match L, hs with
    | [w0, w1], _ => exact ⟨w0, w1, rfl⟩
  have hw := fun d (hd : d ∈ tables_1) => atoms_spec (ws := Jvm.Cond.code x code maxLocals ret :: tables_1) hat d (List.mem_cons_of_mem _ hd)
  obtain ⟨i0, ei0⟩ := is_v gA0
  obtain rfl : w0 = (.int i0) := Option.some.inj ei0
  obtain ⟨i1, ei1⟩ := is_v gA1
  obtain rfl : w1 = (.int i1) := Option.some.inj ei1
  obtain ⟨n, o, h1, h2, h3, _, L, rfl, ⟨rfl, N⟩, hq⟩ := rm0 l s _ hw tables_1 i0 i1 s.heap s.heap.size (Nat.le_refl _) p e ha hc hk s m _ below hf ((Spec.applies_iff_loose hf).mp happ).1 ⟨rfl, State.Warmed39.refl s, rfl⟩ trivial
  refine ⟨n, _, h1, h2, h3, hpost _ _ _ _ _ _ ⟨Cond.after_iff.mpr rfl, Cond.after_iff.mpr (eq_i res_at (Term.int_eval (1)) rfl), trivial⟩ ⟨hq.1, hq.2.1, (hq.2.2.sift fun y hy => Or.inr (N y hy)).mono (by decide) (by decide)⟩⟩
theorem main_1_1 : Claimed_1_1 := comes_1 fun _ _ _ _ _ _ h hF => ⟨h.1, hF⟩
theorem main_1_2 : Claimed_1_2 := comes_1 fun _ _ _ _ _ _ h hF => ⟨h.2.1, hF⟩
end Jvm.Pilot.@@N@@
namespace Jvm.Pilot.@@N@@
open Jvm Jvm.ClassFile Sem Op Lib Jvm.Free Jvm.Stand Jvm.Pilot.@@N@@.Jvm.D
/-! MADE BY PROGRAM (witnessworld.py) out of the Statement's table words and the real class files: 20 classes; the members and pool entries that the words name. The judged class is class 1, her method 1. -/
namespace start1
open Jvm.ClassFile
def u (s : String) : CpInfo := .utf8 (stringToUtf16 s)
/-- a pool by its gaps: so many unusable entries, then the entry; so many at the end -/
def gap : Nat → List CpInfo → List CpInfo
  | 0, r => r
  | n + 1, r => .unusable :: gap n r
def poolList (es : List (Nat × CpInfo)) (last : Nat) : List CpInfo := es.foldr (fun e r => gap e.1 (e.2 :: r)) (gap last [])
def pool (es : List (Nat × CpInfo)) (last : Nat) : Array CpInfo := ⟨poolList es last⟩
def fileOf (pool : Array CpInfo) (this : Nat) (attrs : Array Attribute := #[]) (ms : Array MethodInfo := #[]) (fl : Nat := 33) (sup : Nat := 0) (ifs : Array Nat := #[]) (fds : Array FieldInfo := #[]) : ClassFile where
  minorVersion := 0
  majorVersion := 65
  constantPool := pool
  accessFlags := fl
  thisClass := this
  superClass := sup
  interfaces := ifs
  fields := fds
  methods := ms
  attributes := attrs
def plain (name : String) (sup : Option ClassId) : Class where
  name := name
  kind := .ordinary
  loader := none
  accessFlags := 33
  super := sup
  interfaces := #[]
  cf := none
  fields := #[]
  methods := #[]
  instanceTypes := #[]
  staticTypes := #[]
  resolved := #[]
  callSites := []
  init := .initialized
  statics := none
  mirror := none

def pool0 : Array CpInfo := pool [(5, u "<init>"), (0, u "()V"), (1, .class_ 10), (1, u "java/lang/Object"), (85, u "clone"), (0, u "()Ljava/lang/Object;")] 26

def k0c0 : Code := { maxStack := 0, maxLocals := 1, code := object_method_1_code, exceptionTable := #[], attributes := #[] }
def k0m0 : Method := { name := "<init>", desc := "()V", sig := { parameters := [], returnType := none }, accessFlags := 1, code := some k0c0 }
def k0m1 : Method := { name := "clone", desc := "()Ljava/lang/Object;", sig := { parameters := [], returnType := some (.object "java/lang/Object") }, accessFlags := 260, code := none }
/-- java/lang/Object -/
def k0 : Class := { plain "java/lang/Object" none with
  accessFlags := 33
  interfaces := #[]
  cf := some (fileOf pool0 8 #[] #[{ accessFlags := 1, nameIndex := 5, descriptorIndex := 6, attributes := #[] }, { accessFlags := 260, nameIndex := 96, descriptorIndex := 97, attributes := #[] }] 33 0 #[] #[])
  fields := #[]
  methods := #[k0m0, k0m1]
  instanceTypes := #[]
  staticTypes := #[]
  resolved := Array.replicate 124 none
  statics := none }

def pool1 : Array CpInfo := pool [(2, .class_ 4), (1, u "java/lang/Object"), (0, u "<init>"), (0, u "()V"), (0, .integer 2147483647), (0, .methodref 9 10), (0, .class_ 11), (0, .nameAndType 12 13), (0, u "com/example/deftab/deftab/reasoning/DependencySet"), (0, u "of"), (0, u "(I)Lcom/example/deftab/deftab/reasoning/DependencySet;"), (0, .methodref 9 15), (0, .nameAndType 16 17), (0, u "max"), (0, u "()I"), (0, .methodref 9 19), (0, .nameAndType 20 13), (0, u "below"), (0, .class_ 22), (0, u "com/example/deftab/deftab/reasoning/DependencySetOfPinLaw"), (2, u "law"), (0, u "(II)Z")] 3

def k1m0 : Method := { name := "<init>", desc := "()V", sig := { parameters := [], returnType := none }, accessFlags := 1, code := none }
def k1c1 : Code := { maxStack := 2, maxLocals := 7, code := code, exceptionTable := #[], attributes := #[] }
def k1m1 : Method := { name := "law", desc := "(II)Z", sig := { parameters := [.int, .int], returnType := some .boolean }, accessFlags := 9, code := some k1c1 }
/-- com/example/deftab/deftab/reasoning/DependencySetOfPinLaw -/
def k1 : Class := { plain "com/example/deftab/deftab/reasoning/DependencySetOfPinLaw" (some 0) with
  accessFlags := 49
  interfaces := #[]
  cf := some (fileOf pool1 21 #[] #[{ accessFlags := 1, nameIndex := 5, descriptorIndex := 6, attributes := #[] }, { accessFlags := 9, nameIndex := 25, descriptorIndex := 26, attributes := #[] }] 49 2 #[] #[])
  fields := #[]
  methods := #[k1m0, k1m1]
  instanceTypes := #[]
  staticTypes := #[]
  resolved := Array.replicate 30 none
  statics := none }

def pool2 : Array CpInfo := pool [(1, .methodref 2 3), (0, .class_ 4), (0, .nameAndType 5 6), (0, u "java/lang/Object"), (0, u "<init>"), (0, u "()V"), (0, .fieldref 8 9), (0, .class_ 10), (0, .nameAndType 11 12), (0, u "com/example/deftab/deftab/reasoning/DependencySet"), (0, u "words"), (0, u "[J"), (0, .class_ 14), (0, u "java/lang/Long"), (0, .methodref 8 16), (0, .nameAndType 5 17), (0, u "([J)V"), (8, u "max"), (1, .methodref 29 30), (0, .class_ 31), (0, .nameAndType 32 33), (0, u "java/util/Arrays"), (0, u "copyOf"), (0, u "([JI)[J"), (0, .methodref 8 35), (0, .nameAndType 26 36), (0, u "()I"), (6, .methodref 13 44), (0, .nameAndType 45 46), (0, u "numberOfLeadingZeros"), (0, u "(J)I"), (4, u "EMPTY"), (0, u "Lcom/example/deftab/deftab/reasoning/DependencySet;"), (2, u "of"), (0, u "(I)Lcom/example/deftab/deftab/reasoning/DependencySet;"), (4, u "below")] 5

def k2c0 : Code := { maxStack := 2, maxLocals := 2, code := prog_29_method_1_code, exceptionTable := #[], attributes := #[] }
def k2m0 : Method := { name := "<init>", desc := "([J)V", sig := { parameters := [(.array .long)], returnType := none }, accessFlags := 2, code := some k2c0 }
def k2c1 : Code := { maxStack := 5, maxLocals := 2, code := prog_29_method_2_code, exceptionTable := #[], attributes := #[] }
def k2m1 : Method := { name := "of", desc := "(I)Lcom/example/deftab/deftab/reasoning/DependencySet;", sig := { parameters := [.int], returnType := some (.object "com/example/deftab/deftab/reasoning/DependencySet") }, accessFlags := 8, code := some k2c1 }
def k2c2 : Code := { maxStack := 8, maxLocals := 4, code := prog_29_method_4_code, exceptionTable := #[], attributes := #[] }
def k2m2 : Method := { name := "below", desc := "(I)Lcom/example/deftab/deftab/reasoning/DependencySet;", sig := { parameters := [.int], returnType := some (.object "com/example/deftab/deftab/reasoning/DependencySet") }, accessFlags := 0, code := some k2c2 }
def k2c3 : Code := { maxStack := 3, maxLocals := 2, code := prog_29_method_6_code, exceptionTable := #[], attributes := #[] }
def k2m3 : Method := { name := "max", desc := "()I", sig := { parameters := [], returnType := some .int }, accessFlags := 0, code := some k2c3 }
/-- com/example/deftab/deftab/reasoning/DependencySet -/
def k2 : Class := { plain "com/example/deftab/deftab/reasoning/DependencySet" (some 0) with
  accessFlags := 48
  interfaces := #[]
  cf := some (fileOf pool2 8 #[] #[{ accessFlags := 2, nameIndex := 5, descriptorIndex := 17, attributes := #[] }, { accessFlags := 8, nameIndex := 55, descriptorIndex := 56, attributes := #[] }, { accessFlags := 0, nameIndex := 61, descriptorIndex := 56, attributes := #[] }, { accessFlags := 0, nameIndex := 26, descriptorIndex := 36, attributes := #[] }] 48 2 #[] #[{ accessFlags := 24, nameIndex := 51, descriptorIndex := 52, attributes := #[] }, { accessFlags := 18, nameIndex := 11, descriptorIndex := 12, attributes := #[] }])
  fields := #[{ name := "EMPTY", type := (.object "com/example/deftab/deftab/reasoning/DependencySet"), accessFlags := 24, slot := 0, constantValue := 0 }, { name := "words", type := (.array .long), accessFlags := 18, slot := 0, constantValue := 0 }]
  methods := #[k2m0, k2m1, k2m2, k2m3]
  instanceTypes := #[(.array .long)]
  staticTypes := #[(.object "com/example/deftab/deftab/reasoning/DependencySet")]
  resolved := Array.replicate 67 none
  statics := none }

def pool3 : Array CpInfo := pool [(1, .class_ 2), (0, u "java/io/Serializable"), (0, .class_ 4), (0, u "java/lang/Object")] 2

/-- java/io/Serializable -/
def k3 : Class := { plain "java/io/Serializable" (some 0) with
  accessFlags := 1537
  interfaces := #[]
  cf := some (fileOf pool3 1 #[] #[] 1537 3 #[] #[])
  fields := #[]
  methods := #[]
  instanceTypes := #[]
  staticTypes := #[]
  resolved := Array.replicate 7 none
  statics := none }

def pool4 : Array CpInfo := pool [(2, .class_ 4), (1, u "java/lang/Object"), (0, u "<init>"), (0, u "()V"), (1, .class_ 10), (1, u "java/lang/Number"), (2, .class_ 14), (0, u "java/io/Serializable"), (0, u "serialVersionUID"), (0, u "J")] 20

def k4m0 : Method := { name := "<init>", desc := "()V", sig := { parameters := [], returnType := none }, accessFlags := 1, code := none }
/-- java/lang/Number -/
def k4 : Class := { plain "java/lang/Number" (some 0) with
  accessFlags := 1057
  interfaces := #[3]
  cf := some (fileOf pool4 8 #[] #[{ accessFlags := 1, nameIndex := 5, descriptorIndex := 6, attributes := #[] }] 1057 2 #[13] #[{ accessFlags := 26, nameIndex := 15, descriptorIndex := 16, attributes := #[] }])
  fields := #[{ name := "serialVersionUID", type := .long, accessFlags := 26, slot := 0, constantValue := 0 }]
  methods := #[k4m0]
  instanceTypes := #[]
  staticTypes := #[.long]
  resolved := Array.replicate 37 none
  statics := none }

def pool5 : Array CpInfo := pool [(1, .class_ 2), (0, u "java/lang/Comparable"), (0, .class_ 4), (0, u "java/lang/Object")] 7

/-- java/lang/Comparable -/
def k5 : Class := { plain "java/lang/Comparable" (some 0) with
  accessFlags := 1537
  interfaces := #[]
  cf := some (fileOf pool5 1 #[] #[] 1537 3 #[] #[])
  fields := #[]
  methods := #[]
  instanceTypes := #[]
  staticTypes := #[]
  resolved := Array.replicate 12 none
  statics := none }

def pool6 : Array CpInfo := pool [(1, .class_ 2), (0, u "java/lang/constant/Constable"), (0, .class_ 4), (0, u "java/lang/Object")] 6

/-- java/lang/constant/Constable -/
def k6 : Class := { plain "java/lang/constant/Constable" (some 0) with
  accessFlags := 1537
  interfaces := #[]
  cf := some (fileOf pool6 1 #[] #[] 1537 3 #[] #[])
  fields := #[]
  methods := #[]
  instanceTypes := #[]
  staticTypes := #[]
  resolved := Array.replicate 11 none
  statics := none }

def pool7 : Array CpInfo := pool [(1, .class_ 2), (0, u "java/lang/constant/ConstantDesc"), (0, .class_ 4), (0, u "java/lang/Object")] 32

/-- java/lang/constant/ConstantDesc -/
def k7 : Class := { plain "java/lang/constant/ConstantDesc" (some 0) with
  accessFlags := 1537
  interfaces := #[]
  cf := some (fileOf pool7 1 #[] #[] 1537 3 #[] #[])
  fields := #[]
  methods := #[]
  instanceTypes := #[]
  staticTypes := #[]
  resolved := Array.replicate 37 none
  statics := none }

def pool8 : Array CpInfo := pool [(1, .class_ 2), (0, u "java/lang/Long"), (15, .class_ 20), (1, u "java/lang/Integer"), (79, u "numberOfLeadingZeros"), (0, u "(J)I"), (133, .class_ 237), (1, u "java/lang/Long$LongCache"), (33, .class_ 272), (0, u "java/lang/Number"), (2, u "value"), (0, u "J"), (31, .methodref 18 309), (0, .nameAndType 100 310), (0, u "(I)I"), (50, u "TYPE"), (0, u "Ljava/lang/Class;"), (0, .class_ 364), (0, u "java/lang/Comparable"), (0, .class_ 366), (0, u "java/lang/constant/Constable"), (0, .class_ 368), (0, u "java/lang/constant/ConstantDesc"), (0, u "MIN_VALUE"), (1, u "MAX_VALUE"), (4, u "SIZE"), (0, u "I"), (1, u "BYTES"), (1, u "serialVersionUID")] 142

def k8c0 : Code := { maxStack := 3, maxLocals := 3, code := jdk_35_method_48_code, exceptionTable := #[], attributes := #[] }
def k8m0 : Method := { name := "numberOfLeadingZeros", desc := "(J)I", sig := { parameters := [.long], returnType := some .int }, accessFlags := 9, code := some k8c0 }
/-- java/lang/Long -/
def k8 : Class := { plain "java/lang/Long" (some 4) with
  accessFlags := 49
  interfaces := #[5, 6, 7]
  cf := some (fileOf pool8 1 #[.nestMembers #[235]] #[{ accessFlags := 9, nameIndex := 100, descriptorIndex := 101, attributes := #[] }] 49 271 #[363, 365, 367] #[{ accessFlags := 25, nameIndex := 369, descriptorIndex := 276, attributes := #[] }, { accessFlags := 25, nameIndex := 371, descriptorIndex := 276, attributes := #[] }, { accessFlags := 25, nameIndex := 361, descriptorIndex := 362, attributes := #[] }, { accessFlags := 18, nameIndex := 275, descriptorIndex := 276, attributes := #[] }, { accessFlags := 25, nameIndex := 376, descriptorIndex := 377, attributes := #[] }, { accessFlags := 25, nameIndex := 379, descriptorIndex := 377, attributes := #[] }, { accessFlags := 26, nameIndex := 381, descriptorIndex := 276, attributes := #[] }])
  fields := #[{ name := "MIN_VALUE", type := .long, accessFlags := 25, slot := 0, constantValue := 0 }, { name := "MAX_VALUE", type := .long, accessFlags := 25, slot := 1, constantValue := 0 }, { name := "TYPE", type := (.object "java/lang/Class"), accessFlags := 25, slot := 2, constantValue := 0 }, { name := "value", type := .long, accessFlags := 18, slot := 0, constantValue := 0 }, { name := "SIZE", type := .int, accessFlags := 25, slot := 3, constantValue := 0 }, { name := "BYTES", type := .int, accessFlags := 25, slot := 4, constantValue := 0 }, { name := "serialVersionUID", type := .long, accessFlags := 26, slot := 5, constantValue := 0 }]
  methods := #[k8m0]
  instanceTypes := #[.long]
  staticTypes := #[.long, .long, (.object "java/lang/Class"), .int, .int, .long]
  resolved := Array.replicate 524 none
  statics := none }

def pool9 : Array CpInfo := pool [(1, .class_ 2), (0, u "java/lang/Integer"), (16, u "digits"), (0, u "[C"), (32, u "numberOfLeadingZeros"), (0, u "(I)I"), (30, u "DigitOnes"), (0, u "[B"), (2, u "DigitTens"), (99, .class_ 190), (0, u "java/lang/Integer$IntegerCache"), (3, u "I"), (8, .class_ 204), (0, u "java/lang/Number"), (2, u "value"), (56, .integer 65536), (37, u "TYPE"), (0, u "Ljava/lang/Class;"), (0, .class_ 305), (0, u "java/lang/Comparable"), (0, .class_ 307), (0, u "java/lang/constant/Constable"), (0, .class_ 309), (0, u "java/lang/constant/ConstantDesc"), (0, u "MIN_VALUE"), (1, u "MAX_VALUE"), (3, u "SIZE"), (1, u "BYTES"), (1, u "serialVersionUID"), (0, u "J")] 131

def k9c0 : Code := { maxStack := 3, maxLocals := 2, code := jdk_33_method_47_code, exceptionTable := #[], attributes := #[] }
def k9m0 : Method := { name := "numberOfLeadingZeros", desc := "(I)I", sig := { parameters := [.int], returnType := some .int }, accessFlags := 9, code := some k9c0 }
/-- java/lang/Integer -/
def k9 : Class := { plain "java/lang/Integer" (some 4) with
  accessFlags := 49
  interfaces := #[5, 6, 7]
  cf := some (fileOf pool9 1 #[.nestMembers #[189]] #[{ accessFlags := 9, nameIndex := 53, descriptorIndex := 54, attributes := #[] }] 49 203 #[304, 306, 308] #[{ accessFlags := 25, nameIndex := 310, descriptorIndex := 194, attributes := #[] }, { accessFlags := 25, nameIndex := 312, descriptorIndex := 194, attributes := #[] }, { accessFlags := 25, nameIndex := 302, descriptorIndex := 303, attributes := #[] }, { accessFlags := 24, nameIndex := 19, descriptorIndex := 20, attributes := #[] }, { accessFlags := 24, nameIndex := 89, descriptorIndex := 86, attributes := #[] }, { accessFlags := 24, nameIndex := 85, descriptorIndex := 86, attributes := #[] }, { accessFlags := 18, nameIndex := 207, descriptorIndex := 194, attributes := #[] }, { accessFlags := 25, nameIndex := 316, descriptorIndex := 194, attributes := #[] }, { accessFlags := 25, nameIndex := 318, descriptorIndex := 194, attributes := #[] }, { accessFlags := 26, nameIndex := 320, descriptorIndex := 321, attributes := #[] }])
  fields := #[{ name := "MIN_VALUE", type := .int, accessFlags := 25, slot := 0, constantValue := 0 }, { name := "MAX_VALUE", type := .int, accessFlags := 25, slot := 1, constantValue := 0 }, { name := "TYPE", type := (.object "java/lang/Class"), accessFlags := 25, slot := 2, constantValue := 0 }, { name := "digits", type := (.array .char), accessFlags := 24, slot := 3, constantValue := 0 }, { name := "DigitTens", type := (.array .byte), accessFlags := 24, slot := 4, constantValue := 0 }, { name := "DigitOnes", type := (.array .byte), accessFlags := 24, slot := 5, constantValue := 0 }, { name := "value", type := .int, accessFlags := 18, slot := 0, constantValue := 0 }, { name := "SIZE", type := .int, accessFlags := 25, slot := 6, constantValue := 0 }, { name := "BYTES", type := .int, accessFlags := 25, slot := 7, constantValue := 0 }, { name := "serialVersionUID", type := .long, accessFlags := 26, slot := 8, constantValue := 0 }]
  methods := #[k9m0]
  instanceTypes := #[.int]
  staticTypes := #[.int, .int, (.object "java/lang/Class"), (.array .char), (.array .byte), (.array .byte), .int, .int, .long]
  resolved := Array.replicate 453 none
  statics := none }

def pool10 : Array CpInfo := pool [(2, .class_ 4), (1, u "java/lang/Object"), (0, u "<init>"), (0, u "()V"), (7, .class_ 16), (1, u "java/util/Arrays"), (57, .class_ 76), (1, u "java/util/Arrays$NaturalOrder"), (32, u "()Ljava/lang/Object;"), (3, .class_ 115), (1, u "java/util/Arrays$LegacyMergeSort"), (1, u "Z"), (10, .nameAndType 129 109), (0, u "clone"), (20, .methodref 151 152), (0, .class_ 153), (0, .nameAndType 154 155), (0, u "java/lang/System"), (0, u "arraycopy"), (0, u "(Ljava/lang/Object;ILjava/lang/Object;II)V"), (146, u "copyOf"), (1, .methodref 305 306), (0, .class_ 307), (0, .nameAndType 308 309), (0, u "java/lang/Math"), (0, u "min"), (0, u "(II)I"), (9, .methodref 320 128), (0, .class_ 321), (0, u "[J"), (53, .class_ 376), (0, u "java/util/Arrays$ArrayList"), (68, u "$assertionsDisabled"), (269, u "MIN_ARRAY_SORT_GRAN"), (0, u "I"), (2, u "INSERTIONSORT_THRESHOLD"), (152, u "([JI)[J"), (102, .class_ 976), (0, u "java/util/Arrays$ArrayItr")] 52

def k10m0 : Method := { name := "<init>", desc := "()V", sig := { parameters := [], returnType := none }, accessFlags := 2, code := none }
def k10c1 : Code := { maxStack := 6, maxLocals := 3, code := jdk_65_method_124_code, exceptionTable := #[], attributes := #[] }
def k10m1 : Method := { name := "copyOf", desc := "([JI)[J", sig := { parameters := [(.array .long), .int], returnType := some (.array .long) }, accessFlags := 9, code := some k10c1 }
/-- java/util/Arrays -/
def k10 : Class := { plain "java/util/Arrays" (some 0) with
  accessFlags := 49
  interfaces := #[]
  cf := some (fileOf pool10 14 #[.nestMembers #[975, 375, 113, 74]] #[{ accessFlags := 2, nameIndex := 5, descriptorIndex := 6, attributes := #[] }, { accessFlags := 9, nameIndex := 302, descriptorIndex := 872, attributes := #[] }] 49 2 #[] #[{ accessFlags := 26, nameIndex := 715, descriptorIndex := 716, attributes := #[] }, { accessFlags := 26, nameIndex := 719, descriptorIndex := 716, attributes := #[] }, { accessFlags := 4120, nameIndex := 445, descriptorIndex := 117, attributes := #[] }])
  fields := #[{ name := "MIN_ARRAY_SORT_GRAN", type := .int, accessFlags := 26, slot := 0, constantValue := 0 }, { name := "INSERTIONSORT_THRESHOLD", type := .int, accessFlags := 26, slot := 1, constantValue := 0 }, { name := "$assertionsDisabled", type := .boolean, accessFlags := 4120, slot := 2, constantValue := 0 }]
  methods := #[k10m0, k10m1]
  instanceTypes := #[]
  staticTypes := #[.int, .int, .boolean]
  resolved := Array.replicate 1029 none
  statics := none }

def pool11 : Array CpInfo := pool [(1, .class_ 2), (0, u "java/lang/Cloneable"), (0, .class_ 4), (0, u "java/lang/Object")] 2

/-- java/lang/Cloneable -/
def k11 : Class := { plain "java/lang/Cloneable" (some 0) with
  accessFlags := 1537
  interfaces := #[]
  cf := some (fileOf pool11 1 #[] #[] 1537 3 #[] #[])
  fields := #[]
  methods := #[]
  instanceTypes := #[]
  staticTypes := #[]
  resolved := Array.replicate 7 none
  statics := none }

def pool12 : Array CpInfo := pool [(1, .class_ 2), (0, u "java/lang/Math"), (1, .class_ 6), (1, u "java/lang/Object"), (0, u "<init>"), (0, u "()V"), (89, .class_ 100), (1, u "java/lang/Math$RandomNumberGeneratorHolder"), (71, u "negativeZeroFloatBits"), (0, u "J"), (2, u "negativeZeroDoubleBits"), (24, u "min"), (43, u "$assertionsDisabled"), (0, u "Z"), (88, u "(II)I"), (2, u "twoToTheDoubleScaleDown"), (0, u "D"), (4, u "twoToTheDoubleScaleUp"), (9, u "E"), (3, u "PI"), (2, u "TAU"), (2, u "DEGREES_TO_RADIANS"), (0, u "RADIANS_TO_DEGREES")] 94

def k12m0 : Method := { name := "<init>", desc := "()V", sig := { parameters := [], returnType := none }, accessFlags := 2, code := none }
def k12c1 : Code := { maxStack := 2, maxLocals := 2, code := jdk_29_method_69_code, exceptionTable := #[], attributes := #[] }
def k12m1 : Method := { name := "min", desc := "(II)I", sig := { parameters := [.int, .int], returnType := some .int }, accessFlags := 9, code := some k12c1 }
/-- java/lang/Math -/
def k12 : Class := { plain "java/lang/Math" (some 0) with
  accessFlags := 49
  interfaces := #[]
  cf := some (fileOf pool12 1 #[.nestMembers #[98]] #[{ accessFlags := 2, nameIndex := 7, descriptorIndex := 8, attributes := #[] }, { accessFlags := 9, nameIndex := 201, descriptorIndex := 335, attributes := #[] }] 49 4 #[] #[{ accessFlags := 25, nameIndex := 354, descriptorIndex := 339, attributes := #[] }, { accessFlags := 25, nameIndex := 358, descriptorIndex := 339, attributes := #[] }, { accessFlags := 25, nameIndex := 361, descriptorIndex := 339, attributes := #[] }, { accessFlags := 26, nameIndex := 364, descriptorIndex := 339, attributes := #[] }, { accessFlags := 26, nameIndex := 365, descriptorIndex := 339, attributes := #[] }, { accessFlags := 26, nameIndex := 172, descriptorIndex := 173, attributes := #[] }, { accessFlags := 26, nameIndex := 176, descriptorIndex := 173, attributes := #[] }, { accessFlags := 8, nameIndex := 344, descriptorIndex := 339, attributes := #[] }, { accessFlags := 8, nameIndex := 338, descriptorIndex := 339, attributes := #[] }, { accessFlags := 4120, nameIndex := 245, descriptorIndex := 246, attributes := #[] }])
  fields := #[{ name := "E", type := .double, accessFlags := 25, slot := 0, constantValue := 0 }, { name := "PI", type := .double, accessFlags := 25, slot := 1, constantValue := 0 }, { name := "TAU", type := .double, accessFlags := 25, slot := 2, constantValue := 0 }, { name := "DEGREES_TO_RADIANS", type := .double, accessFlags := 26, slot := 3, constantValue := 0 }, { name := "RADIANS_TO_DEGREES", type := .double, accessFlags := 26, slot := 4, constantValue := 0 }, { name := "negativeZeroFloatBits", type := .long, accessFlags := 26, slot := 5, constantValue := 0 }, { name := "negativeZeroDoubleBits", type := .long, accessFlags := 26, slot := 6, constantValue := 0 }, { name := "twoToTheDoubleScaleUp", type := .double, accessFlags := 8, slot := 7, constantValue := 0 }, { name := "twoToTheDoubleScaleDown", type := .double, accessFlags := 8, slot := 8, constantValue := 0 }, { name := "$assertionsDisabled", type := .boolean, accessFlags := 4120, slot := 9, constantValue := 0 }]
  methods := #[k12m0, k12m1]
  instanceTypes := #[]
  staticTypes := #[.double, .double, .double, .double, .double, .long, .long, .double, .double, .boolean]
  resolved := Array.replicate 460 none
  statics := none }

def pool13 : Array CpInfo := pool [(2, .class_ 4), (1, u "java/lang/Object"), (0, u "<init>"), (0, u "()V"), (1, .class_ 10), (1, u "java/lang/System"), (0, u "allowSecurityManager"), (0, u "I"), (16, u "cons"), (0, u "Ljava/io/Console;"), (77, .class_ 110), (1, u "java/lang/System$CallersHolder"), (43, u "initialErrStream"), (0, u "Ljava/io/PrintStream;"), (19, u "security"), (0, u "Ljava/lang/SecurityManager;"), (31, .class_ 209), (0, u "java/lang/System$1"), (7, u "props"), (0, u "Ljava/util/Properties;"), (2, u "lineSeparator"), (0, u "Ljava/lang/String;"), (96, .class_ 321), (1, u "java/lang/System$LoggerFinder"), (5, .class_ 328), (0, u "java/lang/System$Logger"), (67, u "err"), (2, u "out"), (91, u "notSupportedJnuEncoding"), (15, u "in"), (17, u "initialIn"), (0, u "Ljava/io/InputStream;"), (35, u "bootLayer"), (0, u "Ljava/lang/ModuleLayer;"), (99, .class_ 664), (0, u "java/lang/System$2"), (9, u "NEVER"), (2, u "MAYBE"), (49, u "arraycopy"), (0, u "(Ljava/lang/Object;ILjava/lang/Object;II)V"), (72, .class_ 802), (0, u "java/lang/System$Logger$Level")] 31

def k13m0 : Method := { name := "<init>", desc := "()V", sig := { parameters := [], returnType := none }, accessFlags := 2, code := none }
def k13m1 : Method := { name := "arraycopy", desc := "(Ljava/lang/Object;ILjava/lang/Object;II)V", sig := { parameters := [(.object "java/lang/Object"), .int, (.object "java/lang/Object"), .int, .int], returnType := none }, accessFlags := 265, code := none }
/-- java/lang/System -/
def k13 : Class := { plain "java/lang/System" (some 0) with
  accessFlags := 49
  interfaces := #[]
  cf := some (fileOf pool13 8 #[.nestMembers #[319, 327, 801, 108, 663, 208]] #[{ accessFlags := 2, nameIndex := 5, descriptorIndex := 6, attributes := #[] }, { accessFlags := 265, nameIndex := 727, descriptorIndex := 728, attributes := #[] }] 49 2 #[] #[{ accessFlags := 25, nameIndex := 507, descriptorIndex := 526, attributes := #[] }, { accessFlags := 25, nameIndex := 399, descriptorIndex := 155, attributes := #[] }, { accessFlags := 25, nameIndex := 396, descriptorIndex := 155, attributes := #[] }, { accessFlags := 10, nameIndex := 525, descriptorIndex := 526, attributes := #[] }, { accessFlags := 26, nameIndex := 674, descriptorIndex := 12, attributes := #[] }, { accessFlags := 26, nameIndex := 677, descriptorIndex := 12, attributes := #[] }, { accessFlags := 10, nameIndex := 11, descriptorIndex := 12, attributes := #[] }, { accessFlags := 74, nameIndex := 175, descriptorIndex := 176, attributes := #[] }, { accessFlags := 10, nameIndex := 491, descriptorIndex := 222, attributes := #[] }, { accessFlags := 74, nameIndex := 29, descriptorIndex := 30, attributes := #[] }, { accessFlags := 74, nameIndex := 154, descriptorIndex := 155, attributes := #[] }, { accessFlags := 10, nameIndex := 217, descriptorIndex := 218, attributes := #[] }, { accessFlags := 10, nameIndex := 221, descriptorIndex := 222, attributes := #[] }, { accessFlags := 8, nameIndex := 562, descriptorIndex := 563, attributes := #[] }])
  fields := #[{ name := "in", type := (.object "java/io/InputStream"), accessFlags := 25, slot := 0, constantValue := 0 }, { name := "out", type := (.object "java/io/PrintStream"), accessFlags := 25, slot := 1, constantValue := 0 }, { name := "err", type := (.object "java/io/PrintStream"), accessFlags := 25, slot := 2, constantValue := 0 }, { name := "initialIn", type := (.object "java/io/InputStream"), accessFlags := 10, slot := 3, constantValue := 0 }, { name := "NEVER", type := .int, accessFlags := 26, slot := 4, constantValue := 0 }, { name := "MAYBE", type := .int, accessFlags := 26, slot := 5, constantValue := 0 }, { name := "allowSecurityManager", type := .int, accessFlags := 10, slot := 6, constantValue := 0 }, { name := "security", type := (.object "java/lang/SecurityManager"), accessFlags := 74, slot := 7, constantValue := 0 }, { name := "notSupportedJnuEncoding", type := (.object "java/lang/String"), accessFlags := 10, slot := 8, constantValue := 0 }, { name := "cons", type := (.object "java/io/Console"), accessFlags := 74, slot := 9, constantValue := 0 }, { name := "initialErrStream", type := (.object "java/io/PrintStream"), accessFlags := 74, slot := 10, constantValue := 0 }, { name := "props", type := (.object "java/util/Properties"), accessFlags := 10, slot := 11, constantValue := 0 }, { name := "lineSeparator", type := (.object "java/lang/String"), accessFlags := 10, slot := 12, constantValue := 0 }, { name := "bootLayer", type := (.object "java/lang/ModuleLayer"), accessFlags := 8, slot := 13, constantValue := 0 }]
  methods := #[k13m0, k13m1]
  instanceTypes := #[]
  staticTypes := #[(.object "java/io/InputStream"), (.object "java/io/PrintStream"), (.object "java/io/PrintStream"), (.object "java/io/InputStream"), .int, .int, .int, (.object "java/lang/SecurityManager"), (.object "java/lang/String"), (.object "java/io/Console"), (.object "java/io/PrintStream"), (.object "java/util/Properties"), (.object "java/lang/String"), (.object "java/lang/ModuleLayer")]
  resolved := Array.replicate 834 none
  statics := none }

/-- the primitive byte -/
def k14 : Class := { plain "byte" none with kind := .primitive 'B', accessFlags := 0x411 }
/-- [B -/
def k15 : Class := { plain "[B" (some 0) with kind := .array 14 .byte, interfaces := #[11, 3], accessFlags := 1041 }

/-- the primitive int -/
def k16 : Class := { plain "int" none with kind := .primitive 'I', accessFlags := 0x411 }
/-- [I -/
def k17 : Class := { plain "[I" (some 0) with kind := .array 16 .int, interfaces := #[11, 3], accessFlags := 1041 }

/-- the primitive long -/
def k18 : Class := { plain "long" none with kind := .primitive 'J', accessFlags := 0x411 }
/-- [J -/
def k19 : Class := { plain "[J" (some 0) with kind := .array 18 .long, interfaces := #[11, 3], accessFlags := 1041 }

def heap : Heap := #[]
def classes : Array Class := #[k0, k1, k2, k3, k4, k5, k6, k7, k8, k9, k10, k11, k12, k13, k14, k15, k16, k17, k18, k19]
def interned : List (Array UInt16 × Addr) := []
def slotsUsed : Nat := 0
def theMethod : MethodId := ⟨1, 1⟩
def args0 : Array Value := #[.int 100, .int 70]
def aboutOver (below : List Frame) : State where
  vm := { classes := classes, interned := interned.toArray }
  heap := heap
  slotsUsed := slotsUsed
  threads := #[{ frames := .invoking theMethod args0 :: below }]
def below0 : List Frame := [.native { method := ⟨0, 0⟩, args := #[] }]
def about1 : State := aboutOver below0
def p0 : Program := .bare "" "" ""
def e0 : Env := launch0.env 0 0 0
theorem w_frames : about1.frames = Frame.invoking theMethod args0 :: below0 := rfl
set_option maxRecDepth 65536 in
theorem w_args : argsFit about1.vm theMethod args0 = true := by decide +kernel
set_option maxRecDepth 65536 in
theorem w_heap : heapFits about1 = true := by decide +kernel
set_option maxRecDepth 65536 in
theorem w_runnable : about1.curStatus? = some .runnable := by decide +kernel
set_option maxRecDepth 65536 in
theorem w_alone : about1.alone = true := by decide +kernel
set_option maxRecDepth 65536 in
theorem w_named : about1.methodNamed? x = some theMethod := by decide +kernel
set_option maxRecDepth 65536 in
theorem w_hears : about1.hears theMethod below0 = true := by decide +kernel
set_option maxRecDepth 65536 in
theorem w_ripe : about1.ripe theMethod args0 below0 = true := by decide +kernel
theorem w_running : about1.status = .running := rfl
set_option maxRecDepth 65536 in
theorem w_room : about1.hasRoom e0.platform room_1 = true :=
  launch0.hasRoom_least _ room_1 (by decide +kernel) (by decide +kernel) (by decide +kernel) (by decide +kernel) (by decide +kernel) (by decide +kernel)
theorem allAtoms_all (ts : List Jvm.Cond) (a : Array Jvm.Value) (st : Jvm.State) : (allAtoms ts).before a st = ts.all (fun c => c.before a st) := by
  induction ts with
  | nil => rfl
  | cons c t ih =>
    show (Jvm.Cond.and c (allAtoms t)).before a st = _
    rw [Jvm.Cond.before_and, ih, List.all_cons]
def words1 : List Jvm.Cond := Jvm.Cond.code x code maxLocals ret :: tables_1
/-- a 'code' word, met by the world's own term for the bytes: nothing is compared byte by byte -/
theorem code_word {y : MethodName} {bytes : ByteArray} {mx : Nat} {rt : Option FieldType} {a : Array Value} {s : State} {m : MethodId} {meth : Method} {c : Code} (h1 : s.methodNamed? y = some m) (h2 : s.vm.method? m = some meth) (h3 : meth.code = some c) (h4 : c.code = bytes)
    (h5 : (c.maxLocals == mx && c.exceptionTable.isEmpty && decide (c.maxStack ≤ mostOperands) && decide (meth.sig.returnType = rt) && !meth.locks && decide (parseMethodDescriptor y.desc = some meth.sig)) = true) : (Jvm.Cond.code y bytes mx rt).before a s = true := by
  simp only [Bool.and_eq_true, beq_iff_eq, Bool.not_eq_true', decide_eq_true_eq] at h5
  obtain ⟨⟨⟨⟨⟨g1, g2⟩, g3⟩, g4⟩, g5⟩, g6⟩ := h5
  simp [Cond.before, Cond.holds, Cond.value, h1, h2, h3, h4, g1, g2, g3, g4, g5, g6]
def isCode : Jvm.Cond → Bool
  | .code _ _ _ _ => true
  | _ => false
theorem all_split {L : List Jvm.Cond} {P : Jvm.Cond → Bool} (h1 : L.all (fun c => isCode c || P c) = true) (h2 : ∀ c ∈ L.filter isCode, P c = true) : L.all P = true := by
  refine List.all_eq_true.mpr fun c hc => ?_
  have h := List.all_eq_true.mp h1 c hc
  rcases Bool.eq_false_or_eq_true (isCode c) with hi | hi
  · exact h2 c (List.mem_filter.mpr ⟨hc, hi⟩)
  · simpa [hi] using h
set_option maxRecDepth 65536 in
theorem w_c0 : (Jvm.Cond.code x code maxLocals ret).before args0 about1 = true := code_word (m := ⟨1, 1⟩) (meth := k1m1) (c := k1c1) (by decide +kernel) rfl rfl rfl (by decide +kernel)
set_option maxRecDepth 65536 in
theorem w_c1 : (Jvm.Cond.code ({ cls := "com/example/deftab/deftab/reasoning/DependencySet", name := "of", desc := "(I)Lcom/example/deftab/deftab/reasoning/DependencySet;" } : Jvm.MethodName) prog_29_method_2_code (2 : Nat) (Option.some (Jvm.ClassFile.FieldType.object "com/example/deftab/deftab/reasoning/DependencySet"))).before args0 about1 = true := code_word (m := ⟨2, 1⟩) (meth := k2m1) (c := k2c1) (by decide +kernel) rfl rfl rfl (by decide +kernel)
set_option maxRecDepth 65536 in
theorem w_c2 : (Jvm.Cond.code ({ cls := "com/example/deftab/deftab/reasoning/DependencySet", name := "<init>", desc := "([J)V" } : Jvm.MethodName) prog_29_method_1_code (2 : Nat) (Option.none : Option Jvm.ClassFile.FieldType)).before args0 about1 = true := code_word (m := ⟨2, 0⟩) (meth := k2m0) (c := k2c0) (by decide +kernel) rfl rfl rfl (by decide +kernel)
set_option maxRecDepth 65536 in
theorem w_c3 : (Jvm.Cond.code ({ cls := "java/lang/Object", name := "<init>", desc := "()V" } : Jvm.MethodName) object_method_1_code (1 : Nat) (Option.none : Option Jvm.ClassFile.FieldType)).before args0 about1 = true := code_word (m := ⟨0, 0⟩) (meth := k0m0) (c := k0c0) (by decide +kernel) rfl rfl rfl (by decide +kernel)
set_option maxRecDepth 65536 in
theorem w_c4 : (Jvm.Cond.code ({ cls := "com/example/deftab/deftab/reasoning/DependencySet", name := "max", desc := "()I" } : Jvm.MethodName) prog_29_method_6_code (2 : Nat) (Option.some Jvm.ClassFile.FieldType.int)).before args0 about1 = true := code_word (m := ⟨2, 3⟩) (meth := k2m3) (c := k2c3) (by decide +kernel) rfl rfl rfl (by decide +kernel)
set_option maxRecDepth 65536 in
theorem w_c5 : (Jvm.Cond.code ({ cls := "java/lang/Long", name := "numberOfLeadingZeros", desc := "(J)I" } : Jvm.MethodName) jdk_35_method_48_code (3 : Nat) (Option.some Jvm.ClassFile.FieldType.int)).before args0 about1 = true := code_word (m := ⟨8, 0⟩) (meth := k8m0) (c := k8c0) (by decide +kernel) rfl rfl rfl (by decide +kernel)
set_option maxRecDepth 65536 in
theorem w_c6 : (Jvm.Cond.code ({ cls := "java/lang/Integer", name := "numberOfLeadingZeros", desc := "(I)I" } : Jvm.MethodName) jdk_33_method_47_code (2 : Nat) (Option.some Jvm.ClassFile.FieldType.int)).before args0 about1 = true := code_word (m := ⟨9, 0⟩) (meth := k9m0) (c := k9c0) (by decide +kernel) rfl rfl rfl (by decide +kernel)
set_option maxRecDepth 65536 in
theorem w_c7 : (Jvm.Cond.code ({ cls := "com/example/deftab/deftab/reasoning/DependencySet", name := "below", desc := "(I)Lcom/example/deftab/deftab/reasoning/DependencySet;" } : Jvm.MethodName) prog_29_method_4_code (4 : Nat) (Option.some (Jvm.ClassFile.FieldType.object "com/example/deftab/deftab/reasoning/DependencySet"))).before args0 about1 = true := code_word (m := ⟨2, 2⟩) (meth := k2m2) (c := k2c2) (by decide +kernel) rfl rfl rfl (by decide +kernel)
set_option maxRecDepth 65536 in
theorem w_c8 : (Jvm.Cond.code ({ cls := "java/util/Arrays", name := "copyOf", desc := "([JI)[J" } : Jvm.MethodName) jdk_65_method_124_code (3 : Nat) (Option.some (Jvm.ClassFile.FieldType.array Jvm.ClassFile.FieldType.long))).before args0 about1 = true := code_word (m := ⟨10, 1⟩) (meth := k10m1) (c := k10c1) (by decide +kernel) rfl rfl rfl (by decide +kernel)
set_option maxRecDepth 65536 in
theorem w_c9 : (Jvm.Cond.code ({ cls := "java/lang/Math", name := "min", desc := "(II)I" } : Jvm.MethodName) jdk_29_method_69_code (2 : Nat) (Option.some Jvm.ClassFile.FieldType.int)).before args0 about1 = true := code_word (m := ⟨12, 1⟩) (meth := k12m1) (c := k12c1) (by decide +kernel) rfl rfl rfl (by decide +kernel)
def codes1 : List Jvm.Cond := [Jvm.Cond.code x code maxLocals ret, Jvm.Cond.code ({ cls := "com/example/deftab/deftab/reasoning/DependencySet", name := "of", desc := "(I)Lcom/example/deftab/deftab/reasoning/DependencySet;" } : Jvm.MethodName) prog_29_method_2_code (2 : Nat) (Option.some (Jvm.ClassFile.FieldType.object "com/example/deftab/deftab/reasoning/DependencySet")), Jvm.Cond.code ({ cls := "com/example/deftab/deftab/reasoning/DependencySet", name := "<init>", desc := "([J)V" } : Jvm.MethodName) prog_29_method_1_code (2 : Nat) (Option.none : Option Jvm.ClassFile.FieldType), Jvm.Cond.code ({ cls := "java/lang/Object", name := "<init>", desc := "()V" } : Jvm.MethodName) object_method_1_code (1 : Nat) (Option.none : Option Jvm.ClassFile.FieldType), Jvm.Cond.code ({ cls := "com/example/deftab/deftab/reasoning/DependencySet", name := "max", desc := "()I" } : Jvm.MethodName) prog_29_method_6_code (2 : Nat) (Option.some Jvm.ClassFile.FieldType.int), Jvm.Cond.code ({ cls := "java/lang/Long", name := "numberOfLeadingZeros", desc := "(J)I" } : Jvm.MethodName) jdk_35_method_48_code (3 : Nat) (Option.some Jvm.ClassFile.FieldType.int), Jvm.Cond.code ({ cls := "java/lang/Integer", name := "numberOfLeadingZeros", desc := "(I)I" } : Jvm.MethodName) jdk_33_method_47_code (2 : Nat) (Option.some Jvm.ClassFile.FieldType.int), Jvm.Cond.code ({ cls := "com/example/deftab/deftab/reasoning/DependencySet", name := "below", desc := "(I)Lcom/example/deftab/deftab/reasoning/DependencySet;" } : Jvm.MethodName) prog_29_method_4_code (4 : Nat) (Option.some (Jvm.ClassFile.FieldType.object "com/example/deftab/deftab/reasoning/DependencySet")), Jvm.Cond.code ({ cls := "java/util/Arrays", name := "copyOf", desc := "([JI)[J" } : Jvm.MethodName) jdk_65_method_124_code (3 : Nat) (Option.some (Jvm.ClassFile.FieldType.array Jvm.ClassFile.FieldType.long)), Jvm.Cond.code ({ cls := "java/lang/Math", name := "min", desc := "(II)I" } : Jvm.MethodName) jdk_29_method_69_code (2 : Nat) (Option.some Jvm.ClassFile.FieldType.int)]
set_option maxRecDepth 65536 in
theorem codes_eq : words1.filter isCode = codes1 := rfl
theorem w_codes : ∀ c ∈ words1.filter isCode, c.before args0 about1 = true := by
  rw [codes_eq]
  intro c hc
  simp only [codes1, List.mem_cons, List.not_mem_nil, or_false] at hc
  rcases hc with rfl | rfl | rfl | rfl | rfl | rfl | rfl | rfl | rfl | rfl
  · exact w_c0
  · exact w_c1
  · exact w_c2
  · exact w_c3
  · exact w_c4
  · exact w_c5
  · exact w_c6
  · exact w_c7
  · exact w_c8
  · exact w_c9
set_option maxRecDepth 65536 in
theorem w_t1 : (words1.take 24).all (fun c => isCode c || c.before args0 about1) = true := by decide +kernel
set_option maxRecDepth 65536 in
theorem w_t2 : ((words1.drop 24).take 24).all (fun c => isCode c || c.before args0 about1) = true := by decide +kernel
set_option maxRecDepth 65536 in
theorem w_t3 : ((words1.drop 24).drop 24).all (fun c => isCode c || c.before args0 about1) = true := by decide +kernel
theorem w_tables : (allAtoms (Jvm.Cond.code x code maxLocals ret :: tables_1)).before args0 about1 = true := by
  rw [allAtoms_all]
  show words1.all (fun c => c.before args0 about1) = true
  refine all_split ?_ w_codes
  rw [← List.take_append_drop 24 words1, List.all_append, w_t1, ← List.take_append_drop 24 (words1.drop 24), List.all_append, w_t2, w_t3]
  rfl
set_option maxRecDepth 65536 in
theorem w_case : (Jvm.Cond.and given_1 narrow_1).before args0 about1 = true := by decide +kernel
theorem w_applies : (headSpec (Jvm.Cond.code x code maxLocals ret :: tables_1) room_1).applies x e0.platform about1 = true :=
  (Spec.applies_iff w_frames).mpr ⟨w_running, w_runnable, w_alone, w_named, w_hears, w_ripe, w_room, w_tables⟩
theorem atStart : AtStart classFile x code maxLocals ret World_1 tables_1 room_1 Calls_1 rest_1 Pre_1 launch0 p0 e0 about1 theMethod args0 below0 :=
  ⟨lists_1, trivial, launch0.admits_env _ _ _, launch0.least_env, fairChoices_fair.cas, fairChoices_fair.clock, w_frames, w_args, w_heap, w_applies, trivial, trivial, w_case⟩
end start1
theorem witness_1 : WitnessClaimed_1 := ⟨start1.p0, start1.e0, start1.about1, start1.theMethod, start1.args0, start1.below0, start1.atStart⟩
end Jvm.Pilot.@@N@@
