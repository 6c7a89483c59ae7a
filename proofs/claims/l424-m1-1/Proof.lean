import JvmDerived
import JvmDerived.Pilot.@@N@@Statement
import JvmDerived.Pilot.@@N@@Code
set_option linter.unusedVariables false
set_option linter.unusedSimpArgs false
namespace Jvm.RoadKit
open Sem ClassFile Op Lib Jvm.Stand Jvm.Free Jvm.LawKit
section New
variable {p : Program} {l : Launch} {e : Env} {R : Room} {s : State} {m : MethodId} {args : Array Value} {below : List Frame} {meth : Method} {c : Code} {T : State} {locs : List Loc} {cells slots : Nat}
theorem retI (X : Stand p l e R s m args below meth c T locs cells slots) (hx : p.tables.exec = Jvm.exec) {pc : Nat} {Ls : Array Slot} {z : Int32} {rest : List Value} (hret : meth.sig.returnType = some .int) (hd : decode c.code pc = .ok (.ireturn, 1)) {fs : List Frame}
    (hl : ∀ (f : JFrame) (acts : List Action), f.method = m → f.locked = none → f.entered = [] → (doReturn e (T.setTop f) acts (some (.int z))).1 = T.setFrames fs) : Steps p.tables e below (T.setTop (mkF m pc Ls (.int z :: rest))) (T.setFrames fs) := by
  have hm' : T.vm.method? m = some meth := X.method'
  have hn : narrow .int (.int z) = .int z := rfl
  show Steps p.tables e below (T.setTop { method := m, pc := pc, locals := Ls, stack := _ :: rest, locked := none }) _
  jvm_step X.here [X.here.top, hx, hd, hm', hret, hn]
  first | (intro acts; rw [hl _ acts rfl rfl rfl]) | rw [hl _ _ rfl rfl rfl]
  exact Steps.refl _
end New
end Jvm.RoadKit
namespace Jvm.Pilot.@@N@@
open Jvm Jvm.ClassFile Sem Op Lib Jvm.Free Jvm.Stand Jvm.LawKit Jvm.RoadKit Bundle Jvm.Pilot.@@N@@.Jvm.D
/-- what a body that writes nothing leaves -/
def QN (w : Option Value) (h0 : Heap) (n0 : Nat) (v : Option Value) (h : Heap) (L : List Loc) : Prop := v = w ∧ Fr n0 L ∧ h = h0
theorem own_ltI {a b : Int32} (h : a.toInt < b.toInt) : a < b := Int32.lt_iff_toInt_lt.mpr h
theorem own_geI {a b : Int32} (h : b.toInt ≤ a.toInt) : ¬ a < b := fun q => by have := Int32.lt_iff_toInt_lt.mp q; omega
theorem own_eqI {a b : Int32} (h : a.toInt = b.toInt) : a = b := Int32.toInt_inj.mp h
theorem own_neI {a b : Int32} (h : a.toInt ≠ b.toInt) : ¬ a = b := fun q => h (congrArg _ q)
theorem own_ltL {a b : Int64} (h : a.toInt < b.toInt) : a < b := Int64.lt_iff_toInt_lt.mpr h
theorem own_geL {a b : Int64} (h : b.toInt ≤ a.toInt) : ¬ a < b := fun q => by have := Int64.lt_iff_toInt_lt.mp q; omega
theorem own_eqL {a b : Int64} (h : a.toInt = b.toInt) : a = b := Int64.toInt_inj.mp h
theorem own_neL {a b : Int64} (h : a.toInt ≠ b.toInt) : ¬ a = b := fun q => h (congrArg _ q)
theorem own_irrI (a : Int32) : ¬ a < a := own_geI (by omega)
theorem own_irrL (a : Int64) : ¬ a < a := own_geL (by omega)
theorem own_irem (x y : Int32) : x - (x / y) * y = x % y := by
  apply Int32.toInt_inj.mp
  have h1 := Int32.le_toInt (x % y)
  have h2 := Int32.toInt_lt (x % y)
  rw [Int32.toInt_sub, Int32.toInt_mul, Int32.toInt_div, Int.bmod_mul_bmod, Int.sub_bmod_bmod, Int.mul_comm (x.toInt.tdiv y.toInt), ← Int.tmod_def, ← Int32.toInt_mod]
  exact Int.bmod_eq_of_le_mul_two (by omega) (by omega)
theorem own_fld {args : Array Value} {s : State} {t : Term} {n : Int32} (h : (Cond.eq t (.int n)).value args s none s [] = some true) : t.eval args s none [] s = some (.int n) := by
  obtain ⟨x, y, h1, h2, k1, k2⟩ := cmp_v (Or.inl h)
  have h3 : y = .int n := (Option.some.inj h2).symm
  subst h3
  obtain ⟨z, rfl⟩ := k2
  have h4 := gotT (Cond.eq_ints h1 h2) h
  rw [h1, h4]
theorem own_fldL {args : Array Value} {s : State} {t : Term} {n : Int64} (h : (Cond.eq t (.long n)).value args s none s [] = some true) : t.eval args s none [] s = some (.long n) := by
  obtain ⟨x, y, h1, h2, k1, k2⟩ := cmp_v (Or.inl h)
  have h3 : y = .long n := (Option.some.inj h2).symm
  subst h3
  obtain ⟨z, rfl⟩ := k2
  have h4 := gotT (eq_L h1 h2) h
  rw [h1, h4]
theorem own_ne {args : Array Value} {s : State} {t u : Term} {a b : Addr} {C n d : String} {i j : Int32} (ht : t.eval args s none [] s = some (.ref a)) (hu : u.eval args s none [] s = some (.ref b)) (h1 : (Cond.eq (.field t C n d) (.int i)).value args s none s [] = some true) (h2 : (Cond.eq (.field u C n d) (.int j)).value args s none s [] = some true) (hij : i ≠ j) : ¬ a = b := fun q => by
  subst q
  have e1 := own_fld h1
  have e2 := own_fld h2
  rw [fld_at ht] at e1
  rw [fld_at hu, e1] at e2
  exact hij (Value.int.inj (Option.some.inj e2))

def QC (Z : State) (a1 a2 : Addr) (h0 : Heap) (n0 : Nat) (v : Option Value) (h : Heap) (L : List Loc) : Prop := v = none ∧ Fr n0 L ∧ Keep h0 h [a1] ∧ Exa Z h a1 "com/example/toll/toll/wire/WireReader" ∧ Fld Z h a1 "com/example/toll/toll/wire/WireReader" "input" "[B" (.ref a2) ∧ Fld Z h a1 "com/example/toll/toll/wire/WireReader" "position" "I" (.int (0 : Int32))
theorem pn_1 : plainName "com/example/toll/toll/wire/WireReader" = true := by first | (simp [plainName, overriddenIn]; done) | decide +kernel
theorem ef_1 (m : MethodId) (x0 : Addr) (x1 : Addr) : entryFrame m #[(.ref x0), (.ref x1)] 2 = mkF m 0 #[.val (.ref x0), .val (.ref x1)] [] := by first | (simp [entryFrame, mkF, argsToLocals, Value.category]; done) | rfl
theorem d1_0 : decode prog_33_method_1_code 0 = .ok (.aload_n 0, 1) := by decide +kernel
theorem d1_1 : decode prog_33_method_1_code 1 = .ok (.invokespecial 1, 3) := by decide +kernel
theorem d1_4 : decode prog_33_method_1_code 4 = .ok (.aload_n 0, 1) := by decide +kernel
theorem d1_5 : decode prog_33_method_1_code 5 = .ok (.aload_n 1, 1) := by decide +kernel
theorem d1_6 : decode prog_33_method_1_code 6 = .ok (.putfield 7, 3) := by decide +kernel
theorem d1_9 : decode prog_33_method_1_code 9 = .ok (.return_, 1) := by decide +kernel
set_option maxRecDepth 65536 in
set_option maxHeartbeats 40000000 in
theorem rmC (l : Launch) (Z : State) (a0 : Array Value) (hw : ∀ d ∈ tables_1, d.before a0 Z = true) (ws : List Jvm.Cond) (a1 : Addr) (a2 : Addr) (h0 : Heap) (n0 : Nat) (Z0 : n0 ≤ h0.size) (E_a1 : Exa Z h0 a1 "com/example/toll/toll/wire/WireReader") (F_input_a1 : Fld Z h0 a1 "com/example/toll/toll/wire/WireReader" "input" "[B" .null) (F_position_a1 : Fld Z h0 a1 "com/example/toll/toll/wire/WireReader" "position" "I" (.int (0 : Int32))) (g_a1 : n0 ≤ a1) :
    MetFree l (⟨"com/example/toll/toll/wire/WireReader", "<init>", "([B)V"⟩ : MethodName) (head1 (Jvm.Cond.code (⟨"com/example/toll/toll/wire/WireReader", "<init>", "([B)V"⟩ : MethodName) prog_33_method_1_code 2 none :: ws) ({ frames := 1, cells := 0, slots := 0, locals := 12 } : Room)) (fun a U => a = #[(.ref a1), (.ref a2)] ∧ Z.Warmed39 U.vm ∧ U.heap = h0) (fun _ _ _ _ _ => True) (fun _ U o U' => ∃ v L, o = .returned v ∧ QC Z a1 a2 h0 n0 v U'.heap L ∧ FrameEnd U o U' L ({ frames := 1, cells := 0, slots := 0, locals := 12 } : Room).cells ({ frames := 1, cells := 0, slots := 0, locals := 12 } : Room).slots) := by
  refine MetFree.of_bodySF (plainFor_of_name pn_1) hisR ?_
  intro p e s m args below meth c s₁ Bd hml0 hP hK
  obtain ⟨rfl, hZ, hh⟩ := hP
  have hx := Bd.exec
  have hby := Bd.bytes
  have hml : c.maxLocals = 2 := hml0
  have hown : s.vm.findClass "com/example/toll/toll/wire/WireReader" = some m.cls := findClass_of_methodNamed Bd.named
  have hnm := (name_of_methodNamed Bd.named Bd.method).1
  have X0 : Stand p l e ({ frames := 1, cells := 0, slots := 0, locals := 12 } : Room) s m #[(.ref a1), (.ref a2)] below meth c s₁ [] 0 0 := Stand.of_body Bd
  have e0 : s₁.heap = h0 := by rw [← hh, Bd.state]; rfl
  have N0 := Fr.nil n0
  have pre0 : ∀ t, Steps p.tables e below (s₁.setTop (mkF m 0 #[.val (.ref a1), .val (.ref a2)] [])) t → Steps p.tables e below (s₁.setTop (entryFrame m #[(.ref a1), (.ref a2)] 2)) t := fun t k => castTop (ef_1 m a1 a2) k
  have K0 : Keep h0 h0 [a1] := Keep.refl _ _
  obtain ⟨T3, X3, e3, st3⟩ := initO X0 hx hZ hown (hw _ (List.mem_of_getElem? (i := 7) rfl)) (hw _ (List.mem_of_getElem? (i := 8) rfl)) (hw _ (List.mem_of_getElem? (i := 9) rfl)) e0 (g := (mkF m 1 #[.val (.ref a1), .val (.ref a2)] [(.ref a1)])) rfl (by rw [hml]; rfl) rfl (hb hby d1_1) (by decide) (W := 0) (by show 2 * 0 + _ ≤ _; exact Nat.le_of_eq rfl) (by decide)
  obtain ⟨T4, h4, X4, e4, W4, st4⟩ := putF X3 hx hZ hown (host := "") (Or.inl (hw _ (List.mem_of_getElem? (i := 10) rfl))) Via.refl e3 F_input_a1 E_a1 (Or.inr ⟨(hw _ (List.mem_of_getElem? (i := 11) rfl)), rfl, hnm⟩) (hw _ (List.mem_of_getElem? (i := 2) rfl)) (ty := (.array .byte)) (by decide) rfl rfl (g := (mkF m 6 #[.val (.ref a1), .val (.ref a2)] [(.ref a2), (.ref a1)])) rfl rfl (hb hby d1_6)
  have E_a1_4 := E_a1.wr W4
  have F_position_a1_4 := F_position_a1.other W4 (Or.inr (slot_ne (Or.inl (hw _ (List.mem_of_getElem? (i := 18) rfl))) (Or.inr (hw _ (List.mem_of_getElem? (i := 11) rfl))) (by decide) (t := .int) (t' := (.array .byte)) (by decide) (by decide)))
  have SZ4 : n0 ≤ h4.size := by rw [W4.size]; exact Z0
  have K4 := K0.wr W4 (Or.inl (List.mem_of_getElem? (i := 0) rfl))
  have N4 := Fr.snoc X4 N0 g_a1
  have F_input_a1_4 := F_input_a1.same W4
  obtain ⟨fs, hr, hrun, hended, hW, hsame⟩ := X4.leave (v := none) (fun _ => rfl) (hlocks := Bd.notSynchronized)
  refine ⟨_, _, pre0 _ ?_, hrun, hended, _, _, rfl, ?_, ⟨_, rfl⟩, hW, hsame.mono (by decide) (by decide)⟩
  · show Steps p.tables e below (s₁.setTop (mkF m 0 #[.val (.ref a1), .val (.ref a2)] [])) _
    refine XS.aloadN X0.here hx rfl (hb hby d1_0) rfl rfl ?_
    show Steps p.tables e below (s₁.setTop (mkF m 1 #[.val (.ref a1), .val (.ref a2)] [(.ref a1)])) _
    refine st3 _ ?_
    show Steps p.tables e below (T3.setTop (mkF m 4 #[.val (.ref a1), .val (.ref a2)] [])) _
    refine XS.aloadN X3.here hx rfl (hb hby d1_4) rfl rfl ?_
    show Steps p.tables e below (T3.setTop (mkF m 5 #[.val (.ref a1), .val (.ref a2)] [(.ref a1)])) _
    refine XS.aloadN X3.here hx rfl (hb hby d1_5) rfl rfl ?_
    show Steps p.tables e below (T3.setTop (mkF m 6 #[.val (.ref a1), .val (.ref a2)] [(.ref a2), (.ref a1)])) _
    refine st4 _ ?_
    show Steps p.tables e below (T4.setTop (mkF m 9 #[.val (.ref a1), .val (.ref a2)] [])) _
    exact X4.returnOut hx Bd.returns (hb hby d1_9) hr
  · show QC Z a1 a2 h0 n0 _ T4.heap _
    rw [e4]
    exact ⟨rfl, N4, K4, E_a1_4, F_input_a1_4, F_position_a1_4⟩
theorem pn_3 : plainName "com/example/toll/toll/wire/WireReader" = true := by first | (simp [plainName, overriddenIn]; done) | decide +kernel
theorem ef_3 (m : MethodId) (x0 : Addr) : entryFrame m #[(.ref x0)] 1 = mkF m 0 #[.val (.ref x0)] [] := by first | (simp [entryFrame, mkF, argsToLocals, Value.category]; done) | rfl
theorem d3_0 : decode prog_33_method_8_code 0 = .ok (.aload_n 0, 1) := by decide +kernel
theorem d3_1 : decode prog_33_method_8_code 1 = .ok (.getfield 48, 3) := by decide +kernel
theorem d3_4 : decode prog_33_method_8_code 4 = .ok (.aload_n 0, 1) := by decide +kernel
theorem d3_5 : decode prog_33_method_8_code 5 = .ok (.getfield 7, 3) := by decide +kernel
theorem d3_8 : decode prog_33_method_8_code 8 = .ok (.arraylength, 1) := by decide +kernel
theorem d3_9 : decode prog_33_method_8_code 9 = .ok (.if_icmp .ne 7, 3) := by decide +kernel
theorem d3_12 : decode prog_33_method_8_code 12 = .ok (.iconst 1, 1) := by decide +kernel
theorem d3_13 : decode prog_33_method_8_code 13 = .ok (.goto 4, 3) := by decide +kernel
theorem d3_17 : decode prog_33_method_8_code 17 = .ok (.ireturn, 1) := by decide +kernel
set_option maxRecDepth 65536 in
set_option maxHeartbeats 40000000 in
theorem rmE1 (l : Launch) (Z : State) (a0 : Array Value) (hw : ∀ d ∈ tables_1, d.before a0 Z = true) (ws : List Jvm.Cond) (a1 : Addr) (u : Addr) (k : ClassId) (nz : Int32) (pos : Int32) (h0 : Heap) (n0 : Nat) (Z0 : n0 ≤ h0.size) (F_input_a1 : Fld Z h0 a1 "com/example/toll/toll/wire/WireReader" "input" "[B" (.ref u)) (F_position_a1 : Fld Z h0 a1 "com/example/toll/toll/wire/WireReader" "position" "I" (.int pos)) (V_u : Arv Z h0 u k .byte nz [] (.int (0 : Int32))) (hp : pos = nz) :
    MetFree l (⟨"com/example/toll/toll/wire/WireReader", "atEnd", "()Z"⟩ : MethodName) (head1 (Jvm.Cond.code (⟨"com/example/toll/toll/wire/WireReader", "atEnd", "()Z"⟩ : MethodName) prog_33_method_8_code 1 (some .boolean) :: ws) ({ frames := 0, cells := 0, slots := 0, locals := 0 } : Room)) (fun a U => a = #[(.ref a1)] ∧ Z.Warmed39 U.vm ∧ U.heap = h0) (fun _ _ _ _ _ => True) (fun _ U o U' => ∃ v L, o = .returned v ∧ QN (some (.int (1 : Int32))) h0 n0 v U'.heap L ∧ FrameEnd U o U' L ({ frames := 0, cells := 0, slots := 0, locals := 0 } : Room).cells ({ frames := 0, cells := 0, slots := 0, locals := 0 } : Room).slots) := by
  refine MetFree.of_bodySF (plainFor_of_name pn_3) hisR ?_
  intro p e s m args below meth c s₁ Bd hml0 hP hK
  obtain ⟨rfl, hZ, hh⟩ := hP
  have hx := Bd.exec
  have hby := Bd.bytes
  have hml : c.maxLocals = 1 := hml0
  have hown : s.vm.findClass "com/example/toll/toll/wire/WireReader" = some m.cls := findClass_of_methodNamed Bd.named
  have hnm := (name_of_methodNamed Bd.named Bd.method).1
  have X0 : Stand p l e ({ frames := 0, cells := 0, slots := 0, locals := 0 } : Room) s m #[(.ref a1)] below meth c s₁ [] 0 0 := Stand.of_body Bd
  have e0 : s₁.heap = h0 := by rw [← hh, Bd.state]; rfl
  have N0 := Fr.nil n0
  have pre0 : ∀ t, Steps p.tables e below (s₁.setTop (mkF m 0 #[.val (.ref a1)] [])) t → Steps p.tables e below (s₁.setTop (entryFrame m #[(.ref a1)] 1)) t := fun t k => castTop (ef_3 m a1) k
  obtain ⟨T2, X2, e2, st2⟩ := getF X0 hx hZ hown (host := "") (Or.inl (hw _ (List.mem_of_getElem? (i := 17) rfl))) Via.refl e0 F_position_a1 (g := (mkF m 1 #[.val (.ref a1)] [(.ref a1)])) rfl rfl (hb hby d3_1)
  obtain ⟨T3, X3, e3, st3⟩ := getF X2 hx hZ hown (host := "") (Or.inl (hw _ (List.mem_of_getElem? (i := 10) rfl))) Via.refl e2 F_input_a1 (g := (mkF m 5 #[.val (.ref a1)] [(.ref a1), (.int pos)])) rfl rfl (hb hby d3_5)
  obtain ⟨clu4, Aru4, -, Su4, Mu4, -, -⟩ := id V_u
  obtain ⟨fs, hr, hrun, hended, hW, hsame⟩ := X3.leave (v := some (.int (1 : Int32))) (fun h => by rw [Bd.returns] at h; cases h) (hlocks := Bd.notSynchronized)
  refine ⟨_, _, pre0 _ ?_, hrun, hended, _, _, rfl, ?_, ⟨_, rfl⟩, hW, hsame.mono (by decide) (by decide)⟩
  · show Steps p.tables e below (s₁.setTop (mkF m 0 #[.val (.ref a1)] [])) _
    refine XS.aloadN X0.here hx rfl (hb hby d3_0) rfl rfl ?_
    show Steps p.tables e below (s₁.setTop (mkF m 1 #[.val (.ref a1)] [(.ref a1)])) _
    refine st2 _ ?_
    show Steps p.tables e below (T2.setTop (mkF m 4 #[.val (.ref a1)] [(.int pos)])) _
    refine XS.aloadN X2.here hx rfl (hb hby d3_4) rfl rfl ?_
    show Steps p.tables e below (T2.setTop (mkF m 5 #[.val (.ref a1)] [(.ref a1), (.int pos)])) _
    refine st3 _ ?_
    show Steps p.tables e below (T3.setTop (mkF m 8 #[.val (.ref a1)] [(.ref u), (.int pos)])) _
    refine X3.arraylength hx (by rw [e3]; exact Aru4.1) (State.isArrayOf_alike hZ.alike Aru4.2.1) (g := (mkF m 8 #[.val (.ref a1)] [(.ref u), (.int pos)])) rfl rfl (hb hby d3_8) _ ?_
    rw [len_of Su4 Mu4]
    show Steps p.tables e below (T3.setTop (mkF m 9 #[.val (.ref a1)] [(.int nz), (.int pos)])) _
    refine XS.icmpNo X3.here hx rfl (hb hby d3_9) rfl (teq (hp : pos = nz)).2 ?_
    show Steps p.tables e below (T3.setTop (mkF m 12 #[.val (.ref a1)] [])) _
    refine XS.iconst X3.here hx rfl (hb hby d3_12) ?_
    show Steps p.tables e below (T3.setTop (mkF m 13 #[.val (.ref a1)] [(.int (1 : Int32))])) _
    refine XS.goto X3.here hx rfl (pc0 := 13) (pc' := 17) rfl (hb hby d3_13) (by decide) (by decide) ?_
    show Steps p.tables e below (T3.setTop (mkF m 17 #[.val (.ref a1)] [(.int (1 : Int32))])) _
    exact retN X3 hx (t := .boolean) Bd.returns (by simp) (hb hby d3_17) hr
  · show QN (some (.int (1 : Int32))) h0 n0 _ T3.heap _
    rw [e3]
    exact ⟨rfl, N0, rfl⟩
theorem d3_16 : decode prog_33_method_8_code 16 = .ok (.iconst 0, 1) := by decide +kernel
set_option maxRecDepth 65536 in
set_option maxHeartbeats 40000000 in
theorem rmE0 (l : Launch) (Z : State) (a0 : Array Value) (hw : ∀ d ∈ tables_1, d.before a0 Z = true) (ws : List Jvm.Cond) (a1 : Addr) (u : Addr) (k : ClassId) (nz : Int32) (pos : Int32) (h0 : Heap) (n0 : Nat) (Z0 : n0 ≤ h0.size) (F_input_a1 : Fld Z h0 a1 "com/example/toll/toll/wire/WireReader" "input" "[B" (.ref u)) (F_position_a1 : Fld Z h0 a1 "com/example/toll/toll/wire/WireReader" "position" "I" (.int pos)) (V_u : Arv Z h0 u k .byte nz [] (.int (0 : Int32))) (hp : ¬ (pos = nz)) :
    MetFree l (⟨"com/example/toll/toll/wire/WireReader", "atEnd", "()Z"⟩ : MethodName) (head1 (Jvm.Cond.code (⟨"com/example/toll/toll/wire/WireReader", "atEnd", "()Z"⟩ : MethodName) prog_33_method_8_code 1 (some .boolean) :: ws) ({ frames := 0, cells := 0, slots := 0, locals := 0 } : Room)) (fun a U => a = #[(.ref a1)] ∧ Z.Warmed39 U.vm ∧ U.heap = h0) (fun _ _ _ _ _ => True) (fun _ U o U' => ∃ v L, o = .returned v ∧ QN (some (.int (0 : Int32))) h0 n0 v U'.heap L ∧ FrameEnd U o U' L ({ frames := 0, cells := 0, slots := 0, locals := 0 } : Room).cells ({ frames := 0, cells := 0, slots := 0, locals := 0 } : Room).slots) := by
  refine MetFree.of_bodySF (plainFor_of_name pn_3) hisR ?_
  intro p e s m args below meth c s₁ Bd hml0 hP hK
  obtain ⟨rfl, hZ, hh⟩ := hP
  have hx := Bd.exec
  have hby := Bd.bytes
  have hml : c.maxLocals = 1 := hml0
  have hown : s.vm.findClass "com/example/toll/toll/wire/WireReader" = some m.cls := findClass_of_methodNamed Bd.named
  have hnm := (name_of_methodNamed Bd.named Bd.method).1
  have X0 : Stand p l e ({ frames := 0, cells := 0, slots := 0, locals := 0 } : Room) s m #[(.ref a1)] below meth c s₁ [] 0 0 := Stand.of_body Bd
  have e0 : s₁.heap = h0 := by rw [← hh, Bd.state]; rfl
  have N0 := Fr.nil n0
  have pre0 : ∀ t, Steps p.tables e below (s₁.setTop (mkF m 0 #[.val (.ref a1)] [])) t → Steps p.tables e below (s₁.setTop (entryFrame m #[(.ref a1)] 1)) t := fun t k => castTop (ef_3 m a1) k
  obtain ⟨T2, X2, e2, st2⟩ := getF X0 hx hZ hown (host := "") (Or.inl (hw _ (List.mem_of_getElem? (i := 17) rfl))) Via.refl e0 F_position_a1 (g := (mkF m 1 #[.val (.ref a1)] [(.ref a1)])) rfl rfl (hb hby d3_1)
  obtain ⟨T3, X3, e3, st3⟩ := getF X2 hx hZ hown (host := "") (Or.inl (hw _ (List.mem_of_getElem? (i := 10) rfl))) Via.refl e2 F_input_a1 (g := (mkF m 5 #[.val (.ref a1)] [(.ref a1), (.int pos)])) rfl rfl (hb hby d3_5)
  obtain ⟨clu4, Aru4, -, Su4, Mu4, -, -⟩ := id V_u
  obtain ⟨fs, hr, hrun, hended, hW, hsame⟩ := X3.leave (v := some (.int (0 : Int32))) (fun h => by rw [Bd.returns] at h; cases h) (hlocks := Bd.notSynchronized)
  refine ⟨_, _, pre0 _ ?_, hrun, hended, _, _, rfl, ?_, ⟨_, rfl⟩, hW, hsame.mono (by decide) (by decide)⟩
  · show Steps p.tables e below (s₁.setTop (mkF m 0 #[.val (.ref a1)] [])) _
    refine XS.aloadN X0.here hx rfl (hb hby d3_0) rfl rfl ?_
    show Steps p.tables e below (s₁.setTop (mkF m 1 #[.val (.ref a1)] [(.ref a1)])) _
    refine st2 _ ?_
    show Steps p.tables e below (T2.setTop (mkF m 4 #[.val (.ref a1)] [(.int pos)])) _
    refine XS.aloadN X2.here hx rfl (hb hby d3_4) rfl rfl ?_
    show Steps p.tables e below (T2.setTop (mkF m 5 #[.val (.ref a1)] [(.ref a1), (.int pos)])) _
    refine st3 _ ?_
    show Steps p.tables e below (T3.setTop (mkF m 8 #[.val (.ref a1)] [(.ref u), (.int pos)])) _
    refine X3.arraylength hx (by rw [e3]; exact Aru4.1) (State.isArrayOf_alike hZ.alike Aru4.2.1) (g := (mkF m 8 #[.val (.ref a1)] [(.ref u), (.int pos)])) rfl rfl (hb hby d3_8) _ ?_
    rw [len_of Su4 Mu4]
    show Steps p.tables e below (T3.setTop (mkF m 9 #[.val (.ref a1)] [(.int nz), (.int pos)])) _
    refine XS.icmpYes X3.here hx rfl (pc0 := 9) (pc' := 16) rfl (hb hby d3_9) rfl (feq (hp : ¬ (pos = nz))).2 (by decide) (by decide) ?_
    show Steps p.tables e below (T3.setTop (mkF m 16 #[.val (.ref a1)] [])) _
    refine XS.iconst X3.here hx rfl (hb hby d3_16) ?_
    show Steps p.tables e below (T3.setTop (mkF m 17 #[.val (.ref a1)] [(.int (0 : Int32))])) _
    exact retN X3 hx (t := .boolean) Bd.returns (by simp) (hb hby d3_17) hr
  · show QN (some (.int (0 : Int32))) h0 n0 _ T3.heap _
    rw [e3]
    exact ⟨rfl, N0, rfl⟩
theorem d6_0 : decode jdk_35_method_42_code 0 = .ok (.lload_n 0, 1) := by decide +kernel
theorem d6_1 : decode jdk_35_method_42_code 1 = .ok (.lload_n 2, 1) := by decide +kernel
theorem d6_2 : decode jdk_35_method_42_code 2 = .ok (.lcmp, 1) := by decide +kernel
theorem d6_3 : decode jdk_35_method_42_code 3 = .ok (.ifCond .ge 7, 3) := by decide +kernel
theorem d6_6 : decode jdk_35_method_42_code 6 = .ok (.iconst (-1), 1) := by decide +kernel
theorem d6_7 : decode jdk_35_method_42_code 7 = .ok (.goto 14, 3) := by decide +kernel
theorem d6_21 : decode jdk_35_method_42_code 21 = .ok (.ireturn, 1) := by decide +kernel
theorem pn_6 : plainName "java/lang/Long" = true := by first | (simp [plainName, overriddenIn]; done) | decide +kernel
theorem ef_6 (m : MethodId) (x0 : Int64) (x1 : Int64) : entryFrame m #[(.long x0), (.long x1)] 4 = mkF m 0 #[.val (.long x0), .second, .val (.long x1), .second] [] := by first | (simp [entryFrame, mkF, argsToLocals, Value.category]; done) | rfl
set_option maxRecDepth 65536 in
set_option maxHeartbeats 40000000 in
theorem rm6_lt (l : Launch) (Z : State) (a0 : Array Value) (hw : ∀ d ∈ tables_1, d.before a0 Z = true) (ws : List Jvm.Cond) (q1 : Int64) (q2 : Int64) (h0 : Heap) (n0 : Nat) (Z0 : n0 ≤ h0.size) (hc3 : q1 < q2) :
    MetFree l (⟨"java/lang/Long", "compare", "(JJ)I"⟩ : MethodName) (head1 (Jvm.Cond.code (⟨"java/lang/Long", "compare", "(JJ)I"⟩ : MethodName) jdk_35_method_42_code 4 (some .int) :: ws) ({ frames := 0, cells := 0, slots := 0, locals := 0 } : Room)) (fun a U => a = #[(.long q1), (.long q2)] ∧ Z.Warmed39 U.vm ∧ U.heap = h0) (fun _ _ _ _ _ => True) (fun _ U o U' => ∃ v L, o = .returned v ∧ QN (some (.int (-1 : Int32))) h0 n0 v U'.heap L ∧ FrameEnd U o U' L ({ frames := 0, cells := 0, slots := 0, locals := 0 } : Room).cells ({ frames := 0, cells := 0, slots := 0, locals := 0 } : Room).slots) := by
  refine MetFree.of_bodySF (plainFor_of_name pn_6) hisR ?_
  intro p e s m args below meth c s₁ Bd hml0 hP hK
  obtain ⟨rfl, hZ, hh⟩ := hP
  have hx := Bd.exec
  have hby := Bd.bytes
  have hml : c.maxLocals = 4 := hml0
  have hown : s.vm.findClass "java/lang/Long" = some m.cls := findClass_of_methodNamed Bd.named
  have hnm := (name_of_methodNamed Bd.named Bd.method).1
  have X0 : Stand p l e ({ frames := 0, cells := 0, slots := 0, locals := 0 } : Room) s m #[(.long q1), (.long q2)] below meth c s₁ [] 0 0 := Stand.of_body Bd
  have e0 : s₁.heap = h0 := by rw [← hh, Bd.state]; rfl
  have N0 := Fr.nil n0
  have pre0 : ∀ t, Steps p.tables e below (s₁.setTop (mkF m 0 #[.val (.long q1), .second, .val (.long q2), .second] [])) t → Steps p.tables e below (s₁.setTop (entryFrame m #[(.long q1), (.long q2)] 4)) t := fun t k => castTop (ef_6 m q1 q2) k
  obtain ⟨fs, hr, hrun, hended, hW, hsame⟩ := X0.leave (v := some (.int (-1 : Int32))) (fun h => by rw [Bd.returns] at h; cases h) (hlocks := Bd.notSynchronized)
  refine ⟨_, _, pre0 _ ?_, hrun, hended, _, _, rfl, ?_, ⟨_, rfl⟩, hW, hsame.mono (by decide) (by decide)⟩
  · show Steps p.tables e below (s₁.setTop (mkF m 0 #[.val (.long q1), .second, .val (.long q2), .second] [])) _
    refine XS.lloadN X0.here hx rfl (hb hby d6_0) rfl ?_
    show Steps p.tables e below (s₁.setTop (mkF m 1 #[.val (.long q1), .second, .val (.long q2), .second] [(.long q1)])) _
    refine XS.lloadN X0.here hx rfl (hb hby d6_1) rfl ?_
    show Steps p.tables e below (s₁.setTop (mkF m 2 #[.val (.long q1), .second, .val (.long q2), .second] [(.long q2), (.long q1)])) _
    refine XS.lcmp X0.here hx rfl (hb hby d6_2) rfl ?_
    show Steps p.tables e below (s₁.setTop (mkF m 3 #[.val (.long q1), .second, .val (.long q2), .second] [(.int (lcmpW q1 q2))])) _
    refine XS.ifNo X0.here hx rfl (hb hby d6_3) rfl ((if0 _ _).trans (tlt ((lw_lt _ _).mpr hc3)).2.1) ?_
    show Steps p.tables e below (s₁.setTop (mkF m 6 #[.val (.long q1), .second, .val (.long q2), .second] [])) _
    refine XS.iconst X0.here hx rfl (hb hby d6_6) ?_
    show Steps p.tables e below (s₁.setTop (mkF m 7 #[.val (.long q1), .second, .val (.long q2), .second] [(.int (-1 : Int32))])) _
    refine XS.goto X0.here hx rfl (pc0 := 7) (pc' := 21) rfl (hb hby d6_7) (by decide) (by decide) ?_
    show Steps p.tables e below (s₁.setTop (mkF m 21 #[.val (.long q1), .second, .val (.long q2), .second] [(.int (-1 : Int32))])) _
    exact retI X0 hx Bd.returns (hb hby d6_21) hr
  · exact ⟨rfl, N0, e0⟩
theorem d6_10 : decode jdk_35_method_42_code 10 = .ok (.lload_n 0, 1) := by decide +kernel
theorem d6_11 : decode jdk_35_method_42_code 11 = .ok (.lload_n 2, 1) := by decide +kernel
theorem d6_12 : decode jdk_35_method_42_code 12 = .ok (.lcmp, 1) := by decide +kernel
theorem d6_13 : decode jdk_35_method_42_code 13 = .ok (.ifCond .ne 7, 3) := by decide +kernel
theorem d6_16 : decode jdk_35_method_42_code 16 = .ok (.iconst 0, 1) := by decide +kernel
theorem d6_17 : decode jdk_35_method_42_code 17 = .ok (.goto 4, 3) := by decide +kernel
set_option maxRecDepth 65536 in
set_option maxHeartbeats 40000000 in
theorem rm6_eq (l : Launch) (Z : State) (a0 : Array Value) (hw : ∀ d ∈ tables_1, d.before a0 Z = true) (ws : List Jvm.Cond) (q1 : Int64) (q2 : Int64) (h0 : Heap) (n0 : Nat) (Z0 : n0 ≤ h0.size) (hc3 : ¬ (q1 < q2)) (hc13 : q1 = q2) :
    MetFree l (⟨"java/lang/Long", "compare", "(JJ)I"⟩ : MethodName) (head1 (Jvm.Cond.code (⟨"java/lang/Long", "compare", "(JJ)I"⟩ : MethodName) jdk_35_method_42_code 4 (some .int) :: ws) ({ frames := 0, cells := 0, slots := 0, locals := 0 } : Room)) (fun a U => a = #[(.long q1), (.long q2)] ∧ Z.Warmed39 U.vm ∧ U.heap = h0) (fun _ _ _ _ _ => True) (fun _ U o U' => ∃ v L, o = .returned v ∧ QN (some (.int (0 : Int32))) h0 n0 v U'.heap L ∧ FrameEnd U o U' L ({ frames := 0, cells := 0, slots := 0, locals := 0 } : Room).cells ({ frames := 0, cells := 0, slots := 0, locals := 0 } : Room).slots) := by
  refine MetFree.of_bodySF (plainFor_of_name pn_6) hisR ?_
  intro p e s m args below meth c s₁ Bd hml0 hP hK
  obtain ⟨rfl, hZ, hh⟩ := hP
  have hx := Bd.exec
  have hby := Bd.bytes
  have hml : c.maxLocals = 4 := hml0
  have hown : s.vm.findClass "java/lang/Long" = some m.cls := findClass_of_methodNamed Bd.named
  have hnm := (name_of_methodNamed Bd.named Bd.method).1
  have X0 : Stand p l e ({ frames := 0, cells := 0, slots := 0, locals := 0 } : Room) s m #[(.long q1), (.long q2)] below meth c s₁ [] 0 0 := Stand.of_body Bd
  have e0 : s₁.heap = h0 := by rw [← hh, Bd.state]; rfl
  have N0 := Fr.nil n0
  have pre0 : ∀ t, Steps p.tables e below (s₁.setTop (mkF m 0 #[.val (.long q1), .second, .val (.long q2), .second] [])) t → Steps p.tables e below (s₁.setTop (entryFrame m #[(.long q1), (.long q2)] 4)) t := fun t k => castTop (ef_6 m q1 q2) k
  obtain ⟨fs, hr, hrun, hended, hW, hsame⟩ := X0.leave (v := some (.int (0 : Int32))) (fun h => by rw [Bd.returns] at h; cases h) (hlocks := Bd.notSynchronized)
  refine ⟨_, _, pre0 _ ?_, hrun, hended, _, _, rfl, ?_, ⟨_, rfl⟩, hW, hsame.mono (by decide) (by decide)⟩
  · show Steps p.tables e below (s₁.setTop (mkF m 0 #[.val (.long q1), .second, .val (.long q2), .second] [])) _
    refine XS.lloadN X0.here hx rfl (hb hby d6_0) rfl ?_
    show Steps p.tables e below (s₁.setTop (mkF m 1 #[.val (.long q1), .second, .val (.long q2), .second] [(.long q1)])) _
    refine XS.lloadN X0.here hx rfl (hb hby d6_1) rfl ?_
    show Steps p.tables e below (s₁.setTop (mkF m 2 #[.val (.long q1), .second, .val (.long q2), .second] [(.long q2), (.long q1)])) _
    refine XS.lcmp X0.here hx rfl (hb hby d6_2) rfl ?_
    show Steps p.tables e below (s₁.setTop (mkF m 3 #[.val (.long q1), .second, .val (.long q2), .second] [(.int (lcmpW q1 q2))])) _
    refine XS.ifYes X0.here hx rfl (pc0 := 3) (pc' := 10) rfl (hb hby d6_3) rfl ((if0 _ _).trans (flt (mt (lw_lt _ _).mp hc3)).2.1) (by decide) (by decide) ?_
    show Steps p.tables e below (s₁.setTop (mkF m 10 #[.val (.long q1), .second, .val (.long q2), .second] [])) _
    refine XS.lloadN X0.here hx rfl (hb hby d6_10) rfl ?_
    show Steps p.tables e below (s₁.setTop (mkF m 11 #[.val (.long q1), .second, .val (.long q2), .second] [(.long q1)])) _
    refine XS.lloadN X0.here hx rfl (hb hby d6_11) rfl ?_
    show Steps p.tables e below (s₁.setTop (mkF m 12 #[.val (.long q1), .second, .val (.long q2), .second] [(.long q2), (.long q1)])) _
    refine XS.lcmp X0.here hx rfl (hb hby d6_12) rfl ?_
    show Steps p.tables e below (s₁.setTop (mkF m 13 #[.val (.long q1), .second, .val (.long q2), .second] [(.int (lcmpW q1 q2))])) _
    refine XS.ifNo X0.here hx rfl (hb hby d6_13) rfl ((if0 _ _).trans (teq ((lw_eq _ _).mpr hc13)).2) ?_
    show Steps p.tables e below (s₁.setTop (mkF m 16 #[.val (.long q1), .second, .val (.long q2), .second] [])) _
    refine XS.iconst X0.here hx rfl (hb hby d6_16) ?_
    show Steps p.tables e below (s₁.setTop (mkF m 17 #[.val (.long q1), .second, .val (.long q2), .second] [(.int (0 : Int32))])) _
    refine XS.goto X0.here hx rfl (pc0 := 17) (pc' := 21) rfl (hb hby d6_17) (by decide) (by decide) ?_
    show Steps p.tables e below (s₁.setTop (mkF m 21 #[.val (.long q1), .second, .val (.long q2), .second] [(.int (0 : Int32))])) _
    exact retI X0 hx Bd.returns (hb hby d6_21) hr
  · exact ⟨rfl, N0, e0⟩
theorem d5_0 : decode jdk_35_method_43_code 0 = .ok (.lload_n 0, 1) := by decide +kernel
theorem d5_1 : decode jdk_35_method_43_code 1 = .ok (.ldc2_w 168, 3) := by decide +kernel
theorem d5_4 : decode jdk_35_method_43_code 4 = .ok (.ladd, 1) := by decide +kernel
theorem d5_5 : decode jdk_35_method_43_code 5 = .ok (.lload_n 2, 1) := by decide +kernel
theorem d5_6 : decode jdk_35_method_43_code 6 = .ok (.ldc2_w 168, 3) := by decide +kernel
theorem d5_9 : decode jdk_35_method_43_code 9 = .ok (.ladd, 1) := by decide +kernel
theorem d5_10 : decode jdk_35_method_43_code 10 = .ok (.invokestatic 302, 3) := by decide +kernel
theorem pd_0 : parseMethodDescriptor "(JJ)I" = some ⟨[.long, .long], some .int⟩ := by decide +kernel
theorem d5_13 : decode jdk_35_method_43_code 13 = .ok (.ireturn, 1) := by decide +kernel
theorem pn_5 : plainName "java/lang/Long" = true := by first | (simp [plainName, overriddenIn]; done) | decide +kernel
theorem ef_5 (m : MethodId) (x0 : Int64) (x1 : Int64) : entryFrame m #[(.long x0), (.long x1)] 4 = mkF m 0 #[.val (.long x0), .second, .val (.long x1), .second] [] := by first | (simp [entryFrame, mkF, argsToLocals, Value.category]; done) | rfl
set_option maxRecDepth 65536 in
set_option maxHeartbeats 40000000 in
theorem rm5_lt (l : Launch) (Z : State) (a0 : Array Value) (hw : ∀ d ∈ tables_1, d.before a0 Z = true) (ws : List Jvm.Cond) (q1 : Int64) (q2 : Int64) (h0 : Heap) (n0 : Nat) (Z0 : n0 ≤ h0.size) (hc3_c3 : (q1 + (-9223372036854775808 : Int64)) < (q2 + (-9223372036854775808 : Int64))) :
    MetFree l (⟨"java/lang/Long", "compareUnsigned", "(JJ)I"⟩ : MethodName) (head1 (Jvm.Cond.code (⟨"java/lang/Long", "compareUnsigned", "(JJ)I"⟩ : MethodName) jdk_35_method_43_code 4 (some .int) :: ws) ({ frames := 1, cells := 0, slots := 0, locals := 15 } : Room)) (fun a U => a = #[(.long q1), (.long q2)] ∧ Z.Warmed39 U.vm ∧ U.heap = h0) (fun _ _ _ _ _ => True) (fun _ U o U' => ∃ v L, o = .returned v ∧ QN (some (.int (-1 : Int32))) h0 n0 v U'.heap L ∧ FrameEnd U o U' L ({ frames := 1, cells := 0, slots := 0, locals := 15 } : Room).cells ({ frames := 1, cells := 0, slots := 0, locals := 15 } : Room).slots) := by
  refine MetFree.of_bodySF (plainFor_of_name pn_5) hisR ?_
  intro p e s m args below meth c s₁ Bd hml0 hP hK
  obtain ⟨rfl, hZ, hh⟩ := hP
  have hx := Bd.exec
  have hby := Bd.bytes
  have hml : c.maxLocals = 4 := hml0
  have hown : s.vm.findClass "java/lang/Long" = some m.cls := findClass_of_methodNamed Bd.named
  have hnm := (name_of_methodNamed Bd.named Bd.method).1
  have X0 : Stand p l e ({ frames := 1, cells := 0, slots := 0, locals := 15 } : Room) s m #[(.long q1), (.long q2)] below meth c s₁ [] 0 0 := Stand.of_body Bd
  have e0 : s₁.heap = h0 := by rw [← hh, Bd.state]; rfl
  have N0 := Fr.nil n0
  have pre0 : ∀ t, Steps p.tables e below (s₁.setTop (mkF m 0 #[.val (.long q1), .second, .val (.long q2), .second] [])) t → Steps p.tables e below (s₁.setTop (entryFrame m #[(.long q1), (.long q2)] 4)) t := fun t k => castTop (ef_5 m q1 q2) k
  obtain ⟨_, _, ⟨T3, L3, k3, n3⟩, -, X3, ⟨Lc3, hQ3, l3, y3, z3⟩, st3⟩ := Jvm.LawKit.callS X0 hx (y := (⟨"java/lang/Long", "compare", "(JJ)I"⟩ : MethodName)) hown (mvT hZ (hw _ (List.mem_of_getElem? (i := 36) rfl))) (mvT hZ (hw _ (List.mem_of_getElem? (i := 37) rfl))) (mvT hZ (hw _ (List.mem_of_getElem? (i := 33) rfl))) (mvT hZ (hw _ (List.mem_of_getElem? (i := 38) rfl))) (by decide) (backOf (W := 0) (rm6_lt l Z a0 hw [] (q1 + (-9223372036854775808 : Int64)) (q2 + (-9223372036854775808 : Int64)) h0 n0 Z0 hc3_c3) hZ (hw _ (List.mem_of_getElem? (i := 38) rfl)) (hw _ (List.mem_of_getElem? (i := 33) rfl)) (by decide) (by decide)) (g := (mkF m 10 #[.val (.long q1), .second, .val (.long q2), .second] [(.long (q2 + (-9223372036854775808 : Int64))), (.long (q1 + (-9223372036854775808 : Int64)))])) rfl (by rw [hml]; rfl) (argsL := [(.long (q1 + (-9223372036854775808 : Int64))), (.long (q2 + (-9223372036854775808 : Int64)))]) (rest := []) (lenOf pd_0 rfl) rfl (by show 2 * 0 + _ ≤ _; exact Nat.le_of_eq rfl) (hb hby d5_10) (fun _ _ => ⟨rfl, e0, (by decide : 0 + 0 ≤ _), (by decide : 0 + 0 ≤ _)⟩)
  dsimp only [Pt.U, Pt.locs, Pt.cells, Pt.slots] at X3 l3 y3 z3 st3 hQ3
  subst l3 y3 z3
  obtain ⟨rfl, N3q, e3⟩ := hQ3
  have N3 := Fr.app N0 N3q
  obtain ⟨fs, hr, hrun, hended, hW, hsame⟩ := X3.leave (v := some (.int (-1 : Int32))) (fun h => by rw [Bd.returns] at h; cases h) (hlocks := Bd.notSynchronized)
  refine ⟨_, _, pre0 _ ?_, hrun, hended, _, _, rfl, ?_, ⟨_, rfl⟩, hW, hsame.mono (by decide) (by decide)⟩
  · show Steps p.tables e below (s₁.setTop (mkF m 0 #[.val (.long q1), .second, .val (.long q2), .second] [])) _
    refine XS.lloadN X0.here hx rfl (hb hby d5_0) rfl ?_
    show Steps p.tables e below (s₁.setTop (mkF m 1 #[.val (.long q1), .second, .val (.long q2), .second] [(.long q1)])) _
    refine X0.ldc2J hx hown (mvT hZ (hw _ (List.mem_of_getElem? (i := 35) rfl))) (g := (mkF m 1 #[.val (.long q1), .second, .val (.long q2), .second] [(.long q1)])) rfl (hb hby d5_1) ?_
    show Steps p.tables e below (s₁.setTop (mkF m 4 #[.val (.long q1), .second, .val (.long q2), .second] [(.long (-9223372036854775808 : Int64)), (.long q1)])) _
    refine XS.ladd X0.here hx rfl (hb hby d5_4) rfl ?_
    show Steps p.tables e below (s₁.setTop (mkF m 5 #[.val (.long q1), .second, .val (.long q2), .second] [(.long (q1 + (-9223372036854775808 : Int64)))])) _
    refine XS.lloadN X0.here hx rfl (hb hby d5_5) rfl ?_
    show Steps p.tables e below (s₁.setTop (mkF m 6 #[.val (.long q1), .second, .val (.long q2), .second] [(.long q2), (.long (q1 + (-9223372036854775808 : Int64)))])) _
    refine X0.ldc2J hx hown (mvT hZ (hw _ (List.mem_of_getElem? (i := 35) rfl))) (g := (mkF m 6 #[.val (.long q1), .second, .val (.long q2), .second] [(.long q2), (.long (q1 + (-9223372036854775808 : Int64)))])) rfl (hb hby d5_6) ?_
    show Steps p.tables e below (s₁.setTop (mkF m 9 #[.val (.long q1), .second, .val (.long q2), .second] [(.long (-9223372036854775808 : Int64)), (.long q2), (.long (q1 + (-9223372036854775808 : Int64)))])) _
    refine XS.ladd X0.here hx rfl (hb hby d5_9) rfl ?_
    show Steps p.tables e below (s₁.setTop (mkF m 10 #[.val (.long q1), .second, .val (.long q2), .second] [(.long (q2 + (-9223372036854775808 : Int64))), (.long (q1 + (-9223372036854775808 : Int64)))])) _
    refine st3 _ ?_
    show Steps p.tables e below (T3.setTop (mkF m 13 #[.val (.long q1), .second, .val (.long q2), .second] [(.int (-1 : Int32))])) _
    exact retI X3 hx Bd.returns (hb hby d5_13) hr
  · exact ⟨rfl, N3, e3⟩
set_option maxRecDepth 65536 in
set_option maxHeartbeats 40000000 in
theorem rm5_eq (l : Launch) (Z : State) (a0 : Array Value) (hw : ∀ d ∈ tables_1, d.before a0 Z = true) (ws : List Jvm.Cond) (q1 : Int64) (q2 : Int64) (h0 : Heap) (n0 : Nat) (Z0 : n0 ≤ h0.size) (hc3_c3 : ¬ ((q1 + (-9223372036854775808 : Int64)) < (q2 + (-9223372036854775808 : Int64)))) (hc13_c3 : (q1 + (-9223372036854775808 : Int64)) = (q2 + (-9223372036854775808 : Int64))) :
    MetFree l (⟨"java/lang/Long", "compareUnsigned", "(JJ)I"⟩ : MethodName) (head1 (Jvm.Cond.code (⟨"java/lang/Long", "compareUnsigned", "(JJ)I"⟩ : MethodName) jdk_35_method_43_code 4 (some .int) :: ws) ({ frames := 1, cells := 0, slots := 0, locals := 15 } : Room)) (fun a U => a = #[(.long q1), (.long q2)] ∧ Z.Warmed39 U.vm ∧ U.heap = h0) (fun _ _ _ _ _ => True) (fun _ U o U' => ∃ v L, o = .returned v ∧ QN (some (.int (0 : Int32))) h0 n0 v U'.heap L ∧ FrameEnd U o U' L ({ frames := 1, cells := 0, slots := 0, locals := 15 } : Room).cells ({ frames := 1, cells := 0, slots := 0, locals := 15 } : Room).slots) := by
  refine MetFree.of_bodySF (plainFor_of_name pn_5) hisR ?_
  intro p e s m args below meth c s₁ Bd hml0 hP hK
  obtain ⟨rfl, hZ, hh⟩ := hP
  have hx := Bd.exec
  have hby := Bd.bytes
  have hml : c.maxLocals = 4 := hml0
  have hown : s.vm.findClass "java/lang/Long" = some m.cls := findClass_of_methodNamed Bd.named
  have hnm := (name_of_methodNamed Bd.named Bd.method).1
  have X0 : Stand p l e ({ frames := 1, cells := 0, slots := 0, locals := 15 } : Room) s m #[(.long q1), (.long q2)] below meth c s₁ [] 0 0 := Stand.of_body Bd
  have e0 : s₁.heap = h0 := by rw [← hh, Bd.state]; rfl
  have N0 := Fr.nil n0
  have pre0 : ∀ t, Steps p.tables e below (s₁.setTop (mkF m 0 #[.val (.long q1), .second, .val (.long q2), .second] [])) t → Steps p.tables e below (s₁.setTop (entryFrame m #[(.long q1), (.long q2)] 4)) t := fun t k => castTop (ef_5 m q1 q2) k
  obtain ⟨_, _, ⟨T3, L3, k3, n3⟩, -, X3, ⟨Lc3, hQ3, l3, y3, z3⟩, st3⟩ := Jvm.LawKit.callS X0 hx (y := (⟨"java/lang/Long", "compare", "(JJ)I"⟩ : MethodName)) hown (mvT hZ (hw _ (List.mem_of_getElem? (i := 36) rfl))) (mvT hZ (hw _ (List.mem_of_getElem? (i := 37) rfl))) (mvT hZ (hw _ (List.mem_of_getElem? (i := 33) rfl))) (mvT hZ (hw _ (List.mem_of_getElem? (i := 38) rfl))) (by decide) (backOf (W := 0) (rm6_eq l Z a0 hw [] (q1 + (-9223372036854775808 : Int64)) (q2 + (-9223372036854775808 : Int64)) h0 n0 Z0 hc3_c3 hc13_c3) hZ (hw _ (List.mem_of_getElem? (i := 38) rfl)) (hw _ (List.mem_of_getElem? (i := 33) rfl)) (by decide) (by decide)) (g := (mkF m 10 #[.val (.long q1), .second, .val (.long q2), .second] [(.long (q2 + (-9223372036854775808 : Int64))), (.long (q1 + (-9223372036854775808 : Int64)))])) rfl (by rw [hml]; rfl) (argsL := [(.long (q1 + (-9223372036854775808 : Int64))), (.long (q2 + (-9223372036854775808 : Int64)))]) (rest := []) (lenOf pd_0 rfl) rfl (by show 2 * 0 + _ ≤ _; exact Nat.le_of_eq rfl) (hb hby d5_10) (fun _ _ => ⟨rfl, e0, (by decide : 0 + 0 ≤ _), (by decide : 0 + 0 ≤ _)⟩)
  dsimp only [Pt.U, Pt.locs, Pt.cells, Pt.slots] at X3 l3 y3 z3 st3 hQ3
  subst l3 y3 z3
  obtain ⟨rfl, N3q, e3⟩ := hQ3
  have N3 := Fr.app N0 N3q
  obtain ⟨fs, hr, hrun, hended, hW, hsame⟩ := X3.leave (v := some (.int (0 : Int32))) (fun h => by rw [Bd.returns] at h; cases h) (hlocks := Bd.notSynchronized)
  refine ⟨_, _, pre0 _ ?_, hrun, hended, _, _, rfl, ?_, ⟨_, rfl⟩, hW, hsame.mono (by decide) (by decide)⟩
  · show Steps p.tables e below (s₁.setTop (mkF m 0 #[.val (.long q1), .second, .val (.long q2), .second] [])) _
    refine XS.lloadN X0.here hx rfl (hb hby d5_0) rfl ?_
    show Steps p.tables e below (s₁.setTop (mkF m 1 #[.val (.long q1), .second, .val (.long q2), .second] [(.long q1)])) _
    refine X0.ldc2J hx hown (mvT hZ (hw _ (List.mem_of_getElem? (i := 35) rfl))) (g := (mkF m 1 #[.val (.long q1), .second, .val (.long q2), .second] [(.long q1)])) rfl (hb hby d5_1) ?_
    show Steps p.tables e below (s₁.setTop (mkF m 4 #[.val (.long q1), .second, .val (.long q2), .second] [(.long (-9223372036854775808 : Int64)), (.long q1)])) _
    refine XS.ladd X0.here hx rfl (hb hby d5_4) rfl ?_
    show Steps p.tables e below (s₁.setTop (mkF m 5 #[.val (.long q1), .second, .val (.long q2), .second] [(.long (q1 + (-9223372036854775808 : Int64)))])) _
    refine XS.lloadN X0.here hx rfl (hb hby d5_5) rfl ?_
    show Steps p.tables e below (s₁.setTop (mkF m 6 #[.val (.long q1), .second, .val (.long q2), .second] [(.long q2), (.long (q1 + (-9223372036854775808 : Int64)))])) _
    refine X0.ldc2J hx hown (mvT hZ (hw _ (List.mem_of_getElem? (i := 35) rfl))) (g := (mkF m 6 #[.val (.long q1), .second, .val (.long q2), .second] [(.long q2), (.long (q1 + (-9223372036854775808 : Int64)))])) rfl (hb hby d5_6) ?_
    show Steps p.tables e below (s₁.setTop (mkF m 9 #[.val (.long q1), .second, .val (.long q2), .second] [(.long (-9223372036854775808 : Int64)), (.long q2), (.long (q1 + (-9223372036854775808 : Int64)))])) _
    refine XS.ladd X0.here hx rfl (hb hby d5_9) rfl ?_
    show Steps p.tables e below (s₁.setTop (mkF m 10 #[.val (.long q1), .second, .val (.long q2), .second] [(.long (q2 + (-9223372036854775808 : Int64))), (.long (q1 + (-9223372036854775808 : Int64)))])) _
    refine st3 _ ?_
    show Steps p.tables e below (T3.setTop (mkF m 13 #[.val (.long q1), .second, .val (.long q2), .second] [(.int (0 : Int32))])) _
    exact retI X3 hx Bd.returns (hb hby d5_13) hr
  · exact ⟨rfl, N3, e3⟩
theorem d10_0 : decode jdk_65_method_131_code 0 = .ok (.iload_n 1, 1) := by decide +kernel
theorem d10_1 : decode jdk_65_method_131_code 1 = .ok (.iload_n 0, 1) := by decide +kernel
theorem d10_2 : decode jdk_65_method_131_code 2 = .ok (.if_icmp .ge 35, 3) := by decide +kernel
theorem d10_37 : decode jdk_65_method_131_code 37 = .ok (.return_, 1) := by decide +kernel
theorem pn_10 : plainName "java/util/Arrays" = true := by first | (simp [plainName, overriddenIn]; done) | decide +kernel
theorem ef_10 (m : MethodId) (x0 : Int32) (x1 : Int32) : entryFrame m #[(.int x0), (.int x1)] 2 = mkF m 0 #[.val (.int x0), .val (.int x1)] [] := by first | (simp [entryFrame, mkF, argsToLocals, Value.category]; done) | rfl
set_option maxRecDepth 65536 in
set_option maxHeartbeats 40000000 in
theorem rm10_c (l : Launch) (Z : State) (a0 : Array Value) (hw : ∀ d ∈ tables_1, d.before a0 Z = true) (ws : List Jvm.Cond) (p1 : Int32) (p2 : Int32) (h0 : Heap) (n0 : Nat) (Z0 : n0 ≤ h0.size) (hc2 : ¬ (p2 < p1)) :
    MetFree l (⟨"java/util/Arrays", "checkLength", "(II)V"⟩ : MethodName) (head1 (Jvm.Cond.code (⟨"java/util/Arrays", "checkLength", "(II)V"⟩ : MethodName) jdk_65_method_131_code 2 none :: ws) ({ frames := 0, cells := 0, slots := 0, locals := 0 } : Room)) (fun a U => a = #[(.int p1), (.int p2)] ∧ Z.Warmed39 U.vm ∧ U.heap = h0) (fun _ _ _ _ _ => True) (fun _ U o U' => ∃ v L, o = .returned v ∧ QN (none) h0 n0 v U'.heap L ∧ FrameEnd U o U' L ({ frames := 0, cells := 0, slots := 0, locals := 0 } : Room).cells ({ frames := 0, cells := 0, slots := 0, locals := 0 } : Room).slots) := by
  refine MetFree.of_bodySF (plainFor_of_name pn_10) hisR ?_
  intro p e s m args below meth c s₁ Bd hml0 hP hK
  obtain ⟨rfl, hZ, hh⟩ := hP
  have hx := Bd.exec
  have hby := Bd.bytes
  have hml : c.maxLocals = 2 := hml0
  have hown : s.vm.findClass "java/util/Arrays" = some m.cls := findClass_of_methodNamed Bd.named
  have hnm := (name_of_methodNamed Bd.named Bd.method).1
  have X0 : Stand p l e ({ frames := 0, cells := 0, slots := 0, locals := 0 } : Room) s m #[(.int p1), (.int p2)] below meth c s₁ [] 0 0 := Stand.of_body Bd
  have e0 : s₁.heap = h0 := by rw [← hh, Bd.state]; rfl
  have N0 := Fr.nil n0
  have pre0 : ∀ t, Steps p.tables e below (s₁.setTop (mkF m 0 #[.val (.int p1), .val (.int p2)] [])) t → Steps p.tables e below (s₁.setTop (entryFrame m #[(.int p1), (.int p2)] 2)) t := fun t k => castTop (ef_10 m p1 p2) k
  obtain ⟨fs, hr, hrun, hended, hW, hsame⟩ := X0.leave (v := none) (fun _ => rfl) (hlocks := Bd.notSynchronized)
  refine ⟨_, _, pre0 _ ?_, hrun, hended, _, _, rfl, ?_, ⟨_, rfl⟩, hW, hsame.mono (by decide) (by decide)⟩
  · show Steps p.tables e below (s₁.setTop (mkF m 0 #[.val (.int p1), .val (.int p2)] [])) _
    refine XS.iloadN X0.here hx rfl (hb hby d10_0) rfl ?_
    show Steps p.tables e below (s₁.setTop (mkF m 1 #[.val (.int p1), .val (.int p2)] [(.int p2)])) _
    refine XS.iloadN X0.here hx rfl (hb hby d10_1) rfl ?_
    show Steps p.tables e below (s₁.setTop (mkF m 2 #[.val (.int p1), .val (.int p2)] [(.int p1), (.int p2)])) _
    refine XS.icmpYes X0.here hx rfl (pc0 := 2) (pc' := 37) rfl (hb hby d10_2) rfl (flt hc2).2.1 (by decide) (by decide) ?_
    show Steps p.tables e below (s₁.setTop (mkF m 37 #[.val (.int p1), .val (.int p2)] [])) _
    exact X0.returnOut hx Bd.returns (hb hby d10_37) hr
  · exact ⟨rfl, N0, e0⟩
theorem ef_11 (m : MethodId) (x0 : Int32) (x1 : Int32) : entryFrame m #[(.int x0), (.int x1)] 2 = mkF m 0 #[.val (.int x0), .val (.int x1)] [] := by first | (simp [entryFrame, mkF, argsToLocals, Value.category]; done) | rfl
theorem d11_0 : decode jdk_29_method_69_code 0 = .ok (.iload_n 0, 1) := by decide +kernel
theorem d11_1 : decode jdk_29_method_69_code 1 = .ok (.iload_n 1, 1) := by decide +kernel
theorem d11_2 : decode jdk_29_method_69_code 2 = .ok (.if_icmp .gt 7, 3) := by decide +kernel
theorem d11_9 : decode jdk_29_method_69_code 9 = .ok (.iload_n 1, 1) := by decide +kernel
theorem d11_10 : decode jdk_29_method_69_code 10 = .ok (.ireturn, 1) := by decide +kernel
set_option maxRecDepth 65536 in
set_option maxHeartbeats 40000000 in
theorem rmNt (l : Launch) (Z : State) (a0 : Array Value) (hw : ∀ d ∈ tables_1, d.before a0 Z = true) (ws : List Jvm.Cond) (p1 : Int32) (p2 : Int32) (h0 : Heap) (n0 : Nat) (Z0 : n0 ≤ h0.size) (hgt : p2 < p1) :
    MetFree l (⟨"java/lang/Math", "min", "(II)I"⟩ : MethodName) (head1 (Jvm.Cond.code (⟨"java/lang/Math", "min", "(II)I"⟩ : MethodName) jdk_29_method_69_code 2 (some .int) :: ws) ({ frames := 0, cells := 0, slots := 0, locals := 0 } : Room)) (fun a U => a = #[(.int p1), (.int p2)] ∧ Z.Warmed39 U.vm ∧ U.heap = h0) (fun _ _ _ _ _ => True) (fun _ U o U' => ∃ v L, o = .returned v ∧ QN (some (.int p2)) h0 n0 v U'.heap L ∧ FrameEnd U o U' L ({ frames := 0, cells := 0, slots := 0, locals := 0 } : Room).cells ({ frames := 0, cells := 0, slots := 0, locals := 0 } : Room).slots) := by
  refine MetFree.of_bodySF (Jvm.Free.JP.mathPlain rfl (by decide +kernel)) hisR ?_
  intro p e s m args below meth c s₁ Bd hml0 hP hK
  obtain ⟨rfl, hZ, hh⟩ := hP
  have hx := Bd.exec
  have hby := Bd.bytes
  have hml : c.maxLocals = 2 := hml0
  have hown : s.vm.findClass "java/lang/Math" = some m.cls := findClass_of_methodNamed Bd.named
  have hnm := (name_of_methodNamed Bd.named Bd.method).1
  have X0 : Stand p l e ({ frames := 0, cells := 0, slots := 0, locals := 0 } : Room) s m #[(.int p1), (.int p2)] below meth c s₁ [] 0 0 := Stand.of_body Bd
  have e0 : s₁.heap = h0 := by rw [← hh, Bd.state]; rfl
  have N0 := Fr.nil n0
  have pre0 : ∀ t, Steps p.tables e below (s₁.setTop (mkF m 0 #[.val (.int p1), .val (.int p2)] [])) t → Steps p.tables e below (s₁.setTop (entryFrame m #[(.int p1), (.int p2)] 2)) t := fun t k => castTop (ef_11 m p1 p2) k
  obtain ⟨fs, hr, hrun, hended, hW, hsame⟩ := X0.leave (v := some (.int p2)) (fun h => by rw [Bd.returns] at h; cases h) (hlocks := Bd.notSynchronized)
  refine ⟨_, _, pre0 _ ?_, hrun, hended, _, _, rfl, ?_, ⟨_, rfl⟩, hW, hsame.mono (by decide) (by decide)⟩
  · show Steps p.tables e below (s₁.setTop (mkF m 0 #[.val (.int p1), .val (.int p2)] [])) _
    refine XS.iloadN X0.here hx rfl (hb hby d11_0) rfl ?_
    show Steps p.tables e below (s₁.setTop (mkF m 1 #[.val (.int p1), .val (.int p2)] [(.int p1)])) _
    refine XS.iloadN X0.here hx rfl (hb hby d11_1) rfl ?_
    show Steps p.tables e below (s₁.setTop (mkF m 2 #[.val (.int p1), .val (.int p2)] [(.int p2), (.int p1)])) _
    refine XS.icmpYes X0.here hx rfl (pc0 := 2) (pc' := 9) rfl (hb hby d11_2) rfl (tlt (hgt : p2 < p1)).2.2.1 (by decide) (by decide) ?_
    show Steps p.tables e below (s₁.setTop (mkF m 9 #[.val (.int p1), .val (.int p2)] [])) _
    refine XS.iloadN X0.here hx rfl (hb hby d11_9) rfl ?_
    show Steps p.tables e below (s₁.setTop (mkF m 10 #[.val (.int p1), .val (.int p2)] [(.int p2)])) _
    exact retI X0 hx Bd.returns (hb hby d11_10) hr
  · show QN (some (.int p2)) h0 n0 _ s₁.heap _
    rw [e0]
    exact ⟨rfl, N0, rfl⟩
theorem d11_5 : decode jdk_29_method_69_code 5 = .ok (.iload_n 0, 1) := by decide +kernel
theorem d11_6 : decode jdk_29_method_69_code 6 = .ok (.goto 4, 3) := by decide +kernel
set_option maxRecDepth 65536 in
set_option maxHeartbeats 40000000 in
theorem rmNf (l : Launch) (Z : State) (a0 : Array Value) (hw : ∀ d ∈ tables_1, d.before a0 Z = true) (ws : List Jvm.Cond) (p1 : Int32) (p2 : Int32) (h0 : Heap) (n0 : Nat) (Z0 : n0 ≤ h0.size) (hgt : ¬ (p2 < p1)) :
    MetFree l (⟨"java/lang/Math", "min", "(II)I"⟩ : MethodName) (head1 (Jvm.Cond.code (⟨"java/lang/Math", "min", "(II)I"⟩ : MethodName) jdk_29_method_69_code 2 (some .int) :: ws) ({ frames := 0, cells := 0, slots := 0, locals := 0 } : Room)) (fun a U => a = #[(.int p1), (.int p2)] ∧ Z.Warmed39 U.vm ∧ U.heap = h0) (fun _ _ _ _ _ => True) (fun _ U o U' => ∃ v L, o = .returned v ∧ QN (some (.int p1)) h0 n0 v U'.heap L ∧ FrameEnd U o U' L ({ frames := 0, cells := 0, slots := 0, locals := 0 } : Room).cells ({ frames := 0, cells := 0, slots := 0, locals := 0 } : Room).slots) := by
  refine MetFree.of_bodySF (Jvm.Free.JP.mathPlain rfl (by decide +kernel)) hisR ?_
  intro p e s m args below meth c s₁ Bd hml0 hP hK
  obtain ⟨rfl, hZ, hh⟩ := hP
  have hx := Bd.exec
  have hby := Bd.bytes
  have hml : c.maxLocals = 2 := hml0
  have hown : s.vm.findClass "java/lang/Math" = some m.cls := findClass_of_methodNamed Bd.named
  have hnm := (name_of_methodNamed Bd.named Bd.method).1
  have X0 : Stand p l e ({ frames := 0, cells := 0, slots := 0, locals := 0 } : Room) s m #[(.int p1), (.int p2)] below meth c s₁ [] 0 0 := Stand.of_body Bd
  have e0 : s₁.heap = h0 := by rw [← hh, Bd.state]; rfl
  have N0 := Fr.nil n0
  have pre0 : ∀ t, Steps p.tables e below (s₁.setTop (mkF m 0 #[.val (.int p1), .val (.int p2)] [])) t → Steps p.tables e below (s₁.setTop (entryFrame m #[(.int p1), (.int p2)] 2)) t := fun t k => castTop (ef_11 m p1 p2) k
  obtain ⟨fs, hr, hrun, hended, hW, hsame⟩ := X0.leave (v := some (.int p1)) (fun h => by rw [Bd.returns] at h; cases h) (hlocks := Bd.notSynchronized)
  refine ⟨_, _, pre0 _ ?_, hrun, hended, _, _, rfl, ?_, ⟨_, rfl⟩, hW, hsame.mono (by decide) (by decide)⟩
  · show Steps p.tables e below (s₁.setTop (mkF m 0 #[.val (.int p1), .val (.int p2)] [])) _
    refine XS.iloadN X0.here hx rfl (hb hby d11_0) rfl ?_
    show Steps p.tables e below (s₁.setTop (mkF m 1 #[.val (.int p1), .val (.int p2)] [(.int p1)])) _
    refine XS.iloadN X0.here hx rfl (hb hby d11_1) rfl ?_
    show Steps p.tables e below (s₁.setTop (mkF m 2 #[.val (.int p1), .val (.int p2)] [(.int p2), (.int p1)])) _
    refine XS.icmpNo X0.here hx rfl (hb hby d11_2) rfl (flt (hgt : ¬ (p2 < p1))).2.2.1 ?_
    show Steps p.tables e below (s₁.setTop (mkF m 5 #[.val (.int p1), .val (.int p2)] [])) _
    refine XS.iloadN X0.here hx rfl (hb hby d11_5) rfl ?_
    show Steps p.tables e below (s₁.setTop (mkF m 6 #[.val (.int p1), .val (.int p2)] [(.int p1)])) _
    refine XS.goto X0.here hx rfl (pc0 := 6) (pc' := 10) rfl (hb hby d11_6) (by decide) (by decide) ?_
    show Steps p.tables e below (s₁.setTop (mkF m 10 #[.val (.int p1), .val (.int p2)] [(.int p1)])) _
    exact retI X0 hx Bd.returns (hb hby d11_10) hr
  · show QN (some (.int p1)) h0 n0 _ s₁.heap _
    rw [e0]
    exact ⟨rfl, N0, rfl⟩
def QY (Z : State) (h0 : Heap) (n0 : Nat) (v : Option Value) (h : Heap) (L : List Loc) : Prop := ∃ b : Addr, v = some (.ref b) ∧ Fr n0 L ∧ Keep h0 h []
theorem pn_9 : plainName "java/util/Arrays" = true := by first | (simp [plainName, overriddenIn]; done) | decide +kernel
theorem ef_9 (m : MethodId) (x0 : Addr) (x1 : Int32) (x2 : Int32) : entryFrame m #[(.ref x0), (.int x1), (.int x2)] 5 = mkF m 0 #[.val (.ref x0), .val (.int x1), .val (.int x2), .unset, .unset] [] := by first | (simp [entryFrame, mkF, argsToLocals, Value.category]; done) | rfl
theorem d9_0 : decode jdk_65_method_133_code 0 = .ok (.iload_n 1, 1) := by decide +kernel
theorem d9_1 : decode jdk_65_method_133_code 1 = .ok (.iload_n 2, 1) := by decide +kernel
theorem d9_2 : decode jdk_65_method_133_code 2 = .ok (.invokestatic 343, 3) := by decide +kernel
theorem pd_1 : parseMethodDescriptor "(II)V" = some ⟨[.int, .int], none⟩ := by decide +kernel
theorem d9_5 : decode jdk_65_method_133_code 5 = .ok (.iload_n 2, 1) := by decide +kernel
theorem d9_6 : decode jdk_65_method_133_code 6 = .ok (.iload_n 1, 1) := by decide +kernel
theorem d9_7 : decode jdk_65_method_133_code 7 = .ok (.isub, 1) := by decide +kernel
theorem d9_8 : decode jdk_65_method_133_code 8 = .ok (.istore_n 3, 1) := by decide +kernel
theorem d9_9 : decode jdk_65_method_133_code 9 = .ok (.iload_n 3, 1) := by decide +kernel
theorem d9_10 : decode jdk_65_method_133_code 10 = .ok (.newarray .byte, 2) := by decide +kernel
theorem d9_12 : decode jdk_65_method_133_code 12 = .ok (.astore 4, 2) := by decide +kernel
theorem d9_14 : decode jdk_65_method_133_code 14 = .ok (.aload_n 0, 1) := by decide +kernel
theorem d9_15 : decode jdk_65_method_133_code 15 = .ok (.iload_n 1, 1) := by decide +kernel
theorem d9_16 : decode jdk_65_method_133_code 16 = .ok (.aload 4, 2) := by decide +kernel
theorem d9_18 : decode jdk_65_method_133_code 18 = .ok (.iconst 0, 1) := by decide +kernel
theorem d9_19 : decode jdk_65_method_133_code 19 = .ok (.aload_n 0, 1) := by decide +kernel
theorem d9_20 : decode jdk_65_method_133_code 20 = .ok (.arraylength, 1) := by decide +kernel
theorem d9_21 : decode jdk_65_method_133_code 21 = .ok (.iload_n 1, 1) := by decide +kernel
theorem d9_22 : decode jdk_65_method_133_code 22 = .ok (.isub, 1) := by decide +kernel
theorem d9_23 : decode jdk_65_method_133_code 23 = .ok (.iload_n 3, 1) := by decide +kernel
theorem d9_24 : decode jdk_65_method_133_code 24 = .ok (.invokestatic 304, 3) := by decide +kernel
theorem pd_2 : parseMethodDescriptor "(II)I" = some ⟨[.int, .int], some .int⟩ := by decide +kernel
theorem d9_27 : decode jdk_65_method_133_code 27 = .ok (.invokestatic 150, 3) := by decide +kernel
theorem d9_30 : decode jdk_65_method_133_code 30 = .ok (.aload 4, 2) := by decide +kernel
theorem d9_32 : decode jdk_65_method_133_code 32 = .ok (.areturn, 1) := by decide +kernel
set_option maxRecDepth 65536 in
set_option maxHeartbeats 40000000 in
theorem rmRt (l : Launch) (Z : State) (a0 : Array Value) (hw : ∀ d ∈ tables_1, d.before a0 Z = true) (ws : List Jvm.Cond) (a1 : Addr) (p2 : Int32) (p3 : Int32) (k : ClassId) (nz : Int32) (ln : Int32) (rem : Int32) (h0 : Heap) (n0 : Nat) (Z0 : n0 ≤ h0.size) (V_a1 : Arv Z h0 a1 k .byte nz [] (.int (0 : Int32))) (hft : ¬ (p3 < p2)) (hln : (p3 - p2) = ln) (lnn : ¬ ln < 0) (lnc : ln.toNatClampNeg ≤ 8) (hrem : (nz - p2) = rem) (hmin : ln < rem) (p2n : ¬ p2 < 0) (cnn : ¬ ln < 0) (c1 : p2.toNatClampNeg + ln.toNatClampNeg ≤ nz.toNatClampNeg) (c2 : ln.toNatClampNeg ≤ ln.toNatClampNeg) :
    MetFree l (⟨"java/util/Arrays", "copyOfRangeByte", "([BII)[B"⟩ : MethodName) (head1 (Jvm.Cond.code (⟨"java/util/Arrays", "copyOfRangeByte", "([BII)[B"⟩ : MethodName) jdk_65_method_133_code 5 (some (.array .byte)) :: ws) ({ frames := 1, cells := 1, slots := 8, locals := 18 } : Room)) (fun a U => a = #[(.ref a1), (.int p2), (.int p3)] ∧ Z.Warmed39 U.vm ∧ U.heap = h0) (fun _ _ _ _ _ => True) (fun _ U o U' => ∃ v L, o = .returned v ∧ QY Z h0 n0 v U'.heap L ∧ FrameEnd U o U' L ({ frames := 1, cells := 1, slots := 8, locals := 18 } : Room).cells ({ frames := 1, cells := 1, slots := 8, locals := 18 } : Room).slots) := by
  refine MetFree.of_bodySF (plainFor_of_name pn_9) hisR ?_
  intro p e s m args below meth c s₁ Bd hml0 hP hK
  obtain ⟨rfl, hZ, hh⟩ := hP
  have hx := Bd.exec
  have hby := Bd.bytes
  have hml : c.maxLocals = 5 := hml0
  have hown : s.vm.findClass "java/util/Arrays" = some m.cls := findClass_of_methodNamed Bd.named
  have hnm := (name_of_methodNamed Bd.named Bd.method).1
  have X0 : Stand p l e ({ frames := 1, cells := 1, slots := 8, locals := 18 } : Room) s m #[(.ref a1), (.int p2), (.int p3)] below meth c s₁ [] 0 0 := Stand.of_body Bd
  have e0 : s₁.heap = h0 := by rw [← hh, Bd.state]; rfl
  have N0 := Fr.nil n0
  have pre0 : ∀ t, Steps p.tables e below (s₁.setTop (mkF m 0 #[.val (.ref a1), .val (.int p2), .val (.int p3), .unset, .unset] [])) t → Steps p.tables e below (s₁.setTop (entryFrame m #[(.ref a1), (.int p2), (.int p3)] 5)) t := fun t k => castTop (ef_9 m a1 p2 p3) k
  have K0 : Keep h0 h0 [] := Keep.refl _ _
  obtain ⟨_, _, ⟨T4, L4, k4, n4⟩, -, X4, ⟨Lc4, hQ4, l4, y4, z4⟩, st4⟩ := Jvm.LawKit.callS X0 hx (y := (⟨"java/util/Arrays", "checkLength", "(II)V"⟩ : MethodName)) hown (mvT hZ (hw _ (List.mem_of_getElem? (i := 60) rfl))) (mvT hZ (hw _ (List.mem_of_getElem? (i := 61) rfl))) (mvT hZ (hw _ (List.mem_of_getElem? (i := 45) rfl))) (mvT hZ (hw _ (List.mem_of_getElem? (i := 62) rfl))) (by decide) (backOf (W := 0) (rm10_c l Z a0 hw [] p2 p3 h0 n0 Z0 (hft)) hZ (hw _ (List.mem_of_getElem? (i := 62) rfl)) (hw _ (List.mem_of_getElem? (i := 45) rfl)) (by decide) (by decide)) (g := (mkF m 2 #[.val (.ref a1), .val (.int p2), .val (.int p3), .unset, .unset] [(.int p3), (.int p2)])) rfl (by rw [hml]; rfl) (argsL := [(.int p2), (.int p3)]) (rest := []) (lenOf pd_1 rfl) rfl (by show 2 * 0 + _ ≤ _; exact Nat.le_of_eq rfl) (hb hby d9_2) (fun _ _ => ⟨rfl, e0, (by decide : 0 + 0 ≤ _), (by decide : 0 + 0 ≤ _)⟩)
  dsimp only [Pt.U, Pt.locs, Pt.cells, Pt.slots] at X4 l4 y4 z4 st4 hQ4
  subst l4 y4 z4
  obtain ⟨rfl, N4q, e4⟩ := hQ4
  have N4 := Fr.app N0 N4q
  obtain ⟨T5, h5, k5, X5, e5, E5, A5, st5⟩ := newP X4 hx hZ (hw _ (List.mem_of_getElem? (i := 0) rfl)) e4 (g := (mkF m 10 #[.val (.ref a1), .val (.int p2), .val (.int p3), .val (.int ln), .unset] [(.int ln)])) rfl (hb hby d9_10) rfl lnn (cap := 8) lnc (by decide) (by decide) (by decide)
  obtain ⟨b5, g5⟩ : ∃ z, z = h0.size := ⟨_, rfl⟩
  rw [← g5] at A5 st5
  have ne_a1_b5 : a1 ≠ b5 := Nat.ne_of_lt (Nat.lt_of_lt_of_le V_a1.lt (Nat.le_of_eq g5.symm))
  have g_b5 : n0 ≤ b5 := Nat.le_trans Z0 (Nat.le_of_eq g5.symm)
  have sz_b5 : h0.size ≤ b5 := Nat.le_of_eq g5.symm
  have s0_b5 : h0.size ≤ b5 := Nat.le_trans K0.1 (Nat.le_of_eq g5.symm)
  have V_a1_5 := V_a1.ext E5
  have SZ5 : n0 ≤ h5.size := Nat.le_trans Z0 E5.1
  have K5 := K0.ext E5
  have V_b5 : Arv Z h5 b5 k5 .byte ln (List.replicate 8 (.int (0 : Int32))) (.int (0 : Int32)) := (Arv.new A5 lnn).pad (pad_rep [] (.int (0 : Int32)) 8)
  obtain ⟨clu6, Aru6, -, Su6, Mu6, -, -⟩ := id V_a1_5
  obtain ⟨_, _, ⟨T7, L7, k7, n7⟩, -, X7, ⟨Lc7, hQ7, l7, y7, z7⟩, st7⟩ := Jvm.LawKit.callS X5 hx (y := (⟨"java/lang/Math", "min", "(II)I"⟩ : MethodName)) hown (mvT hZ (hw _ (List.mem_of_getElem? (i := 63) rfl))) (mvT hZ (hw _ (List.mem_of_getElem? (i := 64) rfl))) (mvT hZ (hw _ (List.mem_of_getElem? (i := 65) rfl))) (mvT hZ (hw _ (List.mem_of_getElem? (i := 66) rfl))) (by decide) (backOf (W := 4) (rmNt l Z a0 hw [] rem ln h5 n0 SZ5 (hmin)) hZ (hw _ (List.mem_of_getElem? (i := 66) rfl)) (hw _ (List.mem_of_getElem? (i := 65) rfl)) (by decide) (by decide)) (g := (mkF m 24 #[.val (.ref a1), .val (.int p2), .val (.int p3), .val (.int ln), .val (.ref b5)] [(.int ln), (.int rem), (.int (0 : Int32)), (.ref b5), (.int p2), (.ref a1)])) rfl (by rw [hml]; rfl) (argsL := [(.int rem), (.int ln)]) (rest := [(.int (0 : Int32)), (.ref b5), (.int p2), (.ref a1)]) (lenOf pd_2 rfl) rfl (by show 2 * 0 + _ ≤ _; exact Nat.le_of_eq rfl) (hb hby d9_24) (fun _ _ => ⟨rfl, e5, (by decide : 1 + 0 ≤ _), (by decide : 8 + 0 ≤ _)⟩)
  dsimp only [Pt.U, Pt.locs, Pt.cells, Pt.slots] at X7 l7 y7 z7 st7 hQ7
  subst l7 y7 z7
  obtain ⟨rfl, N7q, e7⟩ := hQ7
  have N7 := Fr.app N4 N7q
  obtain ⟨T8, h8, L8, X8, e8, N8, KK8, -, st8⟩ := cpA X7 hx hZ hown (hw _ (List.mem_of_getElem? (i := 67) rfl)) (hw _ (List.mem_of_getElem? (i := 70) rfl)) (hw _ (List.mem_of_getElem? (i := 68) rfl)) (hw _ (List.mem_of_getElem? (i := 69) rfl)) e7 V_a1_5 V_b5 (Or.inl ⟨rfl, rfl⟩) p2n (by decide) cnn c1 (by rw [show (0 : Int32).toNatClampNeg = 0 from rfl]; omega) rfl (by rw [show (0 : Int32).toNatClampNeg = 0 from rfl, List.length_replicate]; omega) N7 g_b5 (g := (mkF m 27 #[.val (.ref a1), .val (.int p2), .val (.int p3), .val (.int ln), .val (.ref b5)] [(.int ln), (.int (0 : Int32)), (.ref b5), (.int p2), (.ref a1)])) rfl (by rw [hml]; rfl) rfl (hb hby d9_27) (by decide) (W := 0) (by show 2 * 0 + _ ≤ _; exact Nat.le_of_eq rfl) (by decide)
  have V_a1_8 := V_a1_5.keep KK8 (ninS ne_a1_b5 nin0)
  have SZ8 : n0 ≤ h8.size := Nat.le_trans SZ5 KK8.1
  have K8 := Keep.trans K5 KK8 (allS (Or.inr s0_b5) all0)
  obtain ⟨fs, hr, hrun, hended, hW, hsame⟩ := X8.leave (v := some (.ref b5)) (fun h => by rw [Bd.returns] at h; cases h) (hlocks := Bd.notSynchronized)
  refine ⟨_, _, pre0 _ ?_, hrun, hended, _, _, rfl, ?_, ⟨_, rfl⟩, hW, hsame.mono (by decide) (by decide)⟩
  · show Steps p.tables e below (s₁.setTop (mkF m 0 #[.val (.ref a1), .val (.int p2), .val (.int p3), .unset, .unset] [])) _
    refine XS.iloadN X0.here hx rfl (hb hby d9_0) rfl ?_
    show Steps p.tables e below (s₁.setTop (mkF m 1 #[.val (.ref a1), .val (.int p2), .val (.int p3), .unset, .unset] [(.int p2)])) _
    refine XS.iloadN X0.here hx rfl (hb hby d9_1) rfl ?_
    show Steps p.tables e below (s₁.setTop (mkF m 2 #[.val (.ref a1), .val (.int p2), .val (.int p3), .unset, .unset] [(.int p3), (.int p2)])) _
    refine st4 _ ?_
    show Steps p.tables e below (T4.setTop (mkF m 5 #[.val (.ref a1), .val (.int p2), .val (.int p3), .unset, .unset] [])) _
    refine XS.iloadN X4.here hx rfl (hb hby d9_5) rfl ?_
    show Steps p.tables e below (T4.setTop (mkF m 6 #[.val (.ref a1), .val (.int p2), .val (.int p3), .unset, .unset] [(.int p3)])) _
    refine XS.iloadN X4.here hx rfl (hb hby d9_6) rfl ?_
    show Steps p.tables e below (T4.setTop (mkF m 7 #[.val (.ref a1), .val (.int p2), .val (.int p3), .unset, .unset] [(.int p2), (.int p3)])) _
    refine XS.isub X4.here hx rfl (hb hby d9_7) rfl ?_
    rw [hln]
    show Steps p.tables e below (T4.setTop (mkF m 8 #[.val (.ref a1), .val (.int p2), .val (.int p3), .unset, .unset] [(.int ln)])) _
    refine XS.istoreN X4.here hx rfl (hb hby d9_8) rfl (l' := #[.val (.ref a1), .val (.int p2), .val (.int p3), .val (.int ln), .unset]) rfl ?_
    show Steps p.tables e below (T4.setTop (mkF m 9 #[.val (.ref a1), .val (.int p2), .val (.int p3), .val (.int ln), .unset] [])) _
    refine XS.iloadN X4.here hx rfl (hb hby d9_9) rfl ?_
    show Steps p.tables e below (T4.setTop (mkF m 10 #[.val (.ref a1), .val (.int p2), .val (.int p3), .val (.int ln), .unset] [(.int ln)])) _
    refine st5 _ ?_
    show Steps p.tables e below (T5.setTop (mkF m 12 #[.val (.ref a1), .val (.int p2), .val (.int p3), .val (.int ln), .unset] [(.ref b5)])) _
    refine XS.astore X5.here hx rfl (hb hby d9_12) rfl rfl (l' := #[.val (.ref a1), .val (.int p2), .val (.int p3), .val (.int ln), .val (.ref b5)]) rfl ?_
    show Steps p.tables e below (T5.setTop (mkF m 14 #[.val (.ref a1), .val (.int p2), .val (.int p3), .val (.int ln), .val (.ref b5)] [])) _
    refine XS.aloadN X5.here hx rfl (hb hby d9_14) rfl rfl ?_
    show Steps p.tables e below (T5.setTop (mkF m 15 #[.val (.ref a1), .val (.int p2), .val (.int p3), .val (.int ln), .val (.ref b5)] [(.ref a1)])) _
    refine XS.iloadN X5.here hx rfl (hb hby d9_15) rfl ?_
    show Steps p.tables e below (T5.setTop (mkF m 16 #[.val (.ref a1), .val (.int p2), .val (.int p3), .val (.int ln), .val (.ref b5)] [(.int p2), (.ref a1)])) _
    refine XS.aload X5.here hx rfl (hb hby d9_16) rfl rfl ?_
    show Steps p.tables e below (T5.setTop (mkF m 18 #[.val (.ref a1), .val (.int p2), .val (.int p3), .val (.int ln), .val (.ref b5)] [(.ref b5), (.int p2), (.ref a1)])) _
    refine XS.iconst X5.here hx rfl (hb hby d9_18) ?_
    show Steps p.tables e below (T5.setTop (mkF m 19 #[.val (.ref a1), .val (.int p2), .val (.int p3), .val (.int ln), .val (.ref b5)] [(.int (0 : Int32)), (.ref b5), (.int p2), (.ref a1)])) _
    refine XS.aloadN X5.here hx rfl (hb hby d9_19) rfl rfl ?_
    show Steps p.tables e below (T5.setTop (mkF m 20 #[.val (.ref a1), .val (.int p2), .val (.int p3), .val (.int ln), .val (.ref b5)] [(.ref a1), (.int (0 : Int32)), (.ref b5), (.int p2), (.ref a1)])) _
    refine X5.arraylength hx (by rw [e5]; exact Aru6.1) (State.isArrayOf_alike hZ.alike Aru6.2.1) (g := (mkF m 20 #[.val (.ref a1), .val (.int p2), .val (.int p3), .val (.int ln), .val (.ref b5)] [(.ref a1), (.int (0 : Int32)), (.ref b5), (.int p2), (.ref a1)])) rfl rfl (hb hby d9_20) _ ?_
    rw [len_of Su6 Mu6]
    show Steps p.tables e below (T5.setTop (mkF m 21 #[.val (.ref a1), .val (.int p2), .val (.int p3), .val (.int ln), .val (.ref b5)] [(.int nz), (.int (0 : Int32)), (.ref b5), (.int p2), (.ref a1)])) _
    refine XS.iloadN X5.here hx rfl (hb hby d9_21) rfl ?_
    show Steps p.tables e below (T5.setTop (mkF m 22 #[.val (.ref a1), .val (.int p2), .val (.int p3), .val (.int ln), .val (.ref b5)] [(.int p2), (.int nz), (.int (0 : Int32)), (.ref b5), (.int p2), (.ref a1)])) _
    refine XS.isub X5.here hx rfl (hb hby d9_22) rfl ?_
    rw [hrem]
    show Steps p.tables e below (T5.setTop (mkF m 23 #[.val (.ref a1), .val (.int p2), .val (.int p3), .val (.int ln), .val (.ref b5)] [(.int rem), (.int (0 : Int32)), (.ref b5), (.int p2), (.ref a1)])) _
    refine XS.iloadN X5.here hx rfl (hb hby d9_23) rfl ?_
    show Steps p.tables e below (T5.setTop (mkF m 24 #[.val (.ref a1), .val (.int p2), .val (.int p3), .val (.int ln), .val (.ref b5)] [(.int ln), (.int rem), (.int (0 : Int32)), (.ref b5), (.int p2), (.ref a1)])) _
    refine st7 _ ?_
    show Steps p.tables e below (T7.setTop (mkF m 27 #[.val (.ref a1), .val (.int p2), .val (.int p3), .val (.int ln), .val (.ref b5)] [(.int ln), (.int (0 : Int32)), (.ref b5), (.int p2), (.ref a1)])) _
    refine st8 _ ?_
    show Steps p.tables e below (T8.setTop (mkF m 30 #[.val (.ref a1), .val (.int p2), .val (.int p3), .val (.int ln), .val (.ref b5)] [])) _
    refine XS.aload X8.here hx rfl (hb hby d9_30) rfl rfl ?_
    show Steps p.tables e below (T8.setTop (mkF m 32 #[.val (.ref a1), .val (.int p2), .val (.int p3), .val (.int ln), .val (.ref b5)] [(.ref b5)])) _
    jvm_step X8.here [X8.here.top, hx, (hb hby d9_32), X8.method', Bd.returns, Value.isRef, FieldType.isReference]
    first | (intro acts; rw [hr _ acts rfl rfl rfl]) | rw [hr _ _ rfl rfl rfl]
    exact Steps.refl _
  · show QY Z h0 n0 _ T8.heap _
    rw [e8]
    exact ⟨b5, rfl, N8, K8⟩
set_option maxRecDepth 65536 in
set_option maxHeartbeats 40000000 in
theorem rmRf (l : Launch) (Z : State) (a0 : Array Value) (hw : ∀ d ∈ tables_1, d.before a0 Z = true) (ws : List Jvm.Cond) (a1 : Addr) (p2 : Int32) (p3 : Int32) (k : ClassId) (nz : Int32) (ln : Int32) (rem : Int32) (h0 : Heap) (n0 : Nat) (Z0 : n0 ≤ h0.size) (V_a1 : Arv Z h0 a1 k .byte nz [] (.int (0 : Int32))) (hft : ¬ (p3 < p2)) (hln : (p3 - p2) = ln) (lnn : ¬ ln < 0) (lnc : ln.toNatClampNeg ≤ 8) (hrem : (nz - p2) = rem) (hmin : ¬ (ln < rem)) (p2n : ¬ p2 < 0) (cnn : ¬ rem < 0) (c1 : p2.toNatClampNeg + rem.toNatClampNeg ≤ nz.toNatClampNeg) (c2 : rem.toNatClampNeg ≤ ln.toNatClampNeg) :
    MetFree l (⟨"java/util/Arrays", "copyOfRangeByte", "([BII)[B"⟩ : MethodName) (head1 (Jvm.Cond.code (⟨"java/util/Arrays", "copyOfRangeByte", "([BII)[B"⟩ : MethodName) jdk_65_method_133_code 5 (some (.array .byte)) :: ws) ({ frames := 1, cells := 1, slots := 8, locals := 18 } : Room)) (fun a U => a = #[(.ref a1), (.int p2), (.int p3)] ∧ Z.Warmed39 U.vm ∧ U.heap = h0) (fun _ _ _ _ _ => True) (fun _ U o U' => ∃ v L, o = .returned v ∧ QY Z h0 n0 v U'.heap L ∧ FrameEnd U o U' L ({ frames := 1, cells := 1, slots := 8, locals := 18 } : Room).cells ({ frames := 1, cells := 1, slots := 8, locals := 18 } : Room).slots) := by
  refine MetFree.of_bodySF (plainFor_of_name pn_9) hisR ?_
  intro p e s m args below meth c s₁ Bd hml0 hP hK
  obtain ⟨rfl, hZ, hh⟩ := hP
  have hx := Bd.exec
  have hby := Bd.bytes
  have hml : c.maxLocals = 5 := hml0
  have hown : s.vm.findClass "java/util/Arrays" = some m.cls := findClass_of_methodNamed Bd.named
  have hnm := (name_of_methodNamed Bd.named Bd.method).1
  have X0 : Stand p l e ({ frames := 1, cells := 1, slots := 8, locals := 18 } : Room) s m #[(.ref a1), (.int p2), (.int p3)] below meth c s₁ [] 0 0 := Stand.of_body Bd
  have e0 : s₁.heap = h0 := by rw [← hh, Bd.state]; rfl
  have N0 := Fr.nil n0
  have pre0 : ∀ t, Steps p.tables e below (s₁.setTop (mkF m 0 #[.val (.ref a1), .val (.int p2), .val (.int p3), .unset, .unset] [])) t → Steps p.tables e below (s₁.setTop (entryFrame m #[(.ref a1), (.int p2), (.int p3)] 5)) t := fun t k => castTop (ef_9 m a1 p2 p3) k
  have K0 : Keep h0 h0 [] := Keep.refl _ _
  obtain ⟨_, _, ⟨T4, L4, k4, n4⟩, -, X4, ⟨Lc4, hQ4, l4, y4, z4⟩, st4⟩ := Jvm.LawKit.callS X0 hx (y := (⟨"java/util/Arrays", "checkLength", "(II)V"⟩ : MethodName)) hown (mvT hZ (hw _ (List.mem_of_getElem? (i := 60) rfl))) (mvT hZ (hw _ (List.mem_of_getElem? (i := 61) rfl))) (mvT hZ (hw _ (List.mem_of_getElem? (i := 45) rfl))) (mvT hZ (hw _ (List.mem_of_getElem? (i := 62) rfl))) (by decide) (backOf (W := 0) (rm10_c l Z a0 hw [] p2 p3 h0 n0 Z0 (hft)) hZ (hw _ (List.mem_of_getElem? (i := 62) rfl)) (hw _ (List.mem_of_getElem? (i := 45) rfl)) (by decide) (by decide)) (g := (mkF m 2 #[.val (.ref a1), .val (.int p2), .val (.int p3), .unset, .unset] [(.int p3), (.int p2)])) rfl (by rw [hml]; rfl) (argsL := [(.int p2), (.int p3)]) (rest := []) (lenOf pd_1 rfl) rfl (by show 2 * 0 + _ ≤ _; exact Nat.le_of_eq rfl) (hb hby d9_2) (fun _ _ => ⟨rfl, e0, (by decide : 0 + 0 ≤ _), (by decide : 0 + 0 ≤ _)⟩)
  dsimp only [Pt.U, Pt.locs, Pt.cells, Pt.slots] at X4 l4 y4 z4 st4 hQ4
  subst l4 y4 z4
  obtain ⟨rfl, N4q, e4⟩ := hQ4
  have N4 := Fr.app N0 N4q
  obtain ⟨T5, h5, k5, X5, e5, E5, A5, st5⟩ := newP X4 hx hZ (hw _ (List.mem_of_getElem? (i := 0) rfl)) e4 (g := (mkF m 10 #[.val (.ref a1), .val (.int p2), .val (.int p3), .val (.int ln), .unset] [(.int ln)])) rfl (hb hby d9_10) rfl lnn (cap := 8) lnc (by decide) (by decide) (by decide)
  obtain ⟨b5, g5⟩ : ∃ z, z = h0.size := ⟨_, rfl⟩
  rw [← g5] at A5 st5
  have ne_a1_b5 : a1 ≠ b5 := Nat.ne_of_lt (Nat.lt_of_lt_of_le V_a1.lt (Nat.le_of_eq g5.symm))
  have g_b5 : n0 ≤ b5 := Nat.le_trans Z0 (Nat.le_of_eq g5.symm)
  have sz_b5 : h0.size ≤ b5 := Nat.le_of_eq g5.symm
  have s0_b5 : h0.size ≤ b5 := Nat.le_trans K0.1 (Nat.le_of_eq g5.symm)
  have V_a1_5 := V_a1.ext E5
  have SZ5 : n0 ≤ h5.size := Nat.le_trans Z0 E5.1
  have K5 := K0.ext E5
  have V_b5 : Arv Z h5 b5 k5 .byte ln (List.replicate 8 (.int (0 : Int32))) (.int (0 : Int32)) := (Arv.new A5 lnn).pad (pad_rep [] (.int (0 : Int32)) 8)
  obtain ⟨clu6, Aru6, -, Su6, Mu6, -, -⟩ := id V_a1_5
  obtain ⟨_, _, ⟨T7, L7, k7, n7⟩, -, X7, ⟨Lc7, hQ7, l7, y7, z7⟩, st7⟩ := Jvm.LawKit.callS X5 hx (y := (⟨"java/lang/Math", "min", "(II)I"⟩ : MethodName)) hown (mvT hZ (hw _ (List.mem_of_getElem? (i := 63) rfl))) (mvT hZ (hw _ (List.mem_of_getElem? (i := 64) rfl))) (mvT hZ (hw _ (List.mem_of_getElem? (i := 65) rfl))) (mvT hZ (hw _ (List.mem_of_getElem? (i := 66) rfl))) (by decide) (backOf (W := 4) (rmNf l Z a0 hw [] rem ln h5 n0 SZ5 (hmin)) hZ (hw _ (List.mem_of_getElem? (i := 66) rfl)) (hw _ (List.mem_of_getElem? (i := 65) rfl)) (by decide) (by decide)) (g := (mkF m 24 #[.val (.ref a1), .val (.int p2), .val (.int p3), .val (.int ln), .val (.ref b5)] [(.int ln), (.int rem), (.int (0 : Int32)), (.ref b5), (.int p2), (.ref a1)])) rfl (by rw [hml]; rfl) (argsL := [(.int rem), (.int ln)]) (rest := [(.int (0 : Int32)), (.ref b5), (.int p2), (.ref a1)]) (lenOf pd_2 rfl) rfl (by show 2 * 0 + _ ≤ _; exact Nat.le_of_eq rfl) (hb hby d9_24) (fun _ _ => ⟨rfl, e5, (by decide : 1 + 0 ≤ _), (by decide : 8 + 0 ≤ _)⟩)
  dsimp only [Pt.U, Pt.locs, Pt.cells, Pt.slots] at X7 l7 y7 z7 st7 hQ7
  subst l7 y7 z7
  obtain ⟨rfl, N7q, e7⟩ := hQ7
  have N7 := Fr.app N4 N7q
  obtain ⟨T8, h8, L8, X8, e8, N8, KK8, -, st8⟩ := cpA X7 hx hZ hown (hw _ (List.mem_of_getElem? (i := 67) rfl)) (hw _ (List.mem_of_getElem? (i := 70) rfl)) (hw _ (List.mem_of_getElem? (i := 68) rfl)) (hw _ (List.mem_of_getElem? (i := 69) rfl)) e7 V_a1_5 V_b5 (Or.inl ⟨rfl, rfl⟩) p2n (by decide) cnn c1 (by rw [show (0 : Int32).toNatClampNeg = 0 from rfl]; omega) rfl (by rw [show (0 : Int32).toNatClampNeg = 0 from rfl, List.length_replicate]; omega) N7 g_b5 (g := (mkF m 27 #[.val (.ref a1), .val (.int p2), .val (.int p3), .val (.int ln), .val (.ref b5)] [(.int rem), (.int (0 : Int32)), (.ref b5), (.int p2), (.ref a1)])) rfl (by rw [hml]; rfl) rfl (hb hby d9_27) (by decide) (W := 0) (by show 2 * 0 + _ ≤ _; exact Nat.le_of_eq rfl) (by decide)
  have V_a1_8 := V_a1_5.keep KK8 (ninS ne_a1_b5 nin0)
  have SZ8 : n0 ≤ h8.size := Nat.le_trans SZ5 KK8.1
  have K8 := Keep.trans K5 KK8 (allS (Or.inr s0_b5) all0)
  obtain ⟨fs, hr, hrun, hended, hW, hsame⟩ := X8.leave (v := some (.ref b5)) (fun h => by rw [Bd.returns] at h; cases h) (hlocks := Bd.notSynchronized)
  refine ⟨_, _, pre0 _ ?_, hrun, hended, _, _, rfl, ?_, ⟨_, rfl⟩, hW, hsame.mono (by decide) (by decide)⟩
  · show Steps p.tables e below (s₁.setTop (mkF m 0 #[.val (.ref a1), .val (.int p2), .val (.int p3), .unset, .unset] [])) _
    refine XS.iloadN X0.here hx rfl (hb hby d9_0) rfl ?_
    show Steps p.tables e below (s₁.setTop (mkF m 1 #[.val (.ref a1), .val (.int p2), .val (.int p3), .unset, .unset] [(.int p2)])) _
    refine XS.iloadN X0.here hx rfl (hb hby d9_1) rfl ?_
    show Steps p.tables e below (s₁.setTop (mkF m 2 #[.val (.ref a1), .val (.int p2), .val (.int p3), .unset, .unset] [(.int p3), (.int p2)])) _
    refine st4 _ ?_
    show Steps p.tables e below (T4.setTop (mkF m 5 #[.val (.ref a1), .val (.int p2), .val (.int p3), .unset, .unset] [])) _
    refine XS.iloadN X4.here hx rfl (hb hby d9_5) rfl ?_
    show Steps p.tables e below (T4.setTop (mkF m 6 #[.val (.ref a1), .val (.int p2), .val (.int p3), .unset, .unset] [(.int p3)])) _
    refine XS.iloadN X4.here hx rfl (hb hby d9_6) rfl ?_
    show Steps p.tables e below (T4.setTop (mkF m 7 #[.val (.ref a1), .val (.int p2), .val (.int p3), .unset, .unset] [(.int p2), (.int p3)])) _
    refine XS.isub X4.here hx rfl (hb hby d9_7) rfl ?_
    rw [hln]
    show Steps p.tables e below (T4.setTop (mkF m 8 #[.val (.ref a1), .val (.int p2), .val (.int p3), .unset, .unset] [(.int ln)])) _
    refine XS.istoreN X4.here hx rfl (hb hby d9_8) rfl (l' := #[.val (.ref a1), .val (.int p2), .val (.int p3), .val (.int ln), .unset]) rfl ?_
    show Steps p.tables e below (T4.setTop (mkF m 9 #[.val (.ref a1), .val (.int p2), .val (.int p3), .val (.int ln), .unset] [])) _
    refine XS.iloadN X4.here hx rfl (hb hby d9_9) rfl ?_
    show Steps p.tables e below (T4.setTop (mkF m 10 #[.val (.ref a1), .val (.int p2), .val (.int p3), .val (.int ln), .unset] [(.int ln)])) _
    refine st5 _ ?_
    show Steps p.tables e below (T5.setTop (mkF m 12 #[.val (.ref a1), .val (.int p2), .val (.int p3), .val (.int ln), .unset] [(.ref b5)])) _
    refine XS.astore X5.here hx rfl (hb hby d9_12) rfl rfl (l' := #[.val (.ref a1), .val (.int p2), .val (.int p3), .val (.int ln), .val (.ref b5)]) rfl ?_
    show Steps p.tables e below (T5.setTop (mkF m 14 #[.val (.ref a1), .val (.int p2), .val (.int p3), .val (.int ln), .val (.ref b5)] [])) _
    refine XS.aloadN X5.here hx rfl (hb hby d9_14) rfl rfl ?_
    show Steps p.tables e below (T5.setTop (mkF m 15 #[.val (.ref a1), .val (.int p2), .val (.int p3), .val (.int ln), .val (.ref b5)] [(.ref a1)])) _
    refine XS.iloadN X5.here hx rfl (hb hby d9_15) rfl ?_
    show Steps p.tables e below (T5.setTop (mkF m 16 #[.val (.ref a1), .val (.int p2), .val (.int p3), .val (.int ln), .val (.ref b5)] [(.int p2), (.ref a1)])) _
    refine XS.aload X5.here hx rfl (hb hby d9_16) rfl rfl ?_
    show Steps p.tables e below (T5.setTop (mkF m 18 #[.val (.ref a1), .val (.int p2), .val (.int p3), .val (.int ln), .val (.ref b5)] [(.ref b5), (.int p2), (.ref a1)])) _
    refine XS.iconst X5.here hx rfl (hb hby d9_18) ?_
    show Steps p.tables e below (T5.setTop (mkF m 19 #[.val (.ref a1), .val (.int p2), .val (.int p3), .val (.int ln), .val (.ref b5)] [(.int (0 : Int32)), (.ref b5), (.int p2), (.ref a1)])) _
    refine XS.aloadN X5.here hx rfl (hb hby d9_19) rfl rfl ?_
    show Steps p.tables e below (T5.setTop (mkF m 20 #[.val (.ref a1), .val (.int p2), .val (.int p3), .val (.int ln), .val (.ref b5)] [(.ref a1), (.int (0 : Int32)), (.ref b5), (.int p2), (.ref a1)])) _
    refine X5.arraylength hx (by rw [e5]; exact Aru6.1) (State.isArrayOf_alike hZ.alike Aru6.2.1) (g := (mkF m 20 #[.val (.ref a1), .val (.int p2), .val (.int p3), .val (.int ln), .val (.ref b5)] [(.ref a1), (.int (0 : Int32)), (.ref b5), (.int p2), (.ref a1)])) rfl rfl (hb hby d9_20) _ ?_
    rw [len_of Su6 Mu6]
    show Steps p.tables e below (T5.setTop (mkF m 21 #[.val (.ref a1), .val (.int p2), .val (.int p3), .val (.int ln), .val (.ref b5)] [(.int nz), (.int (0 : Int32)), (.ref b5), (.int p2), (.ref a1)])) _
    refine XS.iloadN X5.here hx rfl (hb hby d9_21) rfl ?_
    show Steps p.tables e below (T5.setTop (mkF m 22 #[.val (.ref a1), .val (.int p2), .val (.int p3), .val (.int ln), .val (.ref b5)] [(.int p2), (.int nz), (.int (0 : Int32)), (.ref b5), (.int p2), (.ref a1)])) _
    refine XS.isub X5.here hx rfl (hb hby d9_22) rfl ?_
    rw [hrem]
    show Steps p.tables e below (T5.setTop (mkF m 23 #[.val (.ref a1), .val (.int p2), .val (.int p3), .val (.int ln), .val (.ref b5)] [(.int rem), (.int (0 : Int32)), (.ref b5), (.int p2), (.ref a1)])) _
    refine XS.iloadN X5.here hx rfl (hb hby d9_23) rfl ?_
    show Steps p.tables e below (T5.setTop (mkF m 24 #[.val (.ref a1), .val (.int p2), .val (.int p3), .val (.int ln), .val (.ref b5)] [(.int ln), (.int rem), (.int (0 : Int32)), (.ref b5), (.int p2), (.ref a1)])) _
    refine st7 _ ?_
    show Steps p.tables e below (T7.setTop (mkF m 27 #[.val (.ref a1), .val (.int p2), .val (.int p3), .val (.int ln), .val (.ref b5)] [(.int rem), (.int (0 : Int32)), (.ref b5), (.int p2), (.ref a1)])) _
    refine st8 _ ?_
    show Steps p.tables e below (T8.setTop (mkF m 30 #[.val (.ref a1), .val (.int p2), .val (.int p3), .val (.int ln), .val (.ref b5)] [])) _
    refine XS.aload X8.here hx rfl (hb hby d9_30) rfl rfl ?_
    show Steps p.tables e below (T8.setTop (mkF m 32 #[.val (.ref a1), .val (.int p2), .val (.int p3), .val (.int ln), .val (.ref b5)] [(.ref b5)])) _
    jvm_step X8.here [X8.here.top, hx, (hb hby d9_32), X8.method', Bd.returns, Value.isRef, FieldType.isReference]
    first | (intro acts; rw [hr _ acts rfl rfl rfl]) | rw [hr _ _ rfl rfl rfl]
    exact Steps.refl _
  · show QY Z h0 n0 _ T8.heap _
    rw [e8]
    exact ⟨b5, rfl, N8, K8⟩
theorem pn_8 : plainName "java/util/Arrays" = true := by first | (simp [plainName, overriddenIn]; done) | decide +kernel
theorem ef_8 (m : MethodId) (x0 : Addr) (x1 : Int32) (x2 : Int32) : entryFrame m #[(.ref x0), (.int x1), (.int x2)] 3 = mkF m 0 #[.val (.ref x0), .val (.int x1), .val (.int x2)] [] := by first | (simp [entryFrame, mkF, argsToLocals, Value.category]; done) | rfl
theorem d8_0 : decode jdk_65_method_132_code 0 = .ok (.iload_n 1, 1) := by decide +kernel
theorem d8_1 : decode jdk_65_method_132_code 1 = .ok (.ifCond .ne 9, 3) := by decide +kernel
theorem d8_4 : decode jdk_65_method_132_code 4 = .ok (.iload_n 2, 1) := by decide +kernel
theorem d8_5 : decode jdk_65_method_132_code 5 = .ok (.aload_n 0, 1) := by decide +kernel
theorem d8_6 : decode jdk_65_method_132_code 6 = .ok (.arraylength, 1) := by decide +kernel
theorem d8_7 : decode jdk_65_method_132_code 7 = .ok (.if_icmp .eq 10, 3) := by decide +kernel
theorem d8_17 : decode jdk_65_method_132_code 17 = .ok (.aload_n 0, 1) := by decide +kernel
theorem d8_18 : decode jdk_65_method_132_code 18 = .ok (.invokevirtual 310, 3) := by decide +kernel
theorem d8_21 : decode jdk_65_method_132_code 21 = .ok (.checkcast 311, 3) := by decide +kernel
theorem d8_24 : decode jdk_65_method_132_code 24 = .ok (.areturn, 1) := by decide +kernel
set_option maxRecDepth 65536 in
set_option maxHeartbeats 40000000 in
theorem rmYc (l : Launch) (Z : State) (a0 : Array Value) (hw : ∀ d ∈ tables_1, d.before a0 Z = true) (ws : List Jvm.Cond) (a1 : Addr) (p2 : Int32) (p3 : Int32) (k : ClassId) (nz : Int32) (h0 : Heap) (n0 : Nat) (Z0 : n0 ≤ h0.size) (V_a1 : Arv Z h0 a1 k .byte nz [] (.int (0 : Int32))) (E_a1 : Exa Z h0 a1 "[B") (nzc : nz.toNatClampNeg ≤ 8) (f0 : p2 = (0 : Int32)) (tn : p3 = nz) :
    MetFree l (⟨"java/util/Arrays", "copyOfRange", "([BII)[B"⟩ : MethodName) (head1 (Jvm.Cond.code (⟨"java/util/Arrays", "copyOfRange", "([BII)[B"⟩ : MethodName) jdk_65_method_132_code 3 (some (.array .byte)) :: ws) ({ frames := 2, cells := 1, slots := 8, locals := 34 } : Room)) (fun a U => a = #[(.ref a1), (.int p2), (.int p3)] ∧ Z.Warmed39 U.vm ∧ U.heap = h0) (fun _ _ _ _ _ => True) (fun _ U o U' => ∃ v L, o = .returned v ∧ QY Z h0 n0 v U'.heap L ∧ FrameEnd U o U' L ({ frames := 2, cells := 1, slots := 8, locals := 34 } : Room).cells ({ frames := 2, cells := 1, slots := 8, locals := 34 } : Room).slots) := by
  refine MetFree.of_bodySF (plainFor_of_name pn_8) hisR ?_
  intro p e s m args below meth c s₁ Bd hml0 hP hK
  obtain ⟨rfl, hZ, hh⟩ := hP
  have hx := Bd.exec
  have hby := Bd.bytes
  have hml : c.maxLocals = 3 := hml0
  have hown : s.vm.findClass "java/util/Arrays" = some m.cls := findClass_of_methodNamed Bd.named
  have hnm := (name_of_methodNamed Bd.named Bd.method).1
  have X0 : Stand p l e ({ frames := 2, cells := 1, slots := 8, locals := 34 } : Room) s m #[(.ref a1), (.int p2), (.int p3)] below meth c s₁ [] 0 0 := Stand.of_body Bd
  have e0 : s₁.heap = h0 := by rw [← hh, Bd.state]; rfl
  have N0 := Fr.nil n0
  have pre0 : ∀ t, Steps p.tables e below (s₁.setTop (mkF m 0 #[.val (.ref a1), .val (.int p2), .val (.int p3)] [])) t → Steps p.tables e below (s₁.setTop (entryFrame m #[(.ref a1), (.int p2), (.int p3)] 3)) t := fun t k => castTop (ef_8 m a1 p2 p3) k
  have K0 : Keep h0 h0 [] := Keep.refl _ _
  obtain ⟨clu4, Aru4, -, Su4, Mu4, -, -⟩ := id V_a1
  obtain ⟨T5, h5, X5, e5, E5, -, B5, st5⟩ := cloneH X0 hx hZ hown (hw _ (List.mem_of_getElem? (i := 47) rfl)) (hw _ (List.mem_of_getElem? (i := 48) rfl)) (hw _ (List.mem_of_getElem? (i := 52) rfl)) (hw _ (List.mem_of_getElem? (i := 50) rfl)) (hw _ (List.mem_of_getElem? (i := 51) rfl)) (hw _ (List.mem_of_getElem? (i := 53) rfl)) e0 (Arv.arh V_a1) E_a1 (g := (mkF m 18 #[.val (.ref a1), .val (.int p2), .val (.int p3)] [(.ref a1)])) rfl (by rw [hml]; rfl) rfl (hb hby d8_18) (by decide) (W := 0) (cap := 8) (by show 2 * 0 + _ ≤ _; exact Nat.le_of_eq rfl) (by decide) nzc (by decide) (by decide)
  obtain ⟨b5, g5⟩ : ∃ z, z = h0.size := ⟨_, rfl⟩
  rw [← g5] at B5 st5
  have ne_a1_b5 : a1 ≠ b5 := Nat.ne_of_lt (Nat.lt_of_lt_of_le V_a1.lt (Nat.le_of_eq g5.symm))
  have g_b5 : n0 ≤ b5 := Nat.le_trans Z0 (Nat.le_of_eq g5.symm)
  have sz_b5 : h0.size ≤ b5 := Nat.le_of_eq g5.symm
  have s0_b5 : h0.size ≤ b5 := Nat.le_trans K0.1 (Nat.le_of_eq g5.symm)
  have V_a1_5 := V_a1.ext E5
  have E_a1_5 := E_a1.ext E5
  have SZ5 : n0 ≤ h5.size := Nat.le_trans Z0 E5.1
  have K5 := K0.ext E5
  have E_b5 := B5
  obtain ⟨T6, X6, e6, st6⟩ := castY X5 hx hZ hown (hw _ (List.mem_of_getElem? (i := 54) rfl)) e5 (Ins.self E_b5) (g := (mkF m 21 #[.val (.ref a1), .val (.int p2), .val (.int p3)] [(.ref b5)])) rfl rfl (hb hby d8_21)
  obtain ⟨fs, hr, hrun, hended, hW, hsame⟩ := X6.leave (v := some (.ref b5)) (fun h => by rw [Bd.returns] at h; cases h) (hlocks := Bd.notSynchronized)
  refine ⟨_, _, pre0 _ ?_, hrun, hended, _, _, rfl, ?_, ⟨_, rfl⟩, hW, hsame.mono (by decide) (by decide)⟩
  · show Steps p.tables e below (s₁.setTop (mkF m 0 #[.val (.ref a1), .val (.int p2), .val (.int p3)] [])) _
    refine XS.iloadN X0.here hx rfl (hb hby d8_0) rfl ?_
    show Steps p.tables e below (s₁.setTop (mkF m 1 #[.val (.ref a1), .val (.int p2), .val (.int p3)] [(.int p2)])) _
    refine XS.ifNo X0.here hx rfl (hb hby d8_1) rfl ((if0 _ _).trans (teq (f0 : p2 = (0 : Int32))).2) ?_
    show Steps p.tables e below (s₁.setTop (mkF m 4 #[.val (.ref a1), .val (.int p2), .val (.int p3)] [])) _
    refine XS.iloadN X0.here hx rfl (hb hby d8_4) rfl ?_
    show Steps p.tables e below (s₁.setTop (mkF m 5 #[.val (.ref a1), .val (.int p2), .val (.int p3)] [(.int p3)])) _
    refine XS.aloadN X0.here hx rfl (hb hby d8_5) rfl rfl ?_
    show Steps p.tables e below (s₁.setTop (mkF m 6 #[.val (.ref a1), .val (.int p2), .val (.int p3)] [(.ref a1), (.int p3)])) _
    refine X0.arraylength hx (by rw [e0]; exact Aru4.1) (State.isArrayOf_alike hZ.alike Aru4.2.1) (g := (mkF m 6 #[.val (.ref a1), .val (.int p2), .val (.int p3)] [(.ref a1), (.int p3)])) rfl rfl (hb hby d8_6) _ ?_
    rw [len_of Su4 Mu4]
    show Steps p.tables e below (s₁.setTop (mkF m 7 #[.val (.ref a1), .val (.int p2), .val (.int p3)] [(.int nz), (.int p3)])) _
    refine XS.icmpYes X0.here hx rfl (pc0 := 7) (pc' := 17) rfl (hb hby d8_7) rfl (teq (tn : p3 = nz)).1 (by decide) (by decide) ?_
    show Steps p.tables e below (s₁.setTop (mkF m 17 #[.val (.ref a1), .val (.int p2), .val (.int p3)] [])) _
    refine XS.aloadN X0.here hx rfl (hb hby d8_17) rfl rfl ?_
    show Steps p.tables e below (s₁.setTop (mkF m 18 #[.val (.ref a1), .val (.int p2), .val (.int p3)] [(.ref a1)])) _
    refine st5 _ ?_
    show Steps p.tables e below (T5.setTop (mkF m 21 #[.val (.ref a1), .val (.int p2), .val (.int p3)] [(.ref b5)])) _
    refine st6 _ ?_
    show Steps p.tables e below (T6.setTop (mkF m 24 #[.val (.ref a1), .val (.int p2), .val (.int p3)] [(.ref b5)])) _
    jvm_step X6.here [X6.here.top, hx, (hb hby d8_24), X6.method', Bd.returns, Value.isRef, FieldType.isReference]
    first | (intro acts; rw [hr _ acts rfl rfl rfl]) | rw [hr _ _ rfl rfl rfl]
    exact Steps.refl _
  · show QY Z h0 n0 _ T6.heap _
    rw [e6]
    exact ⟨b5, rfl, N0, K5⟩
theorem d8_10 : decode jdk_65_method_132_code 10 = .ok (.aload_n 0, 1) := by decide +kernel
theorem d8_11 : decode jdk_65_method_132_code 11 = .ok (.iload_n 1, 1) := by decide +kernel
theorem d8_12 : decode jdk_65_method_132_code 12 = .ok (.iload_n 2, 1) := by decide +kernel
theorem d8_13 : decode jdk_65_method_132_code 13 = .ok (.invokestatic 339, 3) := by decide +kernel
theorem pd_3 : parseMethodDescriptor "([BII)[B" = some ⟨[(.array .byte), .int, .int], some (.array .byte)⟩ := by decide +kernel
theorem d8_16 : decode jdk_65_method_132_code 16 = .ok (.areturn, 1) := by decide +kernel
set_option maxRecDepth 65536 in
set_option maxHeartbeats 40000000 in
theorem rmYt (l : Launch) (Z : State) (a0 : Array Value) (hw : ∀ d ∈ tables_1, d.before a0 Z = true) (ws : List Jvm.Cond) (a1 : Addr) (p2 : Int32) (p3 : Int32) (k : ClassId) (nz : Int32) (ln : Int32) (rem : Int32) (h0 : Heap) (n0 : Nat) (Z0 : n0 ≤ h0.size) (V_a1 : Arv Z h0 a1 k .byte nz [] (.int (0 : Int32))) (hft : ¬ (p3 < p2)) (hln : (p3 - p2) = ln) (lnn : ¬ ln < 0) (lnc : ln.toNatClampNeg ≤ 8) (hrem : (nz - p2) = rem) (hmin : ln < rem) (p2n : ¬ p2 < 0) (cnn : ¬ ln < 0) (c1 : p2.toNatClampNeg + ln.toNatClampNeg ≤ nz.toNatClampNeg) (c2 : ln.toNatClampNeg ≤ ln.toNatClampNeg) (f0 : p2 = (0 : Int32)) (tn : ¬ (p3 = nz)) :
    MetFree l (⟨"java/util/Arrays", "copyOfRange", "([BII)[B"⟩ : MethodName) (head1 (Jvm.Cond.code (⟨"java/util/Arrays", "copyOfRange", "([BII)[B"⟩ : MethodName) jdk_65_method_132_code 3 (some (.array .byte)) :: ws) ({ frames := 2, cells := 1, slots := 8, locals := 34 } : Room)) (fun a U => a = #[(.ref a1), (.int p2), (.int p3)] ∧ Z.Warmed39 U.vm ∧ U.heap = h0) (fun _ _ _ _ _ => True) (fun _ U o U' => ∃ v L, o = .returned v ∧ QY Z h0 n0 v U'.heap L ∧ FrameEnd U o U' L ({ frames := 2, cells := 1, slots := 8, locals := 34 } : Room).cells ({ frames := 2, cells := 1, slots := 8, locals := 34 } : Room).slots) := by
  refine MetFree.of_bodySF (plainFor_of_name pn_8) hisR ?_
  intro p e s m args below meth c s₁ Bd hml0 hP hK
  obtain ⟨rfl, hZ, hh⟩ := hP
  have hx := Bd.exec
  have hby := Bd.bytes
  have hml : c.maxLocals = 3 := hml0
  have hown : s.vm.findClass "java/util/Arrays" = some m.cls := findClass_of_methodNamed Bd.named
  have hnm := (name_of_methodNamed Bd.named Bd.method).1
  have X0 : Stand p l e ({ frames := 2, cells := 1, slots := 8, locals := 34 } : Room) s m #[(.ref a1), (.int p2), (.int p3)] below meth c s₁ [] 0 0 := Stand.of_body Bd
  have e0 : s₁.heap = h0 := by rw [← hh, Bd.state]; rfl
  have N0 := Fr.nil n0
  have pre0 : ∀ t, Steps p.tables e below (s₁.setTop (mkF m 0 #[.val (.ref a1), .val (.int p2), .val (.int p3)] [])) t → Steps p.tables e below (s₁.setTop (entryFrame m #[(.ref a1), (.int p2), (.int p3)] 3)) t := fun t k => castTop (ef_8 m a1 p2 p3) k
  have K0 : Keep h0 h0 [] := Keep.refl _ _
  obtain ⟨clu4, Aru4, -, Su4, Mu4, -, -⟩ := id V_a1
  obtain ⟨_, _, ⟨T5, L5, k5, n5⟩, -, X5, ⟨Lc5, hQ5, l5, y5, z5⟩, st5⟩ := Jvm.LawKit.callS X0 hx (y := (⟨"java/util/Arrays", "copyOfRangeByte", "([BII)[B"⟩ : MethodName)) hown (mvT hZ (hw _ (List.mem_of_getElem? (i := 57) rfl))) (mvT hZ (hw _ (List.mem_of_getElem? (i := 58) rfl))) (mvT hZ (hw _ (List.mem_of_getElem? (i := 45) rfl))) (mvT hZ (hw _ (List.mem_of_getElem? (i := 59) rfl))) (by decide) (backOf (W := 0) (rmRt l Z a0 hw [] a1 p2 p3 k nz ln rem h0 n0 Z0 (V_a1) (hft) (hln) (lnn) (lnc) (hrem) (hmin) (p2n) (cnn) (c1) (c2)) hZ (hw _ (List.mem_of_getElem? (i := 59) rfl)) (hw _ (List.mem_of_getElem? (i := 45) rfl)) (by decide) (by decide)) (g := (mkF m 13 #[.val (.ref a1), .val (.int p2), .val (.int p3)] [(.int p3), (.int p2), (.ref a1)])) rfl (by rw [hml]; rfl) (argsL := [(.ref a1), (.int p2), (.int p3)]) (rest := []) (lenOf pd_3 rfl) rfl (by show 2 * 0 + _ ≤ _; exact Nat.le_of_eq rfl) (hb hby d8_13) (fun _ _ => ⟨rfl, e0, (by decide : 0 + 1 ≤ _), (by decide : 0 + 8 ≤ _)⟩)
  dsimp only [Pt.U, Pt.locs, Pt.cells, Pt.slots] at X5 l5 y5 z5 st5 hQ5
  subst l5 y5 z5
  have e5 : T5.heap = T5.heap := rfl
  obtain ⟨bc5, rfl, N5q, KK5⟩ := hQ5
  have N5 := Fr.app N0 N5q
  have V_a1_5 := V_a1.keep KK5 nin0
  have SZ5 : n0 ≤ T5.heap.size := Nat.le_trans Z0 KK5.1
  have K5 := Keep.trans K0 KK5 all0
  obtain ⟨fs, hr, hrun, hended, hW, hsame⟩ := X5.leave (v := some (.ref bc5)) (fun h => by rw [Bd.returns] at h; cases h) (hlocks := Bd.notSynchronized)
  refine ⟨_, _, pre0 _ ?_, hrun, hended, _, _, rfl, ?_, ⟨_, rfl⟩, hW, hsame.mono (by decide) (by decide)⟩
  · show Steps p.tables e below (s₁.setTop (mkF m 0 #[.val (.ref a1), .val (.int p2), .val (.int p3)] [])) _
    refine XS.iloadN X0.here hx rfl (hb hby d8_0) rfl ?_
    show Steps p.tables e below (s₁.setTop (mkF m 1 #[.val (.ref a1), .val (.int p2), .val (.int p3)] [(.int p2)])) _
    refine XS.ifNo X0.here hx rfl (hb hby d8_1) rfl ((if0 _ _).trans (teq (f0 : p2 = (0 : Int32))).2) ?_
    show Steps p.tables e below (s₁.setTop (mkF m 4 #[.val (.ref a1), .val (.int p2), .val (.int p3)] [])) _
    refine XS.iloadN X0.here hx rfl (hb hby d8_4) rfl ?_
    show Steps p.tables e below (s₁.setTop (mkF m 5 #[.val (.ref a1), .val (.int p2), .val (.int p3)] [(.int p3)])) _
    refine XS.aloadN X0.here hx rfl (hb hby d8_5) rfl rfl ?_
    show Steps p.tables e below (s₁.setTop (mkF m 6 #[.val (.ref a1), .val (.int p2), .val (.int p3)] [(.ref a1), (.int p3)])) _
    refine X0.arraylength hx (by rw [e0]; exact Aru4.1) (State.isArrayOf_alike hZ.alike Aru4.2.1) (g := (mkF m 6 #[.val (.ref a1), .val (.int p2), .val (.int p3)] [(.ref a1), (.int p3)])) rfl rfl (hb hby d8_6) _ ?_
    rw [len_of Su4 Mu4]
    show Steps p.tables e below (s₁.setTop (mkF m 7 #[.val (.ref a1), .val (.int p2), .val (.int p3)] [(.int nz), (.int p3)])) _
    refine XS.icmpNo X0.here hx rfl (hb hby d8_7) rfl (feq (tn : ¬ (p3 = nz))).1 ?_
    show Steps p.tables e below (s₁.setTop (mkF m 10 #[.val (.ref a1), .val (.int p2), .val (.int p3)] [])) _
    refine XS.aloadN X0.here hx rfl (hb hby d8_10) rfl rfl ?_
    show Steps p.tables e below (s₁.setTop (mkF m 11 #[.val (.ref a1), .val (.int p2), .val (.int p3)] [(.ref a1)])) _
    refine XS.iloadN X0.here hx rfl (hb hby d8_11) rfl ?_
    show Steps p.tables e below (s₁.setTop (mkF m 12 #[.val (.ref a1), .val (.int p2), .val (.int p3)] [(.int p2), (.ref a1)])) _
    refine XS.iloadN X0.here hx rfl (hb hby d8_12) rfl ?_
    show Steps p.tables e below (s₁.setTop (mkF m 13 #[.val (.ref a1), .val (.int p2), .val (.int p3)] [(.int p3), (.int p2), (.ref a1)])) _
    refine st5 _ ?_
    show Steps p.tables e below (T5.setTop (mkF m 16 #[.val (.ref a1), .val (.int p2), .val (.int p3)] [(.ref bc5)])) _
    jvm_step X5.here [X5.here.top, hx, (hb hby d8_16), X5.method', Bd.returns, Value.isRef, FieldType.isReference]
    first | (intro acts; rw [hr _ acts rfl rfl rfl]) | rw [hr _ _ rfl rfl rfl]
    exact Steps.refl _
  · show QY Z h0 n0 _ T5.heap _
    rw [e5]
    exact ⟨bc5, rfl, N5, K5⟩
set_option maxRecDepth 65536 in
set_option maxHeartbeats 40000000 in
theorem rmYf (l : Launch) (Z : State) (a0 : Array Value) (hw : ∀ d ∈ tables_1, d.before a0 Z = true) (ws : List Jvm.Cond) (a1 : Addr) (p2 : Int32) (p3 : Int32) (k : ClassId) (nz : Int32) (ln : Int32) (rem : Int32) (h0 : Heap) (n0 : Nat) (Z0 : n0 ≤ h0.size) (V_a1 : Arv Z h0 a1 k .byte nz [] (.int (0 : Int32))) (hft : ¬ (p3 < p2)) (hln : (p3 - p2) = ln) (lnn : ¬ ln < 0) (lnc : ln.toNatClampNeg ≤ 8) (hrem : (nz - p2) = rem) (hmin : ¬ (ln < rem)) (p2n : ¬ p2 < 0) (cnn : ¬ rem < 0) (c1 : p2.toNatClampNeg + rem.toNatClampNeg ≤ nz.toNatClampNeg) (c2 : rem.toNatClampNeg ≤ ln.toNatClampNeg) (f0 : ¬ (p2 = (0 : Int32))) :
    MetFree l (⟨"java/util/Arrays", "copyOfRange", "([BII)[B"⟩ : MethodName) (head1 (Jvm.Cond.code (⟨"java/util/Arrays", "copyOfRange", "([BII)[B"⟩ : MethodName) jdk_65_method_132_code 3 (some (.array .byte)) :: ws) ({ frames := 2, cells := 1, slots := 8, locals := 34 } : Room)) (fun a U => a = #[(.ref a1), (.int p2), (.int p3)] ∧ Z.Warmed39 U.vm ∧ U.heap = h0) (fun _ _ _ _ _ => True) (fun _ U o U' => ∃ v L, o = .returned v ∧ QY Z h0 n0 v U'.heap L ∧ FrameEnd U o U' L ({ frames := 2, cells := 1, slots := 8, locals := 34 } : Room).cells ({ frames := 2, cells := 1, slots := 8, locals := 34 } : Room).slots) := by
  refine MetFree.of_bodySF (plainFor_of_name pn_8) hisR ?_
  intro p e s m args below meth c s₁ Bd hml0 hP hK
  obtain ⟨rfl, hZ, hh⟩ := hP
  have hx := Bd.exec
  have hby := Bd.bytes
  have hml : c.maxLocals = 3 := hml0
  have hown : s.vm.findClass "java/util/Arrays" = some m.cls := findClass_of_methodNamed Bd.named
  have hnm := (name_of_methodNamed Bd.named Bd.method).1
  have X0 : Stand p l e ({ frames := 2, cells := 1, slots := 8, locals := 34 } : Room) s m #[(.ref a1), (.int p2), (.int p3)] below meth c s₁ [] 0 0 := Stand.of_body Bd
  have e0 : s₁.heap = h0 := by rw [← hh, Bd.state]; rfl
  have N0 := Fr.nil n0
  have pre0 : ∀ t, Steps p.tables e below (s₁.setTop (mkF m 0 #[.val (.ref a1), .val (.int p2), .val (.int p3)] [])) t → Steps p.tables e below (s₁.setTop (entryFrame m #[(.ref a1), (.int p2), (.int p3)] 3)) t := fun t k => castTop (ef_8 m a1 p2 p3) k
  have K0 : Keep h0 h0 [] := Keep.refl _ _
  obtain ⟨_, _, ⟨T4, L4, k4, n4⟩, -, X4, ⟨Lc4, hQ4, l4, y4, z4⟩, st4⟩ := Jvm.LawKit.callS X0 hx (y := (⟨"java/util/Arrays", "copyOfRangeByte", "([BII)[B"⟩ : MethodName)) hown (mvT hZ (hw _ (List.mem_of_getElem? (i := 57) rfl))) (mvT hZ (hw _ (List.mem_of_getElem? (i := 58) rfl))) (mvT hZ (hw _ (List.mem_of_getElem? (i := 45) rfl))) (mvT hZ (hw _ (List.mem_of_getElem? (i := 59) rfl))) (by decide) (backOf (W := 0) (rmRf l Z a0 hw [] a1 p2 p3 k nz ln rem h0 n0 Z0 (V_a1) (hft) (hln) (lnn) (lnc) (hrem) (hmin) (p2n) (cnn) (c1) (c2)) hZ (hw _ (List.mem_of_getElem? (i := 59) rfl)) (hw _ (List.mem_of_getElem? (i := 45) rfl)) (by decide) (by decide)) (g := (mkF m 13 #[.val (.ref a1), .val (.int p2), .val (.int p3)] [(.int p3), (.int p2), (.ref a1)])) rfl (by rw [hml]; rfl) (argsL := [(.ref a1), (.int p2), (.int p3)]) (rest := []) (lenOf pd_3 rfl) rfl (by show 2 * 0 + _ ≤ _; exact Nat.le_of_eq rfl) (hb hby d8_13) (fun _ _ => ⟨rfl, e0, (by decide : 0 + 1 ≤ _), (by decide : 0 + 8 ≤ _)⟩)
  dsimp only [Pt.U, Pt.locs, Pt.cells, Pt.slots] at X4 l4 y4 z4 st4 hQ4
  subst l4 y4 z4
  have e4 : T4.heap = T4.heap := rfl
  obtain ⟨bc4, rfl, N4q, KK4⟩ := hQ4
  have N4 := Fr.app N0 N4q
  have V_a1_4 := V_a1.keep KK4 nin0
  have SZ4 : n0 ≤ T4.heap.size := Nat.le_trans Z0 KK4.1
  have K4 := Keep.trans K0 KK4 all0
  obtain ⟨fs, hr, hrun, hended, hW, hsame⟩ := X4.leave (v := some (.ref bc4)) (fun h => by rw [Bd.returns] at h; cases h) (hlocks := Bd.notSynchronized)
  refine ⟨_, _, pre0 _ ?_, hrun, hended, _, _, rfl, ?_, ⟨_, rfl⟩, hW, hsame.mono (by decide) (by decide)⟩
  · show Steps p.tables e below (s₁.setTop (mkF m 0 #[.val (.ref a1), .val (.int p2), .val (.int p3)] [])) _
    refine XS.iloadN X0.here hx rfl (hb hby d8_0) rfl ?_
    show Steps p.tables e below (s₁.setTop (mkF m 1 #[.val (.ref a1), .val (.int p2), .val (.int p3)] [(.int p2)])) _
    refine XS.ifYes X0.here hx rfl (pc0 := 1) (pc' := 10) rfl (hb hby d8_1) rfl ((if0 _ _).trans (feq (f0 : ¬ (p2 = (0 : Int32)))).2) (by decide) (by decide) ?_
    show Steps p.tables e below (s₁.setTop (mkF m 10 #[.val (.ref a1), .val (.int p2), .val (.int p3)] [])) _
    refine XS.aloadN X0.here hx rfl (hb hby d8_10) rfl rfl ?_
    show Steps p.tables e below (s₁.setTop (mkF m 11 #[.val (.ref a1), .val (.int p2), .val (.int p3)] [(.ref a1)])) _
    refine XS.iloadN X0.here hx rfl (hb hby d8_11) rfl ?_
    show Steps p.tables e below (s₁.setTop (mkF m 12 #[.val (.ref a1), .val (.int p2), .val (.int p3)] [(.int p2), (.ref a1)])) _
    refine XS.iloadN X0.here hx rfl (hb hby d8_12) rfl ?_
    show Steps p.tables e below (s₁.setTop (mkF m 13 #[.val (.ref a1), .val (.int p2), .val (.int p3)] [(.int p3), (.int p2), (.ref a1)])) _
    refine st4 _ ?_
    show Steps p.tables e below (T4.setTop (mkF m 16 #[.val (.ref a1), .val (.int p2), .val (.int p3)] [(.ref bc4)])) _
    jvm_step X4.here [X4.here.top, hx, (hb hby d8_16), X4.method', Bd.returns, Value.isRef, FieldType.isReference]
    first | (intro acts; rw [hr _ acts rfl rfl rfl]) | rw [hr _ _ rfl rfl rfl]
    exact Steps.refl _
  · show QY Z h0 n0 _ T4.heap _
    rw [e4]
    exact ⟨bc4, rfl, N4, K4⟩
def QT (Z : State) (a1 u : Addr) (to : Int32) (h0 : Heap) (n0 : Nat) (v : Option Value) (h : Heap) (L : List Loc) : Prop := ∃ b : Addr, v = some (.ref b) ∧ Fr n0 L ∧ Keep h0 h [a1] ∧ Exa Z h a1 "com/example/toll/toll/wire/WireReader" ∧ Fld Z h a1 "com/example/toll/toll/wire/WireReader" "input" "[B" (.ref u) ∧ Fld Z h a1 "com/example/toll/toll/wire/WireReader" "position" "I" (.int to)
theorem pn_7 : plainName "com/example/toll/toll/wire/WireReader" = true := by first | (simp [plainName, overriddenIn]; done) | decide +kernel
theorem ef_7 (m : MethodId) (x0 : Addr) (x1 : Int32) (x2 : Addr) : entryFrame m #[(.ref x0), (.int x1), (.ref x2)] 4 = mkF m 0 #[.val (.ref x0), .val (.int x1), .val (.ref x2), .unset] [] := by first | (simp [entryFrame, mkF, argsToLocals, Value.category]; done) | rfl
theorem d7_0 : decode prog_33_method_10_code 0 = .ok (.iload_n 1, 1) := by decide +kernel
theorem d7_1 : decode prog_33_method_10_code 1 = .ok (.aload_n 0, 1) := by decide +kernel
theorem d7_2 : decode prog_33_method_10_code 2 = .ok (.getfield 7, 3) := by decide +kernel
theorem d7_5 : decode prog_33_method_10_code 5 = .ok (.arraylength, 1) := by decide +kernel
theorem d7_6 : decode prog_33_method_10_code 6 = .ok (.aload_n 0, 1) := by decide +kernel
theorem d7_7 : decode prog_33_method_10_code 7 = .ok (.getfield 48, 3) := by decide +kernel
theorem d7_10 : decode prog_33_method_10_code 10 = .ok (.isub, 1) := by decide +kernel
theorem d7_11 : decode prog_33_method_10_code 11 = .ok (.if_icmp .le 17, 3) := by decide +kernel
theorem d7_28 : decode prog_33_method_10_code 28 = .ok (.aload_n 0, 1) := by decide +kernel
theorem d7_29 : decode prog_33_method_10_code 29 = .ok (.getfield 7, 3) := by decide +kernel
theorem d7_32 : decode prog_33_method_10_code 32 = .ok (.aload_n 0, 1) := by decide +kernel
theorem d7_33 : decode prog_33_method_10_code 33 = .ok (.getfield 48, 3) := by decide +kernel
theorem d7_36 : decode prog_33_method_10_code 36 = .ok (.aload_n 0, 1) := by decide +kernel
theorem d7_37 : decode prog_33_method_10_code 37 = .ok (.getfield 48, 3) := by decide +kernel
theorem d7_40 : decode prog_33_method_10_code 40 = .ok (.iload_n 1, 1) := by decide +kernel
theorem d7_41 : decode prog_33_method_10_code 41 = .ok (.iadd, 1) := by decide +kernel
theorem d7_42 : decode prog_33_method_10_code 42 = .ok (.invokestatic 80, 3) := by decide +kernel
theorem d7_45 : decode prog_33_method_10_code 45 = .ok (.astore_n 3, 1) := by decide +kernel
theorem d7_46 : decode prog_33_method_10_code 46 = .ok (.aload_n 0, 1) := by decide +kernel
theorem d7_47 : decode prog_33_method_10_code 47 = .ok (.dup, 1) := by decide +kernel
theorem d7_48 : decode prog_33_method_10_code 48 = .ok (.getfield 48, 3) := by decide +kernel
theorem d7_51 : decode prog_33_method_10_code 51 = .ok (.iload_n 1, 1) := by decide +kernel
theorem d7_52 : decode prog_33_method_10_code 52 = .ok (.iadd, 1) := by decide +kernel
theorem d7_53 : decode prog_33_method_10_code 53 = .ok (.putfield 48, 3) := by decide +kernel
theorem d7_56 : decode prog_33_method_10_code 56 = .ok (.aload_n 3, 1) := by decide +kernel
theorem d7_57 : decode prog_33_method_10_code 57 = .ok (.areturn, 1) := by decide +kernel
set_option maxRecDepth 65536 in
set_option maxHeartbeats 40000000 in
theorem rmTc (l : Launch) (Z : State) (a0 : Array Value) (hw : ∀ d ∈ tables_1, d.before a0 Z = true) (ws : List Jvm.Cond) (a1 : Addr) (p2 : Int32) (a3 : Addr) (u : Addr) (k : ClassId) (nz : Int32) (pos : Int32) (to : Int32) (av : Int32) (h0 : Heap) (n0 : Nat) (Z0 : n0 ≤ h0.size) (E_a1 : Exa Z h0 a1 "com/example/toll/toll/wire/WireReader") (F_input_a1 : Fld Z h0 a1 "com/example/toll/toll/wire/WireReader" "input" "[B" (.ref u)) (F_position_a1 : Fld Z h0 a1 "com/example/toll/toll/wire/WireReader" "position" "I" (.int pos)) (V_u : Arv Z h0 u k .byte nz [] (.int (0 : Int32))) (E_u : Exa Z h0 u "[B") (g_a1 : n0 ≤ a1) (ne_u_a1 : u ≠ a1) (hav : (nz - pos) = av) (hok : ¬ (av < p2)) (hto : (pos + p2) = to) (nzc : nz.toNatClampNeg ≤ 8) (f0 : pos = (0 : Int32)) (tn : to = nz) :
    MetFree l (⟨"com/example/toll/toll/wire/WireReader", "take", "(ILjava/lang/String;)[B"⟩ : MethodName) (head1 (Jvm.Cond.code (⟨"com/example/toll/toll/wire/WireReader", "take", "(ILjava/lang/String;)[B"⟩ : MethodName) prog_33_method_10_code 4 (some (.array .byte)) :: ws) ({ frames := 3, cells := 1, slots := 8, locals := 48 } : Room)) (fun a U => a = #[(.ref a1), (.int p2), (.ref a3)] ∧ Z.Warmed39 U.vm ∧ U.heap = h0) (fun _ _ _ _ _ => True) (fun _ U o U' => ∃ v L, o = .returned v ∧ QT Z a1 u to h0 n0 v U'.heap L ∧ FrameEnd U o U' L ({ frames := 3, cells := 1, slots := 8, locals := 48 } : Room).cells ({ frames := 3, cells := 1, slots := 8, locals := 48 } : Room).slots) := by
  refine MetFree.of_bodySF (plainFor_of_name pn_7) hisR ?_
  intro p e s m args below meth c s₁ Bd hml0 hP hK
  obtain ⟨rfl, hZ, hh⟩ := hP
  have hx := Bd.exec
  have hby := Bd.bytes
  have hml : c.maxLocals = 4 := hml0
  have hown : s.vm.findClass "com/example/toll/toll/wire/WireReader" = some m.cls := findClass_of_methodNamed Bd.named
  have hnm := (name_of_methodNamed Bd.named Bd.method).1
  have X0 : Stand p l e ({ frames := 3, cells := 1, slots := 8, locals := 48 } : Room) s m #[(.ref a1), (.int p2), (.ref a3)] below meth c s₁ [] 0 0 := Stand.of_body Bd
  have e0 : s₁.heap = h0 := by rw [← hh, Bd.state]; rfl
  have N0 := Fr.nil n0
  have pre0 : ∀ t, Steps p.tables e below (s₁.setTop (mkF m 0 #[.val (.ref a1), .val (.int p2), .val (.ref a3), .unset] [])) t → Steps p.tables e below (s₁.setTop (entryFrame m #[(.ref a1), (.int p2), (.ref a3)] 4)) t := fun t k => castTop (ef_7 m a1 p2 a3) k
  have K0 : Keep h0 h0 [a1] := Keep.refl _ _
  obtain ⟨T4, X4, e4, st4⟩ := getF X0 hx hZ hown (host := "") (Or.inl (hw _ (List.mem_of_getElem? (i := 10) rfl))) Via.refl e0 F_input_a1 (g := (mkF m 2 #[.val (.ref a1), .val (.int p2), .val (.ref a3), .unset] [(.ref a1), (.int p2)])) rfl rfl (hb hby d7_2)
  obtain ⟨clu5, Aru5, -, Su5, Mu5, -, -⟩ := id V_u
  obtain ⟨T6, X6, e6, st6⟩ := getF X4 hx hZ hown (host := "") (Or.inl (hw _ (List.mem_of_getElem? (i := 17) rfl))) Via.refl e4 F_position_a1 (g := (mkF m 7 #[.val (.ref a1), .val (.int p2), .val (.ref a3), .unset] [(.ref a1), (.int nz), (.int p2)])) rfl rfl (hb hby d7_7)
  obtain ⟨T7, X7, e7, st7⟩ := getF X6 hx hZ hown (host := "") (Or.inl (hw _ (List.mem_of_getElem? (i := 10) rfl))) Via.refl e6 F_input_a1 (g := (mkF m 29 #[.val (.ref a1), .val (.int p2), .val (.ref a3), .unset] [(.ref a1)])) rfl rfl (hb hby d7_29)
  obtain ⟨T8, X8, e8, st8⟩ := getF X7 hx hZ hown (host := "") (Or.inl (hw _ (List.mem_of_getElem? (i := 17) rfl))) Via.refl e7 F_position_a1 (g := (mkF m 33 #[.val (.ref a1), .val (.int p2), .val (.ref a3), .unset] [(.ref a1), (.ref u)])) rfl rfl (hb hby d7_33)
  obtain ⟨T9, X9, e9, st9⟩ := getF X8 hx hZ hown (host := "") (Or.inl (hw _ (List.mem_of_getElem? (i := 17) rfl))) Via.refl e8 F_position_a1 (g := (mkF m 37 #[.val (.ref a1), .val (.int p2), .val (.ref a3), .unset] [(.ref a1), (.int pos), (.ref u)])) rfl rfl (hb hby d7_37)
  obtain ⟨_, _, ⟨T10, L10, k10, n10⟩, -, X10, ⟨Lc10, hQ10, l10, y10, z10⟩, st10⟩ := Jvm.LawKit.callS X9 hx (y := (⟨"java/util/Arrays", "copyOfRange", "([BII)[B"⟩ : MethodName)) hown (mvT hZ (hw _ (List.mem_of_getElem? (i := 43) rfl))) (mvT hZ (hw _ (List.mem_of_getElem? (i := 44) rfl))) (mvT hZ (hw _ (List.mem_of_getElem? (i := 45) rfl))) (mvT hZ (hw _ (List.mem_of_getElem? (i := 46) rfl))) (by decide) (backOf (W := 0) (rmYc l Z a0 hw [] u pos to k nz h0 n0 Z0 (V_u) (E_u) (nzc) (f0) (tn)) hZ (hw _ (List.mem_of_getElem? (i := 46) rfl)) (hw _ (List.mem_of_getElem? (i := 45) rfl)) (by decide) (by decide)) (g := (mkF m 42 #[.val (.ref a1), .val (.int p2), .val (.ref a3), .unset] [(.int to), (.int pos), (.ref u)])) rfl (by rw [hml]; rfl) (argsL := [(.ref u), (.int pos), (.int to)]) (rest := []) (lenOf pd_3 rfl) rfl (by show 2 * 0 + _ ≤ _; exact Nat.le_of_eq rfl) (hb hby d7_42) (fun _ _ => ⟨rfl, e9, (by decide : 0 + 1 ≤ _), (by decide : 0 + 8 ≤ _)⟩)
  dsimp only [Pt.U, Pt.locs, Pt.cells, Pt.slots] at X10 l10 y10 z10 st10 hQ10
  subst l10 y10 z10
  have e10 : T10.heap = T10.heap := rfl
  obtain ⟨bc10, rfl, N10q, KK10⟩ := hQ10
  have N10 := Fr.app N0 N10q
  have E_a1_10 := E_a1.keep KK10
  have F_input_a1_10 := F_input_a1.keep KK10 nin0
  have F_position_a1_10 := F_position_a1.keep KK10 nin0
  have V_u_10 := V_u.keep KK10 nin0
  have E_u_10 := E_u.keep KK10
  have SZ10 : n0 ≤ T10.heap.size := Nat.le_trans Z0 KK10.1
  have K10 := Keep.trans K0 KK10 all0
  obtain ⟨T11, X11, e11, st11⟩ := getF X10 hx hZ hown (host := "") (Or.inl (hw _ (List.mem_of_getElem? (i := 17) rfl))) Via.refl e10 F_position_a1_10 (g := (mkF m 48 #[.val (.ref a1), .val (.int p2), .val (.ref a3), .val (.ref bc10)] [(.ref a1), (.ref a1)])) rfl rfl (hb hby d7_48)
  obtain ⟨T12, h12, X12, e12, W12, st12⟩ := putF X11 hx hZ hown (host := "") (Or.inl (hw _ (List.mem_of_getElem? (i := 17) rfl))) Via.refl e11 F_position_a1_10 E_a1_10 (Or.inl (hw _ (List.mem_of_getElem? (i := 18) rfl))) (hw _ (List.mem_of_getElem? (i := 2) rfl)) (ty := .int) (by decide) rfl rfl (g := (mkF m 53 #[.val (.ref a1), .val (.int p2), .val (.ref a3), .val (.ref bc10)] [(.int to), (.ref a1)])) rfl rfl (hb hby d7_53)
  have E_a1_12 := E_a1_10.wr W12
  have F_input_a1_12 := F_input_a1_10.other W12 (Or.inr (slot_ne (Or.inr (hw _ (List.mem_of_getElem? (i := 11) rfl))) (Or.inl (hw _ (List.mem_of_getElem? (i := 18) rfl))) (by decide) (t := (.array .byte)) (t' := .int) (by decide) (by decide)))
  have V_u_12 := V_u_10.other W12 ne_u_a1
  have E_u_12 := E_u_10.wr W12
  have SZ12 : n0 ≤ h12.size := by rw [W12.size]; exact SZ10
  have K12 := K10.wr W12 (Or.inl (List.mem_of_getElem? (i := 0) rfl))
  have N12 := Fr.snoc X12 N10 g_a1
  have F_position_a1_12 := F_position_a1_10.same W12
  obtain ⟨fs, hr, hrun, hended, hW, hsame⟩ := X12.leave (v := some (.ref bc10)) (fun h => by rw [Bd.returns] at h; cases h) (hlocks := Bd.notSynchronized)
  refine ⟨_, _, pre0 _ ?_, hrun, hended, _, _, rfl, ?_, ⟨_, rfl⟩, hW, hsame.mono (by decide) (by decide)⟩
  · show Steps p.tables e below (s₁.setTop (mkF m 0 #[.val (.ref a1), .val (.int p2), .val (.ref a3), .unset] [])) _
    refine XS.iloadN X0.here hx rfl (hb hby d7_0) rfl ?_
    show Steps p.tables e below (s₁.setTop (mkF m 1 #[.val (.ref a1), .val (.int p2), .val (.ref a3), .unset] [(.int p2)])) _
    refine XS.aloadN X0.here hx rfl (hb hby d7_1) rfl rfl ?_
    show Steps p.tables e below (s₁.setTop (mkF m 2 #[.val (.ref a1), .val (.int p2), .val (.ref a3), .unset] [(.ref a1), (.int p2)])) _
    refine st4 _ ?_
    show Steps p.tables e below (T4.setTop (mkF m 5 #[.val (.ref a1), .val (.int p2), .val (.ref a3), .unset] [(.ref u), (.int p2)])) _
    refine X4.arraylength hx (by rw [e4]; exact Aru5.1) (State.isArrayOf_alike hZ.alike Aru5.2.1) (g := (mkF m 5 #[.val (.ref a1), .val (.int p2), .val (.ref a3), .unset] [(.ref u), (.int p2)])) rfl rfl (hb hby d7_5) _ ?_
    rw [len_of Su5 Mu5]
    show Steps p.tables e below (T4.setTop (mkF m 6 #[.val (.ref a1), .val (.int p2), .val (.ref a3), .unset] [(.int nz), (.int p2)])) _
    refine XS.aloadN X4.here hx rfl (hb hby d7_6) rfl rfl ?_
    show Steps p.tables e below (T4.setTop (mkF m 7 #[.val (.ref a1), .val (.int p2), .val (.ref a3), .unset] [(.ref a1), (.int nz), (.int p2)])) _
    refine st6 _ ?_
    show Steps p.tables e below (T6.setTop (mkF m 10 #[.val (.ref a1), .val (.int p2), .val (.ref a3), .unset] [(.int pos), (.int nz), (.int p2)])) _
    refine XS.isub X6.here hx rfl (hb hby d7_10) rfl ?_
    rw [hav]
    show Steps p.tables e below (T6.setTop (mkF m 11 #[.val (.ref a1), .val (.int p2), .val (.ref a3), .unset] [(.int av), (.int p2)])) _
    refine XS.icmpYes X6.here hx rfl (pc0 := 11) (pc' := 28) rfl (hb hby d7_11) rfl (flt (hok : ¬ (av < p2))).2.2.2 (by decide) (by decide) ?_
    show Steps p.tables e below (T6.setTop (mkF m 28 #[.val (.ref a1), .val (.int p2), .val (.ref a3), .unset] [])) _
    refine XS.aloadN X6.here hx rfl (hb hby d7_28) rfl rfl ?_
    show Steps p.tables e below (T6.setTop (mkF m 29 #[.val (.ref a1), .val (.int p2), .val (.ref a3), .unset] [(.ref a1)])) _
    refine st7 _ ?_
    show Steps p.tables e below (T7.setTop (mkF m 32 #[.val (.ref a1), .val (.int p2), .val (.ref a3), .unset] [(.ref u)])) _
    refine XS.aloadN X7.here hx rfl (hb hby d7_32) rfl rfl ?_
    show Steps p.tables e below (T7.setTop (mkF m 33 #[.val (.ref a1), .val (.int p2), .val (.ref a3), .unset] [(.ref a1), (.ref u)])) _
    refine st8 _ ?_
    show Steps p.tables e below (T8.setTop (mkF m 36 #[.val (.ref a1), .val (.int p2), .val (.ref a3), .unset] [(.int pos), (.ref u)])) _
    refine XS.aloadN X8.here hx rfl (hb hby d7_36) rfl rfl ?_
    show Steps p.tables e below (T8.setTop (mkF m 37 #[.val (.ref a1), .val (.int p2), .val (.ref a3), .unset] [(.ref a1), (.int pos), (.ref u)])) _
    refine st9 _ ?_
    show Steps p.tables e below (T9.setTop (mkF m 40 #[.val (.ref a1), .val (.int p2), .val (.ref a3), .unset] [(.int pos), (.int pos), (.ref u)])) _
    refine XS.iloadN X9.here hx rfl (hb hby d7_40) rfl ?_
    show Steps p.tables e below (T9.setTop (mkF m 41 #[.val (.ref a1), .val (.int p2), .val (.ref a3), .unset] [(.int p2), (.int pos), (.int pos), (.ref u)])) _
    refine XS.iadd X9.here hx rfl (hb hby d7_41) rfl ?_
    rw [hto]
    show Steps p.tables e below (T9.setTop (mkF m 42 #[.val (.ref a1), .val (.int p2), .val (.ref a3), .unset] [(.int to), (.int pos), (.ref u)])) _
    refine st10 _ ?_
    show Steps p.tables e below (T10.setTop (mkF m 45 #[.val (.ref a1), .val (.int p2), .val (.ref a3), .unset] [(.ref bc10)])) _
    refine XS.astoreN X10.here hx rfl (hb hby d7_45) rfl rfl (l' := #[.val (.ref a1), .val (.int p2), .val (.ref a3), .val (.ref bc10)]) rfl ?_
    show Steps p.tables e below (T10.setTop (mkF m 46 #[.val (.ref a1), .val (.int p2), .val (.ref a3), .val (.ref bc10)] [])) _
    refine XS.aloadN X10.here hx rfl (hb hby d7_46) rfl rfl ?_
    show Steps p.tables e below (T10.setTop (mkF m 47 #[.val (.ref a1), .val (.int p2), .val (.ref a3), .val (.ref bc10)] [(.ref a1)])) _
    refine XS.dup X10.here hx rfl (hb hby d7_47) rfl rfl ?_
    show Steps p.tables e below (T10.setTop (mkF m 48 #[.val (.ref a1), .val (.int p2), .val (.ref a3), .val (.ref bc10)] [(.ref a1), (.ref a1)])) _
    refine st11 _ ?_
    show Steps p.tables e below (T11.setTop (mkF m 51 #[.val (.ref a1), .val (.int p2), .val (.ref a3), .val (.ref bc10)] [(.int pos), (.ref a1)])) _
    refine XS.iloadN X11.here hx rfl (hb hby d7_51) rfl ?_
    show Steps p.tables e below (T11.setTop (mkF m 52 #[.val (.ref a1), .val (.int p2), .val (.ref a3), .val (.ref bc10)] [(.int p2), (.int pos), (.ref a1)])) _
    refine XS.iadd X11.here hx rfl (hb hby d7_52) rfl ?_
    rw [hto]
    show Steps p.tables e below (T11.setTop (mkF m 53 #[.val (.ref a1), .val (.int p2), .val (.ref a3), .val (.ref bc10)] [(.int to), (.ref a1)])) _
    refine st12 _ ?_
    show Steps p.tables e below (T12.setTop (mkF m 56 #[.val (.ref a1), .val (.int p2), .val (.ref a3), .val (.ref bc10)] [])) _
    refine XS.aloadN X12.here hx rfl (hb hby d7_56) rfl rfl ?_
    show Steps p.tables e below (T12.setTop (mkF m 57 #[.val (.ref a1), .val (.int p2), .val (.ref a3), .val (.ref bc10)] [(.ref bc10)])) _
    jvm_step X12.here [X12.here.top, hx, (hb hby d7_57), X12.method', Bd.returns, Value.isRef, FieldType.isReference]
    first | (intro acts; rw [hr _ acts rfl rfl rfl]) | rw [hr _ _ rfl rfl rfl]
    exact Steps.refl _
  · show QT Z a1 u to h0 n0 _ T12.heap _
    rw [e12]
    exact ⟨bc10, rfl, N12, K12, E_a1_12, F_input_a1_12, F_position_a1_12⟩
set_option maxRecDepth 65536 in
set_option maxHeartbeats 40000000 in
theorem rmTt (l : Launch) (Z : State) (a0 : Array Value) (hw : ∀ d ∈ tables_1, d.before a0 Z = true) (ws : List Jvm.Cond) (a1 : Addr) (p2 : Int32) (a3 : Addr) (u : Addr) (k : ClassId) (nz : Int32) (pos : Int32) (to : Int32) (av : Int32) (ln : Int32) (rem : Int32) (h0 : Heap) (n0 : Nat) (Z0 : n0 ≤ h0.size) (E_a1 : Exa Z h0 a1 "com/example/toll/toll/wire/WireReader") (F_input_a1 : Fld Z h0 a1 "com/example/toll/toll/wire/WireReader" "input" "[B" (.ref u)) (F_position_a1 : Fld Z h0 a1 "com/example/toll/toll/wire/WireReader" "position" "I" (.int pos)) (V_u : Arv Z h0 u k .byte nz [] (.int (0 : Int32))) (E_u : Exa Z h0 u "[B") (g_a1 : n0 ≤ a1) (ne_u_a1 : u ≠ a1) (hav : (nz - pos) = av) (hok : ¬ (av < p2)) (hto : (pos + p2) = to) (hft : ¬ (to < pos)) (hln : (to - pos) = ln) (lnn : ¬ ln < 0) (lnc : ln.toNatClampNeg ≤ 8) (hrem : (nz - pos) = rem) (hmin : ln < rem) (p2n : ¬ pos < 0) (cnn : ¬ ln < 0) (c1 : pos.toNatClampNeg + ln.toNatClampNeg ≤ nz.toNatClampNeg) (c2 : ln.toNatClampNeg ≤ ln.toNatClampNeg) (f0 : pos = (0 : Int32)) (tn : ¬ (to = nz)) :
    MetFree l (⟨"com/example/toll/toll/wire/WireReader", "take", "(ILjava/lang/String;)[B"⟩ : MethodName) (head1 (Jvm.Cond.code (⟨"com/example/toll/toll/wire/WireReader", "take", "(ILjava/lang/String;)[B"⟩ : MethodName) prog_33_method_10_code 4 (some (.array .byte)) :: ws) ({ frames := 3, cells := 1, slots := 8, locals := 48 } : Room)) (fun a U => a = #[(.ref a1), (.int p2), (.ref a3)] ∧ Z.Warmed39 U.vm ∧ U.heap = h0) (fun _ _ _ _ _ => True) (fun _ U o U' => ∃ v L, o = .returned v ∧ QT Z a1 u to h0 n0 v U'.heap L ∧ FrameEnd U o U' L ({ frames := 3, cells := 1, slots := 8, locals := 48 } : Room).cells ({ frames := 3, cells := 1, slots := 8, locals := 48 } : Room).slots) := by
  refine MetFree.of_bodySF (plainFor_of_name pn_7) hisR ?_
  intro p e s m args below meth c s₁ Bd hml0 hP hK
  obtain ⟨rfl, hZ, hh⟩ := hP
  have hx := Bd.exec
  have hby := Bd.bytes
  have hml : c.maxLocals = 4 := hml0
  have hown : s.vm.findClass "com/example/toll/toll/wire/WireReader" = some m.cls := findClass_of_methodNamed Bd.named
  have hnm := (name_of_methodNamed Bd.named Bd.method).1
  have X0 : Stand p l e ({ frames := 3, cells := 1, slots := 8, locals := 48 } : Room) s m #[(.ref a1), (.int p2), (.ref a3)] below meth c s₁ [] 0 0 := Stand.of_body Bd
  have e0 : s₁.heap = h0 := by rw [← hh, Bd.state]; rfl
  have N0 := Fr.nil n0
  have pre0 : ∀ t, Steps p.tables e below (s₁.setTop (mkF m 0 #[.val (.ref a1), .val (.int p2), .val (.ref a3), .unset] [])) t → Steps p.tables e below (s₁.setTop (entryFrame m #[(.ref a1), (.int p2), (.ref a3)] 4)) t := fun t k => castTop (ef_7 m a1 p2 a3) k
  have K0 : Keep h0 h0 [a1] := Keep.refl _ _
  obtain ⟨T4, X4, e4, st4⟩ := getF X0 hx hZ hown (host := "") (Or.inl (hw _ (List.mem_of_getElem? (i := 10) rfl))) Via.refl e0 F_input_a1 (g := (mkF m 2 #[.val (.ref a1), .val (.int p2), .val (.ref a3), .unset] [(.ref a1), (.int p2)])) rfl rfl (hb hby d7_2)
  obtain ⟨clu5, Aru5, -, Su5, Mu5, -, -⟩ := id V_u
  obtain ⟨T6, X6, e6, st6⟩ := getF X4 hx hZ hown (host := "") (Or.inl (hw _ (List.mem_of_getElem? (i := 17) rfl))) Via.refl e4 F_position_a1 (g := (mkF m 7 #[.val (.ref a1), .val (.int p2), .val (.ref a3), .unset] [(.ref a1), (.int nz), (.int p2)])) rfl rfl (hb hby d7_7)
  obtain ⟨T7, X7, e7, st7⟩ := getF X6 hx hZ hown (host := "") (Or.inl (hw _ (List.mem_of_getElem? (i := 10) rfl))) Via.refl e6 F_input_a1 (g := (mkF m 29 #[.val (.ref a1), .val (.int p2), .val (.ref a3), .unset] [(.ref a1)])) rfl rfl (hb hby d7_29)
  obtain ⟨T8, X8, e8, st8⟩ := getF X7 hx hZ hown (host := "") (Or.inl (hw _ (List.mem_of_getElem? (i := 17) rfl))) Via.refl e7 F_position_a1 (g := (mkF m 33 #[.val (.ref a1), .val (.int p2), .val (.ref a3), .unset] [(.ref a1), (.ref u)])) rfl rfl (hb hby d7_33)
  obtain ⟨T9, X9, e9, st9⟩ := getF X8 hx hZ hown (host := "") (Or.inl (hw _ (List.mem_of_getElem? (i := 17) rfl))) Via.refl e8 F_position_a1 (g := (mkF m 37 #[.val (.ref a1), .val (.int p2), .val (.ref a3), .unset] [(.ref a1), (.int pos), (.ref u)])) rfl rfl (hb hby d7_37)
  obtain ⟨_, _, ⟨T10, L10, k10, n10⟩, -, X10, ⟨Lc10, hQ10, l10, y10, z10⟩, st10⟩ := Jvm.LawKit.callS X9 hx (y := (⟨"java/util/Arrays", "copyOfRange", "([BII)[B"⟩ : MethodName)) hown (mvT hZ (hw _ (List.mem_of_getElem? (i := 43) rfl))) (mvT hZ (hw _ (List.mem_of_getElem? (i := 44) rfl))) (mvT hZ (hw _ (List.mem_of_getElem? (i := 45) rfl))) (mvT hZ (hw _ (List.mem_of_getElem? (i := 46) rfl))) (by decide) (backOf (W := 0) (rmYt l Z a0 hw [] u pos to k nz ln rem h0 n0 Z0 (V_u) (hft) (hln) (lnn) (lnc) (hrem) (hmin) (p2n) (cnn) (c1) (c2) (f0) (tn)) hZ (hw _ (List.mem_of_getElem? (i := 46) rfl)) (hw _ (List.mem_of_getElem? (i := 45) rfl)) (by decide) (by decide)) (g := (mkF m 42 #[.val (.ref a1), .val (.int p2), .val (.ref a3), .unset] [(.int to), (.int pos), (.ref u)])) rfl (by rw [hml]; rfl) (argsL := [(.ref u), (.int pos), (.int to)]) (rest := []) (lenOf pd_3 rfl) rfl (by show 2 * 0 + _ ≤ _; exact Nat.le_of_eq rfl) (hb hby d7_42) (fun _ _ => ⟨rfl, e9, (by decide : 0 + 1 ≤ _), (by decide : 0 + 8 ≤ _)⟩)
  dsimp only [Pt.U, Pt.locs, Pt.cells, Pt.slots] at X10 l10 y10 z10 st10 hQ10
  subst l10 y10 z10
  have e10 : T10.heap = T10.heap := rfl
  obtain ⟨bc10, rfl, N10q, KK10⟩ := hQ10
  have N10 := Fr.app N0 N10q
  have E_a1_10 := E_a1.keep KK10
  have F_input_a1_10 := F_input_a1.keep KK10 nin0
  have F_position_a1_10 := F_position_a1.keep KK10 nin0
  have V_u_10 := V_u.keep KK10 nin0
  have E_u_10 := E_u.keep KK10
  have SZ10 : n0 ≤ T10.heap.size := Nat.le_trans Z0 KK10.1
  have K10 := Keep.trans K0 KK10 all0
  obtain ⟨T11, X11, e11, st11⟩ := getF X10 hx hZ hown (host := "") (Or.inl (hw _ (List.mem_of_getElem? (i := 17) rfl))) Via.refl e10 F_position_a1_10 (g := (mkF m 48 #[.val (.ref a1), .val (.int p2), .val (.ref a3), .val (.ref bc10)] [(.ref a1), (.ref a1)])) rfl rfl (hb hby d7_48)
  obtain ⟨T12, h12, X12, e12, W12, st12⟩ := putF X11 hx hZ hown (host := "") (Or.inl (hw _ (List.mem_of_getElem? (i := 17) rfl))) Via.refl e11 F_position_a1_10 E_a1_10 (Or.inl (hw _ (List.mem_of_getElem? (i := 18) rfl))) (hw _ (List.mem_of_getElem? (i := 2) rfl)) (ty := .int) (by decide) rfl rfl (g := (mkF m 53 #[.val (.ref a1), .val (.int p2), .val (.ref a3), .val (.ref bc10)] [(.int to), (.ref a1)])) rfl rfl (hb hby d7_53)
  have E_a1_12 := E_a1_10.wr W12
  have F_input_a1_12 := F_input_a1_10.other W12 (Or.inr (slot_ne (Or.inr (hw _ (List.mem_of_getElem? (i := 11) rfl))) (Or.inl (hw _ (List.mem_of_getElem? (i := 18) rfl))) (by decide) (t := (.array .byte)) (t' := .int) (by decide) (by decide)))
  have V_u_12 := V_u_10.other W12 ne_u_a1
  have E_u_12 := E_u_10.wr W12
  have SZ12 : n0 ≤ h12.size := by rw [W12.size]; exact SZ10
  have K12 := K10.wr W12 (Or.inl (List.mem_of_getElem? (i := 0) rfl))
  have N12 := Fr.snoc X12 N10 g_a1
  have F_position_a1_12 := F_position_a1_10.same W12
  obtain ⟨fs, hr, hrun, hended, hW, hsame⟩ := X12.leave (v := some (.ref bc10)) (fun h => by rw [Bd.returns] at h; cases h) (hlocks := Bd.notSynchronized)
  refine ⟨_, _, pre0 _ ?_, hrun, hended, _, _, rfl, ?_, ⟨_, rfl⟩, hW, hsame.mono (by decide) (by decide)⟩
  · show Steps p.tables e below (s₁.setTop (mkF m 0 #[.val (.ref a1), .val (.int p2), .val (.ref a3), .unset] [])) _
    refine XS.iloadN X0.here hx rfl (hb hby d7_0) rfl ?_
    show Steps p.tables e below (s₁.setTop (mkF m 1 #[.val (.ref a1), .val (.int p2), .val (.ref a3), .unset] [(.int p2)])) _
    refine XS.aloadN X0.here hx rfl (hb hby d7_1) rfl rfl ?_
    show Steps p.tables e below (s₁.setTop (mkF m 2 #[.val (.ref a1), .val (.int p2), .val (.ref a3), .unset] [(.ref a1), (.int p2)])) _
    refine st4 _ ?_
    show Steps p.tables e below (T4.setTop (mkF m 5 #[.val (.ref a1), .val (.int p2), .val (.ref a3), .unset] [(.ref u), (.int p2)])) _
    refine X4.arraylength hx (by rw [e4]; exact Aru5.1) (State.isArrayOf_alike hZ.alike Aru5.2.1) (g := (mkF m 5 #[.val (.ref a1), .val (.int p2), .val (.ref a3), .unset] [(.ref u), (.int p2)])) rfl rfl (hb hby d7_5) _ ?_
    rw [len_of Su5 Mu5]
    show Steps p.tables e below (T4.setTop (mkF m 6 #[.val (.ref a1), .val (.int p2), .val (.ref a3), .unset] [(.int nz), (.int p2)])) _
    refine XS.aloadN X4.here hx rfl (hb hby d7_6) rfl rfl ?_
    show Steps p.tables e below (T4.setTop (mkF m 7 #[.val (.ref a1), .val (.int p2), .val (.ref a3), .unset] [(.ref a1), (.int nz), (.int p2)])) _
    refine st6 _ ?_
    show Steps p.tables e below (T6.setTop (mkF m 10 #[.val (.ref a1), .val (.int p2), .val (.ref a3), .unset] [(.int pos), (.int nz), (.int p2)])) _
    refine XS.isub X6.here hx rfl (hb hby d7_10) rfl ?_
    rw [hav]
    show Steps p.tables e below (T6.setTop (mkF m 11 #[.val (.ref a1), .val (.int p2), .val (.ref a3), .unset] [(.int av), (.int p2)])) _
    refine XS.icmpYes X6.here hx rfl (pc0 := 11) (pc' := 28) rfl (hb hby d7_11) rfl (flt (hok : ¬ (av < p2))).2.2.2 (by decide) (by decide) ?_
    show Steps p.tables e below (T6.setTop (mkF m 28 #[.val (.ref a1), .val (.int p2), .val (.ref a3), .unset] [])) _
    refine XS.aloadN X6.here hx rfl (hb hby d7_28) rfl rfl ?_
    show Steps p.tables e below (T6.setTop (mkF m 29 #[.val (.ref a1), .val (.int p2), .val (.ref a3), .unset] [(.ref a1)])) _
    refine st7 _ ?_
    show Steps p.tables e below (T7.setTop (mkF m 32 #[.val (.ref a1), .val (.int p2), .val (.ref a3), .unset] [(.ref u)])) _
    refine XS.aloadN X7.here hx rfl (hb hby d7_32) rfl rfl ?_
    show Steps p.tables e below (T7.setTop (mkF m 33 #[.val (.ref a1), .val (.int p2), .val (.ref a3), .unset] [(.ref a1), (.ref u)])) _
    refine st8 _ ?_
    show Steps p.tables e below (T8.setTop (mkF m 36 #[.val (.ref a1), .val (.int p2), .val (.ref a3), .unset] [(.int pos), (.ref u)])) _
    refine XS.aloadN X8.here hx rfl (hb hby d7_36) rfl rfl ?_
    show Steps p.tables e below (T8.setTop (mkF m 37 #[.val (.ref a1), .val (.int p2), .val (.ref a3), .unset] [(.ref a1), (.int pos), (.ref u)])) _
    refine st9 _ ?_
    show Steps p.tables e below (T9.setTop (mkF m 40 #[.val (.ref a1), .val (.int p2), .val (.ref a3), .unset] [(.int pos), (.int pos), (.ref u)])) _
    refine XS.iloadN X9.here hx rfl (hb hby d7_40) rfl ?_
    show Steps p.tables e below (T9.setTop (mkF m 41 #[.val (.ref a1), .val (.int p2), .val (.ref a3), .unset] [(.int p2), (.int pos), (.int pos), (.ref u)])) _
    refine XS.iadd X9.here hx rfl (hb hby d7_41) rfl ?_
    rw [hto]
    show Steps p.tables e below (T9.setTop (mkF m 42 #[.val (.ref a1), .val (.int p2), .val (.ref a3), .unset] [(.int to), (.int pos), (.ref u)])) _
    refine st10 _ ?_
    show Steps p.tables e below (T10.setTop (mkF m 45 #[.val (.ref a1), .val (.int p2), .val (.ref a3), .unset] [(.ref bc10)])) _
    refine XS.astoreN X10.here hx rfl (hb hby d7_45) rfl rfl (l' := #[.val (.ref a1), .val (.int p2), .val (.ref a3), .val (.ref bc10)]) rfl ?_
    show Steps p.tables e below (T10.setTop (mkF m 46 #[.val (.ref a1), .val (.int p2), .val (.ref a3), .val (.ref bc10)] [])) _
    refine XS.aloadN X10.here hx rfl (hb hby d7_46) rfl rfl ?_
    show Steps p.tables e below (T10.setTop (mkF m 47 #[.val (.ref a1), .val (.int p2), .val (.ref a3), .val (.ref bc10)] [(.ref a1)])) _
    refine XS.dup X10.here hx rfl (hb hby d7_47) rfl rfl ?_
    show Steps p.tables e below (T10.setTop (mkF m 48 #[.val (.ref a1), .val (.int p2), .val (.ref a3), .val (.ref bc10)] [(.ref a1), (.ref a1)])) _
    refine st11 _ ?_
    show Steps p.tables e below (T11.setTop (mkF m 51 #[.val (.ref a1), .val (.int p2), .val (.ref a3), .val (.ref bc10)] [(.int pos), (.ref a1)])) _
    refine XS.iloadN X11.here hx rfl (hb hby d7_51) rfl ?_
    show Steps p.tables e below (T11.setTop (mkF m 52 #[.val (.ref a1), .val (.int p2), .val (.ref a3), .val (.ref bc10)] [(.int p2), (.int pos), (.ref a1)])) _
    refine XS.iadd X11.here hx rfl (hb hby d7_52) rfl ?_
    rw [hto]
    show Steps p.tables e below (T11.setTop (mkF m 53 #[.val (.ref a1), .val (.int p2), .val (.ref a3), .val (.ref bc10)] [(.int to), (.ref a1)])) _
    refine st12 _ ?_
    show Steps p.tables e below (T12.setTop (mkF m 56 #[.val (.ref a1), .val (.int p2), .val (.ref a3), .val (.ref bc10)] [])) _
    refine XS.aloadN X12.here hx rfl (hb hby d7_56) rfl rfl ?_
    show Steps p.tables e below (T12.setTop (mkF m 57 #[.val (.ref a1), .val (.int p2), .val (.ref a3), .val (.ref bc10)] [(.ref bc10)])) _
    jvm_step X12.here [X12.here.top, hx, (hb hby d7_57), X12.method', Bd.returns, Value.isRef, FieldType.isReference]
    first | (intro acts; rw [hr _ acts rfl rfl rfl]) | rw [hr _ _ rfl rfl rfl]
    exact Steps.refl _
  · show QT Z a1 u to h0 n0 _ T12.heap _
    rw [e12]
    exact ⟨bc10, rfl, N12, K12, E_a1_12, F_input_a1_12, F_position_a1_12⟩
set_option maxRecDepth 65536 in
set_option maxHeartbeats 40000000 in
theorem rmTf (l : Launch) (Z : State) (a0 : Array Value) (hw : ∀ d ∈ tables_1, d.before a0 Z = true) (ws : List Jvm.Cond) (a1 : Addr) (p2 : Int32) (a3 : Addr) (u : Addr) (k : ClassId) (nz : Int32) (pos : Int32) (to : Int32) (av : Int32) (ln : Int32) (rem : Int32) (h0 : Heap) (n0 : Nat) (Z0 : n0 ≤ h0.size) (E_a1 : Exa Z h0 a1 "com/example/toll/toll/wire/WireReader") (F_input_a1 : Fld Z h0 a1 "com/example/toll/toll/wire/WireReader" "input" "[B" (.ref u)) (F_position_a1 : Fld Z h0 a1 "com/example/toll/toll/wire/WireReader" "position" "I" (.int pos)) (V_u : Arv Z h0 u k .byte nz [] (.int (0 : Int32))) (E_u : Exa Z h0 u "[B") (g_a1 : n0 ≤ a1) (ne_u_a1 : u ≠ a1) (hav : (nz - pos) = av) (hok : ¬ (av < p2)) (hto : (pos + p2) = to) (hft : ¬ (to < pos)) (hln : (to - pos) = ln) (lnn : ¬ ln < 0) (lnc : ln.toNatClampNeg ≤ 8) (hrem : (nz - pos) = rem) (hmin : ¬ (ln < rem)) (p2n : ¬ pos < 0) (cnn : ¬ rem < 0) (c1 : pos.toNatClampNeg + rem.toNatClampNeg ≤ nz.toNatClampNeg) (c2 : rem.toNatClampNeg ≤ ln.toNatClampNeg) (f0 : ¬ (pos = (0 : Int32))) :
    MetFree l (⟨"com/example/toll/toll/wire/WireReader", "take", "(ILjava/lang/String;)[B"⟩ : MethodName) (head1 (Jvm.Cond.code (⟨"com/example/toll/toll/wire/WireReader", "take", "(ILjava/lang/String;)[B"⟩ : MethodName) prog_33_method_10_code 4 (some (.array .byte)) :: ws) ({ frames := 3, cells := 1, slots := 8, locals := 48 } : Room)) (fun a U => a = #[(.ref a1), (.int p2), (.ref a3)] ∧ Z.Warmed39 U.vm ∧ U.heap = h0) (fun _ _ _ _ _ => True) (fun _ U o U' => ∃ v L, o = .returned v ∧ QT Z a1 u to h0 n0 v U'.heap L ∧ FrameEnd U o U' L ({ frames := 3, cells := 1, slots := 8, locals := 48 } : Room).cells ({ frames := 3, cells := 1, slots := 8, locals := 48 } : Room).slots) := by
  refine MetFree.of_bodySF (plainFor_of_name pn_7) hisR ?_
  intro p e s m args below meth c s₁ Bd hml0 hP hK
  obtain ⟨rfl, hZ, hh⟩ := hP
  have hx := Bd.exec
  have hby := Bd.bytes
  have hml : c.maxLocals = 4 := hml0
  have hown : s.vm.findClass "com/example/toll/toll/wire/WireReader" = some m.cls := findClass_of_methodNamed Bd.named
  have hnm := (name_of_methodNamed Bd.named Bd.method).1
  have X0 : Stand p l e ({ frames := 3, cells := 1, slots := 8, locals := 48 } : Room) s m #[(.ref a1), (.int p2), (.ref a3)] below meth c s₁ [] 0 0 := Stand.of_body Bd
  have e0 : s₁.heap = h0 := by rw [← hh, Bd.state]; rfl
  have N0 := Fr.nil n0
  have pre0 : ∀ t, Steps p.tables e below (s₁.setTop (mkF m 0 #[.val (.ref a1), .val (.int p2), .val (.ref a3), .unset] [])) t → Steps p.tables e below (s₁.setTop (entryFrame m #[(.ref a1), (.int p2), (.ref a3)] 4)) t := fun t k => castTop (ef_7 m a1 p2 a3) k
  have K0 : Keep h0 h0 [a1] := Keep.refl _ _
  obtain ⟨T4, X4, e4, st4⟩ := getF X0 hx hZ hown (host := "") (Or.inl (hw _ (List.mem_of_getElem? (i := 10) rfl))) Via.refl e0 F_input_a1 (g := (mkF m 2 #[.val (.ref a1), .val (.int p2), .val (.ref a3), .unset] [(.ref a1), (.int p2)])) rfl rfl (hb hby d7_2)
  obtain ⟨clu5, Aru5, -, Su5, Mu5, -, -⟩ := id V_u
  obtain ⟨T6, X6, e6, st6⟩ := getF X4 hx hZ hown (host := "") (Or.inl (hw _ (List.mem_of_getElem? (i := 17) rfl))) Via.refl e4 F_position_a1 (g := (mkF m 7 #[.val (.ref a1), .val (.int p2), .val (.ref a3), .unset] [(.ref a1), (.int nz), (.int p2)])) rfl rfl (hb hby d7_7)
  obtain ⟨T7, X7, e7, st7⟩ := getF X6 hx hZ hown (host := "") (Or.inl (hw _ (List.mem_of_getElem? (i := 10) rfl))) Via.refl e6 F_input_a1 (g := (mkF m 29 #[.val (.ref a1), .val (.int p2), .val (.ref a3), .unset] [(.ref a1)])) rfl rfl (hb hby d7_29)
  obtain ⟨T8, X8, e8, st8⟩ := getF X7 hx hZ hown (host := "") (Or.inl (hw _ (List.mem_of_getElem? (i := 17) rfl))) Via.refl e7 F_position_a1 (g := (mkF m 33 #[.val (.ref a1), .val (.int p2), .val (.ref a3), .unset] [(.ref a1), (.ref u)])) rfl rfl (hb hby d7_33)
  obtain ⟨T9, X9, e9, st9⟩ := getF X8 hx hZ hown (host := "") (Or.inl (hw _ (List.mem_of_getElem? (i := 17) rfl))) Via.refl e8 F_position_a1 (g := (mkF m 37 #[.val (.ref a1), .val (.int p2), .val (.ref a3), .unset] [(.ref a1), (.int pos), (.ref u)])) rfl rfl (hb hby d7_37)
  obtain ⟨_, _, ⟨T10, L10, k10, n10⟩, -, X10, ⟨Lc10, hQ10, l10, y10, z10⟩, st10⟩ := Jvm.LawKit.callS X9 hx (y := (⟨"java/util/Arrays", "copyOfRange", "([BII)[B"⟩ : MethodName)) hown (mvT hZ (hw _ (List.mem_of_getElem? (i := 43) rfl))) (mvT hZ (hw _ (List.mem_of_getElem? (i := 44) rfl))) (mvT hZ (hw _ (List.mem_of_getElem? (i := 45) rfl))) (mvT hZ (hw _ (List.mem_of_getElem? (i := 46) rfl))) (by decide) (backOf (W := 0) (rmYf l Z a0 hw [] u pos to k nz ln rem h0 n0 Z0 (V_u) (hft) (hln) (lnn) (lnc) (hrem) (hmin) (p2n) (cnn) (c1) (c2) (f0)) hZ (hw _ (List.mem_of_getElem? (i := 46) rfl)) (hw _ (List.mem_of_getElem? (i := 45) rfl)) (by decide) (by decide)) (g := (mkF m 42 #[.val (.ref a1), .val (.int p2), .val (.ref a3), .unset] [(.int to), (.int pos), (.ref u)])) rfl (by rw [hml]; rfl) (argsL := [(.ref u), (.int pos), (.int to)]) (rest := []) (lenOf pd_3 rfl) rfl (by show 2 * 0 + _ ≤ _; exact Nat.le_of_eq rfl) (hb hby d7_42) (fun _ _ => ⟨rfl, e9, (by decide : 0 + 1 ≤ _), (by decide : 0 + 8 ≤ _)⟩)
  dsimp only [Pt.U, Pt.locs, Pt.cells, Pt.slots] at X10 l10 y10 z10 st10 hQ10
  subst l10 y10 z10
  have e10 : T10.heap = T10.heap := rfl
  obtain ⟨bc10, rfl, N10q, KK10⟩ := hQ10
  have N10 := Fr.app N0 N10q
  have E_a1_10 := E_a1.keep KK10
  have F_input_a1_10 := F_input_a1.keep KK10 nin0
  have F_position_a1_10 := F_position_a1.keep KK10 nin0
  have V_u_10 := V_u.keep KK10 nin0
  have E_u_10 := E_u.keep KK10
  have SZ10 : n0 ≤ T10.heap.size := Nat.le_trans Z0 KK10.1
  have K10 := Keep.trans K0 KK10 all0
  obtain ⟨T11, X11, e11, st11⟩ := getF X10 hx hZ hown (host := "") (Or.inl (hw _ (List.mem_of_getElem? (i := 17) rfl))) Via.refl e10 F_position_a1_10 (g := (mkF m 48 #[.val (.ref a1), .val (.int p2), .val (.ref a3), .val (.ref bc10)] [(.ref a1), (.ref a1)])) rfl rfl (hb hby d7_48)
  obtain ⟨T12, h12, X12, e12, W12, st12⟩ := putF X11 hx hZ hown (host := "") (Or.inl (hw _ (List.mem_of_getElem? (i := 17) rfl))) Via.refl e11 F_position_a1_10 E_a1_10 (Or.inl (hw _ (List.mem_of_getElem? (i := 18) rfl))) (hw _ (List.mem_of_getElem? (i := 2) rfl)) (ty := .int) (by decide) rfl rfl (g := (mkF m 53 #[.val (.ref a1), .val (.int p2), .val (.ref a3), .val (.ref bc10)] [(.int to), (.ref a1)])) rfl rfl (hb hby d7_53)
  have E_a1_12 := E_a1_10.wr W12
  have F_input_a1_12 := F_input_a1_10.other W12 (Or.inr (slot_ne (Or.inr (hw _ (List.mem_of_getElem? (i := 11) rfl))) (Or.inl (hw _ (List.mem_of_getElem? (i := 18) rfl))) (by decide) (t := (.array .byte)) (t' := .int) (by decide) (by decide)))
  have V_u_12 := V_u_10.other W12 ne_u_a1
  have E_u_12 := E_u_10.wr W12
  have SZ12 : n0 ≤ h12.size := by rw [W12.size]; exact SZ10
  have K12 := K10.wr W12 (Or.inl (List.mem_of_getElem? (i := 0) rfl))
  have N12 := Fr.snoc X12 N10 g_a1
  have F_position_a1_12 := F_position_a1_10.same W12
  obtain ⟨fs, hr, hrun, hended, hW, hsame⟩ := X12.leave (v := some (.ref bc10)) (fun h => by rw [Bd.returns] at h; cases h) (hlocks := Bd.notSynchronized)
  refine ⟨_, _, pre0 _ ?_, hrun, hended, _, _, rfl, ?_, ⟨_, rfl⟩, hW, hsame.mono (by decide) (by decide)⟩
  · show Steps p.tables e below (s₁.setTop (mkF m 0 #[.val (.ref a1), .val (.int p2), .val (.ref a3), .unset] [])) _
    refine XS.iloadN X0.here hx rfl (hb hby d7_0) rfl ?_
    show Steps p.tables e below (s₁.setTop (mkF m 1 #[.val (.ref a1), .val (.int p2), .val (.ref a3), .unset] [(.int p2)])) _
    refine XS.aloadN X0.here hx rfl (hb hby d7_1) rfl rfl ?_
    show Steps p.tables e below (s₁.setTop (mkF m 2 #[.val (.ref a1), .val (.int p2), .val (.ref a3), .unset] [(.ref a1), (.int p2)])) _
    refine st4 _ ?_
    show Steps p.tables e below (T4.setTop (mkF m 5 #[.val (.ref a1), .val (.int p2), .val (.ref a3), .unset] [(.ref u), (.int p2)])) _
    refine X4.arraylength hx (by rw [e4]; exact Aru5.1) (State.isArrayOf_alike hZ.alike Aru5.2.1) (g := (mkF m 5 #[.val (.ref a1), .val (.int p2), .val (.ref a3), .unset] [(.ref u), (.int p2)])) rfl rfl (hb hby d7_5) _ ?_
    rw [len_of Su5 Mu5]
    show Steps p.tables e below (T4.setTop (mkF m 6 #[.val (.ref a1), .val (.int p2), .val (.ref a3), .unset] [(.int nz), (.int p2)])) _
    refine XS.aloadN X4.here hx rfl (hb hby d7_6) rfl rfl ?_
    show Steps p.tables e below (T4.setTop (mkF m 7 #[.val (.ref a1), .val (.int p2), .val (.ref a3), .unset] [(.ref a1), (.int nz), (.int p2)])) _
    refine st6 _ ?_
    show Steps p.tables e below (T6.setTop (mkF m 10 #[.val (.ref a1), .val (.int p2), .val (.ref a3), .unset] [(.int pos), (.int nz), (.int p2)])) _
    refine XS.isub X6.here hx rfl (hb hby d7_10) rfl ?_
    rw [hav]
    show Steps p.tables e below (T6.setTop (mkF m 11 #[.val (.ref a1), .val (.int p2), .val (.ref a3), .unset] [(.int av), (.int p2)])) _
    refine XS.icmpYes X6.here hx rfl (pc0 := 11) (pc' := 28) rfl (hb hby d7_11) rfl (flt (hok : ¬ (av < p2))).2.2.2 (by decide) (by decide) ?_
    show Steps p.tables e below (T6.setTop (mkF m 28 #[.val (.ref a1), .val (.int p2), .val (.ref a3), .unset] [])) _
    refine XS.aloadN X6.here hx rfl (hb hby d7_28) rfl rfl ?_
    show Steps p.tables e below (T6.setTop (mkF m 29 #[.val (.ref a1), .val (.int p2), .val (.ref a3), .unset] [(.ref a1)])) _
    refine st7 _ ?_
    show Steps p.tables e below (T7.setTop (mkF m 32 #[.val (.ref a1), .val (.int p2), .val (.ref a3), .unset] [(.ref u)])) _
    refine XS.aloadN X7.here hx rfl (hb hby d7_32) rfl rfl ?_
    show Steps p.tables e below (T7.setTop (mkF m 33 #[.val (.ref a1), .val (.int p2), .val (.ref a3), .unset] [(.ref a1), (.ref u)])) _
    refine st8 _ ?_
    show Steps p.tables e below (T8.setTop (mkF m 36 #[.val (.ref a1), .val (.int p2), .val (.ref a3), .unset] [(.int pos), (.ref u)])) _
    refine XS.aloadN X8.here hx rfl (hb hby d7_36) rfl rfl ?_
    show Steps p.tables e below (T8.setTop (mkF m 37 #[.val (.ref a1), .val (.int p2), .val (.ref a3), .unset] [(.ref a1), (.int pos), (.ref u)])) _
    refine st9 _ ?_
    show Steps p.tables e below (T9.setTop (mkF m 40 #[.val (.ref a1), .val (.int p2), .val (.ref a3), .unset] [(.int pos), (.int pos), (.ref u)])) _
    refine XS.iloadN X9.here hx rfl (hb hby d7_40) rfl ?_
    show Steps p.tables e below (T9.setTop (mkF m 41 #[.val (.ref a1), .val (.int p2), .val (.ref a3), .unset] [(.int p2), (.int pos), (.int pos), (.ref u)])) _
    refine XS.iadd X9.here hx rfl (hb hby d7_41) rfl ?_
    rw [hto]
    show Steps p.tables e below (T9.setTop (mkF m 42 #[.val (.ref a1), .val (.int p2), .val (.ref a3), .unset] [(.int to), (.int pos), (.ref u)])) _
    refine st10 _ ?_
    show Steps p.tables e below (T10.setTop (mkF m 45 #[.val (.ref a1), .val (.int p2), .val (.ref a3), .unset] [(.ref bc10)])) _
    refine XS.astoreN X10.here hx rfl (hb hby d7_45) rfl rfl (l' := #[.val (.ref a1), .val (.int p2), .val (.ref a3), .val (.ref bc10)]) rfl ?_
    show Steps p.tables e below (T10.setTop (mkF m 46 #[.val (.ref a1), .val (.int p2), .val (.ref a3), .val (.ref bc10)] [])) _
    refine XS.aloadN X10.here hx rfl (hb hby d7_46) rfl rfl ?_
    show Steps p.tables e below (T10.setTop (mkF m 47 #[.val (.ref a1), .val (.int p2), .val (.ref a3), .val (.ref bc10)] [(.ref a1)])) _
    refine XS.dup X10.here hx rfl (hb hby d7_47) rfl rfl ?_
    show Steps p.tables e below (T10.setTop (mkF m 48 #[.val (.ref a1), .val (.int p2), .val (.ref a3), .val (.ref bc10)] [(.ref a1), (.ref a1)])) _
    refine st11 _ ?_
    show Steps p.tables e below (T11.setTop (mkF m 51 #[.val (.ref a1), .val (.int p2), .val (.ref a3), .val (.ref bc10)] [(.int pos), (.ref a1)])) _
    refine XS.iloadN X11.here hx rfl (hb hby d7_51) rfl ?_
    show Steps p.tables e below (T11.setTop (mkF m 52 #[.val (.ref a1), .val (.int p2), .val (.ref a3), .val (.ref bc10)] [(.int p2), (.int pos), (.ref a1)])) _
    refine XS.iadd X11.here hx rfl (hb hby d7_52) rfl ?_
    rw [hto]
    show Steps p.tables e below (T11.setTop (mkF m 53 #[.val (.ref a1), .val (.int p2), .val (.ref a3), .val (.ref bc10)] [(.int to), (.ref a1)])) _
    refine st12 _ ?_
    show Steps p.tables e below (T12.setTop (mkF m 56 #[.val (.ref a1), .val (.int p2), .val (.ref a3), .val (.ref bc10)] [])) _
    refine XS.aloadN X12.here hx rfl (hb hby d7_56) rfl rfl ?_
    show Steps p.tables e below (T12.setTop (mkF m 57 #[.val (.ref a1), .val (.int p2), .val (.ref a3), .val (.ref bc10)] [(.ref bc10)])) _
    jvm_step X12.here [X12.here.top, hx, (hb hby d7_57), X12.method', Bd.returns, Value.isRef, FieldType.isReference]
    first | (intro acts; rw [hr _ acts rfl rfl rfl]) | rw [hr _ _ rfl rfl rfl]
    exact Steps.refl _
  · show QT Z a1 u to h0 n0 _ T12.heap _
    rw [e12]
    exact ⟨bc10, rfl, N12, K12, E_a1_12, F_input_a1_12, F_position_a1_12⟩
set_option maxHeartbeats 4000000 in
theorem own_sel {Z s : State} {a0 args : Array Value} (hZ : Z.Warmed39 s.vm) (hw : ∀ d ∈ tables_1, d.before a0 Z = true) : (Jvm.Cond.selects "com/example/toll/toll/wire/WireReader" (⟨"com/example/toll/toll/wire/WireReader", "take", "(ILjava/lang/String;)[B"⟩ : MethodName) (⟨"com/example/toll/toll/wire/WireReader", "take", "(ILjava/lang/String;)[B"⟩ : MethodName)).before args s = true := by
  have hS : (Jvm.Cond.selects "com/example/toll/toll/wire/WireReader" (⟨"com/example/toll/toll/wire/WireReader", "bytes", "(JLjava/lang/String;)[B"⟩ : MethodName) (⟨"com/example/toll/toll/wire/WireReader", "bytes", "(JLjava/lang/String;)[B"⟩ : MethodName)).before args s = true := mvT hZ (hw _ (List.mem_of_getElem? (i := 29) rfl))
  obtain ⟨c2, r2, m2, q1, q2, q3, q4, kP, hkP, hkPi⟩ := Cond.selects_spec hS
  have hc : s.vm.findClass "com/example/toll/toll/wire/WireReader" = some m2.cls := findClass_of_methodNamed q3
  have hp : s.PrivateAt (⟨"com/example/toll/toll/wire/WireReader", "take", "(ILjava/lang/String;)[B"⟩ : MethodName) := Cond.privateMethod_at (args := #[]) (mvP hZ (hw _ (List.mem_of_getElem? (i := 41) rfl)))
  have hi : (Jvm.Cond.instanceMethod (⟨"com/example/toll/toll/wire/WireReader", "take", "(ILjava/lang/String;)[B"⟩ : MethodName)).before args s = true := mvT hZ (hw _ (List.mem_of_getElem? (i := 40) rfl))
  exact Jvm.Stand.selects_self_of_private (y := (⟨"com/example/toll/toll/wire/WireReader", "take", "(ILjava/lang/String;)[B"⟩ : MethodName)) hc hkP hkPi hp hi ⟨by decide, by decide⟩
theorem pn_4 : plainName "com/example/toll/toll/wire/WireReader" = true := by first | (simp [plainName, overriddenIn]; done) | decide +kernel
theorem ef_4 (m : MethodId) (x0 : Addr) (x1 : Int64) (x2 : Addr) : entryFrame m #[(.ref x0), (.long x1), (.ref x2)] 4 = mkF m 0 #[.val (.ref x0), .val (.long x1), .second, .val (.ref x2)] [] := by first | (simp [entryFrame, mkF, argsToLocals, Value.category]; done) | rfl
theorem d4_0 : decode prog_33_method_7_code 0 = .ok (.lload_n 1, 1) := by decide +kernel
theorem d4_1 : decode prog_33_method_7_code 1 = .ok (.aload_n 0, 1) := by decide +kernel
theorem d4_2 : decode prog_33_method_7_code 2 = .ok (.getfield 7, 3) := by decide +kernel
theorem d4_5 : decode prog_33_method_7_code 5 = .ok (.arraylength, 1) := by decide +kernel
theorem d4_6 : decode prog_33_method_7_code 6 = .ok (.aload_n 0, 1) := by decide +kernel
theorem d4_7 : decode prog_33_method_7_code 7 = .ok (.getfield 48, 3) := by decide +kernel
theorem d4_10 : decode prog_33_method_7_code 10 = .ok (.isub, 1) := by decide +kernel
theorem d4_11 : decode prog_33_method_7_code 11 = .ok (.i2l, 1) := by decide +kernel
theorem d4_12 : decode prog_33_method_7_code 12 = .ok (.invokestatic 33, 3) := by decide +kernel
theorem d4_15 : decode prog_33_method_7_code 15 = .ok (.ifCond .le 47, 3) := by decide +kernel
theorem d4_62 : decode prog_33_method_7_code 62 = .ok (.aload_n 0, 1) := by decide +kernel
theorem d4_63 : decode prog_33_method_7_code 63 = .ok (.lload_n 1, 1) := by decide +kernel
theorem d4_64 : decode prog_33_method_7_code 64 = .ok (.l2i, 1) := by decide +kernel
theorem d4_65 : decode prog_33_method_7_code 65 = .ok (.aload_n 3, 1) := by decide +kernel
theorem d4_66 : decode prog_33_method_7_code 66 = .ok (.invokevirtual 13, 3) := by decide +kernel
theorem pd_4 : parseMethodDescriptor "(ILjava/lang/String;)[B" = some ⟨[.int, (.object "java/lang/String")], some (.array .byte)⟩ := by decide +kernel
theorem d4_69 : decode prog_33_method_7_code 69 = .ok (.areturn, 1) := by decide +kernel
set_option maxRecDepth 65536 in
set_option maxHeartbeats 40000000 in
theorem rmB_lt (l : Launch) (Z : State) (a0 : Array Value) (hw : ∀ d ∈ tables_1, d.before a0 Z = true) (ws : List Jvm.Cond) (a1 : Addr) (q2 : Int64) (a3 : Addr) (p2 : Int32) (u : Addr) (k : ClassId) (nz : Int32) (pos : Int32) (to : Int32) (av : Int32) (ln : Int32) (rem : Int32) (h0 : Heap) (n0 : Nat) (Z0 : n0 ≤ h0.size) (E_a1 : Exa Z h0 a1 "com/example/toll/toll/wire/WireReader") (F_input_a1 : Fld Z h0 a1 "com/example/toll/toll/wire/WireReader" "input" "[B" (.ref u)) (F_position_a1 : Fld Z h0 a1 "com/example/toll/toll/wire/WireReader" "position" "I" (.int pos)) (V_u : Arv Z h0 u k .byte nz [] (.int (0 : Int32))) (E_u : Exa Z h0 u "[B") (g_a1 : n0 ≤ a1) (ne_u_a1 : u ≠ a1) (hav : (nz - pos) = av) (hok : ¬ (av < p2)) (hto : (pos + p2) = to) (hft : ¬ (to < pos)) (hln : (to - pos) = ln) (lnn : ¬ ln < 0) (lnc : ln.toNatClampNeg ≤ 8) (hrem : (nz - pos) = rem) (hmin : ln < rem) (p2n : ¬ pos < 0) (cnn : ¬ ln < 0) (c1 : pos.toNatClampNeg + ln.toNatClampNeg ≤ nz.toNatClampNeg) (c2 : ln.toNatClampNeg ≤ ln.toNatClampNeg) (f0 : pos = (0 : Int32)) (tn : ¬ (to = nz)) (hp2 : (q2.toInt32) = p2) (u_hc3_c3 : (q2 + (-9223372036854775808 : Int64)) < ((av.toInt64) + (-9223372036854775808 : Int64))) :
    MetFree l (⟨"com/example/toll/toll/wire/WireReader", "bytes", "(JLjava/lang/String;)[B"⟩ : MethodName) (head1 (Jvm.Cond.code (⟨"com/example/toll/toll/wire/WireReader", "bytes", "(JLjava/lang/String;)[B"⟩ : MethodName) prog_33_method_7_code 4 (some (.array .byte)) :: ws) ({ frames := 4, cells := 1, slots := 8, locals := 63 } : Room)) (fun a U => a = #[(.ref a1), (.long q2), (.ref a3)] ∧ Z.Warmed39 U.vm ∧ U.heap = h0) (fun _ _ _ _ _ => True) (fun _ U o U' => ∃ v L, o = .returned v ∧ QT Z a1 u to h0 n0 v U'.heap L ∧ FrameEnd U o U' L ({ frames := 4, cells := 1, slots := 8, locals := 63 } : Room).cells ({ frames := 4, cells := 1, slots := 8, locals := 63 } : Room).slots) := by
  refine MetFree.of_bodySF (plainFor_of_name pn_4) hisR ?_
  intro p e s m args below meth c s₁ Bd hml0 hP hK
  obtain ⟨rfl, hZ, hh⟩ := hP
  have hx := Bd.exec
  have hby := Bd.bytes
  have hml : c.maxLocals = 4 := hml0
  have hown : s.vm.findClass "com/example/toll/toll/wire/WireReader" = some m.cls := findClass_of_methodNamed Bd.named
  have hnm := (name_of_methodNamed Bd.named Bd.method).1
  have X0 : Stand p l e ({ frames := 4, cells := 1, slots := 8, locals := 63 } : Room) s m #[(.ref a1), (.long q2), (.ref a3)] below meth c s₁ [] 0 0 := Stand.of_body Bd
  have e0 : s₁.heap = h0 := by rw [← hh, Bd.state]; rfl
  have N0 := Fr.nil n0
  have pre0 : ∀ t, Steps p.tables e below (s₁.setTop (mkF m 0 #[.val (.ref a1), .val (.long q2), .second, .val (.ref a3)] [])) t → Steps p.tables e below (s₁.setTop (entryFrame m #[(.ref a1), (.long q2), (.ref a3)] 4)) t := fun t k => castTop (ef_4 m a1 q2 a3) k
  have K0 : Keep h0 h0 [a1] := Keep.refl _ _
  obtain ⟨T4, X4, e4, st4⟩ := getF X0 hx hZ hown (host := "") (Or.inl (hw _ (List.mem_of_getElem? (i := 10) rfl))) Via.refl e0 F_input_a1 (g := (mkF m 2 #[.val (.ref a1), .val (.long q2), .second, .val (.ref a3)] [(.ref a1), (.long q2)])) rfl rfl (hb hby d4_2)
  obtain ⟨clu5, Aru5, -, Su5, Mu5, -, -⟩ := id V_u
  obtain ⟨T6, X6, e6, st6⟩ := getF X4 hx hZ hown (host := "") (Or.inl (hw _ (List.mem_of_getElem? (i := 17) rfl))) Via.refl e4 F_position_a1 (g := (mkF m 7 #[.val (.ref a1), .val (.long q2), .second, .val (.ref a3)] [(.ref a1), (.int nz), (.long q2)])) rfl rfl (hb hby d4_7)
  obtain ⟨_, _, ⟨T7, L7, k7, n7⟩, -, X7, ⟨Lc7, hQ7, l7, y7, z7⟩, st7⟩ := Jvm.LawKit.callS X6 hx (y := (⟨"java/lang/Long", "compareUnsigned", "(JJ)I"⟩ : MethodName)) hown (mvT hZ (hw _ (List.mem_of_getElem? (i := 31) rfl))) (mvT hZ (hw _ (List.mem_of_getElem? (i := 32) rfl))) (mvT hZ (hw _ (List.mem_of_getElem? (i := 33) rfl))) (mvT hZ (hw _ (List.mem_of_getElem? (i := 34) rfl))) (by decide) (backOf (W := 0) (rm5_lt l Z a0 hw [] q2 (av.toInt64) h0 n0 Z0 (u_hc3_c3)) hZ (hw _ (List.mem_of_getElem? (i := 34) rfl)) (hw _ (List.mem_of_getElem? (i := 33) rfl)) (by decide) (by decide)) (g := (mkF m 12 #[.val (.ref a1), .val (.long q2), .second, .val (.ref a3)] [(.long (av.toInt64)), (.long q2)])) rfl (by rw [hml]; rfl) (argsL := [(.long q2), (.long (av.toInt64))]) (rest := []) (lenOf pd_0 rfl) rfl (by show 2 * 0 + _ ≤ _; exact Nat.le_of_eq rfl) (hb hby d4_12) (fun _ _ => ⟨rfl, e6, (by decide : 0 + 0 ≤ _), (by decide : 0 + 0 ≤ _)⟩)
  dsimp only [Pt.U, Pt.locs, Pt.cells, Pt.slots] at X7 l7 y7 z7 st7 hQ7
  subst l7 y7 z7
  obtain ⟨rfl, N7q, e7⟩ := hQ7
  have N7 := Fr.app N0 N7q
  obtain ⟨cq8, q8, q8'⟩ := E_a1.cell
  obtain ⟨_, _, ⟨T8, L8, k8, n8⟩, -, X8, ⟨Lc8, hQ8, l8, y8, z8⟩, st8⟩ := X7.privateBack hx (y := (⟨"com/example/toll/toll/wire/WireReader", "take", "(ILjava/lang/String;)[B"⟩ : MethodName)) hown (mvT hZ (hw _ (List.mem_of_getElem? (i := 39) rfl))) (mvT hZ (hw _ (List.mem_of_getElem? (i := 40) rfl))) (own_sel hZ hw) (Cond.privateMethod_at (mvP hZ (hw _ (List.mem_of_getElem? (i := 41) rfl)) (args := #[]))) (mvT hZ (hw _ (List.mem_of_getElem? (i := 42) rfl))) (by decide) (backOf (W := 0) (rmTt l Z a0 hw [] a1 p2 a3 u k nz pos to av ln rem h0 n0 Z0 (E_a1) (F_input_a1) (F_position_a1) (V_u) (E_u) (g_a1) (ne_u_a1) (hav) (hok) (hto) (hft) (hln) (lnn) (lnc) (hrem) (hmin) (p2n) (cnn) (c1) (c2) (f0) (tn)) hZ (hw _ (List.mem_of_getElem? (i := 42) rfl)) (hw _ (List.mem_of_getElem? (i := 3) rfl)) (by decide) (by decide)) (g := (mkF m 66 #[.val (.ref a1), .val (.long q2), .second, .val (.ref a3)] [(.ref a3), (.int p2), (.ref a1)])) rfl (by rw [hml]; rfl) (Steps.refl _) (a := a1) (by rw [e7]; exact q8) q8' (argsL := [(.int p2), (.ref a3)]) (rest := []) (lenOf pd_4 rfl) rfl (by show 2 * 0 + _ ≤ _; exact Nat.le_of_eq rfl) (hb hby d4_66) (fun _ _ => ⟨rfl, e7, (by decide : 0 + 1 ≤ _), (by decide : 0 + 8 ≤ _)⟩)
  dsimp only [Pt.U, Pt.locs, Pt.cells, Pt.slots] at X8 l8 y8 z8 st8 hQ8
  subst l8 y8 z8
  have e8 : T8.heap = T8.heap := rfl
  obtain ⟨bt8, rfl, N8q, KK8, xE8, xI8, xP8⟩ := hQ8
  have N8 := Fr.app N7 N8q
  have E_a1_8 := E_a1.keep KK8
  have V_u_8 := V_u.keep KK8 (ninS ne_u_a1 nin0)
  have E_u_8 := E_u.keep KK8
  have SZ8 : n0 ≤ T8.heap.size := Nat.le_trans Z0 KK8.1
  have K8 := Keep.trans K0 KK8 (allS (Or.inl (List.mem_of_getElem? (i := 0) rfl)) all0)
  obtain ⟨fs, hr, hrun, hended, hW, hsame⟩ := X8.leave (v := some (.ref bt8)) (fun h => by rw [Bd.returns] at h; cases h) (hlocks := Bd.notSynchronized)
  refine ⟨_, _, pre0 _ ?_, hrun, hended, _, _, rfl, ?_, ⟨_, rfl⟩, hW, hsame.mono (by decide) (by decide)⟩
  · show Steps p.tables e below (s₁.setTop (mkF m 0 #[.val (.ref a1), .val (.long q2), .second, .val (.ref a3)] [])) _
    refine XS.lloadN X0.here hx rfl (hb hby d4_0) rfl ?_
    show Steps p.tables e below (s₁.setTop (mkF m 1 #[.val (.ref a1), .val (.long q2), .second, .val (.ref a3)] [(.long q2)])) _
    refine XS.aloadN X0.here hx rfl (hb hby d4_1) rfl rfl ?_
    show Steps p.tables e below (s₁.setTop (mkF m 2 #[.val (.ref a1), .val (.long q2), .second, .val (.ref a3)] [(.ref a1), (.long q2)])) _
    refine st4 _ ?_
    show Steps p.tables e below (T4.setTop (mkF m 5 #[.val (.ref a1), .val (.long q2), .second, .val (.ref a3)] [(.ref u), (.long q2)])) _
    refine X4.arraylength hx (by rw [e4]; exact Aru5.1) (State.isArrayOf_alike hZ.alike Aru5.2.1) (g := (mkF m 5 #[.val (.ref a1), .val (.long q2), .second, .val (.ref a3)] [(.ref u), (.long q2)])) rfl rfl (hb hby d4_5) _ ?_
    rw [len_of Su5 Mu5]
    show Steps p.tables e below (T4.setTop (mkF m 6 #[.val (.ref a1), .val (.long q2), .second, .val (.ref a3)] [(.int nz), (.long q2)])) _
    refine XS.aloadN X4.here hx rfl (hb hby d4_6) rfl rfl ?_
    show Steps p.tables e below (T4.setTop (mkF m 7 #[.val (.ref a1), .val (.long q2), .second, .val (.ref a3)] [(.ref a1), (.int nz), (.long q2)])) _
    refine st6 _ ?_
    show Steps p.tables e below (T6.setTop (mkF m 10 #[.val (.ref a1), .val (.long q2), .second, .val (.ref a3)] [(.int pos), (.int nz), (.long q2)])) _
    refine XS.isub X6.here hx rfl (hb hby d4_10) rfl ?_
    rw [hav]
    show Steps p.tables e below (T6.setTop (mkF m 11 #[.val (.ref a1), .val (.long q2), .second, .val (.ref a3)] [(.int av), (.long q2)])) _
    refine XS.i2l X6.here hx rfl (hb hby d4_11) rfl ?_
    show Steps p.tables e below (T6.setTop (mkF m 12 #[.val (.ref a1), .val (.long q2), .second, .val (.ref a3)] [(.long (av.toInt64)), (.long q2)])) _
    refine st7 _ ?_
    show Steps p.tables e below (T7.setTop (mkF m 15 #[.val (.ref a1), .val (.long q2), .second, .val (.ref a3)] [(.int (-1 : Int32))])) _
    refine XS.ifYes X7.here hx rfl (pc0 := 15) (pc' := 62) rfl (hb hby d4_15) rfl ((if0 _ _).trans (flt (by decide : ¬ ((0 : Int32) < (-1 : Int32)))).2.2.2) (by decide) (by decide) ?_
    show Steps p.tables e below (T7.setTop (mkF m 62 #[.val (.ref a1), .val (.long q2), .second, .val (.ref a3)] [])) _
    refine XS.aloadN X7.here hx rfl (hb hby d4_62) rfl rfl ?_
    show Steps p.tables e below (T7.setTop (mkF m 63 #[.val (.ref a1), .val (.long q2), .second, .val (.ref a3)] [(.ref a1)])) _
    refine XS.lloadN X7.here hx rfl (hb hby d4_63) rfl ?_
    show Steps p.tables e below (T7.setTop (mkF m 64 #[.val (.ref a1), .val (.long q2), .second, .val (.ref a3)] [(.long q2), (.ref a1)])) _
    refine XS.l2i X7.here hx rfl (hb hby d4_64) rfl ?_
    rw [hp2]
    show Steps p.tables e below (T7.setTop (mkF m 65 #[.val (.ref a1), .val (.long q2), .second, .val (.ref a3)] [(.int p2), (.ref a1)])) _
    refine XS.aloadN X7.here hx rfl (hb hby d4_65) rfl rfl ?_
    show Steps p.tables e below (T7.setTop (mkF m 66 #[.val (.ref a1), .val (.long q2), .second, .val (.ref a3)] [(.ref a3), (.int p2), (.ref a1)])) _
    refine st8.trans ?_
    show Steps p.tables e below (T8.setTop (mkF m 69 #[.val (.ref a1), .val (.long q2), .second, .val (.ref a3)] [(.ref bt8)])) _
    jvm_step X8.here [X8.here.top, hx, (hb hby d4_69), X8.method', Bd.returns, Value.isRef, FieldType.isReference]
    first | (intro acts; rw [hr _ acts rfl rfl rfl]) | rw [hr _ _ rfl rfl rfl]
    exact Steps.refl _
  · show QT Z a1 u to h0 n0 _ T8.heap _
    rw [e8]
    exact ⟨bt8, rfl, N8, K8, xE8, xI8, xP8⟩
set_option maxRecDepth 65536 in
set_option maxHeartbeats 40000000 in
theorem rmB_ec (l : Launch) (Z : State) (a0 : Array Value) (hw : ∀ d ∈ tables_1, d.before a0 Z = true) (ws : List Jvm.Cond) (a1 : Addr) (q2 : Int64) (a3 : Addr) (p2 : Int32) (u : Addr) (k : ClassId) (nz : Int32) (pos : Int32) (to : Int32) (av : Int32) (h0 : Heap) (n0 : Nat) (Z0 : n0 ≤ h0.size) (E_a1 : Exa Z h0 a1 "com/example/toll/toll/wire/WireReader") (F_input_a1 : Fld Z h0 a1 "com/example/toll/toll/wire/WireReader" "input" "[B" (.ref u)) (F_position_a1 : Fld Z h0 a1 "com/example/toll/toll/wire/WireReader" "position" "I" (.int pos)) (V_u : Arv Z h0 u k .byte nz [] (.int (0 : Int32))) (E_u : Exa Z h0 u "[B") (g_a1 : n0 ≤ a1) (ne_u_a1 : u ≠ a1) (hav : (nz - pos) = av) (hok : ¬ (av < p2)) (hto : (pos + p2) = to) (nzc : nz.toNatClampNeg ≤ 8) (f0 : pos = (0 : Int32)) (tn : to = nz) (hp2 : (q2.toInt32) = p2) (u_hc3_c3 : ¬ ((q2 + (-9223372036854775808 : Int64)) < ((av.toInt64) + (-9223372036854775808 : Int64)))) (u_hc13_c3 : (q2 + (-9223372036854775808 : Int64)) = ((av.toInt64) + (-9223372036854775808 : Int64))) :
    MetFree l (⟨"com/example/toll/toll/wire/WireReader", "bytes", "(JLjava/lang/String;)[B"⟩ : MethodName) (head1 (Jvm.Cond.code (⟨"com/example/toll/toll/wire/WireReader", "bytes", "(JLjava/lang/String;)[B"⟩ : MethodName) prog_33_method_7_code 4 (some (.array .byte)) :: ws) ({ frames := 4, cells := 1, slots := 8, locals := 63 } : Room)) (fun a U => a = #[(.ref a1), (.long q2), (.ref a3)] ∧ Z.Warmed39 U.vm ∧ U.heap = h0) (fun _ _ _ _ _ => True) (fun _ U o U' => ∃ v L, o = .returned v ∧ QT Z a1 u to h0 n0 v U'.heap L ∧ FrameEnd U o U' L ({ frames := 4, cells := 1, slots := 8, locals := 63 } : Room).cells ({ frames := 4, cells := 1, slots := 8, locals := 63 } : Room).slots) := by
  refine MetFree.of_bodySF (plainFor_of_name pn_4) hisR ?_
  intro p e s m args below meth c s₁ Bd hml0 hP hK
  obtain ⟨rfl, hZ, hh⟩ := hP
  have hx := Bd.exec
  have hby := Bd.bytes
  have hml : c.maxLocals = 4 := hml0
  have hown : s.vm.findClass "com/example/toll/toll/wire/WireReader" = some m.cls := findClass_of_methodNamed Bd.named
  have hnm := (name_of_methodNamed Bd.named Bd.method).1
  have X0 : Stand p l e ({ frames := 4, cells := 1, slots := 8, locals := 63 } : Room) s m #[(.ref a1), (.long q2), (.ref a3)] below meth c s₁ [] 0 0 := Stand.of_body Bd
  have e0 : s₁.heap = h0 := by rw [← hh, Bd.state]; rfl
  have N0 := Fr.nil n0
  have pre0 : ∀ t, Steps p.tables e below (s₁.setTop (mkF m 0 #[.val (.ref a1), .val (.long q2), .second, .val (.ref a3)] [])) t → Steps p.tables e below (s₁.setTop (entryFrame m #[(.ref a1), (.long q2), (.ref a3)] 4)) t := fun t k => castTop (ef_4 m a1 q2 a3) k
  have K0 : Keep h0 h0 [a1] := Keep.refl _ _
  obtain ⟨T4, X4, e4, st4⟩ := getF X0 hx hZ hown (host := "") (Or.inl (hw _ (List.mem_of_getElem? (i := 10) rfl))) Via.refl e0 F_input_a1 (g := (mkF m 2 #[.val (.ref a1), .val (.long q2), .second, .val (.ref a3)] [(.ref a1), (.long q2)])) rfl rfl (hb hby d4_2)
  obtain ⟨clu5, Aru5, -, Su5, Mu5, -, -⟩ := id V_u
  obtain ⟨T6, X6, e6, st6⟩ := getF X4 hx hZ hown (host := "") (Or.inl (hw _ (List.mem_of_getElem? (i := 17) rfl))) Via.refl e4 F_position_a1 (g := (mkF m 7 #[.val (.ref a1), .val (.long q2), .second, .val (.ref a3)] [(.ref a1), (.int nz), (.long q2)])) rfl rfl (hb hby d4_7)
  obtain ⟨_, _, ⟨T7, L7, k7, n7⟩, -, X7, ⟨Lc7, hQ7, l7, y7, z7⟩, st7⟩ := Jvm.LawKit.callS X6 hx (y := (⟨"java/lang/Long", "compareUnsigned", "(JJ)I"⟩ : MethodName)) hown (mvT hZ (hw _ (List.mem_of_getElem? (i := 31) rfl))) (mvT hZ (hw _ (List.mem_of_getElem? (i := 32) rfl))) (mvT hZ (hw _ (List.mem_of_getElem? (i := 33) rfl))) (mvT hZ (hw _ (List.mem_of_getElem? (i := 34) rfl))) (by decide) (backOf (W := 0) (rm5_eq l Z a0 hw [] q2 (av.toInt64) h0 n0 Z0 (u_hc3_c3) (u_hc13_c3)) hZ (hw _ (List.mem_of_getElem? (i := 34) rfl)) (hw _ (List.mem_of_getElem? (i := 33) rfl)) (by decide) (by decide)) (g := (mkF m 12 #[.val (.ref a1), .val (.long q2), .second, .val (.ref a3)] [(.long (av.toInt64)), (.long q2)])) rfl (by rw [hml]; rfl) (argsL := [(.long q2), (.long (av.toInt64))]) (rest := []) (lenOf pd_0 rfl) rfl (by show 2 * 0 + _ ≤ _; exact Nat.le_of_eq rfl) (hb hby d4_12) (fun _ _ => ⟨rfl, e6, (by decide : 0 + 0 ≤ _), (by decide : 0 + 0 ≤ _)⟩)
  dsimp only [Pt.U, Pt.locs, Pt.cells, Pt.slots] at X7 l7 y7 z7 st7 hQ7
  subst l7 y7 z7
  obtain ⟨rfl, N7q, e7⟩ := hQ7
  have N7 := Fr.app N0 N7q
  obtain ⟨cq8, q8, q8'⟩ := E_a1.cell
  obtain ⟨_, _, ⟨T8, L8, k8, n8⟩, -, X8, ⟨Lc8, hQ8, l8, y8, z8⟩, st8⟩ := X7.privateBack hx (y := (⟨"com/example/toll/toll/wire/WireReader", "take", "(ILjava/lang/String;)[B"⟩ : MethodName)) hown (mvT hZ (hw _ (List.mem_of_getElem? (i := 39) rfl))) (mvT hZ (hw _ (List.mem_of_getElem? (i := 40) rfl))) (own_sel hZ hw) (Cond.privateMethod_at (mvP hZ (hw _ (List.mem_of_getElem? (i := 41) rfl)) (args := #[]))) (mvT hZ (hw _ (List.mem_of_getElem? (i := 42) rfl))) (by decide) (backOf (W := 0) (rmTc l Z a0 hw [] a1 p2 a3 u k nz pos to av h0 n0 Z0 (E_a1) (F_input_a1) (F_position_a1) (V_u) (E_u) (g_a1) (ne_u_a1) (hav) (hok) (hto) (nzc) (f0) (tn)) hZ (hw _ (List.mem_of_getElem? (i := 42) rfl)) (hw _ (List.mem_of_getElem? (i := 3) rfl)) (by decide) (by decide)) (g := (mkF m 66 #[.val (.ref a1), .val (.long q2), .second, .val (.ref a3)] [(.ref a3), (.int p2), (.ref a1)])) rfl (by rw [hml]; rfl) (Steps.refl _) (a := a1) (by rw [e7]; exact q8) q8' (argsL := [(.int p2), (.ref a3)]) (rest := []) (lenOf pd_4 rfl) rfl (by show 2 * 0 + _ ≤ _; exact Nat.le_of_eq rfl) (hb hby d4_66) (fun _ _ => ⟨rfl, e7, (by decide : 0 + 1 ≤ _), (by decide : 0 + 8 ≤ _)⟩)
  dsimp only [Pt.U, Pt.locs, Pt.cells, Pt.slots] at X8 l8 y8 z8 st8 hQ8
  subst l8 y8 z8
  have e8 : T8.heap = T8.heap := rfl
  obtain ⟨bt8, rfl, N8q, KK8, xE8, xI8, xP8⟩ := hQ8
  have N8 := Fr.app N7 N8q
  have E_a1_8 := E_a1.keep KK8
  have V_u_8 := V_u.keep KK8 (ninS ne_u_a1 nin0)
  have E_u_8 := E_u.keep KK8
  have SZ8 : n0 ≤ T8.heap.size := Nat.le_trans Z0 KK8.1
  have K8 := Keep.trans K0 KK8 (allS (Or.inl (List.mem_of_getElem? (i := 0) rfl)) all0)
  obtain ⟨fs, hr, hrun, hended, hW, hsame⟩ := X8.leave (v := some (.ref bt8)) (fun h => by rw [Bd.returns] at h; cases h) (hlocks := Bd.notSynchronized)
  refine ⟨_, _, pre0 _ ?_, hrun, hended, _, _, rfl, ?_, ⟨_, rfl⟩, hW, hsame.mono (by decide) (by decide)⟩
  · show Steps p.tables e below (s₁.setTop (mkF m 0 #[.val (.ref a1), .val (.long q2), .second, .val (.ref a3)] [])) _
    refine XS.lloadN X0.here hx rfl (hb hby d4_0) rfl ?_
    show Steps p.tables e below (s₁.setTop (mkF m 1 #[.val (.ref a1), .val (.long q2), .second, .val (.ref a3)] [(.long q2)])) _
    refine XS.aloadN X0.here hx rfl (hb hby d4_1) rfl rfl ?_
    show Steps p.tables e below (s₁.setTop (mkF m 2 #[.val (.ref a1), .val (.long q2), .second, .val (.ref a3)] [(.ref a1), (.long q2)])) _
    refine st4 _ ?_
    show Steps p.tables e below (T4.setTop (mkF m 5 #[.val (.ref a1), .val (.long q2), .second, .val (.ref a3)] [(.ref u), (.long q2)])) _
    refine X4.arraylength hx (by rw [e4]; exact Aru5.1) (State.isArrayOf_alike hZ.alike Aru5.2.1) (g := (mkF m 5 #[.val (.ref a1), .val (.long q2), .second, .val (.ref a3)] [(.ref u), (.long q2)])) rfl rfl (hb hby d4_5) _ ?_
    rw [len_of Su5 Mu5]
    show Steps p.tables e below (T4.setTop (mkF m 6 #[.val (.ref a1), .val (.long q2), .second, .val (.ref a3)] [(.int nz), (.long q2)])) _
    refine XS.aloadN X4.here hx rfl (hb hby d4_6) rfl rfl ?_
    show Steps p.tables e below (T4.setTop (mkF m 7 #[.val (.ref a1), .val (.long q2), .second, .val (.ref a3)] [(.ref a1), (.int nz), (.long q2)])) _
    refine st6 _ ?_
    show Steps p.tables e below (T6.setTop (mkF m 10 #[.val (.ref a1), .val (.long q2), .second, .val (.ref a3)] [(.int pos), (.int nz), (.long q2)])) _
    refine XS.isub X6.here hx rfl (hb hby d4_10) rfl ?_
    rw [hav]
    show Steps p.tables e below (T6.setTop (mkF m 11 #[.val (.ref a1), .val (.long q2), .second, .val (.ref a3)] [(.int av), (.long q2)])) _
    refine XS.i2l X6.here hx rfl (hb hby d4_11) rfl ?_
    show Steps p.tables e below (T6.setTop (mkF m 12 #[.val (.ref a1), .val (.long q2), .second, .val (.ref a3)] [(.long (av.toInt64)), (.long q2)])) _
    refine st7 _ ?_
    show Steps p.tables e below (T7.setTop (mkF m 15 #[.val (.ref a1), .val (.long q2), .second, .val (.ref a3)] [(.int (0 : Int32))])) _
    refine XS.ifYes X7.here hx rfl (pc0 := 15) (pc' := 62) rfl (hb hby d4_15) rfl ((if0 _ _).trans (flt (by decide : ¬ ((0 : Int32) < (0 : Int32)))).2.2.2) (by decide) (by decide) ?_
    show Steps p.tables e below (T7.setTop (mkF m 62 #[.val (.ref a1), .val (.long q2), .second, .val (.ref a3)] [])) _
    refine XS.aloadN X7.here hx rfl (hb hby d4_62) rfl rfl ?_
    show Steps p.tables e below (T7.setTop (mkF m 63 #[.val (.ref a1), .val (.long q2), .second, .val (.ref a3)] [(.ref a1)])) _
    refine XS.lloadN X7.here hx rfl (hb hby d4_63) rfl ?_
    show Steps p.tables e below (T7.setTop (mkF m 64 #[.val (.ref a1), .val (.long q2), .second, .val (.ref a3)] [(.long q2), (.ref a1)])) _
    refine XS.l2i X7.here hx rfl (hb hby d4_64) rfl ?_
    rw [hp2]
    show Steps p.tables e below (T7.setTop (mkF m 65 #[.val (.ref a1), .val (.long q2), .second, .val (.ref a3)] [(.int p2), (.ref a1)])) _
    refine XS.aloadN X7.here hx rfl (hb hby d4_65) rfl rfl ?_
    show Steps p.tables e below (T7.setTop (mkF m 66 #[.val (.ref a1), .val (.long q2), .second, .val (.ref a3)] [(.ref a3), (.int p2), (.ref a1)])) _
    refine st8.trans ?_
    show Steps p.tables e below (T8.setTop (mkF m 69 #[.val (.ref a1), .val (.long q2), .second, .val (.ref a3)] [(.ref bt8)])) _
    jvm_step X8.here [X8.here.top, hx, (hb hby d4_69), X8.method', Bd.returns, Value.isRef, FieldType.isReference]
    first | (intro acts; rw [hr _ acts rfl rfl rfl]) | rw [hr _ _ rfl rfl rfl]
    exact Steps.refl _
  · show QT Z a1 u to h0 n0 _ T8.heap _
    rw [e8]
    exact ⟨bt8, rfl, N8, K8, xE8, xI8, xP8⟩
set_option maxRecDepth 65536 in
set_option maxHeartbeats 40000000 in
theorem rmB_ef (l : Launch) (Z : State) (a0 : Array Value) (hw : ∀ d ∈ tables_1, d.before a0 Z = true) (ws : List Jvm.Cond) (a1 : Addr) (q2 : Int64) (a3 : Addr) (p2 : Int32) (u : Addr) (k : ClassId) (nz : Int32) (pos : Int32) (to : Int32) (av : Int32) (ln : Int32) (rem : Int32) (h0 : Heap) (n0 : Nat) (Z0 : n0 ≤ h0.size) (E_a1 : Exa Z h0 a1 "com/example/toll/toll/wire/WireReader") (F_input_a1 : Fld Z h0 a1 "com/example/toll/toll/wire/WireReader" "input" "[B" (.ref u)) (F_position_a1 : Fld Z h0 a1 "com/example/toll/toll/wire/WireReader" "position" "I" (.int pos)) (V_u : Arv Z h0 u k .byte nz [] (.int (0 : Int32))) (E_u : Exa Z h0 u "[B") (g_a1 : n0 ≤ a1) (ne_u_a1 : u ≠ a1) (hav : (nz - pos) = av) (hok : ¬ (av < p2)) (hto : (pos + p2) = to) (hft : ¬ (to < pos)) (hln : (to - pos) = ln) (lnn : ¬ ln < 0) (lnc : ln.toNatClampNeg ≤ 8) (hrem : (nz - pos) = rem) (hmin : ¬ (ln < rem)) (p2n : ¬ pos < 0) (cnn : ¬ rem < 0) (c1 : pos.toNatClampNeg + rem.toNatClampNeg ≤ nz.toNatClampNeg) (c2 : rem.toNatClampNeg ≤ ln.toNatClampNeg) (f0 : ¬ (pos = (0 : Int32))) (hp2 : (q2.toInt32) = p2) (u_hc3_c3 : ¬ ((q2 + (-9223372036854775808 : Int64)) < ((av.toInt64) + (-9223372036854775808 : Int64)))) (u_hc13_c3 : (q2 + (-9223372036854775808 : Int64)) = ((av.toInt64) + (-9223372036854775808 : Int64))) :
    MetFree l (⟨"com/example/toll/toll/wire/WireReader", "bytes", "(JLjava/lang/String;)[B"⟩ : MethodName) (head1 (Jvm.Cond.code (⟨"com/example/toll/toll/wire/WireReader", "bytes", "(JLjava/lang/String;)[B"⟩ : MethodName) prog_33_method_7_code 4 (some (.array .byte)) :: ws) ({ frames := 4, cells := 1, slots := 8, locals := 63 } : Room)) (fun a U => a = #[(.ref a1), (.long q2), (.ref a3)] ∧ Z.Warmed39 U.vm ∧ U.heap = h0) (fun _ _ _ _ _ => True) (fun _ U o U' => ∃ v L, o = .returned v ∧ QT Z a1 u to h0 n0 v U'.heap L ∧ FrameEnd U o U' L ({ frames := 4, cells := 1, slots := 8, locals := 63 } : Room).cells ({ frames := 4, cells := 1, slots := 8, locals := 63 } : Room).slots) := by
  refine MetFree.of_bodySF (plainFor_of_name pn_4) hisR ?_
  intro p e s m args below meth c s₁ Bd hml0 hP hK
  obtain ⟨rfl, hZ, hh⟩ := hP
  have hx := Bd.exec
  have hby := Bd.bytes
  have hml : c.maxLocals = 4 := hml0
  have hown : s.vm.findClass "com/example/toll/toll/wire/WireReader" = some m.cls := findClass_of_methodNamed Bd.named
  have hnm := (name_of_methodNamed Bd.named Bd.method).1
  have X0 : Stand p l e ({ frames := 4, cells := 1, slots := 8, locals := 63 } : Room) s m #[(.ref a1), (.long q2), (.ref a3)] below meth c s₁ [] 0 0 := Stand.of_body Bd
  have e0 : s₁.heap = h0 := by rw [← hh, Bd.state]; rfl
  have N0 := Fr.nil n0
  have pre0 : ∀ t, Steps p.tables e below (s₁.setTop (mkF m 0 #[.val (.ref a1), .val (.long q2), .second, .val (.ref a3)] [])) t → Steps p.tables e below (s₁.setTop (entryFrame m #[(.ref a1), (.long q2), (.ref a3)] 4)) t := fun t k => castTop (ef_4 m a1 q2 a3) k
  have K0 : Keep h0 h0 [a1] := Keep.refl _ _
  obtain ⟨T4, X4, e4, st4⟩ := getF X0 hx hZ hown (host := "") (Or.inl (hw _ (List.mem_of_getElem? (i := 10) rfl))) Via.refl e0 F_input_a1 (g := (mkF m 2 #[.val (.ref a1), .val (.long q2), .second, .val (.ref a3)] [(.ref a1), (.long q2)])) rfl rfl (hb hby d4_2)
  obtain ⟨clu5, Aru5, -, Su5, Mu5, -, -⟩ := id V_u
  obtain ⟨T6, X6, e6, st6⟩ := getF X4 hx hZ hown (host := "") (Or.inl (hw _ (List.mem_of_getElem? (i := 17) rfl))) Via.refl e4 F_position_a1 (g := (mkF m 7 #[.val (.ref a1), .val (.long q2), .second, .val (.ref a3)] [(.ref a1), (.int nz), (.long q2)])) rfl rfl (hb hby d4_7)
  obtain ⟨_, _, ⟨T7, L7, k7, n7⟩, -, X7, ⟨Lc7, hQ7, l7, y7, z7⟩, st7⟩ := Jvm.LawKit.callS X6 hx (y := (⟨"java/lang/Long", "compareUnsigned", "(JJ)I"⟩ : MethodName)) hown (mvT hZ (hw _ (List.mem_of_getElem? (i := 31) rfl))) (mvT hZ (hw _ (List.mem_of_getElem? (i := 32) rfl))) (mvT hZ (hw _ (List.mem_of_getElem? (i := 33) rfl))) (mvT hZ (hw _ (List.mem_of_getElem? (i := 34) rfl))) (by decide) (backOf (W := 0) (rm5_eq l Z a0 hw [] q2 (av.toInt64) h0 n0 Z0 (u_hc3_c3) (u_hc13_c3)) hZ (hw _ (List.mem_of_getElem? (i := 34) rfl)) (hw _ (List.mem_of_getElem? (i := 33) rfl)) (by decide) (by decide)) (g := (mkF m 12 #[.val (.ref a1), .val (.long q2), .second, .val (.ref a3)] [(.long (av.toInt64)), (.long q2)])) rfl (by rw [hml]; rfl) (argsL := [(.long q2), (.long (av.toInt64))]) (rest := []) (lenOf pd_0 rfl) rfl (by show 2 * 0 + _ ≤ _; exact Nat.le_of_eq rfl) (hb hby d4_12) (fun _ _ => ⟨rfl, e6, (by decide : 0 + 0 ≤ _), (by decide : 0 + 0 ≤ _)⟩)
  dsimp only [Pt.U, Pt.locs, Pt.cells, Pt.slots] at X7 l7 y7 z7 st7 hQ7
  subst l7 y7 z7
  obtain ⟨rfl, N7q, e7⟩ := hQ7
  have N7 := Fr.app N0 N7q
  obtain ⟨cq8, q8, q8'⟩ := E_a1.cell
  obtain ⟨_, _, ⟨T8, L8, k8, n8⟩, -, X8, ⟨Lc8, hQ8, l8, y8, z8⟩, st8⟩ := X7.privateBack hx (y := (⟨"com/example/toll/toll/wire/WireReader", "take", "(ILjava/lang/String;)[B"⟩ : MethodName)) hown (mvT hZ (hw _ (List.mem_of_getElem? (i := 39) rfl))) (mvT hZ (hw _ (List.mem_of_getElem? (i := 40) rfl))) (own_sel hZ hw) (Cond.privateMethod_at (mvP hZ (hw _ (List.mem_of_getElem? (i := 41) rfl)) (args := #[]))) (mvT hZ (hw _ (List.mem_of_getElem? (i := 42) rfl))) (by decide) (backOf (W := 0) (rmTf l Z a0 hw [] a1 p2 a3 u k nz pos to av ln rem h0 n0 Z0 (E_a1) (F_input_a1) (F_position_a1) (V_u) (E_u) (g_a1) (ne_u_a1) (hav) (hok) (hto) (hft) (hln) (lnn) (lnc) (hrem) (hmin) (p2n) (cnn) (c1) (c2) (f0)) hZ (hw _ (List.mem_of_getElem? (i := 42) rfl)) (hw _ (List.mem_of_getElem? (i := 3) rfl)) (by decide) (by decide)) (g := (mkF m 66 #[.val (.ref a1), .val (.long q2), .second, .val (.ref a3)] [(.ref a3), (.int p2), (.ref a1)])) rfl (by rw [hml]; rfl) (Steps.refl _) (a := a1) (by rw [e7]; exact q8) q8' (argsL := [(.int p2), (.ref a3)]) (rest := []) (lenOf pd_4 rfl) rfl (by show 2 * 0 + _ ≤ _; exact Nat.le_of_eq rfl) (hb hby d4_66) (fun _ _ => ⟨rfl, e7, (by decide : 0 + 1 ≤ _), (by decide : 0 + 8 ≤ _)⟩)
  dsimp only [Pt.U, Pt.locs, Pt.cells, Pt.slots] at X8 l8 y8 z8 st8 hQ8
  subst l8 y8 z8
  have e8 : T8.heap = T8.heap := rfl
  obtain ⟨bt8, rfl, N8q, KK8, xE8, xI8, xP8⟩ := hQ8
  have N8 := Fr.app N7 N8q
  have E_a1_8 := E_a1.keep KK8
  have V_u_8 := V_u.keep KK8 (ninS ne_u_a1 nin0)
  have E_u_8 := E_u.keep KK8
  have SZ8 : n0 ≤ T8.heap.size := Nat.le_trans Z0 KK8.1
  have K8 := Keep.trans K0 KK8 (allS (Or.inl (List.mem_of_getElem? (i := 0) rfl)) all0)
  obtain ⟨fs, hr, hrun, hended, hW, hsame⟩ := X8.leave (v := some (.ref bt8)) (fun h => by rw [Bd.returns] at h; cases h) (hlocks := Bd.notSynchronized)
  refine ⟨_, _, pre0 _ ?_, hrun, hended, _, _, rfl, ?_, ⟨_, rfl⟩, hW, hsame.mono (by decide) (by decide)⟩
  · show Steps p.tables e below (s₁.setTop (mkF m 0 #[.val (.ref a1), .val (.long q2), .second, .val (.ref a3)] [])) _
    refine XS.lloadN X0.here hx rfl (hb hby d4_0) rfl ?_
    show Steps p.tables e below (s₁.setTop (mkF m 1 #[.val (.ref a1), .val (.long q2), .second, .val (.ref a3)] [(.long q2)])) _
    refine XS.aloadN X0.here hx rfl (hb hby d4_1) rfl rfl ?_
    show Steps p.tables e below (s₁.setTop (mkF m 2 #[.val (.ref a1), .val (.long q2), .second, .val (.ref a3)] [(.ref a1), (.long q2)])) _
    refine st4 _ ?_
    show Steps p.tables e below (T4.setTop (mkF m 5 #[.val (.ref a1), .val (.long q2), .second, .val (.ref a3)] [(.ref u), (.long q2)])) _
    refine X4.arraylength hx (by rw [e4]; exact Aru5.1) (State.isArrayOf_alike hZ.alike Aru5.2.1) (g := (mkF m 5 #[.val (.ref a1), .val (.long q2), .second, .val (.ref a3)] [(.ref u), (.long q2)])) rfl rfl (hb hby d4_5) _ ?_
    rw [len_of Su5 Mu5]
    show Steps p.tables e below (T4.setTop (mkF m 6 #[.val (.ref a1), .val (.long q2), .second, .val (.ref a3)] [(.int nz), (.long q2)])) _
    refine XS.aloadN X4.here hx rfl (hb hby d4_6) rfl rfl ?_
    show Steps p.tables e below (T4.setTop (mkF m 7 #[.val (.ref a1), .val (.long q2), .second, .val (.ref a3)] [(.ref a1), (.int nz), (.long q2)])) _
    refine st6 _ ?_
    show Steps p.tables e below (T6.setTop (mkF m 10 #[.val (.ref a1), .val (.long q2), .second, .val (.ref a3)] [(.int pos), (.int nz), (.long q2)])) _
    refine XS.isub X6.here hx rfl (hb hby d4_10) rfl ?_
    rw [hav]
    show Steps p.tables e below (T6.setTop (mkF m 11 #[.val (.ref a1), .val (.long q2), .second, .val (.ref a3)] [(.int av), (.long q2)])) _
    refine XS.i2l X6.here hx rfl (hb hby d4_11) rfl ?_
    show Steps p.tables e below (T6.setTop (mkF m 12 #[.val (.ref a1), .val (.long q2), .second, .val (.ref a3)] [(.long (av.toInt64)), (.long q2)])) _
    refine st7 _ ?_
    show Steps p.tables e below (T7.setTop (mkF m 15 #[.val (.ref a1), .val (.long q2), .second, .val (.ref a3)] [(.int (0 : Int32))])) _
    refine XS.ifYes X7.here hx rfl (pc0 := 15) (pc' := 62) rfl (hb hby d4_15) rfl ((if0 _ _).trans (flt (by decide : ¬ ((0 : Int32) < (0 : Int32)))).2.2.2) (by decide) (by decide) ?_
    show Steps p.tables e below (T7.setTop (mkF m 62 #[.val (.ref a1), .val (.long q2), .second, .val (.ref a3)] [])) _
    refine XS.aloadN X7.here hx rfl (hb hby d4_62) rfl rfl ?_
    show Steps p.tables e below (T7.setTop (mkF m 63 #[.val (.ref a1), .val (.long q2), .second, .val (.ref a3)] [(.ref a1)])) _
    refine XS.lloadN X7.here hx rfl (hb hby d4_63) rfl ?_
    show Steps p.tables e below (T7.setTop (mkF m 64 #[.val (.ref a1), .val (.long q2), .second, .val (.ref a3)] [(.long q2), (.ref a1)])) _
    refine XS.l2i X7.here hx rfl (hb hby d4_64) rfl ?_
    rw [hp2]
    show Steps p.tables e below (T7.setTop (mkF m 65 #[.val (.ref a1), .val (.long q2), .second, .val (.ref a3)] [(.int p2), (.ref a1)])) _
    refine XS.aloadN X7.here hx rfl (hb hby d4_65) rfl rfl ?_
    show Steps p.tables e below (T7.setTop (mkF m 66 #[.val (.ref a1), .val (.long q2), .second, .val (.ref a3)] [(.ref a3), (.int p2), (.ref a1)])) _
    refine st8.trans ?_
    show Steps p.tables e below (T8.setTop (mkF m 69 #[.val (.ref a1), .val (.long q2), .second, .val (.ref a3)] [(.ref bt8)])) _
    jvm_step X8.here [X8.here.top, hx, (hb hby d4_69), X8.method', Bd.returns, Value.isRef, FieldType.isReference]
    first | (intro acts; rw [hr _ acts rfl rfl rfl]) | rw [hr _ _ rfl rfl rfl]
    exact Steps.refl _
  · show QT Z a1 u to h0 n0 _ T8.heap _
    rw [e8]
    exact ⟨bt8, rfl, N8, K8, xE8, xI8, xP8⟩
theorem own_wS {Z : State} {a0 : Array Value} (hw : ∀ d ∈ tables_1, d.before a0 Z = true) : ∀ a ∈ Bundle.stringAtoms, a.before a0 Z = true := by
  intro a ha
  simp only [Bundle.stringAtoms, List.mem_cons, List.not_mem_nil, or_false] at ha
  rcases ha with rfl | rfl | rfl | rfl | rfl | rfl | rfl
  · exact (hw _ (List.mem_of_getElem? (i := 20) rfl))
  · exact (hw _ (List.mem_of_getElem? (i := 21) rfl))
  · exact (hw _ (List.mem_of_getElem? (i := 0) rfl))
  · exact (hw _ (List.mem_of_getElem? (i := 22) rfl))
  · exact (hw _ (List.mem_of_getElem? (i := 23) rfl))
  · exact (hw _ (List.mem_of_getElem? (i := 24) rfl))
  · exact (hw _ (List.mem_of_getElem? (i := 25) rfl))
theorem own_l2i (x : Int32) : (x.toInt64.toInt32) = x := by
  have h := c_l2i x.toInt64
  rw [c_i2l] at h
  have h1 := rng32 x
  have h2 := rng32 x.toInt64.toInt32
  exact Int32.toInt_inj.mp (by omega)
theorem own_min64 {x : Int32} (h : 0 ≤ x.toInt) : (x.toInt64 + (-9223372036854775808 : Int64)).toInt = x.toInt - 9223372036854775808 := by
  have q := c_ladd x.toInt64 (-9223372036854775808)
  rw [c_i2l, show (-9223372036854775808 : Int64).toInt = -9223372036854775808 from rfl] at q
  have r := rng64 (x.toInt64 + (-9223372036854775808))
  have r2 := rng32 x
  omega
def QF (n0 : Nat) (v : Option Value) (h : Heap) (L : List Loc) : Prop := v = some (.int 1) ∧ Fr n0 L
theorem pn_0 : plainName "com/example/toll/toll/wire/WireReaderAtEndPinLaw" = true := by first | (simp [plainName, overriddenIn]; done) | decide +kernel
theorem ef_0 (m : MethodId) (x0 : Int32) (x1 : Int32) : entryFrame m #[(.int x0), (.int x1)] maxLocals = mkF m 0 #[.val (.int x0), .val (.int x1), .unset, .unset, .unset, .unset, .unset, .unset, .unset] [] := by first | (simp [entryFrame, mkF, argsToLocals, Value.category, maxLocals]; done) | rfl
theorem pd_5 : parseMethodDescriptor "([B)V" = some ⟨[(.array .byte)], none⟩ := by decide +kernel
theorem pd_6 : parseMethodDescriptor "()Z" = some ⟨[], some .boolean⟩ := by decide +kernel
theorem pd_7 : parseMethodDescriptor "(JLjava/lang/String;)[B" = some ⟨[.long, (.object "java/lang/String")], some (.array .byte)⟩ := by decide +kernel
set_option maxRecDepth 65536 in
set_option maxHeartbeats 40000000 in
theorem rm0 (l : Launch) (Z : State) (a0 : Array Value) (hw : ∀ d ∈ tables_1, d.before a0 Z = true) (ws : List Jvm.Cond) (p1 : Int32) (p2 : Int32) (h0 : Heap) (n0 : Nat) (Z0 : n0 ≤ h0.size) :
    MetFree l x (head1 (Jvm.Cond.code x code maxLocals ret :: ws) room_1) (fun a U => a = #[(.int p1), (.int p2)] ∧ Z.Warmed39 U.vm ∧ U.heap = h0) (fun _ _ _ _ _ => True) (fun _ U o U' => ∃ v L, o = .returned v ∧ QF n0 v U'.heap L ∧ ReturnedEndW U o U' L room_1.cells room_1.slots) := by
  refine MetFree.of_bodySF (plainFor_of_name pn_0) hisR ?_
  intro p e s m args below meth c s₁ Bd hml0 hP hK
  obtain ⟨rfl, hZ, hh⟩ := hP
  have hx := Bd.exec
  have hby := Bd.bytes
  have hml : c.maxLocals = 9 := hml0
  have hown : s.vm.findClass "com/example/toll/toll/wire/WireReaderAtEndPinLaw" = some m.cls := findClass_of_methodNamed Bd.named
  have hnm := (name_of_methodNamed Bd.named Bd.method).1
  have X0 : Stand p l e room_1 s m #[(.int p1), (.int p2)] below meth c s₁ [] 0 0 := Stand.of_body Bd
  have e0 : s₁.heap = h0 := by rw [← hh, Bd.state]; rfl
  have N0 := Fr.nil n0
  have pre0 : ∀ t, Steps p.tables e below (s₁.setTop (mkF m 0 #[.val (.int p1), .val (.int p2), .unset, .unset, .unset, .unset, .unset, .unset, .unset] [])) t → Steps p.tables e below (s₁.setTop (entryFrame m #[(.int p1), (.int p2)] maxLocals)) t := fun t k => castTop (ef_0 m p1 p2) k
  obtain ⟨nn, hnn⟩ : ∃ z, (p1 &&& (7 : Int32)) = z := ⟨_, rfl⟩
  obtain ⟨mb, hmb⟩ : ∃ z, (p2 &&& (7 : Int32)) = z := ⟨_, rfl⟩
  obtain ⟨n1, hn1⟩ : ∃ z, (nn + (1 : Int32)) = z := ⟨_, rfl⟩
  obtain ⟨kk, hkk⟩ : ∃ z, (mb % n1) = z := ⟨_, rfl⟩
  obtain ⟨dd, hdd⟩ : ∃ z, (nn - kk) = z := ⟨_, rfl⟩
  have i1 := c_mask p1 7 3 (by decide) (by decide)
  rw [hnn, show ((2 ^ 3 : Nat) : Int) = 8 from rfl] at i1
  have i2 := c_mask p2 7 3 (by decide) (by decide)
  rw [hmb, show ((2 ^ 3 : Nat) : Int) = 8 from rfl] at i2
  have i3 := c_iadd nn 1
  rw [hn1, show (1 : Int32).toInt = 1 from rfl] at i3
  have i4 := rng32 n1
  have i5 : n1.toInt = nn.toInt + 1 := by omega
  have i6 := (c_iremV mb n1).1 (by omega) (by omega)
  rw [hkk] at i6
  have i7 : 0 ≤ kk.toInt ∧ kk.toInt ≤ nn.toInt := ⟨i6.1, by omega⟩
  have i8 := c_isub nn kk
  rw [hdd] at i8
  have i9 := rng32 dd
  have j1 : dd.toInt = nn.toInt - kk.toInt := by omega
  have n1z : ¬ (n1 = (0 : Int32)) := own_neI (by rw [show (0 : Int32).toInt = 0 from rfl]; omega)
  have nnn : ¬ nn < 0 := own_geI (by rw [show (0 : Int32).toInt = 0 from rfl]; omega)
  have kkn : ¬ kk < 0 := own_geI (by rw [show (0 : Int32).toInt = 0 from rfl]; omega)
  have ddn : ¬ dd < 0 := own_geI (by rw [show (0 : Int32).toInt = 0 from rfl]; omega)
  have nc := nat_of nnn
  have kc := nat_of kkn
  have dc := nat_of ddn
  have n8 : nn.toNatClampNeg ≤ 8 := by omega
  have to2 : kk + dd = nn := by
    have q := c_iadd kk dd
    have q1 := rng32 (kk + dd)
    exact Int32.toInt_inj.mp (by omega)
  obtain ⟨T3, h3, k3, X3, e3, E3, A3, B3, st3⟩ := newPE X0 hx hZ (hw _ (List.mem_of_getElem? (i := 0) rfl)) e0 (g := (mkF m 15 #[.val (.int p1), .val (.int p2), .val (.int nn), .val (.int kk), .unset, .unset, .unset, .unset, .unset] [(.int nn)])) rfl (hb hby at_15) rfl nnn (cap := 8) n8 (by decide) (by decide) (by decide) (ad := "[B") rfl
  obtain ⟨b3, g3⟩ : ∃ z, z = h0.size := ⟨_, rfl⟩
  rw [← g3] at A3 B3 st3
  have g_b3 : n0 ≤ b3 := Nat.le_trans Z0 (Nat.le_of_eq g3.symm)
  have sz_b3 : h0.size ≤ b3 := Nat.le_of_eq g3.symm
  have SZ3 : n0 ≤ h3.size := Nat.le_trans Z0 E3.1
  have V_b3 : Arv Z h3 b3 k3 .byte nn [] (.int (0 : Int32)) := Arv.new A3 nnn
  have E_b3 := B3
  obtain ⟨T4, h4, X4, e4, E4, A4, D4, -, st4⟩ := newO X3 hx hZ hown (hw _ (List.mem_of_getElem? (i := 1) rfl)) (hw _ (List.mem_of_getElem? (i := 2) rfl)) (hw _ (List.mem_of_getElem? (i := 3) rfl)) e3 (g := (mkF m 19 #[.val (.int p1), .val (.int p2), .val (.int nn), .val (.int kk), .val (.ref b3), .unset, .unset, .unset, .unset] [])) rfl (hb hby at_19) (by decide) (by decide)
  obtain ⟨b4, g4⟩ : ∃ z, z = h3.size := ⟨_, rfl⟩
  rw [← g4] at A4 D4 st4
  have ne_b3_b4 : b3 ≠ b4 := Nat.ne_of_lt (Nat.lt_of_lt_of_le V_b3.lt (Nat.le_of_eq g4.symm))
  have g_b4 : n0 ≤ b4 := Nat.le_trans SZ3 (Nat.le_of_eq g4.symm)
  have sz_b4 : h3.size ≤ b4 := Nat.le_of_eq g4.symm
  have V_b3_4 := V_b3.ext E4
  have E_b3_4 := E_b3.ext E4
  have SZ4 : n0 ≤ h4.size := Nat.le_trans SZ3 E4.1
  have E_b4 := A4
  have F_input_b4 : Fld Z h4 b4 "com/example/toll/toll/wire/WireReader" "input" "[B" .null := D4 (Or.inr (hw _ (List.mem_of_getElem? (i := 11) rfl))) (ty := (.array .byte)) (by decide)
  have F_position_b4 : Fld Z h4 b4 "com/example/toll/toll/wire/WireReader" "position" "I" (.int (0 : Int32)) := D4 (Or.inl (hw _ (List.mem_of_getElem? (i := 18) rfl))) (ty := .int) (by decide)
  obtain ⟨_, _, ⟨T5, L5, k5, n5⟩, -, X5, ⟨Lc5, hQ5, l5, y5, z5⟩, st5⟩ := X4.specialBack hx (y := (⟨"com/example/toll/toll/wire/WireReader", "<init>", "([B)V"⟩ : MethodName)) rfl hown (mvT hZ (hw _ (List.mem_of_getElem? (i := 4) rfl))) (mvT hZ (hw _ (List.mem_of_getElem? (i := 5) rfl))) (mvT hZ (hw _ (List.mem_of_getElem? (i := 6) rfl))) (by decide) (backOf (W := 1) (rmC l Z a0 hw [] b4 b3 h4 n0 SZ4 (E_b4) (F_input_b4) (F_position_b4) (g_b4)) hZ (hw _ (List.mem_of_getElem? (i := 6) rfl)) (hw _ (List.mem_of_getElem? (i := 3) rfl)) (by decide) (by decide)) (g := (mkF m 25 #[.val (.int p1), .val (.int p2), .val (.int nn), .val (.int kk), .val (.ref b3), .unset, .unset, .unset, .unset] [(.ref b3), (.ref b4), (.ref b4)])) rfl (by rw [hml]; rfl) (Steps.refl _) (a := b4) (argsL := [(.ref b3)]) (rest := [(.ref b4)]) (lenOf pd_5 rfl) rfl (by show 2 * 0 + _ ≤ _; exact Nat.le_of_eq rfl) (hb hby at_25) (fun _ _ => ⟨rfl, e4, (by decide : 2 + 0 ≤ _), (by decide : 10 + 0 ≤ _)⟩)
  dsimp only [Pt.U, Pt.locs, Pt.cells, Pt.slots] at X5 l5 y5 z5 st5 hQ5
  subst l5 y5 z5
  have e5 : T5.heap = T5.heap := rfl
  obtain ⟨rfl, N5q, KK5, xE5, xI5, xP5⟩ := hQ5
  have N5 := Fr.app N0 N5q
  have V_b3_5 := V_b3_4.keep KK5 (ninS ne_b3_b4 nin0)
  have E_b3_5 := E_b3_4.keep KK5
  have E_b4_5 := E_b4.keep KK5
  have SZ5 : n0 ≤ T5.heap.size := Nat.le_trans SZ4 KK5.1
  have pre_6 : ∀ t, Steps p.tables e below (T5.setTop (mkF m 30 #[.val (.int p1), .val (.int p2), .val (.int nn), .val (.int kk), .val (.ref b3), .val (.ref b4), .unset, .unset, .unset] [])) t → Steps p.tables e below (s₁.setTop (entryFrame m #[(.int p1), (.int p2)] maxLocals)) t := by
    intro t kt
    refine pre0 _ ?_
    show Steps p.tables e below (s₁.setTop (mkF m 0 #[.val (.int p1), .val (.int p2), .unset, .unset, .unset, .unset, .unset, .unset, .unset] [])) _
    refine XS.iloadN X0.here hx rfl (hb hby at_0) rfl ?_
    show Steps p.tables e below (s₁.setTop (mkF m 1 #[.val (.int p1), .val (.int p2), .unset, .unset, .unset, .unset, .unset, .unset, .unset] [(.int p1)])) _
    refine XS.bipush X0.here hx rfl (hb hby at_1) ?_
    show Steps p.tables e below (s₁.setTop (mkF m 3 #[.val (.int p1), .val (.int p2), .unset, .unset, .unset, .unset, .unset, .unset, .unset] [(.int (7 : Int32)), (.int p1)])) _
    refine XS.iand X0.here hx rfl (hb hby at_3) rfl ?_
    rw [hnn]
    show Steps p.tables e below (s₁.setTop (mkF m 4 #[.val (.int p1), .val (.int p2), .unset, .unset, .unset, .unset, .unset, .unset, .unset] [(.int nn)])) _
    refine XS.istoreN X0.here hx rfl (hb hby at_4) rfl (l' := #[.val (.int p1), .val (.int p2), .val (.int nn), .unset, .unset, .unset, .unset, .unset, .unset]) rfl ?_
    show Steps p.tables e below (s₁.setTop (mkF m 5 #[.val (.int p1), .val (.int p2), .val (.int nn), .unset, .unset, .unset, .unset, .unset, .unset] [])) _
    refine XS.iloadN X0.here hx rfl (hb hby at_5) rfl ?_
    show Steps p.tables e below (s₁.setTop (mkF m 6 #[.val (.int p1), .val (.int p2), .val (.int nn), .unset, .unset, .unset, .unset, .unset, .unset] [(.int p2)])) _
    refine XS.bipush X0.here hx rfl (hb hby at_6) ?_
    show Steps p.tables e below (s₁.setTop (mkF m 8 #[.val (.int p1), .val (.int p2), .val (.int nn), .unset, .unset, .unset, .unset, .unset, .unset] [(.int (7 : Int32)), (.int p2)])) _
    refine XS.iand X0.here hx rfl (hb hby at_8) rfl ?_
    rw [hmb]
    show Steps p.tables e below (s₁.setTop (mkF m 9 #[.val (.int p1), .val (.int p2), .val (.int nn), .unset, .unset, .unset, .unset, .unset, .unset] [(.int mb)])) _
    refine XS.iloadN X0.here hx rfl (hb hby at_9) rfl ?_
    show Steps p.tables e below (s₁.setTop (mkF m 10 #[.val (.int p1), .val (.int p2), .val (.int nn), .unset, .unset, .unset, .unset, .unset, .unset] [(.int nn), (.int mb)])) _
    refine XS.iconst X0.here hx rfl (hb hby at_10) ?_
    show Steps p.tables e below (s₁.setTop (mkF m 11 #[.val (.int p1), .val (.int p2), .val (.int nn), .unset, .unset, .unset, .unset, .unset, .unset] [(.int (1 : Int32)), (.int nn), (.int mb)])) _
    refine XS.iadd X0.here hx rfl (hb hby at_11) rfl ?_
    rw [hn1]
    show Steps p.tables e below (s₁.setTop (mkF m 12 #[.val (.int p1), .val (.int p2), .val (.int nn), .unset, .unset, .unset, .unset, .unset, .unset] [(.int n1), (.int mb)])) _
    refine XS.irem X0.here hx rfl (hb hby at_12) rfl n1z ?_
    rw [own_irem]
    rw [hkk]
    show Steps p.tables e below (s₁.setTop (mkF m 13 #[.val (.int p1), .val (.int p2), .val (.int nn), .unset, .unset, .unset, .unset, .unset, .unset] [(.int kk)])) _
    refine XS.istoreN X0.here hx rfl (hb hby at_13) rfl (l' := #[.val (.int p1), .val (.int p2), .val (.int nn), .val (.int kk), .unset, .unset, .unset, .unset, .unset]) rfl ?_
    show Steps p.tables e below (s₁.setTop (mkF m 14 #[.val (.int p1), .val (.int p2), .val (.int nn), .val (.int kk), .unset, .unset, .unset, .unset, .unset] [])) _
    refine XS.iloadN X0.here hx rfl (hb hby at_14) rfl ?_
    show Steps p.tables e below (s₁.setTop (mkF m 15 #[.val (.int p1), .val (.int p2), .val (.int nn), .val (.int kk), .unset, .unset, .unset, .unset, .unset] [(.int nn)])) _
    refine st3 _ ?_
    show Steps p.tables e below (T3.setTop (mkF m 17 #[.val (.int p1), .val (.int p2), .val (.int nn), .val (.int kk), .unset, .unset, .unset, .unset, .unset] [(.ref b3)])) _
    refine XS.astore X3.here hx rfl (hb hby at_17) rfl rfl (l' := #[.val (.int p1), .val (.int p2), .val (.int nn), .val (.int kk), .val (.ref b3), .unset, .unset, .unset, .unset]) rfl ?_
    show Steps p.tables e below (T3.setTop (mkF m 19 #[.val (.int p1), .val (.int p2), .val (.int nn), .val (.int kk), .val (.ref b3), .unset, .unset, .unset, .unset] [])) _
    refine st4 _ ?_
    show Steps p.tables e below (T4.setTop (mkF m 22 #[.val (.int p1), .val (.int p2), .val (.int nn), .val (.int kk), .val (.ref b3), .unset, .unset, .unset, .unset] [(.ref b4)])) _
    refine XS.dup X4.here hx rfl (hb hby at_22) rfl rfl ?_
    show Steps p.tables e below (T4.setTop (mkF m 23 #[.val (.int p1), .val (.int p2), .val (.int nn), .val (.int kk), .val (.ref b3), .unset, .unset, .unset, .unset] [(.ref b4), (.ref b4)])) _
    refine XS.aload X4.here hx rfl (hb hby at_23) rfl rfl ?_
    show Steps p.tables e below (T4.setTop (mkF m 25 #[.val (.int p1), .val (.int p2), .val (.int nn), .val (.int kk), .val (.ref b3), .unset, .unset, .unset, .unset] [(.ref b3), (.ref b4), (.ref b4)])) _
    refine st5.trans ?_
    show Steps p.tables e below (T5.setTop (mkF m 28 #[.val (.int p1), .val (.int p2), .val (.int nn), .val (.int kk), .val (.ref b3), .unset, .unset, .unset, .unset] [(.ref b4)])) _
    refine XS.astore X5.here hx rfl (hb hby at_28) rfl rfl (l' := #[.val (.int p1), .val (.int p2), .val (.int nn), .val (.int kk), .val (.ref b3), .val (.ref b4), .unset, .unset, .unset]) rfl ?_
    exact kt
  by_cases hn0 : nn = (0 : Int32)
  · skip
    have k0 : kk = (0 : Int32) := own_eqI (by rw [show (0 : Int32).toInt = 0 from rfl]; have := congrArg Int32.toInt hn0; rw [show (0 : Int32).toInt = 0 from rfl] at this; omega)
    have ken : kk = nn := k0.trans hn0.symm
    obtain ⟨cq7, kq7, q7a, q7b, q7c⟩ := isOf hZ e5 xE5
    obtain ⟨_, _, ⟨T7, L7, k7, n7⟩, -, X7, ⟨Lc7, hQ7, l7, y7, z7⟩, st7⟩ := X5.virtualBack hx (y := (⟨"com/example/toll/toll/wire/WireReader", "atEnd", "()Z"⟩ : MethodName)) (z := (⟨"com/example/toll/toll/wire/WireReader", "atEnd", "()Z"⟩ : MethodName)) hown (mvT hZ (hw _ (List.mem_of_getElem? (i := 12) rfl))) (mvT hZ (hw _ (List.mem_of_getElem? (i := 13) rfl))) (notFace_of_selects (args := #[]) (mvT hZ (hw _ (List.mem_of_getElem? (i := 15) rfl)))) (mvT hZ (hw _ (List.mem_of_getElem? (i := 15) rfl))) (mvT hZ (hw _ (List.mem_of_getElem? (i := 14) rfl))) (by decide) (backOf (W := 0) (rmE1 l Z a0 hw [] b4 b3 k3 nn (0 : Int32) T5.heap n0 SZ5 (xI5) (xP5) (V_b3_5) (hn0.symm)) hZ (hw _ (List.mem_of_getElem? (i := 16) rfl)) (hw _ (List.mem_of_getElem? (i := 3) rfl)) (by decide) (by decide)) q7a q7c (g := (mkF m 32 #[.val (.int p1), .val (.int p2), .val (.int nn), .val (.int kk), .val (.ref b3), .val (.ref b4), .unset, .unset, .unset] [(.ref b4)])) rfl (by rw [hml]; rfl) (Steps.refl _) (argsL := []) (rest := []) (lenOf pd_6 rfl) rfl (by show 2 * 0 + _ ≤ _; exact Nat.le_of_eq rfl) (hb hby at_32) (fun _ _ => ⟨rfl, e5, (by decide : 2 + 0 ≤ _), (by decide : 10 + 0 ≤ _)⟩)
    dsimp only [Pt.U, Pt.locs, Pt.cells, Pt.slots] at X7 l7 y7 z7 st7 hQ7
    subst l7 y7 z7
    obtain ⟨rfl, N7q, e7⟩ := hQ7
    have N7 := Fr.app N5 N7q
    obtain ⟨sa8, T8, h8, ks8, X8, e8, E8, hS8, hk8, hZ8, hown8, st8⟩ := ldcS (s := s) (vm0 := s.vm) X7 hx hZ hown (hw _ (List.mem_of_getElem? (i := 19) rfl)) (own_wS hw) e7 ((State.WarmedH.refl s).since 0) (Nat.zero_le _) (g := (mkF m 41 #[.val (.int p1), .val (.int p2), .val (.int nn), .val (.int kk), .val (.ref b3), .val (.ref b4), .val (.int (1 : Int32)), .unset, .unset] [(.long (kk.toInt64)), (.ref b4)])) rfl (hb hby at_41) (n := 4) (by decide) (by decide) (by decide) (by decide)
    have hZ := hZ8
    have hown := hown8
    have V_b3_8 := V_b3_5.ext E8
    have E_b3_8 := E_b3_5.ext E8
    have E_b4_8 := xE5.ext E8
    have F_input_b4_8 := xI5.ext E8
    have F_position_b4_8 := xP5.ext E8
    have SZ8 : n0 ≤ h8.size := Nat.le_trans SZ5 E8.1
    obtain ⟨cq9, kq9, q9a, q9b, q9c⟩ := isOf hZ e8 E_b4_8
    obtain ⟨_, _, ⟨T9, L9, k9, n9⟩, -, X9, ⟨Lc9, hQ9, l9, y9, z9⟩, st9⟩ := X8.virtualBack hx (y := (⟨"com/example/toll/toll/wire/WireReader", "bytes", "(JLjava/lang/String;)[B"⟩ : MethodName)) (z := (⟨"com/example/toll/toll/wire/WireReader", "bytes", "(JLjava/lang/String;)[B"⟩ : MethodName)) hown (mvT hZ (hw _ (List.mem_of_getElem? (i := 26) rfl))) (mvT hZ (hw _ (List.mem_of_getElem? (i := 27) rfl))) (notFace_of_selects (args := #[]) (mvT hZ (hw _ (List.mem_of_getElem? (i := 29) rfl)))) (mvT hZ (hw _ (List.mem_of_getElem? (i := 29) rfl))) (mvT hZ (hw _ (List.mem_of_getElem? (i := 28) rfl))) (by decide) (backOf (W := 0) (rmB_ec l Z a0 hw [] b4 (kk.toInt64) sa8 kk b3 k3 nn (0 : Int32) kk nn h8 n0 SZ8 (E_b4_8) (F_input_b4_8) (F_position_b4_8) (V_b3_8) (E_b3_8) (g_b4) (ne_b3_b4) (Int32.sub_zero _) (own_geI i7.2) (Int32.zero_add _) (n8) (rfl) (ken) (own_l2i kk) (ken ▸ own_irrL _) (by rw [ken])) hZ (hw _ (List.mem_of_getElem? (i := 30) rfl)) (hw _ (List.mem_of_getElem? (i := 3) rfl)) (by decide) (by decide)) q9a q9c (g := (mkF m 43 #[.val (.int p1), .val (.int p2), .val (.int nn), .val (.int kk), .val (.ref b3), .val (.ref b4), .val (.int (1 : Int32)), .unset, .unset] [(.ref sa8), (.long (kk.toInt64)), (.ref b4)])) rfl (by rw [hml]; rfl) (Steps.refl _) (argsL := [(.long (kk.toInt64)), (.ref sa8)]) (rest := []) (lenOf pd_7 rfl) rfl (by show 2 * 0 + _ ≤ _; exact Nat.le_of_eq rfl) (hb hby at_43) (fun _ _ => ⟨rfl, e8, (by decide : 4 + 1 ≤ _), (by decide : 18 + 8 ≤ _)⟩)
    dsimp only [Pt.U, Pt.locs, Pt.cells, Pt.slots] at X9 l9 y9 z9 st9 hQ9
    subst l9 y9 z9
    have e9 : T9.heap = T9.heap := rfl
    obtain ⟨bt9, rfl, N9q, KK9, xE9, xI9, xP9⟩ := hQ9
    have N9 := Fr.app N7 N9q
    have V_b3_9 := V_b3_8.keep KK9 (ninS ne_b3_b4 nin0)
    have E_b3_9 := E_b3_8.keep KK9
    have E_b4_9 := E_b4_8.keep KK9
    have SZ9 : n0 ≤ T9.heap.size := Nat.le_trans SZ8 KK9.1
    have sx_ks8_9 : ks8 ≤ T9.heap.size := Nat.le_trans hk8 KK9.1
    obtain ⟨cq10, kq10, q10a, q10b, q10c⟩ := isOf hZ e9 xE9
    obtain ⟨_, _, ⟨T10, L10, k10, n10⟩, -, X10, ⟨Lc10, hQ10, l10, y10, z10⟩, st10⟩ := X9.virtualBack hx (y := (⟨"com/example/toll/toll/wire/WireReader", "atEnd", "()Z"⟩ : MethodName)) (z := (⟨"com/example/toll/toll/wire/WireReader", "atEnd", "()Z"⟩ : MethodName)) hown (mvT hZ (hw _ (List.mem_of_getElem? (i := 12) rfl))) (mvT hZ (hw _ (List.mem_of_getElem? (i := 13) rfl))) (notFace_of_selects (args := #[]) (mvT hZ (hw _ (List.mem_of_getElem? (i := 15) rfl)))) (mvT hZ (hw _ (List.mem_of_getElem? (i := 15) rfl))) (mvT hZ (hw _ (List.mem_of_getElem? (i := 14) rfl))) (by decide) (backOf (W := 0) (rmE1 l Z a0 hw [] b4 b3 k3 nn kk T9.heap n0 SZ9 (xI9) (xP9) (V_b3_9) (ken)) hZ (hw _ (List.mem_of_getElem? (i := 16) rfl)) (hw _ (List.mem_of_getElem? (i := 3) rfl)) (by decide) (by decide)) q10a q10c (g := (mkF m 49 #[.val (.int p1), .val (.int p2), .val (.int nn), .val (.int kk), .val (.ref b3), .val (.ref b4), .val (.int (1 : Int32)), .unset, .unset] [(.ref b4)])) rfl (by rw [hml]; rfl) (Steps.refl _) (argsL := []) (rest := []) (lenOf pd_6 rfl) rfl (by show 2 * 0 + _ ≤ _; exact Nat.le_of_eq rfl) (hb hby at_49) (fun _ _ => ⟨rfl, e9, (by decide : 5 + 0 ≤ _), (by decide : 26 + 0 ≤ _)⟩)
    dsimp only [Pt.U, Pt.locs, Pt.cells, Pt.slots] at X10 l10 y10 z10 st10 hQ10
    subst l10 y10 z10
    obtain ⟨rfl, N10q, e10⟩ := hQ10
    have N10 := Fr.app N9 N10q
    obtain ⟨sa11, T11, h11, ks11, X11, e11, E11, hS11, hk11, hZ11, hown11, st11⟩ := ldcS (s := s) (vm0 := T8.vm) X10 hx hZ hown (hw _ (List.mem_of_getElem? (i := 56) rfl)) (own_wS hw) e10 hS8 sx_ks8_9 (g := (mkF m 60 #[.val (.int p1), .val (.int p2), .val (.int nn), .val (.int kk), .val (.ref b3), .val (.ref b4), .val (.int (1 : Int32)), .val (.int (1 : Int32)), .unset] [(.long (dd.toInt64)), (.ref b4)])) rfl (hb hby at_60) (n := 4) (by decide) (by decide) (by decide) (by decide)
    have hZ := hZ11
    have hown := hown11
    have V_b3_11 := V_b3_9.ext E11
    have E_b3_11 := E_b3_9.ext E11
    have E_b4_11 := xE9.ext E11
    have F_input_b4_11 := xI9.ext E11
    have F_position_b4_11 := xP9.ext E11
    have SZ11 : n0 ≤ h11.size := Nat.le_trans SZ9 E11.1
    have sx_ks8_11 : ks8 ≤ h11.size := Nat.le_trans sx_ks8_9 E11.1
    obtain ⟨cq12, kq12, q12a, q12b, q12c⟩ := isOf hZ e11 E_b4_11
    obtain ⟨_, _, ⟨T12, L12, k12, n12⟩, -, X12, ⟨Lc12, hQ12, l12, y12, z12⟩, st12⟩ := X11.virtualBack hx (y := (⟨"com/example/toll/toll/wire/WireReader", "bytes", "(JLjava/lang/String;)[B"⟩ : MethodName)) (z := (⟨"com/example/toll/toll/wire/WireReader", "bytes", "(JLjava/lang/String;)[B"⟩ : MethodName)) hown (mvT hZ (hw _ (List.mem_of_getElem? (i := 26) rfl))) (mvT hZ (hw _ (List.mem_of_getElem? (i := 27) rfl))) (notFace_of_selects (args := #[]) (mvT hZ (hw _ (List.mem_of_getElem? (i := 29) rfl)))) (mvT hZ (hw _ (List.mem_of_getElem? (i := 29) rfl))) (mvT hZ (hw _ (List.mem_of_getElem? (i := 28) rfl))) (by decide) (backOf (W := 0) (rmB_ec l Z a0 hw [] b4 (dd.toInt64) sa11 dd b3 k3 nn kk nn dd h11 n0 SZ11 (E_b4_11) (F_input_b4_11) (F_position_b4_11) (V_b3_11) (E_b3_11) (g_b4) (ne_b3_b4) (hdd) (own_irrI _) (to2) (n8) (k0) (rfl) (own_l2i dd) (own_irrL _) (rfl)) hZ (hw _ (List.mem_of_getElem? (i := 30) rfl)) (hw _ (List.mem_of_getElem? (i := 3) rfl)) (by decide) (by decide)) q12a q12c (g := (mkF m 62 #[.val (.int p1), .val (.int p2), .val (.int nn), .val (.int kk), .val (.ref b3), .val (.ref b4), .val (.int (1 : Int32)), .val (.int (1 : Int32)), .unset] [(.ref sa11), (.long (dd.toInt64)), (.ref b4)])) rfl (by rw [hml]; rfl) (Steps.refl _) (argsL := [(.long (dd.toInt64)), (.ref sa11)]) (rest := []) (lenOf pd_7 rfl) rfl (by show 2 * 0 + _ ≤ _; exact Nat.le_of_eq rfl) (hb hby at_62) (fun _ _ => ⟨rfl, e11, (by decide : 7 + 1 ≤ _), (by decide : 34 + 8 ≤ _)⟩)
    dsimp only [Pt.U, Pt.locs, Pt.cells, Pt.slots] at X12 l12 y12 z12 st12 hQ12
    subst l12 y12 z12
    have e12 : T12.heap = T12.heap := rfl
    obtain ⟨bt12, rfl, N12q, KK12, xE12, xI12, xP12⟩ := hQ12
    have N12 := Fr.app N10 N12q
    have V_b3_12 := V_b3_11.keep KK12 (ninS ne_b3_b4 nin0)
    have E_b3_12 := E_b3_11.keep KK12
    have E_b4_12 := E_b4_11.keep KK12
    have SZ12 : n0 ≤ T12.heap.size := Nat.le_trans SZ11 KK12.1
    have sx_ks11_12 : ks11 ≤ T12.heap.size := Nat.le_trans hk11 KK12.1
    obtain ⟨cq13, kq13, q13a, q13b, q13c⟩ := isOf hZ e12 xE12
    obtain ⟨_, _, ⟨T13, L13, k13, n13⟩, -, X13, ⟨Lc13, hQ13, l13, y13, z13⟩, st13⟩ := X12.virtualBack hx (y := (⟨"com/example/toll/toll/wire/WireReader", "atEnd", "()Z"⟩ : MethodName)) (z := (⟨"com/example/toll/toll/wire/WireReader", "atEnd", "()Z"⟩ : MethodName)) hown (mvT hZ (hw _ (List.mem_of_getElem? (i := 12) rfl))) (mvT hZ (hw _ (List.mem_of_getElem? (i := 13) rfl))) (notFace_of_selects (args := #[]) (mvT hZ (hw _ (List.mem_of_getElem? (i := 15) rfl)))) (mvT hZ (hw _ (List.mem_of_getElem? (i := 15) rfl))) (mvT hZ (hw _ (List.mem_of_getElem? (i := 14) rfl))) (by decide) (backOf (W := 0) (rmE1 l Z a0 hw [] b4 b3 k3 nn nn T12.heap n0 SZ12 (xI12) (xP12) (V_b3_12) (rfl)) hZ (hw _ (List.mem_of_getElem? (i := 16) rfl)) (hw _ (List.mem_of_getElem? (i := 3) rfl)) (by decide) (by decide)) q13a q13c (g := (mkF m 68 #[.val (.int p1), .val (.int p2), .val (.int nn), .val (.int kk), .val (.ref b3), .val (.ref b4), .val (.int (1 : Int32)), .val (.int (1 : Int32)), .unset] [(.ref b4)])) rfl (by rw [hml]; rfl) (Steps.refl _) (argsL := []) (rest := []) (lenOf pd_6 rfl) rfl (by show 2 * 0 + _ ≤ _; exact Nat.le_of_eq rfl) (hb hby at_68) (fun _ _ => ⟨rfl, e12, (by decide : 8 + 0 ≤ _), (by decide : 42 + 0 ≤ _)⟩)
    dsimp only [Pt.U, Pt.locs, Pt.cells, Pt.slots] at X13 l13 y13 z13 st13 hQ13
    subst l13 y13 z13
    obtain ⟨rfl, N13q, e13⟩ := hQ13
    have N13 := Fr.app N12 N13q
    obtain ⟨fs, hr, hrun, hended, hEnd⟩ := X13.leaveW (s := s) hS11 (by rw [e13]; exact sx_ks11_12) (v := some (.int (1 : Int32))) (fun h => by rw [Bd.returns] at h; cases h) (hlocks := Bd.notSynchronized)
    refine ⟨_, _, pre_6 _ ?_, hrun, hended, _, _, rfl, ?_, hEnd.1, hEnd.2.1, hEnd.2.2.1, hEnd.2.2.2.mono (by decide) (by decide)⟩
    · show Steps p.tables e below (T5.setTop (mkF m 30 #[.val (.int p1), .val (.int p2), .val (.int nn), .val (.int kk), .val (.ref b3), .val (.ref b4), .unset, .unset, .unset] [])) _
      refine XS.aload X5.here hx rfl (hb hby at_30) rfl rfl ?_
      show Steps p.tables e below (T5.setTop (mkF m 32 #[.val (.int p1), .val (.int p2), .val (.int nn), .val (.int kk), .val (.ref b3), .val (.ref b4), .unset, .unset, .unset] [(.ref b4)])) _
      refine st7.trans ?_
      show Steps p.tables e below (T7.setTop (mkF m 35 #[.val (.int p1), .val (.int p2), .val (.int nn), .val (.int kk), .val (.ref b3), .val (.ref b4), .unset, .unset, .unset] [(.int (1 : Int32))])) _
      refine XS.istore X7.here hx rfl (hb hby at_35) rfl (l' := #[.val (.int p1), .val (.int p2), .val (.int nn), .val (.int kk), .val (.ref b3), .val (.ref b4), .val (.int (1 : Int32)), .unset, .unset]) rfl ?_
      show Steps p.tables e below (T7.setTop (mkF m 37 #[.val (.int p1), .val (.int p2), .val (.int nn), .val (.int kk), .val (.ref b3), .val (.ref b4), .val (.int (1 : Int32)), .unset, .unset] [])) _
      refine XS.aload X7.here hx rfl (hb hby at_37) rfl rfl ?_
      show Steps p.tables e below (T7.setTop (mkF m 39 #[.val (.int p1), .val (.int p2), .val (.int nn), .val (.int kk), .val (.ref b3), .val (.ref b4), .val (.int (1 : Int32)), .unset, .unset] [(.ref b4)])) _
      refine XS.iloadN X7.here hx rfl (hb hby at_39) rfl ?_
      show Steps p.tables e below (T7.setTop (mkF m 40 #[.val (.int p1), .val (.int p2), .val (.int nn), .val (.int kk), .val (.ref b3), .val (.ref b4), .val (.int (1 : Int32)), .unset, .unset] [(.int kk), (.ref b4)])) _
      refine XS.i2l X7.here hx rfl (hb hby at_40) rfl ?_
      show Steps p.tables e below (T7.setTop (mkF m 41 #[.val (.int p1), .val (.int p2), .val (.int nn), .val (.int kk), .val (.ref b3), .val (.ref b4), .val (.int (1 : Int32)), .unset, .unset] [(.long (kk.toInt64)), (.ref b4)])) _
      refine st8 _ ?_
      show Steps p.tables e below (T8.setTop (mkF m 43 #[.val (.int p1), .val (.int p2), .val (.int nn), .val (.int kk), .val (.ref b3), .val (.ref b4), .val (.int (1 : Int32)), .unset, .unset] [(.ref sa8), (.long (kk.toInt64)), (.ref b4)])) _
      refine st9.trans ?_
      show Steps p.tables e below (T9.setTop (mkF m 46 #[.val (.int p1), .val (.int p2), .val (.int nn), .val (.int kk), .val (.ref b3), .val (.ref b4), .val (.int (1 : Int32)), .unset, .unset] [(.ref bt9)])) _
      refine XS.pop X9.here hx rfl (hb hby at_46) rfl rfl ?_
      show Steps p.tables e below (T9.setTop (mkF m 47 #[.val (.int p1), .val (.int p2), .val (.int nn), .val (.int kk), .val (.ref b3), .val (.ref b4), .val (.int (1 : Int32)), .unset, .unset] [])) _
      refine XS.aload X9.here hx rfl (hb hby at_47) rfl rfl ?_
      show Steps p.tables e below (T9.setTop (mkF m 49 #[.val (.int p1), .val (.int p2), .val (.int nn), .val (.int kk), .val (.ref b3), .val (.ref b4), .val (.int (1 : Int32)), .unset, .unset] [(.ref b4)])) _
      refine st10.trans ?_
      show Steps p.tables e below (T10.setTop (mkF m 52 #[.val (.int p1), .val (.int p2), .val (.int nn), .val (.int kk), .val (.ref b3), .val (.ref b4), .val (.int (1 : Int32)), .unset, .unset] [(.int (1 : Int32))])) _
      refine XS.istore X10.here hx rfl (hb hby at_52) rfl (l' := #[.val (.int p1), .val (.int p2), .val (.int nn), .val (.int kk), .val (.ref b3), .val (.ref b4), .val (.int (1 : Int32)), .val (.int (1 : Int32)), .unset]) rfl ?_
      show Steps p.tables e below (T10.setTop (mkF m 54 #[.val (.int p1), .val (.int p2), .val (.int nn), .val (.int kk), .val (.ref b3), .val (.ref b4), .val (.int (1 : Int32)), .val (.int (1 : Int32)), .unset] [])) _
      refine XS.aload X10.here hx rfl (hb hby at_54) rfl rfl ?_
      show Steps p.tables e below (T10.setTop (mkF m 56 #[.val (.int p1), .val (.int p2), .val (.int nn), .val (.int kk), .val (.ref b3), .val (.ref b4), .val (.int (1 : Int32)), .val (.int (1 : Int32)), .unset] [(.ref b4)])) _
      refine XS.iloadN X10.here hx rfl (hb hby at_56) rfl ?_
      show Steps p.tables e below (T10.setTop (mkF m 57 #[.val (.int p1), .val (.int p2), .val (.int nn), .val (.int kk), .val (.ref b3), .val (.ref b4), .val (.int (1 : Int32)), .val (.int (1 : Int32)), .unset] [(.int nn), (.ref b4)])) _
      refine XS.iloadN X10.here hx rfl (hb hby at_57) rfl ?_
      show Steps p.tables e below (T10.setTop (mkF m 58 #[.val (.int p1), .val (.int p2), .val (.int nn), .val (.int kk), .val (.ref b3), .val (.ref b4), .val (.int (1 : Int32)), .val (.int (1 : Int32)), .unset] [(.int kk), (.int nn), (.ref b4)])) _
      refine XS.isub X10.here hx rfl (hb hby at_58) rfl ?_
      rw [hdd]
      show Steps p.tables e below (T10.setTop (mkF m 59 #[.val (.int p1), .val (.int p2), .val (.int nn), .val (.int kk), .val (.ref b3), .val (.ref b4), .val (.int (1 : Int32)), .val (.int (1 : Int32)), .unset] [(.int dd), (.ref b4)])) _
      refine XS.i2l X10.here hx rfl (hb hby at_59) rfl ?_
      show Steps p.tables e below (T10.setTop (mkF m 60 #[.val (.int p1), .val (.int p2), .val (.int nn), .val (.int kk), .val (.ref b3), .val (.ref b4), .val (.int (1 : Int32)), .val (.int (1 : Int32)), .unset] [(.long (dd.toInt64)), (.ref b4)])) _
      refine st11 _ ?_
      show Steps p.tables e below (T11.setTop (mkF m 62 #[.val (.int p1), .val (.int p2), .val (.int nn), .val (.int kk), .val (.ref b3), .val (.ref b4), .val (.int (1 : Int32)), .val (.int (1 : Int32)), .unset] [(.ref sa11), (.long (dd.toInt64)), (.ref b4)])) _
      refine st12.trans ?_
      show Steps p.tables e below (T12.setTop (mkF m 65 #[.val (.int p1), .val (.int p2), .val (.int nn), .val (.int kk), .val (.ref b3), .val (.ref b4), .val (.int (1 : Int32)), .val (.int (1 : Int32)), .unset] [(.ref bt12)])) _
      refine XS.pop X12.here hx rfl (hb hby at_65) rfl rfl ?_
      show Steps p.tables e below (T12.setTop (mkF m 66 #[.val (.int p1), .val (.int p2), .val (.int nn), .val (.int kk), .val (.ref b3), .val (.ref b4), .val (.int (1 : Int32)), .val (.int (1 : Int32)), .unset] [])) _
      refine XS.aload X12.here hx rfl (hb hby at_66) rfl rfl ?_
      show Steps p.tables e below (T12.setTop (mkF m 68 #[.val (.int p1), .val (.int p2), .val (.int nn), .val (.int kk), .val (.ref b3), .val (.ref b4), .val (.int (1 : Int32)), .val (.int (1 : Int32)), .unset] [(.ref b4)])) _
      refine st13.trans ?_
      show Steps p.tables e below (T13.setTop (mkF m 71 #[.val (.int p1), .val (.int p2), .val (.int nn), .val (.int kk), .val (.ref b3), .val (.ref b4), .val (.int (1 : Int32)), .val (.int (1 : Int32)), .unset] [(.int (1 : Int32))])) _
      refine XS.istore X13.here hx rfl (hb hby at_71) rfl (l' := #[.val (.int p1), .val (.int p2), .val (.int nn), .val (.int kk), .val (.ref b3), .val (.ref b4), .val (.int (1 : Int32)), .val (.int (1 : Int32)), .val (.int (1 : Int32))]) rfl ?_
      show Steps p.tables e below (T13.setTop (mkF m 73 #[.val (.int p1), .val (.int p2), .val (.int nn), .val (.int kk), .val (.ref b3), .val (.ref b4), .val (.int (1 : Int32)), .val (.int (1 : Int32)), .val (.int (1 : Int32))] [])) _
      refine XS.iload X13.here hx rfl (hb hby at_73) rfl ?_
      show Steps p.tables e below (T13.setTop (mkF m 75 #[.val (.int p1), .val (.int p2), .val (.int nn), .val (.int kk), .val (.ref b3), .val (.ref b4), .val (.int (1 : Int32)), .val (.int (1 : Int32)), .val (.int (1 : Int32))] [(.int (1 : Int32))])) _
      refine XS.iloadN X13.here hx rfl (hb hby at_75) rfl ?_
      show Steps p.tables e below (T13.setTop (mkF m 76 #[.val (.int p1), .val (.int p2), .val (.int nn), .val (.int kk), .val (.ref b3), .val (.ref b4), .val (.int (1 : Int32)), .val (.int (1 : Int32)), .val (.int (1 : Int32))] [(.int nn), (.int (1 : Int32))])) _
      refine XS.ifNo X13.here hx rfl (hb hby at_76) rfl ((if0 _ _).trans (teq (hn0 : nn = (0 : Int32))).2) ?_
      show Steps p.tables e below (T13.setTop (mkF m 79 #[.val (.int p1), .val (.int p2), .val (.int nn), .val (.int kk), .val (.ref b3), .val (.ref b4), .val (.int (1 : Int32)), .val (.int (1 : Int32)), .val (.int (1 : Int32))] [(.int (1 : Int32))])) _
      refine XS.iconst X13.here hx rfl (hb hby at_79) ?_
      show Steps p.tables e below (T13.setTop (mkF m 80 #[.val (.int p1), .val (.int p2), .val (.int nn), .val (.int kk), .val (.ref b3), .val (.ref b4), .val (.int (1 : Int32)), .val (.int (1 : Int32)), .val (.int (1 : Int32))] [(.int (1 : Int32)), (.int (1 : Int32))])) _
      refine XS.goto X13.here hx rfl (pc0 := 80) (pc' := 84) rfl (hb hby at_80) (by decide) (by decide) ?_
      show Steps p.tables e below (T13.setTop (mkF m 84 #[.val (.int p1), .val (.int p2), .val (.int nn), .val (.int kk), .val (.ref b3), .val (.ref b4), .val (.int (1 : Int32)), .val (.int (1 : Int32)), .val (.int (1 : Int32))] [(.int (1 : Int32)), (.int (1 : Int32))])) _
      refine XS.icmpNo X13.here hx rfl (hb hby at_84) rfl (teq ((rfl) : (1 : Int32) = (1 : Int32))).2 ?_
      show Steps p.tables e below (T13.setTop (mkF m 87 #[.val (.int p1), .val (.int p2), .val (.int nn), .val (.int kk), .val (.ref b3), .val (.ref b4), .val (.int (1 : Int32)), .val (.int (1 : Int32)), .val (.int (1 : Int32))] [])) _
      refine XS.iload X13.here hx rfl (hb hby at_87) rfl ?_
      show Steps p.tables e below (T13.setTop (mkF m 89 #[.val (.int p1), .val (.int p2), .val (.int nn), .val (.int kk), .val (.ref b3), .val (.ref b4), .val (.int (1 : Int32)), .val (.int (1 : Int32)), .val (.int (1 : Int32))] [(.int (1 : Int32))])) _
      refine XS.iloadN X13.here hx rfl (hb hby at_89) rfl ?_
      show Steps p.tables e below (T13.setTop (mkF m 90 #[.val (.int p1), .val (.int p2), .val (.int nn), .val (.int kk), .val (.ref b3), .val (.ref b4), .val (.int (1 : Int32)), .val (.int (1 : Int32)), .val (.int (1 : Int32))] [(.int kk), (.int (1 : Int32))])) _
      refine XS.iloadN X13.here hx rfl (hb hby at_90) rfl ?_
      show Steps p.tables e below (T13.setTop (mkF m 91 #[.val (.int p1), .val (.int p2), .val (.int nn), .val (.int kk), .val (.ref b3), .val (.ref b4), .val (.int (1 : Int32)), .val (.int (1 : Int32)), .val (.int (1 : Int32))] [(.int nn), (.int kk), (.int (1 : Int32))])) _
      refine XS.icmpNo X13.here hx rfl (hb hby at_91) rfl (teq (ken : kk = nn)).2 ?_
      show Steps p.tables e below (T13.setTop (mkF m 94 #[.val (.int p1), .val (.int p2), .val (.int nn), .val (.int kk), .val (.ref b3), .val (.ref b4), .val (.int (1 : Int32)), .val (.int (1 : Int32)), .val (.int (1 : Int32))] [(.int (1 : Int32))])) _
      refine XS.iconst X13.here hx rfl (hb hby at_94) ?_
      show Steps p.tables e below (T13.setTop (mkF m 95 #[.val (.int p1), .val (.int p2), .val (.int nn), .val (.int kk), .val (.ref b3), .val (.ref b4), .val (.int (1 : Int32)), .val (.int (1 : Int32)), .val (.int (1 : Int32))] [(.int (1 : Int32)), (.int (1 : Int32))])) _
      refine XS.goto X13.here hx rfl (pc0 := 95) (pc' := 99) rfl (hb hby at_95) (by decide) (by decide) ?_
      show Steps p.tables e below (T13.setTop (mkF m 99 #[.val (.int p1), .val (.int p2), .val (.int nn), .val (.int kk), .val (.ref b3), .val (.ref b4), .val (.int (1 : Int32)), .val (.int (1 : Int32)), .val (.int (1 : Int32))] [(.int (1 : Int32)), (.int (1 : Int32))])) _
      refine XS.icmpNo X13.here hx rfl (hb hby at_99) rfl (teq ((rfl) : (1 : Int32) = (1 : Int32))).2 ?_
      show Steps p.tables e below (T13.setTop (mkF m 102 #[.val (.int p1), .val (.int p2), .val (.int nn), .val (.int kk), .val (.ref b3), .val (.ref b4), .val (.int (1 : Int32)), .val (.int (1 : Int32)), .val (.int (1 : Int32))] [])) _
      refine XS.iload X13.here hx rfl (hb hby at_102) rfl ?_
      show Steps p.tables e below (T13.setTop (mkF m 104 #[.val (.int p1), .val (.int p2), .val (.int nn), .val (.int kk), .val (.ref b3), .val (.ref b4), .val (.int (1 : Int32)), .val (.int (1 : Int32)), .val (.int (1 : Int32))] [(.int (1 : Int32))])) _
      refine XS.ifNo X13.here hx rfl (hb hby at_104) rfl ((if0 _ _).trans (feq (by decide : ¬ ((1 : Int32) = (0 : Int32)))).1) ?_
      show Steps p.tables e below (T13.setTop (mkF m 107 #[.val (.int p1), .val (.int p2), .val (.int nn), .val (.int kk), .val (.ref b3), .val (.ref b4), .val (.int (1 : Int32)), .val (.int (1 : Int32)), .val (.int (1 : Int32))] [])) _
      refine XS.iconst X13.here hx rfl (hb hby at_107) ?_
      show Steps p.tables e below (T13.setTop (mkF m 108 #[.val (.int p1), .val (.int p2), .val (.int nn), .val (.int kk), .val (.ref b3), .val (.ref b4), .val (.int (1 : Int32)), .val (.int (1 : Int32)), .val (.int (1 : Int32))] [(.int (1 : Int32))])) _
      refine XS.goto X13.here hx rfl (pc0 := 108) (pc' := 112) rfl (hb hby at_108) (by decide) (by decide) ?_
      show Steps p.tables e below (T13.setTop (mkF m 112 #[.val (.int p1), .val (.int p2), .val (.int nn), .val (.int kk), .val (.ref b3), .val (.ref b4), .val (.int (1 : Int32)), .val (.int (1 : Int32)), .val (.int (1 : Int32))] [(.int (1 : Int32))])) _
      exact retN X13 hx (t := .boolean) Bd.returns (by simp) (hb hby at_112) hr
    · show QF n0 _ T13.heap _
      rw [e13]
      exact ⟨rfl, N13⟩
  have hnp : nn.toInt ≠ 0 := fun q => hn0 (own_eqI (by rw [show (0 : Int32).toInt = 0 from rfl]; exact q))
  by_cases ken : kk = nn
  · skip
    have k0 : ¬ (kk = (0 : Int32)) := fun q => hn0 (ken ▸ q)
    obtain ⟨cq14, kq14, q14a, q14b, q14c⟩ := isOf hZ e5 xE5
    obtain ⟨_, _, ⟨T14, L14, k14, n14⟩, -, X14, ⟨Lc14, hQ14, l14, y14, z14⟩, st14⟩ := X5.virtualBack hx (y := (⟨"com/example/toll/toll/wire/WireReader", "atEnd", "()Z"⟩ : MethodName)) (z := (⟨"com/example/toll/toll/wire/WireReader", "atEnd", "()Z"⟩ : MethodName)) hown (mvT hZ (hw _ (List.mem_of_getElem? (i := 12) rfl))) (mvT hZ (hw _ (List.mem_of_getElem? (i := 13) rfl))) (notFace_of_selects (args := #[]) (mvT hZ (hw _ (List.mem_of_getElem? (i := 15) rfl)))) (mvT hZ (hw _ (List.mem_of_getElem? (i := 15) rfl))) (mvT hZ (hw _ (List.mem_of_getElem? (i := 14) rfl))) (by decide) (backOf (W := 0) (rmE0 l Z a0 hw [] b4 b3 k3 nn (0 : Int32) T5.heap n0 SZ5 (xI5) (xP5) (V_b3_5) (fun q => hn0 q.symm)) hZ (hw _ (List.mem_of_getElem? (i := 16) rfl)) (hw _ (List.mem_of_getElem? (i := 3) rfl)) (by decide) (by decide)) q14a q14c (g := (mkF m 32 #[.val (.int p1), .val (.int p2), .val (.int nn), .val (.int kk), .val (.ref b3), .val (.ref b4), .unset, .unset, .unset] [(.ref b4)])) rfl (by rw [hml]; rfl) (Steps.refl _) (argsL := []) (rest := []) (lenOf pd_6 rfl) rfl (by show 2 * 0 + _ ≤ _; exact Nat.le_of_eq rfl) (hb hby at_32) (fun _ _ => ⟨rfl, e5, (by decide : 2 + 0 ≤ _), (by decide : 10 + 0 ≤ _)⟩)
    dsimp only [Pt.U, Pt.locs, Pt.cells, Pt.slots] at X14 l14 y14 z14 st14 hQ14
    subst l14 y14 z14
    obtain ⟨rfl, N14q, e14⟩ := hQ14
    have N14 := Fr.app N5 N14q
    obtain ⟨sa15, T15, h15, ks15, X15, e15, E15, hS15, hk15, hZ15, hown15, st15⟩ := ldcS (s := s) (vm0 := s.vm) X14 hx hZ hown (hw _ (List.mem_of_getElem? (i := 19) rfl)) (own_wS hw) e14 ((State.WarmedH.refl s).since 0) (Nat.zero_le _) (g := (mkF m 41 #[.val (.int p1), .val (.int p2), .val (.int nn), .val (.int kk), .val (.ref b3), .val (.ref b4), .val (.int (0 : Int32)), .unset, .unset] [(.long (kk.toInt64)), (.ref b4)])) rfl (hb hby at_41) (n := 4) (by decide) (by decide) (by decide) (by decide)
    have hZ := hZ15
    have hown := hown15
    have V_b3_15 := V_b3_5.ext E15
    have E_b3_15 := E_b3_5.ext E15
    have E_b4_15 := xE5.ext E15
    have F_input_b4_15 := xI5.ext E15
    have F_position_b4_15 := xP5.ext E15
    have SZ15 : n0 ≤ h15.size := Nat.le_trans SZ5 E15.1
    obtain ⟨cq16, kq16, q16a, q16b, q16c⟩ := isOf hZ e15 E_b4_15
    obtain ⟨_, _, ⟨T16, L16, k16, n16⟩, -, X16, ⟨Lc16, hQ16, l16, y16, z16⟩, st16⟩ := X15.virtualBack hx (y := (⟨"com/example/toll/toll/wire/WireReader", "bytes", "(JLjava/lang/String;)[B"⟩ : MethodName)) (z := (⟨"com/example/toll/toll/wire/WireReader", "bytes", "(JLjava/lang/String;)[B"⟩ : MethodName)) hown (mvT hZ (hw _ (List.mem_of_getElem? (i := 26) rfl))) (mvT hZ (hw _ (List.mem_of_getElem? (i := 27) rfl))) (notFace_of_selects (args := #[]) (mvT hZ (hw _ (List.mem_of_getElem? (i := 29) rfl)))) (mvT hZ (hw _ (List.mem_of_getElem? (i := 29) rfl))) (mvT hZ (hw _ (List.mem_of_getElem? (i := 28) rfl))) (by decide) (backOf (W := 0) (rmB_ec l Z a0 hw [] b4 (kk.toInt64) sa15 kk b3 k3 nn (0 : Int32) kk nn h15 n0 SZ15 (E_b4_15) (F_input_b4_15) (F_position_b4_15) (V_b3_15) (E_b3_15) (g_b4) (ne_b3_b4) (Int32.sub_zero _) (own_geI i7.2) (Int32.zero_add _) (n8) (rfl) (ken) (own_l2i kk) (ken ▸ own_irrL _) (by rw [ken])) hZ (hw _ (List.mem_of_getElem? (i := 30) rfl)) (hw _ (List.mem_of_getElem? (i := 3) rfl)) (by decide) (by decide)) q16a q16c (g := (mkF m 43 #[.val (.int p1), .val (.int p2), .val (.int nn), .val (.int kk), .val (.ref b3), .val (.ref b4), .val (.int (0 : Int32)), .unset, .unset] [(.ref sa15), (.long (kk.toInt64)), (.ref b4)])) rfl (by rw [hml]; rfl) (Steps.refl _) (argsL := [(.long (kk.toInt64)), (.ref sa15)]) (rest := []) (lenOf pd_7 rfl) rfl (by show 2 * 0 + _ ≤ _; exact Nat.le_of_eq rfl) (hb hby at_43) (fun _ _ => ⟨rfl, e15, (by decide : 4 + 1 ≤ _), (by decide : 18 + 8 ≤ _)⟩)
    dsimp only [Pt.U, Pt.locs, Pt.cells, Pt.slots] at X16 l16 y16 z16 st16 hQ16
    subst l16 y16 z16
    have e16 : T16.heap = T16.heap := rfl
    obtain ⟨bt16, rfl, N16q, KK16, xE16, xI16, xP16⟩ := hQ16
    have N16 := Fr.app N14 N16q
    have V_b3_16 := V_b3_15.keep KK16 (ninS ne_b3_b4 nin0)
    have E_b3_16 := E_b3_15.keep KK16
    have E_b4_16 := E_b4_15.keep KK16
    have SZ16 : n0 ≤ T16.heap.size := Nat.le_trans SZ15 KK16.1
    have sx_ks15_16 : ks15 ≤ T16.heap.size := Nat.le_trans hk15 KK16.1
    obtain ⟨cq17, kq17, q17a, q17b, q17c⟩ := isOf hZ e16 xE16
    obtain ⟨_, _, ⟨T17, L17, k17, n17⟩, -, X17, ⟨Lc17, hQ17, l17, y17, z17⟩, st17⟩ := X16.virtualBack hx (y := (⟨"com/example/toll/toll/wire/WireReader", "atEnd", "()Z"⟩ : MethodName)) (z := (⟨"com/example/toll/toll/wire/WireReader", "atEnd", "()Z"⟩ : MethodName)) hown (mvT hZ (hw _ (List.mem_of_getElem? (i := 12) rfl))) (mvT hZ (hw _ (List.mem_of_getElem? (i := 13) rfl))) (notFace_of_selects (args := #[]) (mvT hZ (hw _ (List.mem_of_getElem? (i := 15) rfl)))) (mvT hZ (hw _ (List.mem_of_getElem? (i := 15) rfl))) (mvT hZ (hw _ (List.mem_of_getElem? (i := 14) rfl))) (by decide) (backOf (W := 0) (rmE1 l Z a0 hw [] b4 b3 k3 nn kk T16.heap n0 SZ16 (xI16) (xP16) (V_b3_16) (ken)) hZ (hw _ (List.mem_of_getElem? (i := 16) rfl)) (hw _ (List.mem_of_getElem? (i := 3) rfl)) (by decide) (by decide)) q17a q17c (g := (mkF m 49 #[.val (.int p1), .val (.int p2), .val (.int nn), .val (.int kk), .val (.ref b3), .val (.ref b4), .val (.int (0 : Int32)), .unset, .unset] [(.ref b4)])) rfl (by rw [hml]; rfl) (Steps.refl _) (argsL := []) (rest := []) (lenOf pd_6 rfl) rfl (by show 2 * 0 + _ ≤ _; exact Nat.le_of_eq rfl) (hb hby at_49) (fun _ _ => ⟨rfl, e16, (by decide : 5 + 0 ≤ _), (by decide : 26 + 0 ≤ _)⟩)
    dsimp only [Pt.U, Pt.locs, Pt.cells, Pt.slots] at X17 l17 y17 z17 st17 hQ17
    subst l17 y17 z17
    obtain ⟨rfl, N17q, e17⟩ := hQ17
    have N17 := Fr.app N16 N17q
    obtain ⟨sa18, T18, h18, ks18, X18, e18, E18, hS18, hk18, hZ18, hown18, st18⟩ := ldcS (s := s) (vm0 := T15.vm) X17 hx hZ hown (hw _ (List.mem_of_getElem? (i := 56) rfl)) (own_wS hw) e17 hS15 sx_ks15_16 (g := (mkF m 60 #[.val (.int p1), .val (.int p2), .val (.int nn), .val (.int kk), .val (.ref b3), .val (.ref b4), .val (.int (0 : Int32)), .val (.int (1 : Int32)), .unset] [(.long (dd.toInt64)), (.ref b4)])) rfl (hb hby at_60) (n := 4) (by decide) (by decide) (by decide) (by decide)
    have hZ := hZ18
    have hown := hown18
    have V_b3_18 := V_b3_16.ext E18
    have E_b3_18 := E_b3_16.ext E18
    have E_b4_18 := xE16.ext E18
    have F_input_b4_18 := xI16.ext E18
    have F_position_b4_18 := xP16.ext E18
    have SZ18 : n0 ≤ h18.size := Nat.le_trans SZ16 E18.1
    have sx_ks15_18 : ks15 ≤ h18.size := Nat.le_trans sx_ks15_16 E18.1
    obtain ⟨cq19, kq19, q19a, q19b, q19c⟩ := isOf hZ e18 E_b4_18
    obtain ⟨_, _, ⟨T19, L19, k19, n19⟩, -, X19, ⟨Lc19, hQ19, l19, y19, z19⟩, st19⟩ := X18.virtualBack hx (y := (⟨"com/example/toll/toll/wire/WireReader", "bytes", "(JLjava/lang/String;)[B"⟩ : MethodName)) (z := (⟨"com/example/toll/toll/wire/WireReader", "bytes", "(JLjava/lang/String;)[B"⟩ : MethodName)) hown (mvT hZ (hw _ (List.mem_of_getElem? (i := 26) rfl))) (mvT hZ (hw _ (List.mem_of_getElem? (i := 27) rfl))) (notFace_of_selects (args := #[]) (mvT hZ (hw _ (List.mem_of_getElem? (i := 29) rfl)))) (mvT hZ (hw _ (List.mem_of_getElem? (i := 29) rfl))) (mvT hZ (hw _ (List.mem_of_getElem? (i := 28) rfl))) (by decide) (backOf (W := 0) (rmB_ef l Z a0 hw [] b4 (dd.toInt64) sa18 dd b3 k3 nn kk nn dd dd dd h18 n0 SZ18 (E_b4_18) (F_input_b4_18) (F_position_b4_18) (V_b3_18) (E_b3_18) (g_b4) (ne_b3_b4) (hdd) (own_irrI _) (to2) (own_geI i7.2) (hdd) (ddn) (by omega) (hdd) (own_irrI _) (kkn) (ddn) (by omega) (Nat.le_refl _) (k0) (own_l2i dd) (own_irrL _) (rfl)) hZ (hw _ (List.mem_of_getElem? (i := 30) rfl)) (hw _ (List.mem_of_getElem? (i := 3) rfl)) (by decide) (by decide)) q19a q19c (g := (mkF m 62 #[.val (.int p1), .val (.int p2), .val (.int nn), .val (.int kk), .val (.ref b3), .val (.ref b4), .val (.int (0 : Int32)), .val (.int (1 : Int32)), .unset] [(.ref sa18), (.long (dd.toInt64)), (.ref b4)])) rfl (by rw [hml]; rfl) (Steps.refl _) (argsL := [(.long (dd.toInt64)), (.ref sa18)]) (rest := []) (lenOf pd_7 rfl) rfl (by show 2 * 0 + _ ≤ _; exact Nat.le_of_eq rfl) (hb hby at_62) (fun _ _ => ⟨rfl, e18, (by decide : 7 + 1 ≤ _), (by decide : 34 + 8 ≤ _)⟩)
    dsimp only [Pt.U, Pt.locs, Pt.cells, Pt.slots] at X19 l19 y19 z19 st19 hQ19
    subst l19 y19 z19
    have e19 : T19.heap = T19.heap := rfl
    obtain ⟨bt19, rfl, N19q, KK19, xE19, xI19, xP19⟩ := hQ19
    have N19 := Fr.app N17 N19q
    have V_b3_19 := V_b3_18.keep KK19 (ninS ne_b3_b4 nin0)
    have E_b3_19 := E_b3_18.keep KK19
    have E_b4_19 := E_b4_18.keep KK19
    have SZ19 : n0 ≤ T19.heap.size := Nat.le_trans SZ18 KK19.1
    have sx_ks18_19 : ks18 ≤ T19.heap.size := Nat.le_trans hk18 KK19.1
    obtain ⟨cq20, kq20, q20a, q20b, q20c⟩ := isOf hZ e19 xE19
    obtain ⟨_, _, ⟨T20, L20, k20, n20⟩, -, X20, ⟨Lc20, hQ20, l20, y20, z20⟩, st20⟩ := X19.virtualBack hx (y := (⟨"com/example/toll/toll/wire/WireReader", "atEnd", "()Z"⟩ : MethodName)) (z := (⟨"com/example/toll/toll/wire/WireReader", "atEnd", "()Z"⟩ : MethodName)) hown (mvT hZ (hw _ (List.mem_of_getElem? (i := 12) rfl))) (mvT hZ (hw _ (List.mem_of_getElem? (i := 13) rfl))) (notFace_of_selects (args := #[]) (mvT hZ (hw _ (List.mem_of_getElem? (i := 15) rfl)))) (mvT hZ (hw _ (List.mem_of_getElem? (i := 15) rfl))) (mvT hZ (hw _ (List.mem_of_getElem? (i := 14) rfl))) (by decide) (backOf (W := 0) (rmE1 l Z a0 hw [] b4 b3 k3 nn nn T19.heap n0 SZ19 (xI19) (xP19) (V_b3_19) (rfl)) hZ (hw _ (List.mem_of_getElem? (i := 16) rfl)) (hw _ (List.mem_of_getElem? (i := 3) rfl)) (by decide) (by decide)) q20a q20c (g := (mkF m 68 #[.val (.int p1), .val (.int p2), .val (.int nn), .val (.int kk), .val (.ref b3), .val (.ref b4), .val (.int (0 : Int32)), .val (.int (1 : Int32)), .unset] [(.ref b4)])) rfl (by rw [hml]; rfl) (Steps.refl _) (argsL := []) (rest := []) (lenOf pd_6 rfl) rfl (by show 2 * 0 + _ ≤ _; exact Nat.le_of_eq rfl) (hb hby at_68) (fun _ _ => ⟨rfl, e19, (by decide : 8 + 0 ≤ _), (by decide : 42 + 0 ≤ _)⟩)
    dsimp only [Pt.U, Pt.locs, Pt.cells, Pt.slots] at X20 l20 y20 z20 st20 hQ20
    subst l20 y20 z20
    obtain ⟨rfl, N20q, e20⟩ := hQ20
    have N20 := Fr.app N19 N20q
    obtain ⟨fs, hr, hrun, hended, hEnd⟩ := X20.leaveW (s := s) hS18 (by rw [e20]; exact sx_ks18_19) (v := some (.int (1 : Int32))) (fun h => by rw [Bd.returns] at h; cases h) (hlocks := Bd.notSynchronized)
    refine ⟨_, _, pre_6 _ ?_, hrun, hended, _, _, rfl, ?_, hEnd.1, hEnd.2.1, hEnd.2.2.1, hEnd.2.2.2.mono (by decide) (by decide)⟩
    · show Steps p.tables e below (T5.setTop (mkF m 30 #[.val (.int p1), .val (.int p2), .val (.int nn), .val (.int kk), .val (.ref b3), .val (.ref b4), .unset, .unset, .unset] [])) _
      refine XS.aload X5.here hx rfl (hb hby at_30) rfl rfl ?_
      show Steps p.tables e below (T5.setTop (mkF m 32 #[.val (.int p1), .val (.int p2), .val (.int nn), .val (.int kk), .val (.ref b3), .val (.ref b4), .unset, .unset, .unset] [(.ref b4)])) _
      refine st14.trans ?_
      show Steps p.tables e below (T14.setTop (mkF m 35 #[.val (.int p1), .val (.int p2), .val (.int nn), .val (.int kk), .val (.ref b3), .val (.ref b4), .unset, .unset, .unset] [(.int (0 : Int32))])) _
      refine XS.istore X14.here hx rfl (hb hby at_35) rfl (l' := #[.val (.int p1), .val (.int p2), .val (.int nn), .val (.int kk), .val (.ref b3), .val (.ref b4), .val (.int (0 : Int32)), .unset, .unset]) rfl ?_
      show Steps p.tables e below (T14.setTop (mkF m 37 #[.val (.int p1), .val (.int p2), .val (.int nn), .val (.int kk), .val (.ref b3), .val (.ref b4), .val (.int (0 : Int32)), .unset, .unset] [])) _
      refine XS.aload X14.here hx rfl (hb hby at_37) rfl rfl ?_
      show Steps p.tables e below (T14.setTop (mkF m 39 #[.val (.int p1), .val (.int p2), .val (.int nn), .val (.int kk), .val (.ref b3), .val (.ref b4), .val (.int (0 : Int32)), .unset, .unset] [(.ref b4)])) _
      refine XS.iloadN X14.here hx rfl (hb hby at_39) rfl ?_
      show Steps p.tables e below (T14.setTop (mkF m 40 #[.val (.int p1), .val (.int p2), .val (.int nn), .val (.int kk), .val (.ref b3), .val (.ref b4), .val (.int (0 : Int32)), .unset, .unset] [(.int kk), (.ref b4)])) _
      refine XS.i2l X14.here hx rfl (hb hby at_40) rfl ?_
      show Steps p.tables e below (T14.setTop (mkF m 41 #[.val (.int p1), .val (.int p2), .val (.int nn), .val (.int kk), .val (.ref b3), .val (.ref b4), .val (.int (0 : Int32)), .unset, .unset] [(.long (kk.toInt64)), (.ref b4)])) _
      refine st15 _ ?_
      show Steps p.tables e below (T15.setTop (mkF m 43 #[.val (.int p1), .val (.int p2), .val (.int nn), .val (.int kk), .val (.ref b3), .val (.ref b4), .val (.int (0 : Int32)), .unset, .unset] [(.ref sa15), (.long (kk.toInt64)), (.ref b4)])) _
      refine st16.trans ?_
      show Steps p.tables e below (T16.setTop (mkF m 46 #[.val (.int p1), .val (.int p2), .val (.int nn), .val (.int kk), .val (.ref b3), .val (.ref b4), .val (.int (0 : Int32)), .unset, .unset] [(.ref bt16)])) _
      refine XS.pop X16.here hx rfl (hb hby at_46) rfl rfl ?_
      show Steps p.tables e below (T16.setTop (mkF m 47 #[.val (.int p1), .val (.int p2), .val (.int nn), .val (.int kk), .val (.ref b3), .val (.ref b4), .val (.int (0 : Int32)), .unset, .unset] [])) _
      refine XS.aload X16.here hx rfl (hb hby at_47) rfl rfl ?_
      show Steps p.tables e below (T16.setTop (mkF m 49 #[.val (.int p1), .val (.int p2), .val (.int nn), .val (.int kk), .val (.ref b3), .val (.ref b4), .val (.int (0 : Int32)), .unset, .unset] [(.ref b4)])) _
      refine st17.trans ?_
      show Steps p.tables e below (T17.setTop (mkF m 52 #[.val (.int p1), .val (.int p2), .val (.int nn), .val (.int kk), .val (.ref b3), .val (.ref b4), .val (.int (0 : Int32)), .unset, .unset] [(.int (1 : Int32))])) _
      refine XS.istore X17.here hx rfl (hb hby at_52) rfl (l' := #[.val (.int p1), .val (.int p2), .val (.int nn), .val (.int kk), .val (.ref b3), .val (.ref b4), .val (.int (0 : Int32)), .val (.int (1 : Int32)), .unset]) rfl ?_
      show Steps p.tables e below (T17.setTop (mkF m 54 #[.val (.int p1), .val (.int p2), .val (.int nn), .val (.int kk), .val (.ref b3), .val (.ref b4), .val (.int (0 : Int32)), .val (.int (1 : Int32)), .unset] [])) _
      refine XS.aload X17.here hx rfl (hb hby at_54) rfl rfl ?_
      show Steps p.tables e below (T17.setTop (mkF m 56 #[.val (.int p1), .val (.int p2), .val (.int nn), .val (.int kk), .val (.ref b3), .val (.ref b4), .val (.int (0 : Int32)), .val (.int (1 : Int32)), .unset] [(.ref b4)])) _
      refine XS.iloadN X17.here hx rfl (hb hby at_56) rfl ?_
      show Steps p.tables e below (T17.setTop (mkF m 57 #[.val (.int p1), .val (.int p2), .val (.int nn), .val (.int kk), .val (.ref b3), .val (.ref b4), .val (.int (0 : Int32)), .val (.int (1 : Int32)), .unset] [(.int nn), (.ref b4)])) _
      refine XS.iloadN X17.here hx rfl (hb hby at_57) rfl ?_
      show Steps p.tables e below (T17.setTop (mkF m 58 #[.val (.int p1), .val (.int p2), .val (.int nn), .val (.int kk), .val (.ref b3), .val (.ref b4), .val (.int (0 : Int32)), .val (.int (1 : Int32)), .unset] [(.int kk), (.int nn), (.ref b4)])) _
      refine XS.isub X17.here hx rfl (hb hby at_58) rfl ?_
      rw [hdd]
      show Steps p.tables e below (T17.setTop (mkF m 59 #[.val (.int p1), .val (.int p2), .val (.int nn), .val (.int kk), .val (.ref b3), .val (.ref b4), .val (.int (0 : Int32)), .val (.int (1 : Int32)), .unset] [(.int dd), (.ref b4)])) _
      refine XS.i2l X17.here hx rfl (hb hby at_59) rfl ?_
      show Steps p.tables e below (T17.setTop (mkF m 60 #[.val (.int p1), .val (.int p2), .val (.int nn), .val (.int kk), .val (.ref b3), .val (.ref b4), .val (.int (0 : Int32)), .val (.int (1 : Int32)), .unset] [(.long (dd.toInt64)), (.ref b4)])) _
      refine st18 _ ?_
      show Steps p.tables e below (T18.setTop (mkF m 62 #[.val (.int p1), .val (.int p2), .val (.int nn), .val (.int kk), .val (.ref b3), .val (.ref b4), .val (.int (0 : Int32)), .val (.int (1 : Int32)), .unset] [(.ref sa18), (.long (dd.toInt64)), (.ref b4)])) _
      refine st19.trans ?_
      show Steps p.tables e below (T19.setTop (mkF m 65 #[.val (.int p1), .val (.int p2), .val (.int nn), .val (.int kk), .val (.ref b3), .val (.ref b4), .val (.int (0 : Int32)), .val (.int (1 : Int32)), .unset] [(.ref bt19)])) _
      refine XS.pop X19.here hx rfl (hb hby at_65) rfl rfl ?_
      show Steps p.tables e below (T19.setTop (mkF m 66 #[.val (.int p1), .val (.int p2), .val (.int nn), .val (.int kk), .val (.ref b3), .val (.ref b4), .val (.int (0 : Int32)), .val (.int (1 : Int32)), .unset] [])) _
      refine XS.aload X19.here hx rfl (hb hby at_66) rfl rfl ?_
      show Steps p.tables e below (T19.setTop (mkF m 68 #[.val (.int p1), .val (.int p2), .val (.int nn), .val (.int kk), .val (.ref b3), .val (.ref b4), .val (.int (0 : Int32)), .val (.int (1 : Int32)), .unset] [(.ref b4)])) _
      refine st20.trans ?_
      show Steps p.tables e below (T20.setTop (mkF m 71 #[.val (.int p1), .val (.int p2), .val (.int nn), .val (.int kk), .val (.ref b3), .val (.ref b4), .val (.int (0 : Int32)), .val (.int (1 : Int32)), .unset] [(.int (1 : Int32))])) _
      refine XS.istore X20.here hx rfl (hb hby at_71) rfl (l' := #[.val (.int p1), .val (.int p2), .val (.int nn), .val (.int kk), .val (.ref b3), .val (.ref b4), .val (.int (0 : Int32)), .val (.int (1 : Int32)), .val (.int (1 : Int32))]) rfl ?_
      show Steps p.tables e below (T20.setTop (mkF m 73 #[.val (.int p1), .val (.int p2), .val (.int nn), .val (.int kk), .val (.ref b3), .val (.ref b4), .val (.int (0 : Int32)), .val (.int (1 : Int32)), .val (.int (1 : Int32))] [])) _
      refine XS.iload X20.here hx rfl (hb hby at_73) rfl ?_
      show Steps p.tables e below (T20.setTop (mkF m 75 #[.val (.int p1), .val (.int p2), .val (.int nn), .val (.int kk), .val (.ref b3), .val (.ref b4), .val (.int (0 : Int32)), .val (.int (1 : Int32)), .val (.int (1 : Int32))] [(.int (0 : Int32))])) _
      refine XS.iloadN X20.here hx rfl (hb hby at_75) rfl ?_
      show Steps p.tables e below (T20.setTop (mkF m 76 #[.val (.int p1), .val (.int p2), .val (.int nn), .val (.int kk), .val (.ref b3), .val (.ref b4), .val (.int (0 : Int32)), .val (.int (1 : Int32)), .val (.int (1 : Int32))] [(.int nn), (.int (0 : Int32))])) _
      refine XS.ifYes X20.here hx rfl (pc0 := 76) (pc' := 83) rfl (hb hby at_76) rfl ((if0 _ _).trans (feq (hn0 : ¬ (nn = (0 : Int32)))).2) (by decide) (by decide) ?_
      show Steps p.tables e below (T20.setTop (mkF m 83 #[.val (.int p1), .val (.int p2), .val (.int nn), .val (.int kk), .val (.ref b3), .val (.ref b4), .val (.int (0 : Int32)), .val (.int (1 : Int32)), .val (.int (1 : Int32))] [(.int (0 : Int32))])) _
      refine XS.iconst X20.here hx rfl (hb hby at_83) ?_
      show Steps p.tables e below (T20.setTop (mkF m 84 #[.val (.int p1), .val (.int p2), .val (.int nn), .val (.int kk), .val (.ref b3), .val (.ref b4), .val (.int (0 : Int32)), .val (.int (1 : Int32)), .val (.int (1 : Int32))] [(.int (0 : Int32)), (.int (0 : Int32))])) _
      refine XS.icmpNo X20.here hx rfl (hb hby at_84) rfl (teq ((rfl) : (0 : Int32) = (0 : Int32))).2 ?_
      show Steps p.tables e below (T20.setTop (mkF m 87 #[.val (.int p1), .val (.int p2), .val (.int nn), .val (.int kk), .val (.ref b3), .val (.ref b4), .val (.int (0 : Int32)), .val (.int (1 : Int32)), .val (.int (1 : Int32))] [])) _
      refine XS.iload X20.here hx rfl (hb hby at_87) rfl ?_
      show Steps p.tables e below (T20.setTop (mkF m 89 #[.val (.int p1), .val (.int p2), .val (.int nn), .val (.int kk), .val (.ref b3), .val (.ref b4), .val (.int (0 : Int32)), .val (.int (1 : Int32)), .val (.int (1 : Int32))] [(.int (1 : Int32))])) _
      refine XS.iloadN X20.here hx rfl (hb hby at_89) rfl ?_
      show Steps p.tables e below (T20.setTop (mkF m 90 #[.val (.int p1), .val (.int p2), .val (.int nn), .val (.int kk), .val (.ref b3), .val (.ref b4), .val (.int (0 : Int32)), .val (.int (1 : Int32)), .val (.int (1 : Int32))] [(.int kk), (.int (1 : Int32))])) _
      refine XS.iloadN X20.here hx rfl (hb hby at_90) rfl ?_
      show Steps p.tables e below (T20.setTop (mkF m 91 #[.val (.int p1), .val (.int p2), .val (.int nn), .val (.int kk), .val (.ref b3), .val (.ref b4), .val (.int (0 : Int32)), .val (.int (1 : Int32)), .val (.int (1 : Int32))] [(.int nn), (.int kk), (.int (1 : Int32))])) _
      refine XS.icmpNo X20.here hx rfl (hb hby at_91) rfl (teq (ken : kk = nn)).2 ?_
      show Steps p.tables e below (T20.setTop (mkF m 94 #[.val (.int p1), .val (.int p2), .val (.int nn), .val (.int kk), .val (.ref b3), .val (.ref b4), .val (.int (0 : Int32)), .val (.int (1 : Int32)), .val (.int (1 : Int32))] [(.int (1 : Int32))])) _
      refine XS.iconst X20.here hx rfl (hb hby at_94) ?_
      show Steps p.tables e below (T20.setTop (mkF m 95 #[.val (.int p1), .val (.int p2), .val (.int nn), .val (.int kk), .val (.ref b3), .val (.ref b4), .val (.int (0 : Int32)), .val (.int (1 : Int32)), .val (.int (1 : Int32))] [(.int (1 : Int32)), (.int (1 : Int32))])) _
      refine XS.goto X20.here hx rfl (pc0 := 95) (pc' := 99) rfl (hb hby at_95) (by decide) (by decide) ?_
      show Steps p.tables e below (T20.setTop (mkF m 99 #[.val (.int p1), .val (.int p2), .val (.int nn), .val (.int kk), .val (.ref b3), .val (.ref b4), .val (.int (0 : Int32)), .val (.int (1 : Int32)), .val (.int (1 : Int32))] [(.int (1 : Int32)), (.int (1 : Int32))])) _
      refine XS.icmpNo X20.here hx rfl (hb hby at_99) rfl (teq ((rfl) : (1 : Int32) = (1 : Int32))).2 ?_
      show Steps p.tables e below (T20.setTop (mkF m 102 #[.val (.int p1), .val (.int p2), .val (.int nn), .val (.int kk), .val (.ref b3), .val (.ref b4), .val (.int (0 : Int32)), .val (.int (1 : Int32)), .val (.int (1 : Int32))] [])) _
      refine XS.iload X20.here hx rfl (hb hby at_102) rfl ?_
      show Steps p.tables e below (T20.setTop (mkF m 104 #[.val (.int p1), .val (.int p2), .val (.int nn), .val (.int kk), .val (.ref b3), .val (.ref b4), .val (.int (0 : Int32)), .val (.int (1 : Int32)), .val (.int (1 : Int32))] [(.int (1 : Int32))])) _
      refine XS.ifNo X20.here hx rfl (hb hby at_104) rfl ((if0 _ _).trans (feq (by decide : ¬ ((1 : Int32) = (0 : Int32)))).1) ?_
      show Steps p.tables e below (T20.setTop (mkF m 107 #[.val (.int p1), .val (.int p2), .val (.int nn), .val (.int kk), .val (.ref b3), .val (.ref b4), .val (.int (0 : Int32)), .val (.int (1 : Int32)), .val (.int (1 : Int32))] [])) _
      refine XS.iconst X20.here hx rfl (hb hby at_107) ?_
      show Steps p.tables e below (T20.setTop (mkF m 108 #[.val (.int p1), .val (.int p2), .val (.int nn), .val (.int kk), .val (.ref b3), .val (.ref b4), .val (.int (0 : Int32)), .val (.int (1 : Int32)), .val (.int (1 : Int32))] [(.int (1 : Int32))])) _
      refine XS.goto X20.here hx rfl (pc0 := 108) (pc' := 112) rfl (hb hby at_108) (by decide) (by decide) ?_
      show Steps p.tables e below (T20.setTop (mkF m 112 #[.val (.int p1), .val (.int p2), .val (.int nn), .val (.int kk), .val (.ref b3), .val (.ref b4), .val (.int (0 : Int32)), .val (.int (1 : Int32)), .val (.int (1 : Int32))] [(.int (1 : Int32))])) _
      exact retN X20 hx (t := .boolean) Bd.returns (by simp) (hb hby at_112) hr
    · show QF n0 _ T20.heap _
      rw [e20]
      exact ⟨rfl, N20⟩
  have kne : ¬ (kk = nn) := ken
  have kni : kk.toInt ≠ nn.toInt := fun q => kne (Int32.toInt_inj.mp q)
  have klt : kk < nn := own_ltI (by omega)
  by_cases k0 : kk = (0 : Int32)
  · skip
    obtain ⟨cq21, kq21, q21a, q21b, q21c⟩ := isOf hZ e5 xE5
    obtain ⟨_, _, ⟨T21, L21, k21, n21⟩, -, X21, ⟨Lc21, hQ21, l21, y21, z21⟩, st21⟩ := X5.virtualBack hx (y := (⟨"com/example/toll/toll/wire/WireReader", "atEnd", "()Z"⟩ : MethodName)) (z := (⟨"com/example/toll/toll/wire/WireReader", "atEnd", "()Z"⟩ : MethodName)) hown (mvT hZ (hw _ (List.mem_of_getElem? (i := 12) rfl))) (mvT hZ (hw _ (List.mem_of_getElem? (i := 13) rfl))) (notFace_of_selects (args := #[]) (mvT hZ (hw _ (List.mem_of_getElem? (i := 15) rfl)))) (mvT hZ (hw _ (List.mem_of_getElem? (i := 15) rfl))) (mvT hZ (hw _ (List.mem_of_getElem? (i := 14) rfl))) (by decide) (backOf (W := 0) (rmE0 l Z a0 hw [] b4 b3 k3 nn (0 : Int32) T5.heap n0 SZ5 (xI5) (xP5) (V_b3_5) (fun q => hn0 q.symm)) hZ (hw _ (List.mem_of_getElem? (i := 16) rfl)) (hw _ (List.mem_of_getElem? (i := 3) rfl)) (by decide) (by decide)) q21a q21c (g := (mkF m 32 #[.val (.int p1), .val (.int p2), .val (.int nn), .val (.int kk), .val (.ref b3), .val (.ref b4), .unset, .unset, .unset] [(.ref b4)])) rfl (by rw [hml]; rfl) (Steps.refl _) (argsL := []) (rest := []) (lenOf pd_6 rfl) rfl (by show 2 * 0 + _ ≤ _; exact Nat.le_of_eq rfl) (hb hby at_32) (fun _ _ => ⟨rfl, e5, (by decide : 2 + 0 ≤ _), (by decide : 10 + 0 ≤ _)⟩)
    dsimp only [Pt.U, Pt.locs, Pt.cells, Pt.slots] at X21 l21 y21 z21 st21 hQ21
    subst l21 y21 z21
    obtain ⟨rfl, N21q, e21⟩ := hQ21
    have N21 := Fr.app N5 N21q
    obtain ⟨sa22, T22, h22, ks22, X22, e22, E22, hS22, hk22, hZ22, hown22, st22⟩ := ldcS (s := s) (vm0 := s.vm) X21 hx hZ hown (hw _ (List.mem_of_getElem? (i := 19) rfl)) (own_wS hw) e21 ((State.WarmedH.refl s).since 0) (Nat.zero_le _) (g := (mkF m 41 #[.val (.int p1), .val (.int p2), .val (.int nn), .val (.int kk), .val (.ref b3), .val (.ref b4), .val (.int (0 : Int32)), .unset, .unset] [(.long (kk.toInt64)), (.ref b4)])) rfl (hb hby at_41) (n := 4) (by decide) (by decide) (by decide) (by decide)
    have hZ := hZ22
    have hown := hown22
    have V_b3_22 := V_b3_5.ext E22
    have E_b3_22 := E_b3_5.ext E22
    have E_b4_22 := xE5.ext E22
    have F_input_b4_22 := xI5.ext E22
    have F_position_b4_22 := xP5.ext E22
    have SZ22 : n0 ≤ h22.size := Nat.le_trans SZ5 E22.1
    obtain ⟨cq23, kq23, q23a, q23b, q23c⟩ := isOf hZ e22 E_b4_22
    obtain ⟨_, _, ⟨T23, L23, k23, n23⟩, -, X23, ⟨Lc23, hQ23, l23, y23, z23⟩, st23⟩ := X22.virtualBack hx (y := (⟨"com/example/toll/toll/wire/WireReader", "bytes", "(JLjava/lang/String;)[B"⟩ : MethodName)) (z := (⟨"com/example/toll/toll/wire/WireReader", "bytes", "(JLjava/lang/String;)[B"⟩ : MethodName)) hown (mvT hZ (hw _ (List.mem_of_getElem? (i := 26) rfl))) (mvT hZ (hw _ (List.mem_of_getElem? (i := 27) rfl))) (notFace_of_selects (args := #[]) (mvT hZ (hw _ (List.mem_of_getElem? (i := 29) rfl)))) (mvT hZ (hw _ (List.mem_of_getElem? (i := 29) rfl))) (mvT hZ (hw _ (List.mem_of_getElem? (i := 28) rfl))) (by decide) (backOf (W := 0) (rmB_lt l Z a0 hw [] b4 (kk.toInt64) sa22 kk b3 k3 nn (0 : Int32) kk nn kk nn h22 n0 SZ22 (E_b4_22) (F_input_b4_22) (F_position_b4_22) (V_b3_22) (E_b3_22) (g_b4) (ne_b3_b4) (Int32.sub_zero _) (own_geI i7.2) (Int32.zero_add _) (kkn) (Int32.sub_zero _) (kkn) (by omega) (Int32.sub_zero _) (klt) (by decide) (kkn) (by rw [show (0 : Int32).toNatClampNeg = 0 from rfl]; omega) (Nat.le_refl _) (rfl) (kne) (own_l2i kk) (own_ltL (by rw [own_min64 i7.1, own_min64 (by omega)]; have := Int32.lt_iff_toInt_lt.mp klt; omega))) hZ (hw _ (List.mem_of_getElem? (i := 30) rfl)) (hw _ (List.mem_of_getElem? (i := 3) rfl)) (by decide) (by decide)) q23a q23c (g := (mkF m 43 #[.val (.int p1), .val (.int p2), .val (.int nn), .val (.int kk), .val (.ref b3), .val (.ref b4), .val (.int (0 : Int32)), .unset, .unset] [(.ref sa22), (.long (kk.toInt64)), (.ref b4)])) rfl (by rw [hml]; rfl) (Steps.refl _) (argsL := [(.long (kk.toInt64)), (.ref sa22)]) (rest := []) (lenOf pd_7 rfl) rfl (by show 2 * 0 + _ ≤ _; exact Nat.le_of_eq rfl) (hb hby at_43) (fun _ _ => ⟨rfl, e22, (by decide : 4 + 1 ≤ _), (by decide : 18 + 8 ≤ _)⟩)
    dsimp only [Pt.U, Pt.locs, Pt.cells, Pt.slots] at X23 l23 y23 z23 st23 hQ23
    subst l23 y23 z23
    have e23 : T23.heap = T23.heap := rfl
    obtain ⟨bt23, rfl, N23q, KK23, xE23, xI23, xP23⟩ := hQ23
    have N23 := Fr.app N21 N23q
    have V_b3_23 := V_b3_22.keep KK23 (ninS ne_b3_b4 nin0)
    have E_b3_23 := E_b3_22.keep KK23
    have E_b4_23 := E_b4_22.keep KK23
    have SZ23 : n0 ≤ T23.heap.size := Nat.le_trans SZ22 KK23.1
    have sx_ks22_23 : ks22 ≤ T23.heap.size := Nat.le_trans hk22 KK23.1
    obtain ⟨cq24, kq24, q24a, q24b, q24c⟩ := isOf hZ e23 xE23
    obtain ⟨_, _, ⟨T24, L24, k24, n24⟩, -, X24, ⟨Lc24, hQ24, l24, y24, z24⟩, st24⟩ := X23.virtualBack hx (y := (⟨"com/example/toll/toll/wire/WireReader", "atEnd", "()Z"⟩ : MethodName)) (z := (⟨"com/example/toll/toll/wire/WireReader", "atEnd", "()Z"⟩ : MethodName)) hown (mvT hZ (hw _ (List.mem_of_getElem? (i := 12) rfl))) (mvT hZ (hw _ (List.mem_of_getElem? (i := 13) rfl))) (notFace_of_selects (args := #[]) (mvT hZ (hw _ (List.mem_of_getElem? (i := 15) rfl)))) (mvT hZ (hw _ (List.mem_of_getElem? (i := 15) rfl))) (mvT hZ (hw _ (List.mem_of_getElem? (i := 14) rfl))) (by decide) (backOf (W := 0) (rmE0 l Z a0 hw [] b4 b3 k3 nn kk T23.heap n0 SZ23 (xI23) (xP23) (V_b3_23) (kne)) hZ (hw _ (List.mem_of_getElem? (i := 16) rfl)) (hw _ (List.mem_of_getElem? (i := 3) rfl)) (by decide) (by decide)) q24a q24c (g := (mkF m 49 #[.val (.int p1), .val (.int p2), .val (.int nn), .val (.int kk), .val (.ref b3), .val (.ref b4), .val (.int (0 : Int32)), .unset, .unset] [(.ref b4)])) rfl (by rw [hml]; rfl) (Steps.refl _) (argsL := []) (rest := []) (lenOf pd_6 rfl) rfl (by show 2 * 0 + _ ≤ _; exact Nat.le_of_eq rfl) (hb hby at_49) (fun _ _ => ⟨rfl, e23, (by decide : 5 + 0 ≤ _), (by decide : 26 + 0 ≤ _)⟩)
    dsimp only [Pt.U, Pt.locs, Pt.cells, Pt.slots] at X24 l24 y24 z24 st24 hQ24
    subst l24 y24 z24
    obtain ⟨rfl, N24q, e24⟩ := hQ24
    have N24 := Fr.app N23 N24q
    obtain ⟨sa25, T25, h25, ks25, X25, e25, E25, hS25, hk25, hZ25, hown25, st25⟩ := ldcS (s := s) (vm0 := T22.vm) X24 hx hZ hown (hw _ (List.mem_of_getElem? (i := 56) rfl)) (own_wS hw) e24 hS22 sx_ks22_23 (g := (mkF m 60 #[.val (.int p1), .val (.int p2), .val (.int nn), .val (.int kk), .val (.ref b3), .val (.ref b4), .val (.int (0 : Int32)), .val (.int (0 : Int32)), .unset] [(.long (dd.toInt64)), (.ref b4)])) rfl (hb hby at_60) (n := 4) (by decide) (by decide) (by decide) (by decide)
    have hZ := hZ25
    have hown := hown25
    have V_b3_25 := V_b3_23.ext E25
    have E_b3_25 := E_b3_23.ext E25
    have E_b4_25 := xE23.ext E25
    have F_input_b4_25 := xI23.ext E25
    have F_position_b4_25 := xP23.ext E25
    have SZ25 : n0 ≤ h25.size := Nat.le_trans SZ23 E25.1
    have sx_ks22_25 : ks22 ≤ h25.size := Nat.le_trans sx_ks22_23 E25.1
    obtain ⟨cq26, kq26, q26a, q26b, q26c⟩ := isOf hZ e25 E_b4_25
    obtain ⟨_, _, ⟨T26, L26, k26, n26⟩, -, X26, ⟨Lc26, hQ26, l26, y26, z26⟩, st26⟩ := X25.virtualBack hx (y := (⟨"com/example/toll/toll/wire/WireReader", "bytes", "(JLjava/lang/String;)[B"⟩ : MethodName)) (z := (⟨"com/example/toll/toll/wire/WireReader", "bytes", "(JLjava/lang/String;)[B"⟩ : MethodName)) hown (mvT hZ (hw _ (List.mem_of_getElem? (i := 26) rfl))) (mvT hZ (hw _ (List.mem_of_getElem? (i := 27) rfl))) (notFace_of_selects (args := #[]) (mvT hZ (hw _ (List.mem_of_getElem? (i := 29) rfl)))) (mvT hZ (hw _ (List.mem_of_getElem? (i := 29) rfl))) (mvT hZ (hw _ (List.mem_of_getElem? (i := 28) rfl))) (by decide) (backOf (W := 0) (rmB_ec l Z a0 hw [] b4 (dd.toInt64) sa25 dd b3 k3 nn kk nn dd h25 n0 SZ25 (E_b4_25) (F_input_b4_25) (F_position_b4_25) (V_b3_25) (E_b3_25) (g_b4) (ne_b3_b4) (hdd) (own_irrI _) (to2) (n8) (k0) (rfl) (own_l2i dd) (own_irrL _) (rfl)) hZ (hw _ (List.mem_of_getElem? (i := 30) rfl)) (hw _ (List.mem_of_getElem? (i := 3) rfl)) (by decide) (by decide)) q26a q26c (g := (mkF m 62 #[.val (.int p1), .val (.int p2), .val (.int nn), .val (.int kk), .val (.ref b3), .val (.ref b4), .val (.int (0 : Int32)), .val (.int (0 : Int32)), .unset] [(.ref sa25), (.long (dd.toInt64)), (.ref b4)])) rfl (by rw [hml]; rfl) (Steps.refl _) (argsL := [(.long (dd.toInt64)), (.ref sa25)]) (rest := []) (lenOf pd_7 rfl) rfl (by show 2 * 0 + _ ≤ _; exact Nat.le_of_eq rfl) (hb hby at_62) (fun _ _ => ⟨rfl, e25, (by decide : 7 + 1 ≤ _), (by decide : 34 + 8 ≤ _)⟩)
    dsimp only [Pt.U, Pt.locs, Pt.cells, Pt.slots] at X26 l26 y26 z26 st26 hQ26
    subst l26 y26 z26
    have e26 : T26.heap = T26.heap := rfl
    obtain ⟨bt26, rfl, N26q, KK26, xE26, xI26, xP26⟩ := hQ26
    have N26 := Fr.app N24 N26q
    have V_b3_26 := V_b3_25.keep KK26 (ninS ne_b3_b4 nin0)
    have E_b3_26 := E_b3_25.keep KK26
    have E_b4_26 := E_b4_25.keep KK26
    have SZ26 : n0 ≤ T26.heap.size := Nat.le_trans SZ25 KK26.1
    have sx_ks25_26 : ks25 ≤ T26.heap.size := Nat.le_trans hk25 KK26.1
    obtain ⟨cq27, kq27, q27a, q27b, q27c⟩ := isOf hZ e26 xE26
    obtain ⟨_, _, ⟨T27, L27, k27, n27⟩, -, X27, ⟨Lc27, hQ27, l27, y27, z27⟩, st27⟩ := X26.virtualBack hx (y := (⟨"com/example/toll/toll/wire/WireReader", "atEnd", "()Z"⟩ : MethodName)) (z := (⟨"com/example/toll/toll/wire/WireReader", "atEnd", "()Z"⟩ : MethodName)) hown (mvT hZ (hw _ (List.mem_of_getElem? (i := 12) rfl))) (mvT hZ (hw _ (List.mem_of_getElem? (i := 13) rfl))) (notFace_of_selects (args := #[]) (mvT hZ (hw _ (List.mem_of_getElem? (i := 15) rfl)))) (mvT hZ (hw _ (List.mem_of_getElem? (i := 15) rfl))) (mvT hZ (hw _ (List.mem_of_getElem? (i := 14) rfl))) (by decide) (backOf (W := 0) (rmE1 l Z a0 hw [] b4 b3 k3 nn nn T26.heap n0 SZ26 (xI26) (xP26) (V_b3_26) (rfl)) hZ (hw _ (List.mem_of_getElem? (i := 16) rfl)) (hw _ (List.mem_of_getElem? (i := 3) rfl)) (by decide) (by decide)) q27a q27c (g := (mkF m 68 #[.val (.int p1), .val (.int p2), .val (.int nn), .val (.int kk), .val (.ref b3), .val (.ref b4), .val (.int (0 : Int32)), .val (.int (0 : Int32)), .unset] [(.ref b4)])) rfl (by rw [hml]; rfl) (Steps.refl _) (argsL := []) (rest := []) (lenOf pd_6 rfl) rfl (by show 2 * 0 + _ ≤ _; exact Nat.le_of_eq rfl) (hb hby at_68) (fun _ _ => ⟨rfl, e26, (by decide : 8 + 0 ≤ _), (by decide : 42 + 0 ≤ _)⟩)
    dsimp only [Pt.U, Pt.locs, Pt.cells, Pt.slots] at X27 l27 y27 z27 st27 hQ27
    subst l27 y27 z27
    obtain ⟨rfl, N27q, e27⟩ := hQ27
    have N27 := Fr.app N26 N27q
    obtain ⟨fs, hr, hrun, hended, hEnd⟩ := X27.leaveW (s := s) hS25 (by rw [e27]; exact sx_ks25_26) (v := some (.int (1 : Int32))) (fun h => by rw [Bd.returns] at h; cases h) (hlocks := Bd.notSynchronized)
    refine ⟨_, _, pre_6 _ ?_, hrun, hended, _, _, rfl, ?_, hEnd.1, hEnd.2.1, hEnd.2.2.1, hEnd.2.2.2.mono (by decide) (by decide)⟩
    · show Steps p.tables e below (T5.setTop (mkF m 30 #[.val (.int p1), .val (.int p2), .val (.int nn), .val (.int kk), .val (.ref b3), .val (.ref b4), .unset, .unset, .unset] [])) _
      refine XS.aload X5.here hx rfl (hb hby at_30) rfl rfl ?_
      show Steps p.tables e below (T5.setTop (mkF m 32 #[.val (.int p1), .val (.int p2), .val (.int nn), .val (.int kk), .val (.ref b3), .val (.ref b4), .unset, .unset, .unset] [(.ref b4)])) _
      refine st21.trans ?_
      show Steps p.tables e below (T21.setTop (mkF m 35 #[.val (.int p1), .val (.int p2), .val (.int nn), .val (.int kk), .val (.ref b3), .val (.ref b4), .unset, .unset, .unset] [(.int (0 : Int32))])) _
      refine XS.istore X21.here hx rfl (hb hby at_35) rfl (l' := #[.val (.int p1), .val (.int p2), .val (.int nn), .val (.int kk), .val (.ref b3), .val (.ref b4), .val (.int (0 : Int32)), .unset, .unset]) rfl ?_
      show Steps p.tables e below (T21.setTop (mkF m 37 #[.val (.int p1), .val (.int p2), .val (.int nn), .val (.int kk), .val (.ref b3), .val (.ref b4), .val (.int (0 : Int32)), .unset, .unset] [])) _
      refine XS.aload X21.here hx rfl (hb hby at_37) rfl rfl ?_
      show Steps p.tables e below (T21.setTop (mkF m 39 #[.val (.int p1), .val (.int p2), .val (.int nn), .val (.int kk), .val (.ref b3), .val (.ref b4), .val (.int (0 : Int32)), .unset, .unset] [(.ref b4)])) _
      refine XS.iloadN X21.here hx rfl (hb hby at_39) rfl ?_
      show Steps p.tables e below (T21.setTop (mkF m 40 #[.val (.int p1), .val (.int p2), .val (.int nn), .val (.int kk), .val (.ref b3), .val (.ref b4), .val (.int (0 : Int32)), .unset, .unset] [(.int kk), (.ref b4)])) _
      refine XS.i2l X21.here hx rfl (hb hby at_40) rfl ?_
      show Steps p.tables e below (T21.setTop (mkF m 41 #[.val (.int p1), .val (.int p2), .val (.int nn), .val (.int kk), .val (.ref b3), .val (.ref b4), .val (.int (0 : Int32)), .unset, .unset] [(.long (kk.toInt64)), (.ref b4)])) _
      refine st22 _ ?_
      show Steps p.tables e below (T22.setTop (mkF m 43 #[.val (.int p1), .val (.int p2), .val (.int nn), .val (.int kk), .val (.ref b3), .val (.ref b4), .val (.int (0 : Int32)), .unset, .unset] [(.ref sa22), (.long (kk.toInt64)), (.ref b4)])) _
      refine st23.trans ?_
      show Steps p.tables e below (T23.setTop (mkF m 46 #[.val (.int p1), .val (.int p2), .val (.int nn), .val (.int kk), .val (.ref b3), .val (.ref b4), .val (.int (0 : Int32)), .unset, .unset] [(.ref bt23)])) _
      refine XS.pop X23.here hx rfl (hb hby at_46) rfl rfl ?_
      show Steps p.tables e below (T23.setTop (mkF m 47 #[.val (.int p1), .val (.int p2), .val (.int nn), .val (.int kk), .val (.ref b3), .val (.ref b4), .val (.int (0 : Int32)), .unset, .unset] [])) _
      refine XS.aload X23.here hx rfl (hb hby at_47) rfl rfl ?_
      show Steps p.tables e below (T23.setTop (mkF m 49 #[.val (.int p1), .val (.int p2), .val (.int nn), .val (.int kk), .val (.ref b3), .val (.ref b4), .val (.int (0 : Int32)), .unset, .unset] [(.ref b4)])) _
      refine st24.trans ?_
      show Steps p.tables e below (T24.setTop (mkF m 52 #[.val (.int p1), .val (.int p2), .val (.int nn), .val (.int kk), .val (.ref b3), .val (.ref b4), .val (.int (0 : Int32)), .unset, .unset] [(.int (0 : Int32))])) _
      refine XS.istore X24.here hx rfl (hb hby at_52) rfl (l' := #[.val (.int p1), .val (.int p2), .val (.int nn), .val (.int kk), .val (.ref b3), .val (.ref b4), .val (.int (0 : Int32)), .val (.int (0 : Int32)), .unset]) rfl ?_
      show Steps p.tables e below (T24.setTop (mkF m 54 #[.val (.int p1), .val (.int p2), .val (.int nn), .val (.int kk), .val (.ref b3), .val (.ref b4), .val (.int (0 : Int32)), .val (.int (0 : Int32)), .unset] [])) _
      refine XS.aload X24.here hx rfl (hb hby at_54) rfl rfl ?_
      show Steps p.tables e below (T24.setTop (mkF m 56 #[.val (.int p1), .val (.int p2), .val (.int nn), .val (.int kk), .val (.ref b3), .val (.ref b4), .val (.int (0 : Int32)), .val (.int (0 : Int32)), .unset] [(.ref b4)])) _
      refine XS.iloadN X24.here hx rfl (hb hby at_56) rfl ?_
      show Steps p.tables e below (T24.setTop (mkF m 57 #[.val (.int p1), .val (.int p2), .val (.int nn), .val (.int kk), .val (.ref b3), .val (.ref b4), .val (.int (0 : Int32)), .val (.int (0 : Int32)), .unset] [(.int nn), (.ref b4)])) _
      refine XS.iloadN X24.here hx rfl (hb hby at_57) rfl ?_
      show Steps p.tables e below (T24.setTop (mkF m 58 #[.val (.int p1), .val (.int p2), .val (.int nn), .val (.int kk), .val (.ref b3), .val (.ref b4), .val (.int (0 : Int32)), .val (.int (0 : Int32)), .unset] [(.int kk), (.int nn), (.ref b4)])) _
      refine XS.isub X24.here hx rfl (hb hby at_58) rfl ?_
      rw [hdd]
      show Steps p.tables e below (T24.setTop (mkF m 59 #[.val (.int p1), .val (.int p2), .val (.int nn), .val (.int kk), .val (.ref b3), .val (.ref b4), .val (.int (0 : Int32)), .val (.int (0 : Int32)), .unset] [(.int dd), (.ref b4)])) _
      refine XS.i2l X24.here hx rfl (hb hby at_59) rfl ?_
      show Steps p.tables e below (T24.setTop (mkF m 60 #[.val (.int p1), .val (.int p2), .val (.int nn), .val (.int kk), .val (.ref b3), .val (.ref b4), .val (.int (0 : Int32)), .val (.int (0 : Int32)), .unset] [(.long (dd.toInt64)), (.ref b4)])) _
      refine st25 _ ?_
      show Steps p.tables e below (T25.setTop (mkF m 62 #[.val (.int p1), .val (.int p2), .val (.int nn), .val (.int kk), .val (.ref b3), .val (.ref b4), .val (.int (0 : Int32)), .val (.int (0 : Int32)), .unset] [(.ref sa25), (.long (dd.toInt64)), (.ref b4)])) _
      refine st26.trans ?_
      show Steps p.tables e below (T26.setTop (mkF m 65 #[.val (.int p1), .val (.int p2), .val (.int nn), .val (.int kk), .val (.ref b3), .val (.ref b4), .val (.int (0 : Int32)), .val (.int (0 : Int32)), .unset] [(.ref bt26)])) _
      refine XS.pop X26.here hx rfl (hb hby at_65) rfl rfl ?_
      show Steps p.tables e below (T26.setTop (mkF m 66 #[.val (.int p1), .val (.int p2), .val (.int nn), .val (.int kk), .val (.ref b3), .val (.ref b4), .val (.int (0 : Int32)), .val (.int (0 : Int32)), .unset] [])) _
      refine XS.aload X26.here hx rfl (hb hby at_66) rfl rfl ?_
      show Steps p.tables e below (T26.setTop (mkF m 68 #[.val (.int p1), .val (.int p2), .val (.int nn), .val (.int kk), .val (.ref b3), .val (.ref b4), .val (.int (0 : Int32)), .val (.int (0 : Int32)), .unset] [(.ref b4)])) _
      refine st27.trans ?_
      show Steps p.tables e below (T27.setTop (mkF m 71 #[.val (.int p1), .val (.int p2), .val (.int nn), .val (.int kk), .val (.ref b3), .val (.ref b4), .val (.int (0 : Int32)), .val (.int (0 : Int32)), .unset] [(.int (1 : Int32))])) _
      refine XS.istore X27.here hx rfl (hb hby at_71) rfl (l' := #[.val (.int p1), .val (.int p2), .val (.int nn), .val (.int kk), .val (.ref b3), .val (.ref b4), .val (.int (0 : Int32)), .val (.int (0 : Int32)), .val (.int (1 : Int32))]) rfl ?_
      show Steps p.tables e below (T27.setTop (mkF m 73 #[.val (.int p1), .val (.int p2), .val (.int nn), .val (.int kk), .val (.ref b3), .val (.ref b4), .val (.int (0 : Int32)), .val (.int (0 : Int32)), .val (.int (1 : Int32))] [])) _
      refine XS.iload X27.here hx rfl (hb hby at_73) rfl ?_
      show Steps p.tables e below (T27.setTop (mkF m 75 #[.val (.int p1), .val (.int p2), .val (.int nn), .val (.int kk), .val (.ref b3), .val (.ref b4), .val (.int (0 : Int32)), .val (.int (0 : Int32)), .val (.int (1 : Int32))] [(.int (0 : Int32))])) _
      refine XS.iloadN X27.here hx rfl (hb hby at_75) rfl ?_
      show Steps p.tables e below (T27.setTop (mkF m 76 #[.val (.int p1), .val (.int p2), .val (.int nn), .val (.int kk), .val (.ref b3), .val (.ref b4), .val (.int (0 : Int32)), .val (.int (0 : Int32)), .val (.int (1 : Int32))] [(.int nn), (.int (0 : Int32))])) _
      refine XS.ifYes X27.here hx rfl (pc0 := 76) (pc' := 83) rfl (hb hby at_76) rfl ((if0 _ _).trans (feq (hn0 : ¬ (nn = (0 : Int32)))).2) (by decide) (by decide) ?_
      show Steps p.tables e below (T27.setTop (mkF m 83 #[.val (.int p1), .val (.int p2), .val (.int nn), .val (.int kk), .val (.ref b3), .val (.ref b4), .val (.int (0 : Int32)), .val (.int (0 : Int32)), .val (.int (1 : Int32))] [(.int (0 : Int32))])) _
      refine XS.iconst X27.here hx rfl (hb hby at_83) ?_
      show Steps p.tables e below (T27.setTop (mkF m 84 #[.val (.int p1), .val (.int p2), .val (.int nn), .val (.int kk), .val (.ref b3), .val (.ref b4), .val (.int (0 : Int32)), .val (.int (0 : Int32)), .val (.int (1 : Int32))] [(.int (0 : Int32)), (.int (0 : Int32))])) _
      refine XS.icmpNo X27.here hx rfl (hb hby at_84) rfl (teq ((rfl) : (0 : Int32) = (0 : Int32))).2 ?_
      show Steps p.tables e below (T27.setTop (mkF m 87 #[.val (.int p1), .val (.int p2), .val (.int nn), .val (.int kk), .val (.ref b3), .val (.ref b4), .val (.int (0 : Int32)), .val (.int (0 : Int32)), .val (.int (1 : Int32))] [])) _
      refine XS.iload X27.here hx rfl (hb hby at_87) rfl ?_
      show Steps p.tables e below (T27.setTop (mkF m 89 #[.val (.int p1), .val (.int p2), .val (.int nn), .val (.int kk), .val (.ref b3), .val (.ref b4), .val (.int (0 : Int32)), .val (.int (0 : Int32)), .val (.int (1 : Int32))] [(.int (0 : Int32))])) _
      refine XS.iloadN X27.here hx rfl (hb hby at_89) rfl ?_
      show Steps p.tables e below (T27.setTop (mkF m 90 #[.val (.int p1), .val (.int p2), .val (.int nn), .val (.int kk), .val (.ref b3), .val (.ref b4), .val (.int (0 : Int32)), .val (.int (0 : Int32)), .val (.int (1 : Int32))] [(.int kk), (.int (0 : Int32))])) _
      refine XS.iloadN X27.here hx rfl (hb hby at_90) rfl ?_
      show Steps p.tables e below (T27.setTop (mkF m 91 #[.val (.int p1), .val (.int p2), .val (.int nn), .val (.int kk), .val (.ref b3), .val (.ref b4), .val (.int (0 : Int32)), .val (.int (0 : Int32)), .val (.int (1 : Int32))] [(.int nn), (.int kk), (.int (0 : Int32))])) _
      refine XS.icmpYes X27.here hx rfl (pc0 := 91) (pc' := 98) rfl (hb hby at_91) rfl (feq (kne : ¬ (kk = nn))).2 (by decide) (by decide) ?_
      show Steps p.tables e below (T27.setTop (mkF m 98 #[.val (.int p1), .val (.int p2), .val (.int nn), .val (.int kk), .val (.ref b3), .val (.ref b4), .val (.int (0 : Int32)), .val (.int (0 : Int32)), .val (.int (1 : Int32))] [(.int (0 : Int32))])) _
      refine XS.iconst X27.here hx rfl (hb hby at_98) ?_
      show Steps p.tables e below (T27.setTop (mkF m 99 #[.val (.int p1), .val (.int p2), .val (.int nn), .val (.int kk), .val (.ref b3), .val (.ref b4), .val (.int (0 : Int32)), .val (.int (0 : Int32)), .val (.int (1 : Int32))] [(.int (0 : Int32)), (.int (0 : Int32))])) _
      refine XS.icmpNo X27.here hx rfl (hb hby at_99) rfl (teq ((rfl) : (0 : Int32) = (0 : Int32))).2 ?_
      show Steps p.tables e below (T27.setTop (mkF m 102 #[.val (.int p1), .val (.int p2), .val (.int nn), .val (.int kk), .val (.ref b3), .val (.ref b4), .val (.int (0 : Int32)), .val (.int (0 : Int32)), .val (.int (1 : Int32))] [])) _
      refine XS.iload X27.here hx rfl (hb hby at_102) rfl ?_
      show Steps p.tables e below (T27.setTop (mkF m 104 #[.val (.int p1), .val (.int p2), .val (.int nn), .val (.int kk), .val (.ref b3), .val (.ref b4), .val (.int (0 : Int32)), .val (.int (0 : Int32)), .val (.int (1 : Int32))] [(.int (1 : Int32))])) _
      refine XS.ifNo X27.here hx rfl (hb hby at_104) rfl ((if0 _ _).trans (feq (by decide : ¬ ((1 : Int32) = (0 : Int32)))).1) ?_
      show Steps p.tables e below (T27.setTop (mkF m 107 #[.val (.int p1), .val (.int p2), .val (.int nn), .val (.int kk), .val (.ref b3), .val (.ref b4), .val (.int (0 : Int32)), .val (.int (0 : Int32)), .val (.int (1 : Int32))] [])) _
      refine XS.iconst X27.here hx rfl (hb hby at_107) ?_
      show Steps p.tables e below (T27.setTop (mkF m 108 #[.val (.int p1), .val (.int p2), .val (.int nn), .val (.int kk), .val (.ref b3), .val (.ref b4), .val (.int (0 : Int32)), .val (.int (0 : Int32)), .val (.int (1 : Int32))] [(.int (1 : Int32))])) _
      refine XS.goto X27.here hx rfl (pc0 := 108) (pc' := 112) rfl (hb hby at_108) (by decide) (by decide) ?_
      show Steps p.tables e below (T27.setTop (mkF m 112 #[.val (.int p1), .val (.int p2), .val (.int nn), .val (.int kk), .val (.ref b3), .val (.ref b4), .val (.int (0 : Int32)), .val (.int (0 : Int32)), .val (.int (1 : Int32))] [(.int (1 : Int32))])) _
      exact retN X27 hx (t := .boolean) Bd.returns (by simp) (hb hby at_112) hr
    · show QF n0 _ T27.heap _
      rw [e27]
      exact ⟨rfl, N27⟩
  · skip
    obtain ⟨cq28, kq28, q28a, q28b, q28c⟩ := isOf hZ e5 xE5
    obtain ⟨_, _, ⟨T28, L28, k28, n28⟩, -, X28, ⟨Lc28, hQ28, l28, y28, z28⟩, st28⟩ := X5.virtualBack hx (y := (⟨"com/example/toll/toll/wire/WireReader", "atEnd", "()Z"⟩ : MethodName)) (z := (⟨"com/example/toll/toll/wire/WireReader", "atEnd", "()Z"⟩ : MethodName)) hown (mvT hZ (hw _ (List.mem_of_getElem? (i := 12) rfl))) (mvT hZ (hw _ (List.mem_of_getElem? (i := 13) rfl))) (notFace_of_selects (args := #[]) (mvT hZ (hw _ (List.mem_of_getElem? (i := 15) rfl)))) (mvT hZ (hw _ (List.mem_of_getElem? (i := 15) rfl))) (mvT hZ (hw _ (List.mem_of_getElem? (i := 14) rfl))) (by decide) (backOf (W := 0) (rmE0 l Z a0 hw [] b4 b3 k3 nn (0 : Int32) T5.heap n0 SZ5 (xI5) (xP5) (V_b3_5) (fun q => hn0 q.symm)) hZ (hw _ (List.mem_of_getElem? (i := 16) rfl)) (hw _ (List.mem_of_getElem? (i := 3) rfl)) (by decide) (by decide)) q28a q28c (g := (mkF m 32 #[.val (.int p1), .val (.int p2), .val (.int nn), .val (.int kk), .val (.ref b3), .val (.ref b4), .unset, .unset, .unset] [(.ref b4)])) rfl (by rw [hml]; rfl) (Steps.refl _) (argsL := []) (rest := []) (lenOf pd_6 rfl) rfl (by show 2 * 0 + _ ≤ _; exact Nat.le_of_eq rfl) (hb hby at_32) (fun _ _ => ⟨rfl, e5, (by decide : 2 + 0 ≤ _), (by decide : 10 + 0 ≤ _)⟩)
    dsimp only [Pt.U, Pt.locs, Pt.cells, Pt.slots] at X28 l28 y28 z28 st28 hQ28
    subst l28 y28 z28
    obtain ⟨rfl, N28q, e28⟩ := hQ28
    have N28 := Fr.app N5 N28q
    obtain ⟨sa29, T29, h29, ks29, X29, e29, E29, hS29, hk29, hZ29, hown29, st29⟩ := ldcS (s := s) (vm0 := s.vm) X28 hx hZ hown (hw _ (List.mem_of_getElem? (i := 19) rfl)) (own_wS hw) e28 ((State.WarmedH.refl s).since 0) (Nat.zero_le _) (g := (mkF m 41 #[.val (.int p1), .val (.int p2), .val (.int nn), .val (.int kk), .val (.ref b3), .val (.ref b4), .val (.int (0 : Int32)), .unset, .unset] [(.long (kk.toInt64)), (.ref b4)])) rfl (hb hby at_41) (n := 4) (by decide) (by decide) (by decide) (by decide)
    have hZ := hZ29
    have hown := hown29
    have V_b3_29 := V_b3_5.ext E29
    have E_b3_29 := E_b3_5.ext E29
    have E_b4_29 := xE5.ext E29
    have F_input_b4_29 := xI5.ext E29
    have F_position_b4_29 := xP5.ext E29
    have SZ29 : n0 ≤ h29.size := Nat.le_trans SZ5 E29.1
    obtain ⟨cq30, kq30, q30a, q30b, q30c⟩ := isOf hZ e29 E_b4_29
    obtain ⟨_, _, ⟨T30, L30, k30, n30⟩, -, X30, ⟨Lc30, hQ30, l30, y30, z30⟩, st30⟩ := X29.virtualBack hx (y := (⟨"com/example/toll/toll/wire/WireReader", "bytes", "(JLjava/lang/String;)[B"⟩ : MethodName)) (z := (⟨"com/example/toll/toll/wire/WireReader", "bytes", "(JLjava/lang/String;)[B"⟩ : MethodName)) hown (mvT hZ (hw _ (List.mem_of_getElem? (i := 26) rfl))) (mvT hZ (hw _ (List.mem_of_getElem? (i := 27) rfl))) (notFace_of_selects (args := #[]) (mvT hZ (hw _ (List.mem_of_getElem? (i := 29) rfl)))) (mvT hZ (hw _ (List.mem_of_getElem? (i := 29) rfl))) (mvT hZ (hw _ (List.mem_of_getElem? (i := 28) rfl))) (by decide) (backOf (W := 0) (rmB_lt l Z a0 hw [] b4 (kk.toInt64) sa29 kk b3 k3 nn (0 : Int32) kk nn kk nn h29 n0 SZ29 (E_b4_29) (F_input_b4_29) (F_position_b4_29) (V_b3_29) (E_b3_29) (g_b4) (ne_b3_b4) (Int32.sub_zero _) (own_geI i7.2) (Int32.zero_add _) (kkn) (Int32.sub_zero _) (kkn) (by omega) (Int32.sub_zero _) (klt) (by decide) (kkn) (by rw [show (0 : Int32).toNatClampNeg = 0 from rfl]; omega) (Nat.le_refl _) (rfl) (kne) (own_l2i kk) (own_ltL (by rw [own_min64 i7.1, own_min64 (by omega)]; have := Int32.lt_iff_toInt_lt.mp klt; omega))) hZ (hw _ (List.mem_of_getElem? (i := 30) rfl)) (hw _ (List.mem_of_getElem? (i := 3) rfl)) (by decide) (by decide)) q30a q30c (g := (mkF m 43 #[.val (.int p1), .val (.int p2), .val (.int nn), .val (.int kk), .val (.ref b3), .val (.ref b4), .val (.int (0 : Int32)), .unset, .unset] [(.ref sa29), (.long (kk.toInt64)), (.ref b4)])) rfl (by rw [hml]; rfl) (Steps.refl _) (argsL := [(.long (kk.toInt64)), (.ref sa29)]) (rest := []) (lenOf pd_7 rfl) rfl (by show 2 * 0 + _ ≤ _; exact Nat.le_of_eq rfl) (hb hby at_43) (fun _ _ => ⟨rfl, e29, (by decide : 4 + 1 ≤ _), (by decide : 18 + 8 ≤ _)⟩)
    dsimp only [Pt.U, Pt.locs, Pt.cells, Pt.slots] at X30 l30 y30 z30 st30 hQ30
    subst l30 y30 z30
    have e30 : T30.heap = T30.heap := rfl
    obtain ⟨bt30, rfl, N30q, KK30, xE30, xI30, xP30⟩ := hQ30
    have N30 := Fr.app N28 N30q
    have V_b3_30 := V_b3_29.keep KK30 (ninS ne_b3_b4 nin0)
    have E_b3_30 := E_b3_29.keep KK30
    have E_b4_30 := E_b4_29.keep KK30
    have SZ30 : n0 ≤ T30.heap.size := Nat.le_trans SZ29 KK30.1
    have sx_ks29_30 : ks29 ≤ T30.heap.size := Nat.le_trans hk29 KK30.1
    obtain ⟨cq31, kq31, q31a, q31b, q31c⟩ := isOf hZ e30 xE30
    obtain ⟨_, _, ⟨T31, L31, k31, n31⟩, -, X31, ⟨Lc31, hQ31, l31, y31, z31⟩, st31⟩ := X30.virtualBack hx (y := (⟨"com/example/toll/toll/wire/WireReader", "atEnd", "()Z"⟩ : MethodName)) (z := (⟨"com/example/toll/toll/wire/WireReader", "atEnd", "()Z"⟩ : MethodName)) hown (mvT hZ (hw _ (List.mem_of_getElem? (i := 12) rfl))) (mvT hZ (hw _ (List.mem_of_getElem? (i := 13) rfl))) (notFace_of_selects (args := #[]) (mvT hZ (hw _ (List.mem_of_getElem? (i := 15) rfl)))) (mvT hZ (hw _ (List.mem_of_getElem? (i := 15) rfl))) (mvT hZ (hw _ (List.mem_of_getElem? (i := 14) rfl))) (by decide) (backOf (W := 0) (rmE0 l Z a0 hw [] b4 b3 k3 nn kk T30.heap n0 SZ30 (xI30) (xP30) (V_b3_30) (kne)) hZ (hw _ (List.mem_of_getElem? (i := 16) rfl)) (hw _ (List.mem_of_getElem? (i := 3) rfl)) (by decide) (by decide)) q31a q31c (g := (mkF m 49 #[.val (.int p1), .val (.int p2), .val (.int nn), .val (.int kk), .val (.ref b3), .val (.ref b4), .val (.int (0 : Int32)), .unset, .unset] [(.ref b4)])) rfl (by rw [hml]; rfl) (Steps.refl _) (argsL := []) (rest := []) (lenOf pd_6 rfl) rfl (by show 2 * 0 + _ ≤ _; exact Nat.le_of_eq rfl) (hb hby at_49) (fun _ _ => ⟨rfl, e30, (by decide : 5 + 0 ≤ _), (by decide : 26 + 0 ≤ _)⟩)
    dsimp only [Pt.U, Pt.locs, Pt.cells, Pt.slots] at X31 l31 y31 z31 st31 hQ31
    subst l31 y31 z31
    obtain ⟨rfl, N31q, e31⟩ := hQ31
    have N31 := Fr.app N30 N31q
    obtain ⟨sa32, T32, h32, ks32, X32, e32, E32, hS32, hk32, hZ32, hown32, st32⟩ := ldcS (s := s) (vm0 := T29.vm) X31 hx hZ hown (hw _ (List.mem_of_getElem? (i := 56) rfl)) (own_wS hw) e31 hS29 sx_ks29_30 (g := (mkF m 60 #[.val (.int p1), .val (.int p2), .val (.int nn), .val (.int kk), .val (.ref b3), .val (.ref b4), .val (.int (0 : Int32)), .val (.int (0 : Int32)), .unset] [(.long (dd.toInt64)), (.ref b4)])) rfl (hb hby at_60) (n := 4) (by decide) (by decide) (by decide) (by decide)
    have hZ := hZ32
    have hown := hown32
    have V_b3_32 := V_b3_30.ext E32
    have E_b3_32 := E_b3_30.ext E32
    have E_b4_32 := xE30.ext E32
    have F_input_b4_32 := xI30.ext E32
    have F_position_b4_32 := xP30.ext E32
    have SZ32 : n0 ≤ h32.size := Nat.le_trans SZ30 E32.1
    have sx_ks29_32 : ks29 ≤ h32.size := Nat.le_trans sx_ks29_30 E32.1
    obtain ⟨cq33, kq33, q33a, q33b, q33c⟩ := isOf hZ e32 E_b4_32
    obtain ⟨_, _, ⟨T33, L33, k33, n33⟩, -, X33, ⟨Lc33, hQ33, l33, y33, z33⟩, st33⟩ := X32.virtualBack hx (y := (⟨"com/example/toll/toll/wire/WireReader", "bytes", "(JLjava/lang/String;)[B"⟩ : MethodName)) (z := (⟨"com/example/toll/toll/wire/WireReader", "bytes", "(JLjava/lang/String;)[B"⟩ : MethodName)) hown (mvT hZ (hw _ (List.mem_of_getElem? (i := 26) rfl))) (mvT hZ (hw _ (List.mem_of_getElem? (i := 27) rfl))) (notFace_of_selects (args := #[]) (mvT hZ (hw _ (List.mem_of_getElem? (i := 29) rfl)))) (mvT hZ (hw _ (List.mem_of_getElem? (i := 29) rfl))) (mvT hZ (hw _ (List.mem_of_getElem? (i := 28) rfl))) (by decide) (backOf (W := 0) (rmB_ef l Z a0 hw [] b4 (dd.toInt64) sa32 dd b3 k3 nn kk nn dd dd dd h32 n0 SZ32 (E_b4_32) (F_input_b4_32) (F_position_b4_32) (V_b3_32) (E_b3_32) (g_b4) (ne_b3_b4) (hdd) (own_irrI _) (to2) (own_geI i7.2) (hdd) (ddn) (by omega) (hdd) (own_irrI _) (kkn) (ddn) (by omega) (Nat.le_refl _) (k0) (own_l2i dd) (own_irrL _) (rfl)) hZ (hw _ (List.mem_of_getElem? (i := 30) rfl)) (hw _ (List.mem_of_getElem? (i := 3) rfl)) (by decide) (by decide)) q33a q33c (g := (mkF m 62 #[.val (.int p1), .val (.int p2), .val (.int nn), .val (.int kk), .val (.ref b3), .val (.ref b4), .val (.int (0 : Int32)), .val (.int (0 : Int32)), .unset] [(.ref sa32), (.long (dd.toInt64)), (.ref b4)])) rfl (by rw [hml]; rfl) (Steps.refl _) (argsL := [(.long (dd.toInt64)), (.ref sa32)]) (rest := []) (lenOf pd_7 rfl) rfl (by show 2 * 0 + _ ≤ _; exact Nat.le_of_eq rfl) (hb hby at_62) (fun _ _ => ⟨rfl, e32, (by decide : 7 + 1 ≤ _), (by decide : 34 + 8 ≤ _)⟩)
    dsimp only [Pt.U, Pt.locs, Pt.cells, Pt.slots] at X33 l33 y33 z33 st33 hQ33
    subst l33 y33 z33
    have e33 : T33.heap = T33.heap := rfl
    obtain ⟨bt33, rfl, N33q, KK33, xE33, xI33, xP33⟩ := hQ33
    have N33 := Fr.app N31 N33q
    have V_b3_33 := V_b3_32.keep KK33 (ninS ne_b3_b4 nin0)
    have E_b3_33 := E_b3_32.keep KK33
    have E_b4_33 := E_b4_32.keep KK33
    have SZ33 : n0 ≤ T33.heap.size := Nat.le_trans SZ32 KK33.1
    have sx_ks32_33 : ks32 ≤ T33.heap.size := Nat.le_trans hk32 KK33.1
    obtain ⟨cq34, kq34, q34a, q34b, q34c⟩ := isOf hZ e33 xE33
    obtain ⟨_, _, ⟨T34, L34, k34, n34⟩, -, X34, ⟨Lc34, hQ34, l34, y34, z34⟩, st34⟩ := X33.virtualBack hx (y := (⟨"com/example/toll/toll/wire/WireReader", "atEnd", "()Z"⟩ : MethodName)) (z := (⟨"com/example/toll/toll/wire/WireReader", "atEnd", "()Z"⟩ : MethodName)) hown (mvT hZ (hw _ (List.mem_of_getElem? (i := 12) rfl))) (mvT hZ (hw _ (List.mem_of_getElem? (i := 13) rfl))) (notFace_of_selects (args := #[]) (mvT hZ (hw _ (List.mem_of_getElem? (i := 15) rfl)))) (mvT hZ (hw _ (List.mem_of_getElem? (i := 15) rfl))) (mvT hZ (hw _ (List.mem_of_getElem? (i := 14) rfl))) (by decide) (backOf (W := 0) (rmE1 l Z a0 hw [] b4 b3 k3 nn nn T33.heap n0 SZ33 (xI33) (xP33) (V_b3_33) (rfl)) hZ (hw _ (List.mem_of_getElem? (i := 16) rfl)) (hw _ (List.mem_of_getElem? (i := 3) rfl)) (by decide) (by decide)) q34a q34c (g := (mkF m 68 #[.val (.int p1), .val (.int p2), .val (.int nn), .val (.int kk), .val (.ref b3), .val (.ref b4), .val (.int (0 : Int32)), .val (.int (0 : Int32)), .unset] [(.ref b4)])) rfl (by rw [hml]; rfl) (Steps.refl _) (argsL := []) (rest := []) (lenOf pd_6 rfl) rfl (by show 2 * 0 + _ ≤ _; exact Nat.le_of_eq rfl) (hb hby at_68) (fun _ _ => ⟨rfl, e33, (by decide : 8 + 0 ≤ _), (by decide : 42 + 0 ≤ _)⟩)
    dsimp only [Pt.U, Pt.locs, Pt.cells, Pt.slots] at X34 l34 y34 z34 st34 hQ34
    subst l34 y34 z34
    obtain ⟨rfl, N34q, e34⟩ := hQ34
    have N34 := Fr.app N33 N34q
    obtain ⟨fs, hr, hrun, hended, hEnd⟩ := X34.leaveW (s := s) hS32 (by rw [e34]; exact sx_ks32_33) (v := some (.int (1 : Int32))) (fun h => by rw [Bd.returns] at h; cases h) (hlocks := Bd.notSynchronized)
    refine ⟨_, _, pre_6 _ ?_, hrun, hended, _, _, rfl, ?_, hEnd.1, hEnd.2.1, hEnd.2.2.1, hEnd.2.2.2.mono (by decide) (by decide)⟩
    · show Steps p.tables e below (T5.setTop (mkF m 30 #[.val (.int p1), .val (.int p2), .val (.int nn), .val (.int kk), .val (.ref b3), .val (.ref b4), .unset, .unset, .unset] [])) _
      refine XS.aload X5.here hx rfl (hb hby at_30) rfl rfl ?_
      show Steps p.tables e below (T5.setTop (mkF m 32 #[.val (.int p1), .val (.int p2), .val (.int nn), .val (.int kk), .val (.ref b3), .val (.ref b4), .unset, .unset, .unset] [(.ref b4)])) _
      refine st28.trans ?_
      show Steps p.tables e below (T28.setTop (mkF m 35 #[.val (.int p1), .val (.int p2), .val (.int nn), .val (.int kk), .val (.ref b3), .val (.ref b4), .unset, .unset, .unset] [(.int (0 : Int32))])) _
      refine XS.istore X28.here hx rfl (hb hby at_35) rfl (l' := #[.val (.int p1), .val (.int p2), .val (.int nn), .val (.int kk), .val (.ref b3), .val (.ref b4), .val (.int (0 : Int32)), .unset, .unset]) rfl ?_
      show Steps p.tables e below (T28.setTop (mkF m 37 #[.val (.int p1), .val (.int p2), .val (.int nn), .val (.int kk), .val (.ref b3), .val (.ref b4), .val (.int (0 : Int32)), .unset, .unset] [])) _
      refine XS.aload X28.here hx rfl (hb hby at_37) rfl rfl ?_
      show Steps p.tables e below (T28.setTop (mkF m 39 #[.val (.int p1), .val (.int p2), .val (.int nn), .val (.int kk), .val (.ref b3), .val (.ref b4), .val (.int (0 : Int32)), .unset, .unset] [(.ref b4)])) _
      refine XS.iloadN X28.here hx rfl (hb hby at_39) rfl ?_
      show Steps p.tables e below (T28.setTop (mkF m 40 #[.val (.int p1), .val (.int p2), .val (.int nn), .val (.int kk), .val (.ref b3), .val (.ref b4), .val (.int (0 : Int32)), .unset, .unset] [(.int kk), (.ref b4)])) _
      refine XS.i2l X28.here hx rfl (hb hby at_40) rfl ?_
      show Steps p.tables e below (T28.setTop (mkF m 41 #[.val (.int p1), .val (.int p2), .val (.int nn), .val (.int kk), .val (.ref b3), .val (.ref b4), .val (.int (0 : Int32)), .unset, .unset] [(.long (kk.toInt64)), (.ref b4)])) _
      refine st29 _ ?_
      show Steps p.tables e below (T29.setTop (mkF m 43 #[.val (.int p1), .val (.int p2), .val (.int nn), .val (.int kk), .val (.ref b3), .val (.ref b4), .val (.int (0 : Int32)), .unset, .unset] [(.ref sa29), (.long (kk.toInt64)), (.ref b4)])) _
      refine st30.trans ?_
      show Steps p.tables e below (T30.setTop (mkF m 46 #[.val (.int p1), .val (.int p2), .val (.int nn), .val (.int kk), .val (.ref b3), .val (.ref b4), .val (.int (0 : Int32)), .unset, .unset] [(.ref bt30)])) _
      refine XS.pop X30.here hx rfl (hb hby at_46) rfl rfl ?_
      show Steps p.tables e below (T30.setTop (mkF m 47 #[.val (.int p1), .val (.int p2), .val (.int nn), .val (.int kk), .val (.ref b3), .val (.ref b4), .val (.int (0 : Int32)), .unset, .unset] [])) _
      refine XS.aload X30.here hx rfl (hb hby at_47) rfl rfl ?_
      show Steps p.tables e below (T30.setTop (mkF m 49 #[.val (.int p1), .val (.int p2), .val (.int nn), .val (.int kk), .val (.ref b3), .val (.ref b4), .val (.int (0 : Int32)), .unset, .unset] [(.ref b4)])) _
      refine st31.trans ?_
      show Steps p.tables e below (T31.setTop (mkF m 52 #[.val (.int p1), .val (.int p2), .val (.int nn), .val (.int kk), .val (.ref b3), .val (.ref b4), .val (.int (0 : Int32)), .unset, .unset] [(.int (0 : Int32))])) _
      refine XS.istore X31.here hx rfl (hb hby at_52) rfl (l' := #[.val (.int p1), .val (.int p2), .val (.int nn), .val (.int kk), .val (.ref b3), .val (.ref b4), .val (.int (0 : Int32)), .val (.int (0 : Int32)), .unset]) rfl ?_
      show Steps p.tables e below (T31.setTop (mkF m 54 #[.val (.int p1), .val (.int p2), .val (.int nn), .val (.int kk), .val (.ref b3), .val (.ref b4), .val (.int (0 : Int32)), .val (.int (0 : Int32)), .unset] [])) _
      refine XS.aload X31.here hx rfl (hb hby at_54) rfl rfl ?_
      show Steps p.tables e below (T31.setTop (mkF m 56 #[.val (.int p1), .val (.int p2), .val (.int nn), .val (.int kk), .val (.ref b3), .val (.ref b4), .val (.int (0 : Int32)), .val (.int (0 : Int32)), .unset] [(.ref b4)])) _
      refine XS.iloadN X31.here hx rfl (hb hby at_56) rfl ?_
      show Steps p.tables e below (T31.setTop (mkF m 57 #[.val (.int p1), .val (.int p2), .val (.int nn), .val (.int kk), .val (.ref b3), .val (.ref b4), .val (.int (0 : Int32)), .val (.int (0 : Int32)), .unset] [(.int nn), (.ref b4)])) _
      refine XS.iloadN X31.here hx rfl (hb hby at_57) rfl ?_
      show Steps p.tables e below (T31.setTop (mkF m 58 #[.val (.int p1), .val (.int p2), .val (.int nn), .val (.int kk), .val (.ref b3), .val (.ref b4), .val (.int (0 : Int32)), .val (.int (0 : Int32)), .unset] [(.int kk), (.int nn), (.ref b4)])) _
      refine XS.isub X31.here hx rfl (hb hby at_58) rfl ?_
      rw [hdd]
      show Steps p.tables e below (T31.setTop (mkF m 59 #[.val (.int p1), .val (.int p2), .val (.int nn), .val (.int kk), .val (.ref b3), .val (.ref b4), .val (.int (0 : Int32)), .val (.int (0 : Int32)), .unset] [(.int dd), (.ref b4)])) _
      refine XS.i2l X31.here hx rfl (hb hby at_59) rfl ?_
      show Steps p.tables e below (T31.setTop (mkF m 60 #[.val (.int p1), .val (.int p2), .val (.int nn), .val (.int kk), .val (.ref b3), .val (.ref b4), .val (.int (0 : Int32)), .val (.int (0 : Int32)), .unset] [(.long (dd.toInt64)), (.ref b4)])) _
      refine st32 _ ?_
      show Steps p.tables e below (T32.setTop (mkF m 62 #[.val (.int p1), .val (.int p2), .val (.int nn), .val (.int kk), .val (.ref b3), .val (.ref b4), .val (.int (0 : Int32)), .val (.int (0 : Int32)), .unset] [(.ref sa32), (.long (dd.toInt64)), (.ref b4)])) _
      refine st33.trans ?_
      show Steps p.tables e below (T33.setTop (mkF m 65 #[.val (.int p1), .val (.int p2), .val (.int nn), .val (.int kk), .val (.ref b3), .val (.ref b4), .val (.int (0 : Int32)), .val (.int (0 : Int32)), .unset] [(.ref bt33)])) _
      refine XS.pop X33.here hx rfl (hb hby at_65) rfl rfl ?_
      show Steps p.tables e below (T33.setTop (mkF m 66 #[.val (.int p1), .val (.int p2), .val (.int nn), .val (.int kk), .val (.ref b3), .val (.ref b4), .val (.int (0 : Int32)), .val (.int (0 : Int32)), .unset] [])) _
      refine XS.aload X33.here hx rfl (hb hby at_66) rfl rfl ?_
      show Steps p.tables e below (T33.setTop (mkF m 68 #[.val (.int p1), .val (.int p2), .val (.int nn), .val (.int kk), .val (.ref b3), .val (.ref b4), .val (.int (0 : Int32)), .val (.int (0 : Int32)), .unset] [(.ref b4)])) _
      refine st34.trans ?_
      show Steps p.tables e below (T34.setTop (mkF m 71 #[.val (.int p1), .val (.int p2), .val (.int nn), .val (.int kk), .val (.ref b3), .val (.ref b4), .val (.int (0 : Int32)), .val (.int (0 : Int32)), .unset] [(.int (1 : Int32))])) _
      refine XS.istore X34.here hx rfl (hb hby at_71) rfl (l' := #[.val (.int p1), .val (.int p2), .val (.int nn), .val (.int kk), .val (.ref b3), .val (.ref b4), .val (.int (0 : Int32)), .val (.int (0 : Int32)), .val (.int (1 : Int32))]) rfl ?_
      show Steps p.tables e below (T34.setTop (mkF m 73 #[.val (.int p1), .val (.int p2), .val (.int nn), .val (.int kk), .val (.ref b3), .val (.ref b4), .val (.int (0 : Int32)), .val (.int (0 : Int32)), .val (.int (1 : Int32))] [])) _
      refine XS.iload X34.here hx rfl (hb hby at_73) rfl ?_
      show Steps p.tables e below (T34.setTop (mkF m 75 #[.val (.int p1), .val (.int p2), .val (.int nn), .val (.int kk), .val (.ref b3), .val (.ref b4), .val (.int (0 : Int32)), .val (.int (0 : Int32)), .val (.int (1 : Int32))] [(.int (0 : Int32))])) _
      refine XS.iloadN X34.here hx rfl (hb hby at_75) rfl ?_
      show Steps p.tables e below (T34.setTop (mkF m 76 #[.val (.int p1), .val (.int p2), .val (.int nn), .val (.int kk), .val (.ref b3), .val (.ref b4), .val (.int (0 : Int32)), .val (.int (0 : Int32)), .val (.int (1 : Int32))] [(.int nn), (.int (0 : Int32))])) _
      refine XS.ifYes X34.here hx rfl (pc0 := 76) (pc' := 83) rfl (hb hby at_76) rfl ((if0 _ _).trans (feq (hn0 : ¬ (nn = (0 : Int32)))).2) (by decide) (by decide) ?_
      show Steps p.tables e below (T34.setTop (mkF m 83 #[.val (.int p1), .val (.int p2), .val (.int nn), .val (.int kk), .val (.ref b3), .val (.ref b4), .val (.int (0 : Int32)), .val (.int (0 : Int32)), .val (.int (1 : Int32))] [(.int (0 : Int32))])) _
      refine XS.iconst X34.here hx rfl (hb hby at_83) ?_
      show Steps p.tables e below (T34.setTop (mkF m 84 #[.val (.int p1), .val (.int p2), .val (.int nn), .val (.int kk), .val (.ref b3), .val (.ref b4), .val (.int (0 : Int32)), .val (.int (0 : Int32)), .val (.int (1 : Int32))] [(.int (0 : Int32)), (.int (0 : Int32))])) _
      refine XS.icmpNo X34.here hx rfl (hb hby at_84) rfl (teq ((rfl) : (0 : Int32) = (0 : Int32))).2 ?_
      show Steps p.tables e below (T34.setTop (mkF m 87 #[.val (.int p1), .val (.int p2), .val (.int nn), .val (.int kk), .val (.ref b3), .val (.ref b4), .val (.int (0 : Int32)), .val (.int (0 : Int32)), .val (.int (1 : Int32))] [])) _
      refine XS.iload X34.here hx rfl (hb hby at_87) rfl ?_
      show Steps p.tables e below (T34.setTop (mkF m 89 #[.val (.int p1), .val (.int p2), .val (.int nn), .val (.int kk), .val (.ref b3), .val (.ref b4), .val (.int (0 : Int32)), .val (.int (0 : Int32)), .val (.int (1 : Int32))] [(.int (0 : Int32))])) _
      refine XS.iloadN X34.here hx rfl (hb hby at_89) rfl ?_
      show Steps p.tables e below (T34.setTop (mkF m 90 #[.val (.int p1), .val (.int p2), .val (.int nn), .val (.int kk), .val (.ref b3), .val (.ref b4), .val (.int (0 : Int32)), .val (.int (0 : Int32)), .val (.int (1 : Int32))] [(.int kk), (.int (0 : Int32))])) _
      refine XS.iloadN X34.here hx rfl (hb hby at_90) rfl ?_
      show Steps p.tables e below (T34.setTop (mkF m 91 #[.val (.int p1), .val (.int p2), .val (.int nn), .val (.int kk), .val (.ref b3), .val (.ref b4), .val (.int (0 : Int32)), .val (.int (0 : Int32)), .val (.int (1 : Int32))] [(.int nn), (.int kk), (.int (0 : Int32))])) _
      refine XS.icmpYes X34.here hx rfl (pc0 := 91) (pc' := 98) rfl (hb hby at_91) rfl (feq (kne : ¬ (kk = nn))).2 (by decide) (by decide) ?_
      show Steps p.tables e below (T34.setTop (mkF m 98 #[.val (.int p1), .val (.int p2), .val (.int nn), .val (.int kk), .val (.ref b3), .val (.ref b4), .val (.int (0 : Int32)), .val (.int (0 : Int32)), .val (.int (1 : Int32))] [(.int (0 : Int32))])) _
      refine XS.iconst X34.here hx rfl (hb hby at_98) ?_
      show Steps p.tables e below (T34.setTop (mkF m 99 #[.val (.int p1), .val (.int p2), .val (.int nn), .val (.int kk), .val (.ref b3), .val (.ref b4), .val (.int (0 : Int32)), .val (.int (0 : Int32)), .val (.int (1 : Int32))] [(.int (0 : Int32)), (.int (0 : Int32))])) _
      refine XS.icmpNo X34.here hx rfl (hb hby at_99) rfl (teq ((rfl) : (0 : Int32) = (0 : Int32))).2 ?_
      show Steps p.tables e below (T34.setTop (mkF m 102 #[.val (.int p1), .val (.int p2), .val (.int nn), .val (.int kk), .val (.ref b3), .val (.ref b4), .val (.int (0 : Int32)), .val (.int (0 : Int32)), .val (.int (1 : Int32))] [])) _
      refine XS.iload X34.here hx rfl (hb hby at_102) rfl ?_
      show Steps p.tables e below (T34.setTop (mkF m 104 #[.val (.int p1), .val (.int p2), .val (.int nn), .val (.int kk), .val (.ref b3), .val (.ref b4), .val (.int (0 : Int32)), .val (.int (0 : Int32)), .val (.int (1 : Int32))] [(.int (1 : Int32))])) _
      refine XS.ifNo X34.here hx rfl (hb hby at_104) rfl ((if0 _ _).trans (feq (by decide : ¬ ((1 : Int32) = (0 : Int32)))).1) ?_
      show Steps p.tables e below (T34.setTop (mkF m 107 #[.val (.int p1), .val (.int p2), .val (.int nn), .val (.int kk), .val (.ref b3), .val (.ref b4), .val (.int (0 : Int32)), .val (.int (0 : Int32)), .val (.int (1 : Int32))] [])) _
      refine XS.iconst X34.here hx rfl (hb hby at_107) ?_
      show Steps p.tables e below (T34.setTop (mkF m 108 #[.val (.int p1), .val (.int p2), .val (.int nn), .val (.int kk), .val (.ref b3), .val (.ref b4), .val (.int (0 : Int32)), .val (.int (0 : Int32)), .val (.int (1 : Int32))] [(.int (1 : Int32))])) _
      refine XS.goto X34.here hx rfl (pc0 := 108) (pc' := 112) rfl (hb hby at_108) (by decide) (by decide) ?_
      show Steps p.tables e below (T34.setTop (mkF m 112 #[.val (.int p1), .val (.int p2), .val (.int nn), .val (.int kk), .val (.ref b3), .val (.ref b4), .val (.int (0 : Int32)), .val (.int (0 : Int32)), .val (.int (1 : Int32))] [(.int (1 : Int32))])) _
      exact retN X34 hx (t := .boolean) Bd.returns (by simp) (hb hby at_112) hr
    · show QF n0 _ T34.heap _
      rw [e34]
      exact ⟨rfl, N34⟩
set_option maxRecDepth 65536 in
set_option maxHeartbeats 40000000 in
theorem comes_1 {Post : Tables → Env → Array Value → State → Outcome → State → Prop} (hpost : ∀ tb e args s v u, (limb_1_1.after args s (.returned v) u = true ∧ limb_1_2.after args s (.returned v) u = true ∧ True) → ReturnedEndW s (.returned v) u (Jvm.fieldLocs frame_1_writes args s ++ Jvm.arrayLocs frame_1_arrays args s ++ Jvm.staticLocs frame_1_statics s) 24 2176 → Post tb e args s (.returned v) u) :
    ArmFor flags0 classFile x code maxLocals ret World_1 tables_1 room_1 Calls_1 rest_1 Pre_1 Post := by
  intro l hfl _ _ p e ha hc hk s m args below hf hA hF happ hP
  obtain ⟨hcalls, hrest, hpre⟩ := hP
  obtain ⟨-, -, -, hnamed, -, -, -, hat⟩ := (Spec.applies_iff hf).mp happ
  obtain ⟨hg, hn⟩ := and_e (Cond.before_iff.mp (show (Jvm.Cond.and given_1 narrow_1).before args s = true from hpre))
  obtain ⟨hg0, hg⟩ := and_e hg
  obtain ⟨gA0, hg⟩ := and_e hg
  have gA1 := hg
  obtain ⟨w0, w1, rfl⟩ : ∃ w0 w1 : Value, args = #[w0, w1] := by
    have hs : args.size = 2 := by simpa [Cond.value, given_1] using hg0
    obtain ⟨L⟩ := args
    match L, hs with
    | [w0, w1], _ => exact ⟨w0, w1, rfl⟩
  have hw := fun d (hd : d ∈ tables_1) => atoms_spec (ws := Jvm.Cond.code x code maxLocals ret :: tables_1) hat d (List.mem_cons_of_mem _ hd)
  obtain ⟨i0, ei0⟩ := is_v gA0
  obtain rfl : w0 = (.int i0) := Option.some.inj ei0
  obtain ⟨i1, ei1⟩ := is_v gA1
  obtain rfl : w1 = (.int i1) := Option.some.inj ei1
  obtain ⟨n, o, h1, h2, h3, _, L, rfl, ⟨rfl, N⟩, hq⟩ := rm0 l s _ hw tables_1 i0 i1 s.heap s.heap.size (Nat.le_refl _) p e ha hc hk s m _ below hf ((Spec.applies_iff_loose hf).mp happ).1 ⟨rfl, State.Warmed39.refl s, rfl⟩ trivial
  refine ⟨n, _, h1, h2, h3, hpost _ _ _ _ _ _ ⟨Cond.after_iff.mpr rfl, Cond.after_iff.mpr (eq_i res_at (Term.int_eval (1)) rfl), trivial⟩ ⟨hq.1, hq.2.1, hq.2.2.1, (hq.2.2.2.sift fun y hy => Or.inr (N y hy)).mono (by decide) (by decide)⟩⟩
theorem main_1_1 : Claimed_1_1 := comes_1 fun _ _ _ _ _ _ h hF => ⟨h.1, hF⟩
theorem main_1_2 : Claimed_1_2 := comes_1 fun _ _ _ _ _ _ h hF => ⟨h.2.1, hF⟩
end Jvm.Pilot.@@N@@
namespace Jvm.Pilot.@@N@@
open Jvm Jvm.ClassFile Sem Op Lib Jvm.Free Jvm.Stand Jvm.Pilot.@@N@@.Jvm.D
/-! MADE BY PROGRAM (witnessworld.py) out of the Statement's table words and the real class files: 19 classes; the members and pool entries that the words name. The judged class is class 1, her method 1. -/
namespace start1
open Jvm.ClassFile
def u (s : String) : CpInfo := .utf8 (stringToUtf16 s)
/-- a pool by its gaps: so many unusable entries, then the entry; so many at the end -/
def gap : Nat → List CpInfo → List CpInfo
  | 0, r => r
  | n + 1, r => .unusable :: gap n r
def poolList (es : List (Nat × CpInfo)) (last : Nat) : List CpInfo := es.foldr (fun e r => gap e.1 (e.2 :: r)) (gap last [])
def pool (es : List (Nat × CpInfo)) (last : Nat) : Array CpInfo := ⟨poolList es last⟩
def fileOf (pool : Array CpInfo) (this : Nat) (attrs : Array Attribute := #[]) (ms : Array MethodInfo := #[]) (fl : Nat := 33) (sup : Nat := 0) (ifs : Array Nat := #[]) (fds : Array FieldInfo := #[]) : ClassFile where
  minorVersion := 0
  majorVersion := 65
  constantPool := pool
  accessFlags := fl
  thisClass := this
  superClass := sup
  interfaces := ifs
  fields := fds
  methods := ms
  attributes := attrs
def plain (name : String) (sup : Option ClassId) : Class where
  name := name
  kind := .ordinary
  loader := none
  accessFlags := 33
  super := sup
  interfaces := #[]
  cf := none
  fields := #[]
  methods := #[]
  instanceTypes := #[]
  staticTypes := #[]
  resolved := #[]
  callSites := []
  init := .initialized
  statics := none
  mirror := none

def pool0 : Array CpInfo := pool [(5, u "<init>"), (0, u "()V"), (1, .class_ 10), (1, u "java/lang/Object"), (85, u "clone"), (0, u "()Ljava/lang/Object;")] 26

def k0c0 : Code := { maxStack := 0, maxLocals := 1, code := object_method_1_code, exceptionTable := #[], attributes := #[] }
def k0m0 : Method := { name := "<init>", desc := "()V", sig := { parameters := [], returnType := none }, accessFlags := 1, code := some k0c0 }
def k0m1 : Method := { name := "clone", desc := "()Ljava/lang/Object;", sig := { parameters := [], returnType := some (.object "java/lang/Object") }, accessFlags := 260, code := none }
/-- java/lang/Object -/
def k0 : Class := { plain "java/lang/Object" none with
  accessFlags := 33
  interfaces := #[]
  cf := some (fileOf pool0 8 #[] #[{ accessFlags := 1, nameIndex := 5, descriptorIndex := 6, attributes := #[] }, { accessFlags := 260, nameIndex := 96, descriptorIndex := 97, attributes := #[] }] 33 0 #[] #[])
  fields := #[]
  methods := #[k0m0, k0m1]
  instanceTypes := #[]
  staticTypes := #[]
  resolved := Array.replicate 124 none
  statics := none }

def pool1 : Array CpInfo := pool [(2, .class_ 4), (1, u "java/lang/Object"), (0, u "<init>"), (0, u "()V"), (0, .class_ 8), (0, u "com/example/toll/toll/wire/WireReader"), (0, .methodref 7 10), (0, .nameAndType 5 11), (0, u "([B)V"), (0, .methodref 7 13), (0, .nameAndType 14 15), (0, u "atEnd"), (0, u "()Z"), (0, .string 17), (0, u "f"), (0, .methodref 7 19), (0, .nameAndType 20 21), (0, u "bytes"), (0, u "(JLjava/lang/String;)[B"), (0, .string 23), (0, u "g"), (0, .class_ 25), (0, u "com/example/toll/toll/wire/WireReaderAtEndPinLaw"), (2, u "law"), (0, u "(II)Z")] 8

def k1m0 : Method := { name := "<init>", desc := "()V", sig := { parameters := [], returnType := none }, accessFlags := 1, code := none }
def k1c1 : Code := { maxStack := 4, maxLocals := 9, code := code, exceptionTable := #[], attributes := #[] }
def k1m1 : Method := { name := "law", desc := "(II)Z", sig := { parameters := [.int, .int], returnType := some .boolean }, accessFlags := 9, code := some k1c1 }
/-- com/example/toll/toll/wire/WireReaderAtEndPinLaw -/
def k1 : Class := { plain "com/example/toll/toll/wire/WireReaderAtEndPinLaw" (some 0) with
  accessFlags := 49
  interfaces := #[]
  cf := some (fileOf pool1 24 #[] #[{ accessFlags := 1, nameIndex := 5, descriptorIndex := 6, attributes := #[] }, { accessFlags := 9, nameIndex := 28, descriptorIndex := 29, attributes := #[] }] 49 2 #[] #[])
  fields := #[]
  methods := #[k1m0, k1m1]
  instanceTypes := #[]
  staticTypes := #[]
  resolved := Array.replicate 38 none
  statics := none }

def pool2 : Array CpInfo := pool [(1, .methodref 2 3), (0, .class_ 4), (0, .nameAndType 5 6), (0, u "java/lang/Object"), (0, u "<init>"), (0, u "()V"), (0, .fieldref 8 9), (0, .class_ 10), (0, .nameAndType 11 12), (0, u "com/example/toll/toll/wire/WireReader"), (0, u "input"), (0, u "[B"), (0, .methodref 8 14), (0, .nameAndType 15 16), (0, u "take"), (0, u "(ILjava/lang/String;)[B"), (16, .methodref 34 35), (0, .class_ 36), (0, .nameAndType 37 38), (0, u "java/lang/Long"), (0, u "compareUnsigned"), (0, u "(JJ)I"), (9, .fieldref 8 49), (0, .nameAndType 50 51), (0, u "position"), (0, u "I"), (20, u "atEnd"), (0, u "()Z"), (6, .methodref 81 82), (0, .class_ 83), (0, .nameAndType 84 85), (0, u "java/util/Arrays"), (0, u "copyOfRange"), (0, u "([BII)[B"), (0, u "([B)V"), (9, u "bytes"), (0, u "(JLjava/lang/String;)[B")] 22

def k2c0 : Code := { maxStack := 2, maxLocals := 2, code := prog_33_method_1_code, exceptionTable := #[], attributes := #[] }
def k2m0 : Method := { name := "<init>", desc := "([B)V", sig := { parameters := [(.array .byte)], returnType := none }, accessFlags := 0, code := some k2c0 }
def k2c1 : Code := { maxStack := 8, maxLocals := 4, code := prog_33_method_7_code, exceptionTable := #[], attributes := #[] }
def k2m1 : Method := { name := "bytes", desc := "(JLjava/lang/String;)[B", sig := { parameters := [.long, (.object "java/lang/String")], returnType := some (.array .byte) }, accessFlags := 0, code := some k2c1 }
def k2c2 : Code := { maxStack := 2, maxLocals := 1, code := prog_33_method_8_code, exceptionTable := #[], attributes := #[] }
def k2m2 : Method := { name := "atEnd", desc := "()Z", sig := { parameters := [], returnType := some .boolean }, accessFlags := 0, code := some k2c2 }
def k2c3 : Code := { maxStack := 4, maxLocals := 4, code := prog_33_method_10_code, exceptionTable := #[], attributes := #[] }
def k2m3 : Method := { name := "take", desc := "(ILjava/lang/String;)[B", sig := { parameters := [.int, (.object "java/lang/String")], returnType := some (.array .byte) }, accessFlags := 2, code := some k2c3 }
/-- com/example/toll/toll/wire/WireReader -/
def k2 : Class := { plain "com/example/toll/toll/wire/WireReader" (some 0) with
  accessFlags := 48
  interfaces := #[]
  cf := some (fileOf pool2 8 #[] #[{ accessFlags := 0, nameIndex := 5, descriptorIndex := 86, attributes := #[] }, { accessFlags := 0, nameIndex := 96, descriptorIndex := 97, attributes := #[] }, { accessFlags := 0, nameIndex := 72, descriptorIndex := 73, attributes := #[] }, { accessFlags := 2, nameIndex := 15, descriptorIndex := 16, attributes := #[] }] 48 2 #[] #[{ accessFlags := 18, nameIndex := 11, descriptorIndex := 12, attributes := #[] }, { accessFlags := 2, nameIndex := 50, descriptorIndex := 51, attributes := #[] }])
  fields := #[{ name := "input", type := (.array .byte), accessFlags := 18, slot := 0, constantValue := 0 }, { name := "position", type := .int, accessFlags := 2, slot := 1, constantValue := 0 }]
  methods := #[k2m0, k2m1, k2m2, k2m3]
  instanceTypes := #[(.array .byte), .int]
  staticTypes := #[]
  resolved := Array.replicate 120 none
  statics := none }

def pool3 : Array CpInfo := pool [(1, .class_ 2), (0, u "java/io/Serializable"), (0, .class_ 4), (0, u "java/lang/Object")] 2

/-- java/io/Serializable -/
def k3 : Class := { plain "java/io/Serializable" (some 0) with
  accessFlags := 1537
  interfaces := #[]
  cf := some (fileOf pool3 1 #[] #[] 1537 3 #[] #[])
  fields := #[]
  methods := #[]
  instanceTypes := #[]
  staticTypes := #[]
  resolved := Array.replicate 7 none
  statics := none }

def pool4 : Array CpInfo := pool [(1, .class_ 2), (0, u "java/lang/Comparable"), (0, .class_ 4), (0, u "java/lang/Object")] 7

/-- java/lang/Comparable -/
def k4 : Class := { plain "java/lang/Comparable" (some 0) with
  accessFlags := 1537
  interfaces := #[]
  cf := some (fileOf pool4 1 #[] #[] 1537 3 #[] #[])
  fields := #[]
  methods := #[]
  instanceTypes := #[]
  staticTypes := #[]
  resolved := Array.replicate 12 none
  statics := none }

def pool5 : Array CpInfo := pool [(2, .class_ 4), (1, u "java/lang/CharSequence"), (42, .class_ 48), (0, u "java/lang/CharSequence$1CodePointIterator"), (10, .class_ 60), (0, u "java/lang/CharSequence$1CharIterator"), (5, .class_ 67), (0, u "java/lang/Object")] 63

/-- java/lang/CharSequence -/
def k5 : Class := { plain "java/lang/CharSequence" (some 0) with
  accessFlags := 1537
  interfaces := #[]
  cf := some (fileOf pool5 2 #[.nestMembers #[47, 59]] #[] 1537 66 #[] #[])
  fields := #[]
  methods := #[]
  instanceTypes := #[]
  staticTypes := #[]
  resolved := Array.replicate 131 none
  statics := none }

def pool6 : Array CpInfo := pool [(1, .class_ 2), (0, u "java/lang/constant/Constable"), (0, .class_ 4), (0, u "java/lang/Object")] 6

/-- java/lang/constant/Constable -/
def k6 : Class := { plain "java/lang/constant/Constable" (some 0) with
  accessFlags := 1537
  interfaces := #[]
  cf := some (fileOf pool6 1 #[] #[] 1537 3 #[] #[])
  fields := #[]
  methods := #[]
  instanceTypes := #[]
  staticTypes := #[]
  resolved := Array.replicate 11 none
  statics := none }

def pool7 : Array CpInfo := pool [(1, .class_ 2), (0, u "java/lang/constant/ConstantDesc"), (0, .class_ 4), (0, u "java/lang/Object")] 32

/-- java/lang/constant/ConstantDesc -/
def k7 : Class := { plain "java/lang/constant/ConstantDesc" (some 0) with
  accessFlags := 1537
  interfaces := #[]
  cf := some (fileOf pool7 1 #[] #[] 1537 3 #[] #[])
  fields := #[]
  methods := #[]
  instanceTypes := #[]
  staticTypes := #[]
  resolved := Array.replicate 37 none
  statics := none }

def pool8 : Array CpInfo := pool [(2, .class_ 4), (1, u "java/lang/Object"), (0, u "<init>"), (0, u "()V"), (3, .class_ 12), (1, u "java/lang/String"), (0, u "value"), (0, u "[B"), (2, u "coder"), (0, u "B"), (2, u "hash"), (0, u "I"), (2, u "hashIsZero"), (0, u "Z"), (13, u "COMPACT_STRINGS"), (534, .class_ 576), (0, u "java/lang/CharSequence"), (22, u "CASE_INSENSITIVE_ORDER"), (0, u "Ljava/util/Comparator;"), (500, u "serialPersistentFields"), (0, u "[Ljava/io/ObjectStreamField;"), (0, .class_ 1104), (0, u "java/lang/String$CaseInsensitiveComparator"), (1, .class_ 1107), (0, u "java/io/Serializable"), (0, .class_ 1109), (0, u "java/lang/Comparable"), (0, .class_ 1111), (0, u "java/lang/constant/Constable"), (0, .class_ 1113), (0, u "java/lang/constant/ConstantDesc"), (2, u "serialVersionUID"), (0, u "J"), (3, u "REPL"), (0, u "C"), (2, u "LATIN1"), (1, u "UTF16")] 323

def k8m0 : Method := { name := "<init>", desc := "()V", sig := { parameters := [], returnType := none }, accessFlags := 1, code := none }
/-- java/lang/String -/
def k8 : Class := { plain "java/lang/String" (some 0) with
  accessFlags := 49
  interfaces := #[3, 4, 5, 6, 7]
  cf := some (fileOf pool8 10 #[.nestMembers #[1103]] #[{ accessFlags := 1, nameIndex := 5, descriptorIndex := 6, attributes := #[] }] 49 2 #[1106, 1108, 575, 1110, 1112] #[{ accessFlags := 18, nameIndex := 13, descriptorIndex := 14, attributes := #[] }, { accessFlags := 18, nameIndex := 17, descriptorIndex := 18, attributes := #[] }, { accessFlags := 2, nameIndex := 21, descriptorIndex := 22, attributes := #[] }, { accessFlags := 2, nameIndex := 25, descriptorIndex := 26, attributes := #[] }, { accessFlags := 26, nameIndex := 1116, descriptorIndex := 1117, attributes := #[] }, { accessFlags := 24, nameIndex := 40, descriptorIndex := 26, attributes := #[] }, { accessFlags := 26, nameIndex := 1101, descriptorIndex := 1102, attributes := #[] }, { accessFlags := 26, nameIndex := 1121, descriptorIndex := 1122, attributes := #[] }, { accessFlags := 25, nameIndex := 599, descriptorIndex := 600, attributes := #[] }, { accessFlags := 24, nameIndex := 1125, descriptorIndex := 18, attributes := #[] }, { accessFlags := 24, nameIndex := 1127, descriptorIndex := 18, attributes := #[] }])
  fields := #[{ name := "value", type := (.array .byte), accessFlags := 18, slot := 0, constantValue := 0 }, { name := "coder", type := .byte, accessFlags := 18, slot := 1, constantValue := 0 }, { name := "hash", type := .int, accessFlags := 2, slot := 2, constantValue := 0 }, { name := "hashIsZero", type := .boolean, accessFlags := 2, slot := 3, constantValue := 0 }, { name := "serialVersionUID", type := .long, accessFlags := 26, slot := 0, constantValue := 0 }, { name := "COMPACT_STRINGS", type := .boolean, accessFlags := 24, slot := 1, constantValue := 0 }, { name := "serialPersistentFields", type := (.array (.object "java/io/ObjectStreamField")), accessFlags := 26, slot := 2, constantValue := 0 }, { name := "REPL", type := .char, accessFlags := 26, slot := 3, constantValue := 0 }, { name := "CASE_INSENSITIVE_ORDER", type := (.object "java/util/Comparator"), accessFlags := 25, slot := 4, constantValue := 0 }, { name := "LATIN1", type := .byte, accessFlags := 24, slot := 5, constantValue := 0 }, { name := "UTF16", type := .byte, accessFlags := 24, slot := 6, constantValue := 0 }]
  methods := #[k8m0]
  instanceTypes := #[(.array .byte), .byte, .int, .boolean]
  staticTypes := #[.long, .boolean, (.array (.object "java/io/ObjectStreamField")), .char, (.object "java/util/Comparator"), .byte, .byte]
  resolved := Array.replicate 1451 none
  statics := none }

def pool9 : Array CpInfo := pool [(2, .class_ 4), (1, u "java/lang/Object"), (0, u "<init>"), (0, u "()V"), (1, .class_ 10), (1, u "java/lang/Number"), (2, .class_ 14), (0, u "java/io/Serializable"), (0, u "serialVersionUID"), (0, u "J")] 20

def k9m0 : Method := { name := "<init>", desc := "()V", sig := { parameters := [], returnType := none }, accessFlags := 1, code := none }
/-- java/lang/Number -/
def k9 : Class := { plain "java/lang/Number" (some 0) with
  accessFlags := 1057
  interfaces := #[3]
  cf := some (fileOf pool9 8 #[] #[{ accessFlags := 1, nameIndex := 5, descriptorIndex := 6, attributes := #[] }] 1057 2 #[13] #[{ accessFlags := 26, nameIndex := 15, descriptorIndex := 16, attributes := #[] }])
  fields := #[{ name := "serialVersionUID", type := .long, accessFlags := 26, slot := 0, constantValue := 0 }]
  methods := #[k9m0]
  instanceTypes := #[]
  staticTypes := #[.long]
  resolved := Array.replicate 37 none
  statics := none }

def pool10 : Array CpInfo := pool [(1, .class_ 2), (0, u "java/lang/Long"), (165, .long 9223372036854775808), (66, .class_ 237), (1, u "java/lang/Long$LongCache"), (33, .class_ 272), (0, u "java/lang/Number"), (2, u "value"), (0, u "J"), (25, .methodref 1 303), (0, .nameAndType 304 305), (0, u "compare"), (0, u "(JJ)I"), (55, u "TYPE"), (0, u "Ljava/lang/Class;"), (0, .class_ 364), (0, u "java/lang/Comparable"), (0, .class_ 366), (0, u "java/lang/constant/Constable"), (0, .class_ 368), (0, u "java/lang/constant/ConstantDesc"), (0, u "MIN_VALUE"), (1, u "MAX_VALUE"), (4, u "SIZE"), (0, u "I"), (1, u "BYTES"), (1, u "serialVersionUID"), (87, u "compareUnsigned")] 54

def k10c0 : Code := { maxStack := 4, maxLocals := 4, code := jdk_35_method_42_code, exceptionTable := #[], attributes := #[] }
def k10m0 : Method := { name := "compare", desc := "(JJ)I", sig := { parameters := [.long, .long], returnType := some .int }, accessFlags := 9, code := some k10c0 }
def k10c1 : Code := { maxStack := 6, maxLocals := 4, code := jdk_35_method_43_code, exceptionTable := #[], attributes := #[] }
def k10m1 : Method := { name := "compareUnsigned", desc := "(JJ)I", sig := { parameters := [.long, .long], returnType := some .int }, accessFlags := 9, code := some k10c1 }
/-- java/lang/Long -/
def k10 : Class := { plain "java/lang/Long" (some 9) with
  accessFlags := 49
  interfaces := #[4, 6, 7]
  cf := some (fileOf pool10 1 #[.nestMembers #[235]] #[{ accessFlags := 9, nameIndex := 304, descriptorIndex := 305, attributes := #[] }, { accessFlags := 9, nameIndex := 469, descriptorIndex := 305, attributes := #[] }] 49 271 #[363, 365, 367] #[{ accessFlags := 25, nameIndex := 369, descriptorIndex := 276, attributes := #[] }, { accessFlags := 25, nameIndex := 371, descriptorIndex := 276, attributes := #[] }, { accessFlags := 25, nameIndex := 361, descriptorIndex := 362, attributes := #[] }, { accessFlags := 18, nameIndex := 275, descriptorIndex := 276, attributes := #[] }, { accessFlags := 25, nameIndex := 376, descriptorIndex := 377, attributes := #[] }, { accessFlags := 25, nameIndex := 379, descriptorIndex := 377, attributes := #[] }, { accessFlags := 26, nameIndex := 381, descriptorIndex := 276, attributes := #[] }])
  fields := #[{ name := "MIN_VALUE", type := .long, accessFlags := 25, slot := 0, constantValue := 0 }, { name := "MAX_VALUE", type := .long, accessFlags := 25, slot := 1, constantValue := 0 }, { name := "TYPE", type := (.object "java/lang/Class"), accessFlags := 25, slot := 2, constantValue := 0 }, { name := "value", type := .long, accessFlags := 18, slot := 0, constantValue := 0 }, { name := "SIZE", type := .int, accessFlags := 25, slot := 3, constantValue := 0 }, { name := "BYTES", type := .int, accessFlags := 25, slot := 4, constantValue := 0 }, { name := "serialVersionUID", type := .long, accessFlags := 26, slot := 5, constantValue := 0 }]
  methods := #[k10m0, k10m1]
  instanceTypes := #[.long]
  staticTypes := #[.long, .long, (.object "java/lang/Class"), .int, .int, .long]
  resolved := Array.replicate 524 none
  statics := none }

def pool11 : Array CpInfo := pool [(2, .class_ 4), (1, u "java/lang/Object"), (0, u "<init>"), (0, u "()V"), (7, .class_ 16), (1, u "java/util/Arrays"), (57, .class_ 76), (1, u "java/util/Arrays$NaturalOrder"), (32, u "()Ljava/lang/Object;"), (3, .class_ 115), (1, u "java/util/Arrays$LegacyMergeSort"), (1, u "Z"), (10, .nameAndType 129 109), (0, u "clone"), (9, u "copyOfRange"), (10, .methodref 151 152), (0, .class_ 153), (0, .nameAndType 154 155), (0, u "java/lang/System"), (0, u "arraycopy"), (0, u "(Ljava/lang/Object;ILjava/lang/Object;II)V"), (148, .methodref 305 306), (0, .class_ 307), (0, .nameAndType 308 309), (0, u "java/lang/Math"), (0, u "min"), (0, u "(II)I"), (0, .methodref 311 128), (0, .class_ 312), (0, u "[B"), (26, .methodref 14 340), (0, .nameAndType 341 342), (0, u "copyOfRangeByte"), (0, u "([BII)[B"), (0, .methodref 14 344), (0, .nameAndType 345 346), (0, u "checkLength"), (0, u "(II)V"), (28, .class_ 376), (0, u "java/util/Arrays$ArrayList"), (68, u "$assertionsDisabled"), (269, u "MIN_ARRAY_SORT_GRAN"), (0, u "I"), (2, u "INSERTIONSORT_THRESHOLD"), (255, .class_ 976), (0, u "java/util/Arrays$ArrayItr")] 52

def k11m0 : Method := { name := "<init>", desc := "()V", sig := { parameters := [], returnType := none }, accessFlags := 2, code := none }
def k11c1 : Code := { maxStack := 4, maxLocals := 2, code := jdk_65_method_131_code, exceptionTable := #[], attributes := #[] }
def k11m1 : Method := { name := "checkLength", desc := "(II)V", sig := { parameters := [.int, .int], returnType := none }, accessFlags := 10, code := some k11c1 }
def k11c2 : Code := { maxStack := 3, maxLocals := 3, code := jdk_65_method_132_code, exceptionTable := #[], attributes := #[] }
def k11m2 : Method := { name := "copyOfRange", desc := "([BII)[B", sig := { parameters := [(.array .byte), .int, .int], returnType := some (.array .byte) }, accessFlags := 9, code := some k11c2 }
def k11c3 : Code := { maxStack := 6, maxLocals := 5, code := jdk_65_method_133_code, exceptionTable := #[], attributes := #[] }
def k11m3 : Method := { name := "copyOfRangeByte", desc := "([BII)[B", sig := { parameters := [(.array .byte), .int, .int], returnType := some (.array .byte) }, accessFlags := 10, code := some k11c3 }
/-- java/util/Arrays -/
def k11 : Class := { plain "java/util/Arrays" (some 0) with
  accessFlags := 49
  interfaces := #[]
  cf := some (fileOf pool11 14 #[.nestMembers #[975, 375, 113, 74]] #[{ accessFlags := 2, nameIndex := 5, descriptorIndex := 6, attributes := #[] }, { accessFlags := 10, nameIndex := 345, descriptorIndex := 346, attributes := #[] }, { accessFlags := 9, nameIndex := 139, descriptorIndex := 342, attributes := #[] }, { accessFlags := 10, nameIndex := 341, descriptorIndex := 342, attributes := #[] }] 49 2 #[] #[{ accessFlags := 26, nameIndex := 715, descriptorIndex := 716, attributes := #[] }, { accessFlags := 26, nameIndex := 719, descriptorIndex := 716, attributes := #[] }, { accessFlags := 4120, nameIndex := 445, descriptorIndex := 117, attributes := #[] }])
  fields := #[{ name := "MIN_ARRAY_SORT_GRAN", type := .int, accessFlags := 26, slot := 0, constantValue := 0 }, { name := "INSERTIONSORT_THRESHOLD", type := .int, accessFlags := 26, slot := 1, constantValue := 0 }, { name := "$assertionsDisabled", type := .boolean, accessFlags := 4120, slot := 2, constantValue := 0 }]
  methods := #[k11m0, k11m1, k11m2, k11m3]
  instanceTypes := #[]
  staticTypes := #[.int, .int, .boolean]
  resolved := Array.replicate 1029 none
  statics := none }

def pool12 : Array CpInfo := pool [(1, .class_ 2), (0, u "java/lang/Cloneable"), (0, .class_ 4), (0, u "java/lang/Object")] 2

/-- java/lang/Cloneable -/
def k12 : Class := { plain "java/lang/Cloneable" (some 0) with
  accessFlags := 1537
  interfaces := #[]
  cf := some (fileOf pool12 1 #[] #[] 1537 3 #[] #[])
  fields := #[]
  methods := #[]
  instanceTypes := #[]
  staticTypes := #[]
  resolved := Array.replicate 7 none
  statics := none }

def pool13 : Array CpInfo := pool [(1, .class_ 2), (0, u "java/lang/Math"), (1, .class_ 6), (1, u "java/lang/Object"), (0, u "<init>"), (0, u "()V"), (89, .class_ 100), (1, u "java/lang/Math$RandomNumberGeneratorHolder"), (71, u "negativeZeroFloatBits"), (0, u "J"), (2, u "negativeZeroDoubleBits"), (24, u "min"), (43, u "$assertionsDisabled"), (0, u "Z"), (88, u "(II)I"), (2, u "twoToTheDoubleScaleDown"), (0, u "D"), (4, u "twoToTheDoubleScaleUp"), (9, u "E"), (3, u "PI"), (2, u "TAU"), (2, u "DEGREES_TO_RADIANS"), (0, u "RADIANS_TO_DEGREES")] 94

def k13m0 : Method := { name := "<init>", desc := "()V", sig := { parameters := [], returnType := none }, accessFlags := 2, code := none }
def k13c1 : Code := { maxStack := 2, maxLocals := 2, code := jdk_29_method_69_code, exceptionTable := #[], attributes := #[] }
def k13m1 : Method := { name := "min", desc := "(II)I", sig := { parameters := [.int, .int], returnType := some .int }, accessFlags := 9, code := some k13c1 }
/-- java/lang/Math -/
def k13 : Class := { plain "java/lang/Math" (some 0) with
  accessFlags := 49
  interfaces := #[]
  cf := some (fileOf pool13 1 #[.nestMembers #[98]] #[{ accessFlags := 2, nameIndex := 7, descriptorIndex := 8, attributes := #[] }, { accessFlags := 9, nameIndex := 201, descriptorIndex := 335, attributes := #[] }] 49 4 #[] #[{ accessFlags := 25, nameIndex := 354, descriptorIndex := 339, attributes := #[] }, { accessFlags := 25, nameIndex := 358, descriptorIndex := 339, attributes := #[] }, { accessFlags := 25, nameIndex := 361, descriptorIndex := 339, attributes := #[] }, { accessFlags := 26, nameIndex := 364, descriptorIndex := 339, attributes := #[] }, { accessFlags := 26, nameIndex := 365, descriptorIndex := 339, attributes := #[] }, { accessFlags := 26, nameIndex := 172, descriptorIndex := 173, attributes := #[] }, { accessFlags := 26, nameIndex := 176, descriptorIndex := 173, attributes := #[] }, { accessFlags := 8, nameIndex := 344, descriptorIndex := 339, attributes := #[] }, { accessFlags := 8, nameIndex := 338, descriptorIndex := 339, attributes := #[] }, { accessFlags := 4120, nameIndex := 245, descriptorIndex := 246, attributes := #[] }])
  fields := #[{ name := "E", type := .double, accessFlags := 25, slot := 0, constantValue := 0 }, { name := "PI", type := .double, accessFlags := 25, slot := 1, constantValue := 0 }, { name := "TAU", type := .double, accessFlags := 25, slot := 2, constantValue := 0 }, { name := "DEGREES_TO_RADIANS", type := .double, accessFlags := 26, slot := 3, constantValue := 0 }, { name := "RADIANS_TO_DEGREES", type := .double, accessFlags := 26, slot := 4, constantValue := 0 }, { name := "negativeZeroFloatBits", type := .long, accessFlags := 26, slot := 5, constantValue := 0 }, { name := "negativeZeroDoubleBits", type := .long, accessFlags := 26, slot := 6, constantValue := 0 }, { name := "twoToTheDoubleScaleUp", type := .double, accessFlags := 8, slot := 7, constantValue := 0 }, { name := "twoToTheDoubleScaleDown", type := .double, accessFlags := 8, slot := 8, constantValue := 0 }, { name := "$assertionsDisabled", type := .boolean, accessFlags := 4120, slot := 9, constantValue := 0 }]
  methods := #[k13m0, k13m1]
  instanceTypes := #[]
  staticTypes := #[.double, .double, .double, .double, .double, .long, .long, .double, .double, .boolean]
  resolved := Array.replicate 460 none
  statics := none }

def pool14 : Array CpInfo := pool [(2, .class_ 4), (1, u "java/lang/Object"), (0, u "<init>"), (0, u "()V"), (1, .class_ 10), (1, u "java/lang/System"), (0, u "allowSecurityManager"), (0, u "I"), (16, u "cons"), (0, u "Ljava/io/Console;"), (77, .class_ 110), (1, u "java/lang/System$CallersHolder"), (43, u "initialErrStream"), (0, u "Ljava/io/PrintStream;"), (19, u "security"), (0, u "Ljava/lang/SecurityManager;"), (31, .class_ 209), (0, u "java/lang/System$1"), (7, u "props"), (0, u "Ljava/util/Properties;"), (2, u "lineSeparator"), (0, u "Ljava/lang/String;"), (96, .class_ 321), (1, u "java/lang/System$LoggerFinder"), (5, .class_ 328), (0, u "java/lang/System$Logger"), (67, u "err"), (2, u "out"), (91, u "notSupportedJnuEncoding"), (15, u "in"), (17, u "initialIn"), (0, u "Ljava/io/InputStream;"), (35, u "bootLayer"), (0, u "Ljava/lang/ModuleLayer;"), (99, .class_ 664), (0, u "java/lang/System$2"), (9, u "NEVER"), (2, u "MAYBE"), (49, u "arraycopy"), (0, u "(Ljava/lang/Object;ILjava/lang/Object;II)V"), (72, .class_ 802), (0, u "java/lang/System$Logger$Level")] 31

def k14m0 : Method := { name := "<init>", desc := "()V", sig := { parameters := [], returnType := none }, accessFlags := 2, code := none }
def k14m1 : Method := { name := "arraycopy", desc := "(Ljava/lang/Object;ILjava/lang/Object;II)V", sig := { parameters := [(.object "java/lang/Object"), .int, (.object "java/lang/Object"), .int, .int], returnType := none }, accessFlags := 265, code := none }
/-- java/lang/System -/
def k14 : Class := { plain "java/lang/System" (some 0) with
  accessFlags := 49
  interfaces := #[]
  cf := some (fileOf pool14 8 #[.nestMembers #[319, 327, 801, 108, 663, 208]] #[{ accessFlags := 2, nameIndex := 5, descriptorIndex := 6, attributes := #[] }, { accessFlags := 265, nameIndex := 727, descriptorIndex := 728, attributes := #[] }] 49 2 #[] #[{ accessFlags := 25, nameIndex := 507, descriptorIndex := 526, attributes := #[] }, { accessFlags := 25, nameIndex := 399, descriptorIndex := 155, attributes := #[] }, { accessFlags := 25, nameIndex := 396, descriptorIndex := 155, attributes := #[] }, { accessFlags := 10, nameIndex := 525, descriptorIndex := 526, attributes := #[] }, { accessFlags := 26, nameIndex := 674, descriptorIndex := 12, attributes := #[] }, { accessFlags := 26, nameIndex := 677, descriptorIndex := 12, attributes := #[] }, { accessFlags := 10, nameIndex := 11, descriptorIndex := 12, attributes := #[] }, { accessFlags := 74, nameIndex := 175, descriptorIndex := 176, attributes := #[] }, { accessFlags := 10, nameIndex := 491, descriptorIndex := 222, attributes := #[] }, { accessFlags := 74, nameIndex := 29, descriptorIndex := 30, attributes := #[] }, { accessFlags := 74, nameIndex := 154, descriptorIndex := 155, attributes := #[] }, { accessFlags := 10, nameIndex := 217, descriptorIndex := 218, attributes := #[] }, { accessFlags := 10, nameIndex := 221, descriptorIndex := 222, attributes := #[] }, { accessFlags := 8, nameIndex := 562, descriptorIndex := 563, attributes := #[] }])
  fields := #[{ name := "in", type := (.object "java/io/InputStream"), accessFlags := 25, slot := 0, constantValue := 0 }, { name := "out", type := (.object "java/io/PrintStream"), accessFlags := 25, slot := 1, constantValue := 0 }, { name := "err", type := (.object "java/io/PrintStream"), accessFlags := 25, slot := 2, constantValue := 0 }, { name := "initialIn", type := (.object "java/io/InputStream"), accessFlags := 10, slot := 3, constantValue := 0 }, { name := "NEVER", type := .int, accessFlags := 26, slot := 4, constantValue := 0 }, { name := "MAYBE", type := .int, accessFlags := 26, slot := 5, constantValue := 0 }, { name := "allowSecurityManager", type := .int, accessFlags := 10, slot := 6, constantValue := 0 }, { name := "security", type := (.object "java/lang/SecurityManager"), accessFlags := 74, slot := 7, constantValue := 0 }, { name := "notSupportedJnuEncoding", type := (.object "java/lang/String"), accessFlags := 10, slot := 8, constantValue := 0 }, { name := "cons", type := (.object "java/io/Console"), accessFlags := 74, slot := 9, constantValue := 0 }, { name := "initialErrStream", type := (.object "java/io/PrintStream"), accessFlags := 74, slot := 10, constantValue := 0 }, { name := "props", type := (.object "java/util/Properties"), accessFlags := 10, slot := 11, constantValue := 0 }, { name := "lineSeparator", type := (.object "java/lang/String"), accessFlags := 10, slot := 12, constantValue := 0 }, { name := "bootLayer", type := (.object "java/lang/ModuleLayer"), accessFlags := 8, slot := 13, constantValue := 0 }]
  methods := #[k14m0, k14m1]
  instanceTypes := #[]
  staticTypes := #[(.object "java/io/InputStream"), (.object "java/io/PrintStream"), (.object "java/io/PrintStream"), (.object "java/io/InputStream"), .int, .int, .int, (.object "java/lang/SecurityManager"), (.object "java/lang/String"), (.object "java/io/Console"), (.object "java/io/PrintStream"), (.object "java/util/Properties"), (.object "java/lang/String"), (.object "java/lang/ModuleLayer")]
  resolved := Array.replicate 834 none
  statics := none }

/-- the primitive byte -/
def k15 : Class := { plain "byte" none with kind := .primitive 'B', accessFlags := 0x411 }
/-- [B -/
def k16 : Class := { plain "[B" (some 0) with kind := .array 15 .byte, interfaces := #[12, 3], accessFlags := 1041 }

/-- the primitive int -/
def k17 : Class := { plain "int" none with kind := .primitive 'I', accessFlags := 0x411 }
/-- [I -/
def k18 : Class := { plain "[I" (some 0) with kind := .array 17 .int, interfaces := #[12, 3], accessFlags := 1041 }

def heap : Heap := #[]
def classes : Array Class := #[k0, k1, k2, k3, k4, k5, k6, k7, k8, k9, k10, k11, k12, k13, k14, k15, k16, k17, k18]
def interned : List (Array UInt16 × Addr) := []
def slotsUsed : Nat := 0
def theMethod : MethodId := ⟨1, 1⟩
def args0 : Array Value := #[.int 5, .int 3]
def aboutOver (below : List Frame) : State where
  vm := { classes := classes, interned := interned.toArray }
  heap := heap
  slotsUsed := slotsUsed
  threads := #[{ frames := .invoking theMethod args0 :: below }]
def below0 : List Frame := [.native { method := ⟨0, 0⟩, args := #[] }]
def about1 : State := aboutOver below0
def p0 : Program := .bare "" "" ""
def e0 : Env := launch0.env 0 0 0
theorem w_frames : about1.frames = Frame.invoking theMethod args0 :: below0 := rfl
set_option maxRecDepth 65536 in
theorem w_args : argsFit about1.vm theMethod args0 = true := by decide +kernel
set_option maxRecDepth 65536 in
theorem w_heap : heapFits about1 = true := by decide +kernel
set_option maxRecDepth 65536 in
theorem w_runnable : about1.curStatus? = some .runnable := by decide +kernel
set_option maxRecDepth 65536 in
theorem w_alone : about1.alone = true := by decide +kernel
set_option maxRecDepth 65536 in
theorem w_named : about1.methodNamed? x = some theMethod := by decide +kernel
set_option maxRecDepth 65536 in
theorem w_hears : about1.hears theMethod below0 = true := by decide +kernel
set_option maxRecDepth 65536 in
theorem w_ripe : about1.ripe theMethod args0 below0 = true := by decide +kernel
theorem w_running : about1.status = .running := rfl
set_option maxRecDepth 65536 in
theorem w_room : about1.hasRoom e0.platform room_1 = true :=
  launch0.hasRoom_least _ room_1 (by decide +kernel) (by decide +kernel) (by decide +kernel) (by decide +kernel) (by decide +kernel) (by decide +kernel)
theorem allAtoms_all (ts : List Jvm.Cond) (a : Array Jvm.Value) (st : Jvm.State) : (allAtoms ts).before a st = ts.all (fun c => c.before a st) := by
  induction ts with
  | nil => rfl
  | cons c t ih =>
    show (Jvm.Cond.and c (allAtoms t)).before a st = _
    rw [Jvm.Cond.before_and, ih, List.all_cons]
def words1 : List Jvm.Cond := Jvm.Cond.code x code maxLocals ret :: tables_1
/-- a 'code' word, met by the world's own term for the bytes: nothing is compared byte by byte -/
theorem code_word {y : MethodName} {bytes : ByteArray} {mx : Nat} {rt : Option FieldType} {a : Array Value} {s : State} {m : MethodId} {meth : Method} {c : Code} (h1 : s.methodNamed? y = some m) (h2 : s.vm.method? m = some meth) (h3 : meth.code = some c) (h4 : c.code = bytes)
    (h5 : (c.maxLocals == mx && c.exceptionTable.isEmpty && decide (c.maxStack ≤ mostOperands) && decide (meth.sig.returnType = rt) && !meth.locks && decide (parseMethodDescriptor y.desc = some meth.sig)) = true) : (Jvm.Cond.code y bytes mx rt).before a s = true := by
  simp only [Bool.and_eq_true, beq_iff_eq, Bool.not_eq_true', decide_eq_true_eq] at h5
  obtain ⟨⟨⟨⟨⟨g1, g2⟩, g3⟩, g4⟩, g5⟩, g6⟩ := h5
  simp [Cond.before, Cond.holds, Cond.value, h1, h2, h3, h4, g1, g2, g3, g4, g5, g6]
def isCode : Jvm.Cond → Bool
  | .code _ _ _ _ => true
  | _ => false
theorem all_split {L : List Jvm.Cond} {P : Jvm.Cond → Bool} (h1 : L.all (fun c => isCode c || P c) = true) (h2 : ∀ c ∈ L.filter isCode, P c = true) : L.all P = true := by
  refine List.all_eq_true.mpr fun c hc => ?_
  have h := List.all_eq_true.mp h1 c hc
  rcases Bool.eq_false_or_eq_true (isCode c) with hi | hi
  · exact h2 c (List.mem_filter.mpr ⟨hc, hi⟩)
  · simpa [hi] using h
set_option maxRecDepth 65536 in
theorem w_c0 : (Jvm.Cond.code x code maxLocals ret).before args0 about1 = true := code_word (m := ⟨1, 1⟩) (meth := k1m1) (c := k1c1) (by decide +kernel) rfl rfl rfl (by decide +kernel)
set_option maxRecDepth 65536 in
theorem w_c1 : (Jvm.Cond.code ({ cls := "com/example/toll/toll/wire/WireReader", name := "<init>", desc := "([B)V" } : Jvm.MethodName) prog_33_method_1_code (2 : Nat) (Option.none : Option Jvm.ClassFile.FieldType)).before args0 about1 = true := code_word (m := ⟨2, 0⟩) (meth := k2m0) (c := k2c0) (by decide +kernel) rfl rfl rfl (by decide +kernel)
set_option maxRecDepth 65536 in
theorem w_c2 : (Jvm.Cond.code ({ cls := "java/lang/Object", name := "<init>", desc := "()V" } : Jvm.MethodName) object_method_1_code (1 : Nat) (Option.none : Option Jvm.ClassFile.FieldType)).before args0 about1 = true := code_word (m := ⟨0, 0⟩) (meth := k0m0) (c := k0c0) (by decide +kernel) rfl rfl rfl (by decide +kernel)
set_option maxRecDepth 65536 in
theorem w_c3 : (Jvm.Cond.code ({ cls := "com/example/toll/toll/wire/WireReader", name := "atEnd", desc := "()Z" } : Jvm.MethodName) prog_33_method_8_code (1 : Nat) (Option.some Jvm.ClassFile.FieldType.boolean)).before args0 about1 = true := code_word (m := ⟨2, 2⟩) (meth := k2m2) (c := k2c2) (by decide +kernel) rfl rfl rfl (by decide +kernel)
set_option maxRecDepth 65536 in
theorem w_c4 : (Jvm.Cond.code ({ cls := "com/example/toll/toll/wire/WireReader", name := "bytes", desc := "(JLjava/lang/String;)[B" } : Jvm.MethodName) prog_33_method_7_code (4 : Nat) (Option.some (Jvm.ClassFile.FieldType.array Jvm.ClassFile.FieldType.byte))).before args0 about1 = true := code_word (m := ⟨2, 1⟩) (meth := k2m1) (c := k2c1) (by decide +kernel) rfl rfl rfl (by decide +kernel)
set_option maxRecDepth 65536 in
theorem w_c5 : (Jvm.Cond.code ({ cls := "java/lang/Long", name := "compareUnsigned", desc := "(JJ)I" } : Jvm.MethodName) jdk_35_method_43_code (4 : Nat) (Option.some Jvm.ClassFile.FieldType.int)).before args0 about1 = true := code_word (m := ⟨10, 1⟩) (meth := k10m1) (c := k10c1) (by decide +kernel) rfl rfl rfl (by decide +kernel)
set_option maxRecDepth 65536 in
theorem w_c6 : (Jvm.Cond.code ({ cls := "java/lang/Long", name := "compare", desc := "(JJ)I" } : Jvm.MethodName) jdk_35_method_42_code (4 : Nat) (Option.some Jvm.ClassFile.FieldType.int)).before args0 about1 = true := code_word (m := ⟨10, 0⟩) (meth := k10m0) (c := k10c0) (by decide +kernel) rfl rfl rfl (by decide +kernel)
set_option maxRecDepth 65536 in
theorem w_c7 : (Jvm.Cond.code ({ cls := "com/example/toll/toll/wire/WireReader", name := "take", desc := "(ILjava/lang/String;)[B" } : Jvm.MethodName) prog_33_method_10_code (4 : Nat) (Option.some (Jvm.ClassFile.FieldType.array Jvm.ClassFile.FieldType.byte))).before args0 about1 = true := code_word (m := ⟨2, 3⟩) (meth := k2m3) (c := k2c3) (by decide +kernel) rfl rfl rfl (by decide +kernel)
set_option maxRecDepth 65536 in
theorem w_c8 : (Jvm.Cond.code ({ cls := "java/util/Arrays", name := "copyOfRange", desc := "([BII)[B" } : Jvm.MethodName) jdk_65_method_132_code (3 : Nat) (Option.some (Jvm.ClassFile.FieldType.array Jvm.ClassFile.FieldType.byte))).before args0 about1 = true := code_word (m := ⟨11, 2⟩) (meth := k11m2) (c := k11c2) (by decide +kernel) rfl rfl rfl (by decide +kernel)
set_option maxRecDepth 65536 in
theorem w_c9 : (Jvm.Cond.code ({ cls := "java/util/Arrays", name := "copyOfRangeByte", desc := "([BII)[B" } : Jvm.MethodName) jdk_65_method_133_code (5 : Nat) (Option.some (Jvm.ClassFile.FieldType.array Jvm.ClassFile.FieldType.byte))).before args0 about1 = true := code_word (m := ⟨11, 3⟩) (meth := k11m3) (c := k11c3) (by decide +kernel) rfl rfl rfl (by decide +kernel)
set_option maxRecDepth 65536 in
theorem w_c10 : (Jvm.Cond.code ({ cls := "java/util/Arrays", name := "checkLength", desc := "(II)V" } : Jvm.MethodName) jdk_65_method_131_code (2 : Nat) (Option.none : Option Jvm.ClassFile.FieldType)).before args0 about1 = true := code_word (m := ⟨11, 1⟩) (meth := k11m1) (c := k11c1) (by decide +kernel) rfl rfl rfl (by decide +kernel)
set_option maxRecDepth 65536 in
theorem w_c11 : (Jvm.Cond.code ({ cls := "java/lang/Math", name := "min", desc := "(II)I" } : Jvm.MethodName) jdk_29_method_69_code (2 : Nat) (Option.some Jvm.ClassFile.FieldType.int)).before args0 about1 = true := code_word (m := ⟨13, 1⟩) (meth := k13m1) (c := k13c1) (by decide +kernel) rfl rfl rfl (by decide +kernel)
def codes1 : List Jvm.Cond := [Jvm.Cond.code x code maxLocals ret, Jvm.Cond.code ({ cls := "com/example/toll/toll/wire/WireReader", name := "<init>", desc := "([B)V" } : Jvm.MethodName) prog_33_method_1_code (2 : Nat) (Option.none : Option Jvm.ClassFile.FieldType), Jvm.Cond.code ({ cls := "java/lang/Object", name := "<init>", desc := "()V" } : Jvm.MethodName) object_method_1_code (1 : Nat) (Option.none : Option Jvm.ClassFile.FieldType), Jvm.Cond.code ({ cls := "com/example/toll/toll/wire/WireReader", name := "atEnd", desc := "()Z" } : Jvm.MethodName) prog_33_method_8_code (1 : Nat) (Option.some Jvm.ClassFile.FieldType.boolean), Jvm.Cond.code ({ cls := "com/example/toll/toll/wire/WireReader", name := "bytes", desc := "(JLjava/lang/String;)[B" } : Jvm.MethodName) prog_33_method_7_code (4 : Nat) (Option.some (Jvm.ClassFile.FieldType.array Jvm.ClassFile.FieldType.byte)), Jvm.Cond.code ({ cls := "java/lang/Long", name := "compareUnsigned", desc := "(JJ)I" } : Jvm.MethodName) jdk_35_method_43_code (4 : Nat) (Option.some Jvm.ClassFile.FieldType.int), Jvm.Cond.code ({ cls := "java/lang/Long", name := "compare", desc := "(JJ)I" } : Jvm.MethodName) jdk_35_method_42_code (4 : Nat) (Option.some Jvm.ClassFile.FieldType.int), Jvm.Cond.code ({ cls := "com/example/toll/toll/wire/WireReader", name := "take", desc := "(ILjava/lang/String;)[B" } : Jvm.MethodName) prog_33_method_10_code (4 : Nat) (Option.some (Jvm.ClassFile.FieldType.array Jvm.ClassFile.FieldType.byte)), Jvm.Cond.code ({ cls := "java/util/Arrays", name := "copyOfRange", desc := "([BII)[B" } : Jvm.MethodName) jdk_65_method_132_code (3 : Nat) (Option.some (Jvm.ClassFile.FieldType.array Jvm.ClassFile.FieldType.byte)), Jvm.Cond.code ({ cls := "java/util/Arrays", name := "copyOfRangeByte", desc := "([BII)[B" } : Jvm.MethodName) jdk_65_method_133_code (5 : Nat) (Option.some (Jvm.ClassFile.FieldType.array Jvm.ClassFile.FieldType.byte)), Jvm.Cond.code ({ cls := "java/util/Arrays", name := "checkLength", desc := "(II)V" } : Jvm.MethodName) jdk_65_method_131_code (2 : Nat) (Option.none : Option Jvm.ClassFile.FieldType), Jvm.Cond.code ({ cls := "java/lang/Math", name := "min", desc := "(II)I" } : Jvm.MethodName) jdk_29_method_69_code (2 : Nat) (Option.some Jvm.ClassFile.FieldType.int)]
set_option maxRecDepth 65536 in
theorem codes_eq : words1.filter isCode = codes1 := rfl
theorem w_codes : ∀ c ∈ words1.filter isCode, c.before args0 about1 = true := by
  rw [codes_eq]
  intro c hc
  simp only [codes1, List.mem_cons, List.not_mem_nil, or_false] at hc
  rcases hc with rfl | rfl | rfl | rfl | rfl | rfl | rfl | rfl | rfl | rfl | rfl | rfl
  · exact w_c0
  · exact w_c1
  · exact w_c2
  · exact w_c3
  · exact w_c4
  · exact w_c5
  · exact w_c6
  · exact w_c7
  · exact w_c8
  · exact w_c9
  · exact w_c10
  · exact w_c11
set_option maxRecDepth 65536 in
theorem w_t1 : (words1.take 24).all (fun c => isCode c || c.before args0 about1) = true := by decide +kernel
set_option maxRecDepth 65536 in
theorem w_t2 : ((words1.drop 24).take 24).all (fun c => isCode c || c.before args0 about1) = true := by decide +kernel
set_option maxRecDepth 65536 in
theorem w_t3 : ((words1.drop 24).drop 24).all (fun c => isCode c || c.before args0 about1) = true := by decide +kernel
theorem w_tables : (allAtoms (Jvm.Cond.code x code maxLocals ret :: tables_1)).before args0 about1 = true := by
  rw [allAtoms_all]
  show words1.all (fun c => c.before args0 about1) = true
  refine all_split ?_ w_codes
  rw [← List.take_append_drop 24 words1, List.all_append, w_t1, ← List.take_append_drop 24 (words1.drop 24), List.all_append, w_t2, w_t3]
  rfl
set_option maxRecDepth 65536 in
theorem w_case : (Jvm.Cond.and given_1 narrow_1).before args0 about1 = true := by decide +kernel
theorem w_applies : (headSpec (Jvm.Cond.code x code maxLocals ret :: tables_1) room_1).applies x e0.platform about1 = true :=
  (Spec.applies_iff w_frames).mpr ⟨w_running, w_runnable, w_alone, w_named, w_hears, w_ripe, w_room, w_tables⟩
theorem atStart : AtStart classFile x code maxLocals ret World_1 tables_1 room_1 Calls_1 rest_1 Pre_1 launch0 p0 e0 about1 theMethod args0 below0 :=
  ⟨lists_1, trivial, launch0.admits_env _ _ _, launch0.least_env, fairChoices_fair.cas, fairChoices_fair.clock, w_frames, w_args, w_heap, w_applies, trivial, trivial, w_case⟩
end start1
theorem witness_1 : WitnessClaimed_1 := ⟨start1.p0, start1.e0, start1.about1, start1.theMethod, start1.args0, start1.below0, start1.atStart⟩
end Jvm.Pilot.@@N@@
