import JvmDerived
import JvmDerived.Pilot.@@N@@Statement
import JvmDerived.Pilot.@@N@@Code
set_option linter.unusedVariables false
set_option linter.unusedSimpArgs false
namespace Jvm.RoadKit
open Sem ClassFile Op Lib Jvm.Stand Jvm.Free Jvm.LawKit
section New
variable {p : Program} {l : Launch} {e : Env} {R : Room} {s : State} {m : MethodId} {args : Array Value} {below : List Frame} {meth : Method} {c : Code} {T : State} {locs : List Loc} {cells slots : Nat}
theorem retI (X : Stand p l e R s m args below meth c T locs cells slots) (hx : p.tables.exec = Jvm.exec) {pc : Nat} {Ls : Array Slot} {z : Int32} {rest : List Value} (hret : meth.sig.returnType = some .int) (hd : decode c.code pc = .ok (.ireturn, 1)) {fs : List Frame}
    (hl : ∀ (f : JFrame) (acts : List Action), f.method = m → f.locked = none → f.entered = [] → (doReturn e (T.setTop f) acts (some (.int z))).1 = T.setFrames fs) : Steps p.tables e below (T.setTop (mkF m pc Ls (.int z :: rest))) (T.setFrames fs) := by
  have hm' : T.vm.method? m = some meth := X.method'
  have hn : narrow .int (.int z) = .int z := rfl
  show Steps p.tables e below (T.setTop { method := m, pc := pc, locals := Ls, stack := _ :: rest, locked := none }) _
  jvm_step X.here [X.here.top, hx, hd, hm', hret, hn]
  first | (intro acts; rw [hl _ acts rfl rfl rfl]) | rw [hl _ _ rfl rfl rfl]
  exact Steps.refl _
end New
end Jvm.RoadKit
namespace Jvm.Pilot.@@N@@
open Jvm Jvm.ClassFile Sem Op Lib Jvm.Free Jvm.Stand Jvm.LawKit Jvm.RoadKit Bundle Jvm.Pilot.@@N@@.Jvm.D
/-- what a body that writes nothing leaves -/
def QN (w : Option Value) (h0 : Heap) (n0 : Nat) (v : Option Value) (h : Heap) (L : List Loc) : Prop := v = w ∧ Fr n0 L ∧ h = h0
theorem own_ltI {a b : Int32} (h : a.toInt < b.toInt) : a < b := Int32.lt_iff_toInt_lt.mpr h
theorem own_geI {a b : Int32} (h : b.toInt ≤ a.toInt) : ¬ a < b := fun q => by have := Int32.lt_iff_toInt_lt.mp q; omega
theorem own_eqI {a b : Int32} (h : a.toInt = b.toInt) : a = b := Int32.toInt_inj.mp h
theorem own_neI {a b : Int32} (h : a.toInt ≠ b.toInt) : ¬ a = b := fun q => h (congrArg _ q)
theorem own_ltL {a b : Int64} (h : a.toInt < b.toInt) : a < b := Int64.lt_iff_toInt_lt.mpr h
theorem own_geL {a b : Int64} (h : b.toInt ≤ a.toInt) : ¬ a < b := fun q => by have := Int64.lt_iff_toInt_lt.mp q; omega
theorem own_eqL {a b : Int64} (h : a.toInt = b.toInt) : a = b := Int64.toInt_inj.mp h
theorem own_neL {a b : Int64} (h : a.toInt ≠ b.toInt) : ¬ a = b := fun q => h (congrArg _ q)
theorem own_irrI (a : Int32) : ¬ a < a := own_geI (by omega)
theorem own_irrL (a : Int64) : ¬ a < a := own_geL (by omega)
theorem own_irem (x y : Int32) : x - (x / y) * y = x % y := by
  apply Int32.toInt_inj.mp
  have h1 := Int32.le_toInt (x % y)
  have h2 := Int32.toInt_lt (x % y)
  rw [Int32.toInt_sub, Int32.toInt_mul, Int32.toInt_div, Int.bmod_mul_bmod, Int.sub_bmod_bmod, Int.mul_comm (x.toInt.tdiv y.toInt), ← Int.tmod_def, ← Int32.toInt_mod]
  exact Int.bmod_eq_of_le_mul_two (by omega) (by omega)
theorem own_fld {args : Array Value} {s : State} {t : Term} {n : Int32} (h : (Cond.eq t (.int n)).value args s none s [] = some true) : t.eval args s none [] s = some (.int n) := by
  obtain ⟨x, y, h1, h2, k1, k2⟩ := cmp_v (Or.inl h)
  have h3 : y = .int n := (Option.some.inj h2).symm
  subst h3
  obtain ⟨z, rfl⟩ := k2
  have h4 := gotT (Cond.eq_ints h1 h2) h
  rw [h1, h4]
theorem own_fldL {args : Array Value} {s : State} {t : Term} {n : Int64} (h : (Cond.eq t (.long n)).value args s none s [] = some true) : t.eval args s none [] s = some (.long n) := by
  obtain ⟨x, y, h1, h2, k1, k2⟩ := cmp_v (Or.inl h)
  have h3 : y = .long n := (Option.some.inj h2).symm
  subst h3
  obtain ⟨z, rfl⟩ := k2
  have h4 := gotT (eq_L h1 h2) h
  rw [h1, h4]
theorem own_ne {args : Array Value} {s : State} {t u : Term} {a b : Addr} {C n d : String} {i j : Int32} (ht : t.eval args s none [] s = some (.ref a)) (hu : u.eval args s none [] s = some (.ref b)) (h1 : (Cond.eq (.field t C n d) (.int i)).value args s none s [] = some true) (h2 : (Cond.eq (.field u C n d) (.int j)).value args s none s [] = some true) (hij : i ≠ j) : ¬ a = b := fun q => by
  subst q
  have e1 := own_fld h1
  have e2 := own_fld h2
  rw [fld_at ht] at e1
  rw [fld_at hu, e1] at e2
  exact hij (Value.int.inj (Option.some.inj e2))

def QC (Z : State) (a1 a2 a3 a4 a5 : Addr) (p6 : Int32) (h0 : Heap) (n0 : Nat) (v : Option Value) (h : Heap) (L : List Loc) : Prop := v = none ∧ Fr n0 L ∧ Keep h0 h [a1] ∧ Exa Z h a1 "com/example/words_to_verdict/wordstoverdict/match/FoldedText" ∧ Fld Z h a1 "com/example/words_to_verdict/wordstoverdict/match/FoldedText" "_units" "[I" (.ref a2) ∧ Fld Z h a1 "com/example/words_to_verdict/wordstoverdict/match/FoldedText" "_from" "[I" (.ref a3) ∧ Fld Z h a1 "com/example/words_to_verdict/wordstoverdict/match/FoldedText" "_to" "[I" (.ref a4) ∧ Fld Z h a1 "com/example/words_to_verdict/wordstoverdict/match/FoldedText" "_separator" "[Z" (.ref a5) ∧ Fld Z h a1 "com/example/words_to_verdict/wordstoverdict/match/FoldedText" "_length" "I" (.int p6)
theorem pn_2 : plainName "com/example/words_to_verdict/wordstoverdict/match/FoldedText" = true := by first | (simp [plainName, overriddenIn]; done) | decide +kernel
theorem ef_2 (m : MethodId) (x0 : Addr) (x1 : Addr) (x2 : Addr) (x3 : Addr) (x4 : Addr) (x5 : Int32) : entryFrame m #[(.ref x0), (.ref x1), (.ref x2), (.ref x3), (.ref x4), (.int x5)] 6 = mkF m 0 #[.val (.ref x0), .val (.ref x1), .val (.ref x2), .val (.ref x3), .val (.ref x4), .val (.int x5)] [] := by first | (simp [entryFrame, mkF, argsToLocals, Value.category]; done) | rfl
theorem d2_0 : decode prog_24_method_1_code 0 = .ok (.aload_n 0, 1) := by decide +kernel
theorem d2_1 : decode prog_24_method_1_code 1 = .ok (.invokespecial 1, 3) := by decide +kernel
theorem d2_4 : decode prog_24_method_1_code 4 = .ok (.aload_n 0, 1) := by decide +kernel
theorem d2_5 : decode prog_24_method_1_code 5 = .ok (.aload_n 1, 1) := by decide +kernel
theorem d2_6 : decode prog_24_method_1_code 6 = .ok (.putfield 7, 3) := by decide +kernel
theorem d2_9 : decode prog_24_method_1_code 9 = .ok (.aload_n 0, 1) := by decide +kernel
theorem d2_10 : decode prog_24_method_1_code 10 = .ok (.aload_n 2, 1) := by decide +kernel
theorem d2_11 : decode prog_24_method_1_code 11 = .ok (.putfield 13, 3) := by decide +kernel
theorem d2_14 : decode prog_24_method_1_code 14 = .ok (.aload_n 0, 1) := by decide +kernel
theorem d2_15 : decode prog_24_method_1_code 15 = .ok (.aload_n 3, 1) := by decide +kernel
theorem d2_16 : decode prog_24_method_1_code 16 = .ok (.putfield 16, 3) := by decide +kernel
theorem d2_19 : decode prog_24_method_1_code 19 = .ok (.aload_n 0, 1) := by decide +kernel
theorem d2_20 : decode prog_24_method_1_code 20 = .ok (.aload 4, 2) := by decide +kernel
theorem d2_22 : decode prog_24_method_1_code 22 = .ok (.putfield 19, 3) := by decide +kernel
theorem d2_25 : decode prog_24_method_1_code 25 = .ok (.aload_n 0, 1) := by decide +kernel
theorem d2_26 : decode prog_24_method_1_code 26 = .ok (.iload 5, 2) := by decide +kernel
theorem d2_28 : decode prog_24_method_1_code 28 = .ok (.putfield 23, 3) := by decide +kernel
theorem d2_31 : decode prog_24_method_1_code 31 = .ok (.return_, 1) := by decide +kernel
set_option maxRecDepth 65536 in
set_option maxHeartbeats 40000000 in
theorem rmC (l : Launch) (Z : State) (a0 : Array Value) (hw : ∀ d ∈ tables_1, d.before a0 Z = true) (ws : List Jvm.Cond) (a1 : Addr) (a2 : Addr) (a3 : Addr) (a4 : Addr) (a5 : Addr) (p6 : Int32) (h0 : Heap) (n0 : Nat) (Z0 : n0 ≤ h0.size) (E_a1 : Exa Z h0 a1 "com/example/words_to_verdict/wordstoverdict/match/FoldedText") (F__units_a1 : Fld Z h0 a1 "com/example/words_to_verdict/wordstoverdict/match/FoldedText" "_units" "[I" .null) (F__from_a1 : Fld Z h0 a1 "com/example/words_to_verdict/wordstoverdict/match/FoldedText" "_from" "[I" .null) (F__to_a1 : Fld Z h0 a1 "com/example/words_to_verdict/wordstoverdict/match/FoldedText" "_to" "[I" .null) (F__separator_a1 : Fld Z h0 a1 "com/example/words_to_verdict/wordstoverdict/match/FoldedText" "_separator" "[Z" .null) (F__length_a1 : Fld Z h0 a1 "com/example/words_to_verdict/wordstoverdict/match/FoldedText" "_length" "I" (.int (0 : Int32))) (g_a1 : n0 ≤ a1) :
    MetFree l (⟨"com/example/words_to_verdict/wordstoverdict/match/FoldedText", "<init>", "([I[I[I[ZI)V"⟩ : MethodName) (head1 (Jvm.Cond.code (⟨"com/example/words_to_verdict/wordstoverdict/match/FoldedText", "<init>", "([I[I[I[ZI)V"⟩ : MethodName) prog_24_method_1_code 6 none :: ws) ({ frames := 1, cells := 0, slots := 0, locals := 12 } : Room)) (fun a U => a = #[(.ref a1), (.ref a2), (.ref a3), (.ref a4), (.ref a5), (.int p6)] ∧ Z.Warmed39 U.vm ∧ U.heap = h0) (fun _ _ _ _ _ => True) (fun _ U o U' => ∃ v L, o = .returned v ∧ QC Z a1 a2 a3 a4 a5 p6 h0 n0 v U'.heap L ∧ FrameEnd U o U' L ({ frames := 1, cells := 0, slots := 0, locals := 12 } : Room).cells ({ frames := 1, cells := 0, slots := 0, locals := 12 } : Room).slots) := by
  refine MetFree.of_bodySF (plainFor_of_name pn_2) hisR ?_
  intro p e s m args below meth c s₁ Bd hml0 hP hK
  obtain ⟨rfl, hZ, hh⟩ := hP
  have hx := Bd.exec
  have hby := Bd.bytes
  have hml : c.maxLocals = 6 := hml0
  have hown : s.vm.findClass "com/example/words_to_verdict/wordstoverdict/match/FoldedText" = some m.cls := findClass_of_methodNamed Bd.named
  have hnm := (name_of_methodNamed Bd.named Bd.method).1
  have X0 : Stand p l e ({ frames := 1, cells := 0, slots := 0, locals := 12 } : Room) s m #[(.ref a1), (.ref a2), (.ref a3), (.ref a4), (.ref a5), (.int p6)] below meth c s₁ [] 0 0 := Stand.of_body Bd
  have e0 : s₁.heap = h0 := by rw [← hh, Bd.state]; rfl
  have N0 := Fr.nil n0
  have pre0 : ∀ t, Steps p.tables e below (s₁.setTop (mkF m 0 #[.val (.ref a1), .val (.ref a2), .val (.ref a3), .val (.ref a4), .val (.ref a5), .val (.int p6)] [])) t → Steps p.tables e below (s₁.setTop (entryFrame m #[(.ref a1), (.ref a2), (.ref a3), (.ref a4), (.ref a5), (.int p6)] 6)) t := fun t k => castTop (ef_2 m a1 a2 a3 a4 a5 p6) k
  have K0 : Keep h0 h0 [a1] := Keep.refl _ _
  obtain ⟨T7, X7, e7, st7⟩ := initO X0 hx hZ hown (hw _ (List.mem_of_getElem? (i := 12) rfl)) (hw _ (List.mem_of_getElem? (i := 13) rfl)) (hw _ (List.mem_of_getElem? (i := 14) rfl)) e0 (g := (mkF m 1 #[.val (.ref a1), .val (.ref a2), .val (.ref a3), .val (.ref a4), .val (.ref a5), .val (.int p6)] [(.ref a1)])) rfl (by rw [hml]; rfl) rfl (hb hby d2_1) (by decide) (W := 0) (by show 2 * 0 + _ ≤ _; exact Nat.le_of_eq rfl) (by decide)
  obtain ⟨T8, h8, X8, e8, W8, st8⟩ := putF X7 hx hZ hown (host := "") (Or.inl (hw _ (List.mem_of_getElem? (i := 15) rfl))) Via.refl e7 F__units_a1 E_a1 (Or.inr ⟨(hw _ (List.mem_of_getElem? (i := 16) rfl)), rfl, hnm⟩) (hw _ (List.mem_of_getElem? (i := 7) rfl)) (ty := (.array .int)) (by decide) rfl rfl (g := (mkF m 6 #[.val (.ref a1), .val (.ref a2), .val (.ref a3), .val (.ref a4), .val (.ref a5), .val (.int p6)] [(.ref a2), (.ref a1)])) rfl rfl (hb hby d2_6)
  have E_a1_8 := E_a1.wr W8
  have F__from_a1_8 := F__from_a1.other W8 (Or.inr (slot_ne (Or.inr (hw _ (List.mem_of_getElem? (i := 18) rfl))) (Or.inr (hw _ (List.mem_of_getElem? (i := 16) rfl))) (by decide) (t := (.array .int)) (t' := (.array .int)) (by decide) (by decide)))
  have F__to_a1_8 := F__to_a1.other W8 (Or.inr (slot_ne (Or.inr (hw _ (List.mem_of_getElem? (i := 20) rfl))) (Or.inr (hw _ (List.mem_of_getElem? (i := 16) rfl))) (by decide) (t := (.array .int)) (t' := (.array .int)) (by decide) (by decide)))
  have F__separator_a1_8 := F__separator_a1.other W8 (Or.inr (slot_ne (Or.inr (hw _ (List.mem_of_getElem? (i := 22) rfl))) (Or.inr (hw _ (List.mem_of_getElem? (i := 16) rfl))) (by decide) (t := (.array .boolean)) (t' := (.array .int)) (by decide) (by decide)))
  have F__length_a1_8 := F__length_a1.other W8 (Or.inr (slot_ne (Or.inr (hw _ (List.mem_of_getElem? (i := 24) rfl))) (Or.inr (hw _ (List.mem_of_getElem? (i := 16) rfl))) (by decide) (t := .int) (t' := (.array .int)) (by decide) (by decide)))
  have SZ8 : n0 ≤ h8.size := by rw [W8.size]; exact Z0
  have K8 := K0.wr W8 (Or.inl (List.mem_of_getElem? (i := 0) rfl))
  have N8 := Fr.snoc X8 N0 g_a1
  have F__units_a1_8 := F__units_a1.same W8
  obtain ⟨T9, h9, X9, e9, W9, st9⟩ := putF X8 hx hZ hown (host := "") (Or.inl (hw _ (List.mem_of_getElem? (i := 17) rfl))) Via.refl e8 F__from_a1_8 E_a1_8 (Or.inr ⟨(hw _ (List.mem_of_getElem? (i := 18) rfl)), rfl, hnm⟩) (hw _ (List.mem_of_getElem? (i := 7) rfl)) (ty := (.array .int)) (by decide) rfl rfl (g := (mkF m 11 #[.val (.ref a1), .val (.ref a2), .val (.ref a3), .val (.ref a4), .val (.ref a5), .val (.int p6)] [(.ref a3), (.ref a1)])) rfl rfl (hb hby d2_11)
  have E_a1_9 := E_a1_8.wr W9
  have F__units_a1_9 := F__units_a1_8.other W9 (Or.inr (slot_ne (Or.inr (hw _ (List.mem_of_getElem? (i := 16) rfl))) (Or.inr (hw _ (List.mem_of_getElem? (i := 18) rfl))) (by decide) (t := (.array .int)) (t' := (.array .int)) (by decide) (by decide)))
  have F__to_a1_9 := F__to_a1_8.other W9 (Or.inr (slot_ne (Or.inr (hw _ (List.mem_of_getElem? (i := 20) rfl))) (Or.inr (hw _ (List.mem_of_getElem? (i := 18) rfl))) (by decide) (t := (.array .int)) (t' := (.array .int)) (by decide) (by decide)))
  have F__separator_a1_9 := F__separator_a1_8.other W9 (Or.inr (slot_ne (Or.inr (hw _ (List.mem_of_getElem? (i := 22) rfl))) (Or.inr (hw _ (List.mem_of_getElem? (i := 18) rfl))) (by decide) (t := (.array .boolean)) (t' := (.array .int)) (by decide) (by decide)))
  have F__length_a1_9 := F__length_a1_8.other W9 (Or.inr (slot_ne (Or.inr (hw _ (List.mem_of_getElem? (i := 24) rfl))) (Or.inr (hw _ (List.mem_of_getElem? (i := 18) rfl))) (by decide) (t := .int) (t' := (.array .int)) (by decide) (by decide)))
  have SZ9 : n0 ≤ h9.size := by rw [W9.size]; exact SZ8
  have K9 := K8.wr W9 (Or.inl (List.mem_of_getElem? (i := 0) rfl))
  have N9 := Fr.snoc X9 N8 g_a1
  have F__from_a1_9 := F__from_a1_8.same W9
  obtain ⟨T10, h10, X10, e10, W10, st10⟩ := putF X9 hx hZ hown (host := "") (Or.inl (hw _ (List.mem_of_getElem? (i := 19) rfl))) Via.refl e9 F__to_a1_9 E_a1_9 (Or.inr ⟨(hw _ (List.mem_of_getElem? (i := 20) rfl)), rfl, hnm⟩) (hw _ (List.mem_of_getElem? (i := 7) rfl)) (ty := (.array .int)) (by decide) rfl rfl (g := (mkF m 16 #[.val (.ref a1), .val (.ref a2), .val (.ref a3), .val (.ref a4), .val (.ref a5), .val (.int p6)] [(.ref a4), (.ref a1)])) rfl rfl (hb hby d2_16)
  have E_a1_10 := E_a1_9.wr W10
  have F__units_a1_10 := F__units_a1_9.other W10 (Or.inr (slot_ne (Or.inr (hw _ (List.mem_of_getElem? (i := 16) rfl))) (Or.inr (hw _ (List.mem_of_getElem? (i := 20) rfl))) (by decide) (t := (.array .int)) (t' := (.array .int)) (by decide) (by decide)))
  have F__from_a1_10 := F__from_a1_9.other W10 (Or.inr (slot_ne (Or.inr (hw _ (List.mem_of_getElem? (i := 18) rfl))) (Or.inr (hw _ (List.mem_of_getElem? (i := 20) rfl))) (by decide) (t := (.array .int)) (t' := (.array .int)) (by decide) (by decide)))
  have F__separator_a1_10 := F__separator_a1_9.other W10 (Or.inr (slot_ne (Or.inr (hw _ (List.mem_of_getElem? (i := 22) rfl))) (Or.inr (hw _ (List.mem_of_getElem? (i := 20) rfl))) (by decide) (t := (.array .boolean)) (t' := (.array .int)) (by decide) (by decide)))
  have F__length_a1_10 := F__length_a1_9.other W10 (Or.inr (slot_ne (Or.inr (hw _ (List.mem_of_getElem? (i := 24) rfl))) (Or.inr (hw _ (List.mem_of_getElem? (i := 20) rfl))) (by decide) (t := .int) (t' := (.array .int)) (by decide) (by decide)))
  have SZ10 : n0 ≤ h10.size := by rw [W10.size]; exact SZ9
  have K10 := K9.wr W10 (Or.inl (List.mem_of_getElem? (i := 0) rfl))
  have N10 := Fr.snoc X10 N9 g_a1
  have F__to_a1_10 := F__to_a1_9.same W10
  obtain ⟨T11, h11, X11, e11, W11, st11⟩ := putF X10 hx hZ hown (host := "") (Or.inl (hw _ (List.mem_of_getElem? (i := 21) rfl))) Via.refl e10 F__separator_a1_10 E_a1_10 (Or.inr ⟨(hw _ (List.mem_of_getElem? (i := 22) rfl)), rfl, hnm⟩) (hw _ (List.mem_of_getElem? (i := 7) rfl)) (ty := (.array .boolean)) (by decide) rfl rfl (g := (mkF m 22 #[.val (.ref a1), .val (.ref a2), .val (.ref a3), .val (.ref a4), .val (.ref a5), .val (.int p6)] [(.ref a5), (.ref a1)])) rfl rfl (hb hby d2_22)
  have E_a1_11 := E_a1_10.wr W11
  have F__units_a1_11 := F__units_a1_10.other W11 (Or.inr (slot_ne (Or.inr (hw _ (List.mem_of_getElem? (i := 16) rfl))) (Or.inr (hw _ (List.mem_of_getElem? (i := 22) rfl))) (by decide) (t := (.array .int)) (t' := (.array .boolean)) (by decide) (by decide)))
  have F__from_a1_11 := F__from_a1_10.other W11 (Or.inr (slot_ne (Or.inr (hw _ (List.mem_of_getElem? (i := 18) rfl))) (Or.inr (hw _ (List.mem_of_getElem? (i := 22) rfl))) (by decide) (t := (.array .int)) (t' := (.array .boolean)) (by decide) (by decide)))
  have F__to_a1_11 := F__to_a1_10.other W11 (Or.inr (slot_ne (Or.inr (hw _ (List.mem_of_getElem? (i := 20) rfl))) (Or.inr (hw _ (List.mem_of_getElem? (i := 22) rfl))) (by decide) (t := (.array .int)) (t' := (.array .boolean)) (by decide) (by decide)))
  have F__length_a1_11 := F__length_a1_10.other W11 (Or.inr (slot_ne (Or.inr (hw _ (List.mem_of_getElem? (i := 24) rfl))) (Or.inr (hw _ (List.mem_of_getElem? (i := 22) rfl))) (by decide) (t := .int) (t' := (.array .boolean)) (by decide) (by decide)))
  have SZ11 : n0 ≤ h11.size := by rw [W11.size]; exact SZ10
  have K11 := K10.wr W11 (Or.inl (List.mem_of_getElem? (i := 0) rfl))
  have N11 := Fr.snoc X11 N10 g_a1
  have F__separator_a1_11 := F__separator_a1_10.same W11
  obtain ⟨T12, h12, X12, e12, W12, st12⟩ := putF X11 hx hZ hown (host := "") (Or.inl (hw _ (List.mem_of_getElem? (i := 23) rfl))) Via.refl e11 F__length_a1_11 E_a1_11 (Or.inr ⟨(hw _ (List.mem_of_getElem? (i := 24) rfl)), rfl, hnm⟩) (hw _ (List.mem_of_getElem? (i := 7) rfl)) (ty := .int) (by decide) rfl rfl (g := (mkF m 28 #[.val (.ref a1), .val (.ref a2), .val (.ref a3), .val (.ref a4), .val (.ref a5), .val (.int p6)] [(.int p6), (.ref a1)])) rfl rfl (hb hby d2_28)
  have E_a1_12 := E_a1_11.wr W12
  have F__units_a1_12 := F__units_a1_11.other W12 (Or.inr (slot_ne (Or.inr (hw _ (List.mem_of_getElem? (i := 16) rfl))) (Or.inr (hw _ (List.mem_of_getElem? (i := 24) rfl))) (by decide) (t := (.array .int)) (t' := .int) (by decide) (by decide)))
  have F__from_a1_12 := F__from_a1_11.other W12 (Or.inr (slot_ne (Or.inr (hw _ (List.mem_of_getElem? (i := 18) rfl))) (Or.inr (hw _ (List.mem_of_getElem? (i := 24) rfl))) (by decide) (t := (.array .int)) (t' := .int) (by decide) (by decide)))
  have F__to_a1_12 := F__to_a1_11.other W12 (Or.inr (slot_ne (Or.inr (hw _ (List.mem_of_getElem? (i := 20) rfl))) (Or.inr (hw _ (List.mem_of_getElem? (i := 24) rfl))) (by decide) (t := (.array .int)) (t' := .int) (by decide) (by decide)))
  have F__separator_a1_12 := F__separator_a1_11.other W12 (Or.inr (slot_ne (Or.inr (hw _ (List.mem_of_getElem? (i := 22) rfl))) (Or.inr (hw _ (List.mem_of_getElem? (i := 24) rfl))) (by decide) (t := (.array .boolean)) (t' := .int) (by decide) (by decide)))
  have SZ12 : n0 ≤ h12.size := by rw [W12.size]; exact SZ11
  have K12 := K11.wr W12 (Or.inl (List.mem_of_getElem? (i := 0) rfl))
  have N12 := Fr.snoc X12 N11 g_a1
  have F__length_a1_12 := F__length_a1_11.same W12
  obtain ⟨fs, hr, hrun, hended, hW, hsame⟩ := X12.leave (v := none) (fun _ => rfl)
  refine ⟨_, _, pre0 _ ?_, hrun, hended, _, _, rfl, ?_, ⟨_, rfl⟩, hW, hsame.mono (by decide) (by decide)⟩
  · show Steps p.tables e below (s₁.setTop (mkF m 0 #[.val (.ref a1), .val (.ref a2), .val (.ref a3), .val (.ref a4), .val (.ref a5), .val (.int p6)] [])) _
    refine XS.aloadN X0.here hx rfl (hb hby d2_0) rfl rfl ?_
    show Steps p.tables e below (s₁.setTop (mkF m 1 #[.val (.ref a1), .val (.ref a2), .val (.ref a3), .val (.ref a4), .val (.ref a5), .val (.int p6)] [(.ref a1)])) _
    refine st7 _ ?_
    show Steps p.tables e below (T7.setTop (mkF m 4 #[.val (.ref a1), .val (.ref a2), .val (.ref a3), .val (.ref a4), .val (.ref a5), .val (.int p6)] [])) _
    refine XS.aloadN X7.here hx rfl (hb hby d2_4) rfl rfl ?_
    show Steps p.tables e below (T7.setTop (mkF m 5 #[.val (.ref a1), .val (.ref a2), .val (.ref a3), .val (.ref a4), .val (.ref a5), .val (.int p6)] [(.ref a1)])) _
    refine XS.aloadN X7.here hx rfl (hb hby d2_5) rfl rfl ?_
    show Steps p.tables e below (T7.setTop (mkF m 6 #[.val (.ref a1), .val (.ref a2), .val (.ref a3), .val (.ref a4), .val (.ref a5), .val (.int p6)] [(.ref a2), (.ref a1)])) _
    refine st8 _ ?_
    show Steps p.tables e below (T8.setTop (mkF m 9 #[.val (.ref a1), .val (.ref a2), .val (.ref a3), .val (.ref a4), .val (.ref a5), .val (.int p6)] [])) _
    refine XS.aloadN X8.here hx rfl (hb hby d2_9) rfl rfl ?_
    show Steps p.tables e below (T8.setTop (mkF m 10 #[.val (.ref a1), .val (.ref a2), .val (.ref a3), .val (.ref a4), .val (.ref a5), .val (.int p6)] [(.ref a1)])) _
    refine XS.aloadN X8.here hx rfl (hb hby d2_10) rfl rfl ?_
    show Steps p.tables e below (T8.setTop (mkF m 11 #[.val (.ref a1), .val (.ref a2), .val (.ref a3), .val (.ref a4), .val (.ref a5), .val (.int p6)] [(.ref a3), (.ref a1)])) _
    refine st9 _ ?_
    show Steps p.tables e below (T9.setTop (mkF m 14 #[.val (.ref a1), .val (.ref a2), .val (.ref a3), .val (.ref a4), .val (.ref a5), .val (.int p6)] [])) _
    refine XS.aloadN X9.here hx rfl (hb hby d2_14) rfl rfl ?_
    show Steps p.tables e below (T9.setTop (mkF m 15 #[.val (.ref a1), .val (.ref a2), .val (.ref a3), .val (.ref a4), .val (.ref a5), .val (.int p6)] [(.ref a1)])) _
    refine XS.aloadN X9.here hx rfl (hb hby d2_15) rfl rfl ?_
    show Steps p.tables e below (T9.setTop (mkF m 16 #[.val (.ref a1), .val (.ref a2), .val (.ref a3), .val (.ref a4), .val (.ref a5), .val (.int p6)] [(.ref a4), (.ref a1)])) _
    refine st10 _ ?_
    show Steps p.tables e below (T10.setTop (mkF m 19 #[.val (.ref a1), .val (.ref a2), .val (.ref a3), .val (.ref a4), .val (.ref a5), .val (.int p6)] [])) _
    refine XS.aloadN X10.here hx rfl (hb hby d2_19) rfl rfl ?_
    show Steps p.tables e below (T10.setTop (mkF m 20 #[.val (.ref a1), .val (.ref a2), .val (.ref a3), .val (.ref a4), .val (.ref a5), .val (.int p6)] [(.ref a1)])) _
    refine XS.aload X10.here hx rfl (hb hby d2_20) rfl rfl ?_
    show Steps p.tables e below (T10.setTop (mkF m 22 #[.val (.ref a1), .val (.ref a2), .val (.ref a3), .val (.ref a4), .val (.ref a5), .val (.int p6)] [(.ref a5), (.ref a1)])) _
    refine st11 _ ?_
    show Steps p.tables e below (T11.setTop (mkF m 25 #[.val (.ref a1), .val (.ref a2), .val (.ref a3), .val (.ref a4), .val (.ref a5), .val (.int p6)] [])) _
    refine XS.aloadN X11.here hx rfl (hb hby d2_25) rfl rfl ?_
    show Steps p.tables e below (T11.setTop (mkF m 26 #[.val (.ref a1), .val (.ref a2), .val (.ref a3), .val (.ref a4), .val (.ref a5), .val (.int p6)] [(.ref a1)])) _
    refine XS.iload X11.here hx rfl (hb hby d2_26) rfl ?_
    show Steps p.tables e below (T11.setTop (mkF m 28 #[.val (.ref a1), .val (.ref a2), .val (.ref a3), .val (.ref a4), .val (.ref a5), .val (.int p6)] [(.int p6), (.ref a1)])) _
    refine st12 _ ?_
    show Steps p.tables e below (T12.setTop (mkF m 31 #[.val (.ref a1), .val (.ref a2), .val (.ref a3), .val (.ref a4), .val (.ref a5), .val (.int p6)] [])) _
    exact X12.returnOut hx Bd.returns (hb hby d2_31) hr
  · show QC Z a1 a2 a3 a4 a5 p6 h0 n0 _ T12.heap _
    rw [e12]
    exact ⟨rfl, N12, K12, E_a1_12, F__units_a1_12, F__from_a1_12, F__to_a1_12, F__separator_a1_12, F__length_a1_12⟩
def QO0 (Z : State) (a1 : Addr) (h0 : Heap) (n0 : Nat) (v : Option Value) (h : Heap) (L : List Loc) : Prop := ∃ (b bf bt bs : Addr) (kf kt ks : ClassId), v = some (.ref b) ∧ Fr n0 L ∧ Keep h0 h [] ∧ Exa Z h b "com/example/words_to_verdict/wordstoverdict/match/FoldedText" ∧ Fld Z h b "com/example/words_to_verdict/wordstoverdict/match/FoldedText" "_units" "[I" (.ref a1) ∧ Fld Z h b "com/example/words_to_verdict/wordstoverdict/match/FoldedText" "_from" "[I" (.ref bf) ∧ Fld Z h b "com/example/words_to_verdict/wordstoverdict/match/FoldedText" "_to" "[I" (.ref bt) ∧ Fld Z h b "com/example/words_to_verdict/wordstoverdict/match/FoldedText" "_separator" "[Z" (.ref bs) ∧ Fld Z h b "com/example/words_to_verdict/wordstoverdict/match/FoldedText" "_length" "I" (.int (0 : Int32)) ∧ Arv Z h bf kf .int (0 : Int32) [] (.int (0 : Int32)) ∧ Arv Z h bt kt .int (0 : Int32) [] (.int (0 : Int32)) ∧ Arv Z h bs ks .boolean (0 : Int32) [] (.int (0 : Int32))
theorem pn_1 : plainName "com/example/words_to_verdict/wordstoverdict/match/FoldedText" = true := by first | (simp [plainName, overriddenIn]; done) | decide +kernel
theorem ef_1 (m : MethodId) (x0 : Addr) : entryFrame m #[(.ref x0)] 4 = mkF m 0 #[.val (.ref x0), .unset, .unset, .unset] [] := by first | (simp [entryFrame, mkF, argsToLocals, Value.category]; done) | rfl
theorem d1_0 : decode prog_24_method_2_code 0 = .ok (.aload_n 0, 1) := by decide +kernel
theorem d1_1 : decode prog_24_method_2_code 1 = .ok (.arraylength, 1) := by decide +kernel
theorem d1_2 : decode prog_24_method_2_code 2 = .ok (.newarray .int, 2) := by decide +kernel
theorem d1_4 : decode prog_24_method_2_code 4 = .ok (.astore_n 1, 1) := by decide +kernel
theorem d1_5 : decode prog_24_method_2_code 5 = .ok (.aload_n 0, 1) := by decide +kernel
theorem d1_6 : decode prog_24_method_2_code 6 = .ok (.arraylength, 1) := by decide +kernel
theorem d1_7 : decode prog_24_method_2_code 7 = .ok (.newarray .int, 2) := by decide +kernel
theorem d1_9 : decode prog_24_method_2_code 9 = .ok (.astore_n 2, 1) := by decide +kernel
theorem d1_10 : decode prog_24_method_2_code 10 = .ok (.iconst 0, 1) := by decide +kernel
theorem d1_11 : decode prog_24_method_2_code 11 = .ok (.istore_n 3, 1) := by decide +kernel
theorem d1_12 : decode prog_24_method_2_code 12 = .ok (.iload_n 3, 1) := by decide +kernel
theorem d1_13 : decode prog_24_method_2_code 13 = .ok (.aload_n 0, 1) := by decide +kernel
theorem d1_14 : decode prog_24_method_2_code 14 = .ok (.arraylength, 1) := by decide +kernel
theorem d1_15 : decode prog_24_method_2_code 15 = .ok (.if_icmp .ge 19, 3) := by decide +kernel
theorem d1_34 : decode prog_24_method_2_code 34 = .ok (.new 8, 3) := by decide +kernel
theorem d1_37 : decode prog_24_method_2_code 37 = .ok (.dup, 1) := by decide +kernel
theorem d1_38 : decode prog_24_method_2_code 38 = .ok (.aload_n 0, 1) := by decide +kernel
theorem d1_39 : decode prog_24_method_2_code 39 = .ok (.aload_n 1, 1) := by decide +kernel
theorem d1_40 : decode prog_24_method_2_code 40 = .ok (.aload_n 2, 1) := by decide +kernel
theorem d1_41 : decode prog_24_method_2_code 41 = .ok (.aload_n 0, 1) := by decide +kernel
theorem d1_42 : decode prog_24_method_2_code 42 = .ok (.arraylength, 1) := by decide +kernel
theorem d1_43 : decode prog_24_method_2_code 43 = .ok (.newarray .boolean, 2) := by decide +kernel
theorem d1_45 : decode prog_24_method_2_code 45 = .ok (.aload_n 0, 1) := by decide +kernel
theorem d1_46 : decode prog_24_method_2_code 46 = .ok (.arraylength, 1) := by decide +kernel
theorem d1_47 : decode prog_24_method_2_code 47 = .ok (.invokespecial 27, 3) := by decide +kernel
theorem pd_0 : parseMethodDescriptor "([I[I[I[ZI)V" = some ⟨[(.array .int), (.array .int), (.array .int), (.array .boolean), .int], none⟩ := by decide +kernel
theorem d1_50 : decode prog_24_method_2_code 50 = .ok (.areturn, 1) := by decide +kernel
set_option maxRecDepth 65536 in
set_option maxHeartbeats 40000000 in
theorem rmO0 (l : Launch) (Z : State) (a0 : Array Value) (hw : ∀ d ∈ tables_1, d.before a0 Z = true) (ws : List Jvm.Cond) (a1 : Addr) (kA : ClassId) (h0 : Heap) (n0 : Nat) (Z0 : n0 ≤ h0.size) (V_a1 : Arv Z h0 a1 kA .int (0 : Int32) [] (.int (0 : Int32))) :
    MetFree l (⟨"com/example/words_to_verdict/wordstoverdict/match/FoldedText", "of", "([I)Lcom/example/words_to_verdict/wordstoverdict/match/FoldedText;"⟩ : MethodName) (head1 (Jvm.Cond.code (⟨"com/example/words_to_verdict/wordstoverdict/match/FoldedText", "of", "([I)Lcom/example/words_to_verdict/wordstoverdict/match/FoldedText;"⟩ : MethodName) prog_24_method_2_code 4 (some (.object "com/example/words_to_verdict/wordstoverdict/match/FoldedText")) :: ws) ({ frames := 2, cells := 4, slots := 5, locals := 30 } : Room)) (fun a U => a = #[(.ref a1)] ∧ Z.Warmed39 U.vm ∧ U.heap = h0) (fun _ _ _ _ _ => True) (fun _ U o U' => ∃ v L, o = .returned v ∧ QO0 Z a1 h0 n0 v U'.heap L ∧ FrameEnd U o U' L ({ frames := 2, cells := 4, slots := 5, locals := 30 } : Room).cells ({ frames := 2, cells := 4, slots := 5, locals := 30 } : Room).slots) := by
  refine MetFree.of_bodySF (plainFor_of_name pn_1) hisR ?_
  intro p e s m args below meth c s₁ Bd hml0 hP hK
  obtain ⟨rfl, hZ, hh⟩ := hP
  have hx := Bd.exec
  have hby := Bd.bytes
  have hml : c.maxLocals = 4 := hml0
  have hown : s.vm.findClass "com/example/words_to_verdict/wordstoverdict/match/FoldedText" = some m.cls := findClass_of_methodNamed Bd.named
  have hnm := (name_of_methodNamed Bd.named Bd.method).1
  have X0 : Stand p l e ({ frames := 2, cells := 4, slots := 5, locals := 30 } : Room) s m #[(.ref a1)] below meth c s₁ [] 0 0 := Stand.of_body Bd
  have e0 : s₁.heap = h0 := by rw [← hh, Bd.state]; rfl
  have N0 := Fr.nil n0
  have pre0 : ∀ t, Steps p.tables e below (s₁.setTop (mkF m 0 #[.val (.ref a1), .unset, .unset, .unset] [])) t → Steps p.tables e below (s₁.setTop (entryFrame m #[(.ref a1)] 4)) t := fun t k => castTop (ef_1 m a1) k
  have K0 : Keep h0 h0 [] := Keep.refl _ _
  obtain ⟨clu2, Aru2, -, Su2, Mu2, -, -⟩ := id V_a1
  obtain ⟨T3, h3, k3, X3, e3, E3, A3, st3⟩ := newP X0 hx hZ (hw _ (List.mem_of_getElem? (i := 1) rfl)) e0 (g := (mkF m 2 #[.val (.ref a1), .unset, .unset, .unset] [(.int (0 : Int32))])) rfl (hb hby d1_2) rfl (by decide) (cap := 0) (by decide) (by decide) (by decide) (by decide)
  obtain ⟨b3, g3⟩ : ∃ z, z = h0.size := ⟨_, rfl⟩
  rw [← g3] at A3 st3
  have ne_a1_b3 : a1 ≠ b3 := Nat.ne_of_lt (Nat.lt_of_lt_of_le V_a1.lt (Nat.le_of_eq g3.symm))
  have g_b3 : n0 ≤ b3 := Nat.le_trans Z0 (Nat.le_of_eq g3.symm)
  have sz_b3 : h0.size ≤ b3 := Nat.le_of_eq g3.symm
  have s0_b3 : h0.size ≤ b3 := Nat.le_trans K0.1 (Nat.le_of_eq g3.symm)
  have V_a1_3 := V_a1.ext E3
  have SZ3 : n0 ≤ h3.size := Nat.le_trans Z0 E3.1
  have K3 := K0.ext E3
  have V_b3 : Arv Z h3 b3 k3 .int (0 : Int32) [] (.int (0 : Int32)) := (Arv.new A3 (by decide)).pad (pad_rep [] (.int (0 : Int32)) 0)
  obtain ⟨clu4, Aru4, -, Su4, Mu4, -, -⟩ := id V_a1_3
  obtain ⟨T5, h5, k5, X5, e5, E5, A5, st5⟩ := newP X3 hx hZ (hw _ (List.mem_of_getElem? (i := 1) rfl)) e3 (g := (mkF m 7 #[.val (.ref a1), .val (.ref b3), .unset, .unset] [(.int (0 : Int32))])) rfl (hb hby d1_7) rfl (by decide) (cap := 0) (by decide) (by decide) (by decide) (by decide)
  obtain ⟨b5, g5⟩ : ∃ z, z = h3.size := ⟨_, rfl⟩
  rw [← g5] at A5 st5
  have ne_a1_b5 : a1 ≠ b5 := Nat.ne_of_lt (Nat.lt_of_lt_of_le V_a1_3.lt (Nat.le_of_eq g5.symm))
  have ne_b3_b5 : b3 ≠ b5 := Nat.ne_of_lt (Nat.lt_of_lt_of_le V_b3.lt (Nat.le_of_eq g5.symm))
  have g_b5 : n0 ≤ b5 := Nat.le_trans SZ3 (Nat.le_of_eq g5.symm)
  have sz_b5 : h3.size ≤ b5 := Nat.le_of_eq g5.symm
  have s0_b5 : h0.size ≤ b5 := Nat.le_trans K3.1 (Nat.le_of_eq g5.symm)
  have V_a1_5 := V_a1_3.ext E5
  have V_b3_5 := V_b3.ext E5
  have SZ5 : n0 ≤ h5.size := Nat.le_trans SZ3 E5.1
  have K5 := K3.ext E5
  have V_b5 : Arv Z h5 b5 k5 .int (0 : Int32) [] (.int (0 : Int32)) := (Arv.new A5 (by decide)).pad (pad_rep [] (.int (0 : Int32)) 0)
  obtain ⟨clu6, Aru6, -, Su6, Mu6, -, -⟩ := id V_a1_5
  obtain ⟨T7, h7, X7, e7, E7, A7, D7, -, st7⟩ := newO X5 hx hZ hown (hw _ (List.mem_of_getElem? (i := 6) rfl)) (hw _ (List.mem_of_getElem? (i := 7) rfl)) (hw _ (List.mem_of_getElem? (i := 4) rfl)) e5 (g := (mkF m 34 #[.val (.ref a1), .val (.ref b3), .val (.ref b5), .val (.int (0 : Int32))] [])) rfl (hb hby d1_34) (by decide) (by decide)
  obtain ⟨b7, g7⟩ : ∃ z, z = h5.size := ⟨_, rfl⟩
  rw [← g7] at A7 D7 st7
  have ne_a1_b7 : a1 ≠ b7 := Nat.ne_of_lt (Nat.lt_of_lt_of_le V_a1_5.lt (Nat.le_of_eq g7.symm))
  have ne_b3_b7 : b3 ≠ b7 := Nat.ne_of_lt (Nat.lt_of_lt_of_le V_b3_5.lt (Nat.le_of_eq g7.symm))
  have ne_b5_b7 : b5 ≠ b7 := Nat.ne_of_lt (Nat.lt_of_lt_of_le V_b5.lt (Nat.le_of_eq g7.symm))
  have g_b7 : n0 ≤ b7 := Nat.le_trans SZ5 (Nat.le_of_eq g7.symm)
  have sz_b7 : h5.size ≤ b7 := Nat.le_of_eq g7.symm
  have s0_b7 : h0.size ≤ b7 := Nat.le_trans K5.1 (Nat.le_of_eq g7.symm)
  have V_a1_7 := V_a1_5.ext E7
  have V_b3_7 := V_b3_5.ext E7
  have V_b5_7 := V_b5.ext E7
  have SZ7 : n0 ≤ h7.size := Nat.le_trans SZ5 E7.1
  have K7 := K5.ext E7
  have E_b7 := A7
  have F__units_b7 : Fld Z h7 b7 "com/example/words_to_verdict/wordstoverdict/match/FoldedText" "_units" "[I" .null := D7 (Or.inr (hw _ (List.mem_of_getElem? (i := 16) rfl))) (ty := (.array .int)) (by decide)
  have F__from_b7 : Fld Z h7 b7 "com/example/words_to_verdict/wordstoverdict/match/FoldedText" "_from" "[I" .null := D7 (Or.inr (hw _ (List.mem_of_getElem? (i := 18) rfl))) (ty := (.array .int)) (by decide)
  have F__to_b7 : Fld Z h7 b7 "com/example/words_to_verdict/wordstoverdict/match/FoldedText" "_to" "[I" .null := D7 (Or.inr (hw _ (List.mem_of_getElem? (i := 20) rfl))) (ty := (.array .int)) (by decide)
  have F__separator_b7 : Fld Z h7 b7 "com/example/words_to_verdict/wordstoverdict/match/FoldedText" "_separator" "[Z" .null := D7 (Or.inr (hw _ (List.mem_of_getElem? (i := 22) rfl))) (ty := (.array .boolean)) (by decide)
  have F__length_b7 : Fld Z h7 b7 "com/example/words_to_verdict/wordstoverdict/match/FoldedText" "_length" "I" (.int (0 : Int32)) := D7 (Or.inr (hw _ (List.mem_of_getElem? (i := 24) rfl))) (ty := .int) (by decide)
  obtain ⟨clu8, Aru8, -, Su8, Mu8, -, -⟩ := id V_a1_7
  obtain ⟨T9, h9, k9, X9, e9, E9, A9, st9⟩ := newP X7 hx hZ (hw _ (List.mem_of_getElem? (i := 8) rfl)) e7 (g := (mkF m 43 #[.val (.ref a1), .val (.ref b3), .val (.ref b5), .val (.int (0 : Int32))] [(.int (0 : Int32)), (.ref b5), (.ref b3), (.ref a1), (.ref b7), (.ref b7)])) rfl (hb hby d1_43) rfl (by decide) (cap := 0) (by decide) (by decide) (by decide) (by decide)
  obtain ⟨b9, g9⟩ : ∃ z, z = h7.size := ⟨_, rfl⟩
  rw [← g9] at A9 st9
  have ne_a1_b9 : a1 ≠ b9 := Nat.ne_of_lt (Nat.lt_of_lt_of_le V_a1_7.lt (Nat.le_of_eq g9.symm))
  have ne_b3_b9 : b3 ≠ b9 := Nat.ne_of_lt (Nat.lt_of_lt_of_le V_b3_7.lt (Nat.le_of_eq g9.symm))
  have ne_b5_b9 : b5 ≠ b9 := Nat.ne_of_lt (Nat.lt_of_lt_of_le V_b5_7.lt (Nat.le_of_eq g9.symm))
  have ne_b7_b9 : b7 ≠ b9 := Nat.ne_of_lt (Nat.lt_of_lt_of_le E_b7.lt (Nat.le_of_eq g9.symm))
  have g_b9 : n0 ≤ b9 := Nat.le_trans SZ7 (Nat.le_of_eq g9.symm)
  have sz_b9 : h7.size ≤ b9 := Nat.le_of_eq g9.symm
  have s0_b9 : h0.size ≤ b9 := Nat.le_trans K7.1 (Nat.le_of_eq g9.symm)
  have V_a1_9 := V_a1_7.ext E9
  have V_b3_9 := V_b3_7.ext E9
  have V_b5_9 := V_b5_7.ext E9
  have E_b7_9 := E_b7.ext E9
  have F__units_b7_9 := F__units_b7.ext E9
  have F__from_b7_9 := F__from_b7.ext E9
  have F__to_b7_9 := F__to_b7.ext E9
  have F__separator_b7_9 := F__separator_b7.ext E9
  have F__length_b7_9 := F__length_b7.ext E9
  have SZ9 : n0 ≤ h9.size := Nat.le_trans SZ7 E9.1
  have K9 := K7.ext E9
  have V_b9 : Arv Z h9 b9 k9 .boolean (0 : Int32) [] (.int (0 : Int32)) := (Arv.new A9 (by decide)).pad (pad_rep [] (.int (0 : Int32)) 0)
  obtain ⟨clu10, Aru10, -, Su10, Mu10, -, -⟩ := id V_a1_9
  obtain ⟨_, _, ⟨T11, L11, k11, n11⟩, -, X11, ⟨Lc11, hQ11, l11, y11, z11⟩, st11⟩ := X9.specialBack hx (y := (⟨"com/example/words_to_verdict/wordstoverdict/match/FoldedText", "<init>", "([I[I[I[ZI)V"⟩ : MethodName)) rfl hown (mvT hZ (hw _ (List.mem_of_getElem? (i := 9) rfl))) (mvT hZ (hw _ (List.mem_of_getElem? (i := 10) rfl))) (mvT hZ (hw _ (List.mem_of_getElem? (i := 11) rfl))) (by decide) (backOf (W := 1) (rmC l Z a0 hw [] b7 a1 b3 b5 b9 (0 : Int32) h9 n0 SZ9 (E_b7_9) (F__units_b7_9) (F__from_b7_9) (F__to_b7_9) (F__separator_b7_9) (F__length_b7_9) (g_b7)) hZ (hw _ (List.mem_of_getElem? (i := 11) rfl)) (hw _ (List.mem_of_getElem? (i := 4) rfl)) (by decide) (by decide)) (g := (mkF m 47 #[.val (.ref a1), .val (.ref b3), .val (.ref b5), .val (.int (0 : Int32))] [(.int (0 : Int32)), (.ref b9), (.ref b5), (.ref b3), (.ref a1), (.ref b7), (.ref b7)])) rfl (by rw [hml]; rfl) (Steps.refl _) (a := b7) (argsL := [(.ref a1), (.ref b3), (.ref b5), (.ref b9), (.int (0 : Int32))]) (rest := [(.ref b7)]) (lenOf pd_0 rfl) rfl (by show 2 * 0 + _ ≤ _; exact Nat.le_of_eq rfl) (hb hby d1_47) (fun _ _ => ⟨rfl, e9, (by decide : 4 + 0 ≤ _), (by decide : 5 + 0 ≤ _)⟩)
  dsimp only [Pt.U, Pt.locs, Pt.cells, Pt.slots] at X11 l11 y11 z11 st11 hQ11
  subst l11 y11 z11
  have e11 : T11.heap = T11.heap := rfl
  obtain ⟨rfl, N11q, KK11, xE11, x_units11, x_from11, x_to11, x_separator11, x_length11⟩ := hQ11
  have N11 := Fr.app N0 N11q
  have V_a1_11 := V_a1_9.keep KK11 (ninS ne_a1_b7 nin0)
  have V_b3_11 := V_b3_9.keep KK11 (ninS ne_b3_b7 nin0)
  have V_b5_11 := V_b5_9.keep KK11 (ninS ne_b5_b7 nin0)
  have E_b7_11 := E_b7_9.keep KK11
  have V_b9_11 := V_b9.keep KK11 (ninS (Ne.symm ne_b7_b9) nin0)
  have SZ11 : n0 ≤ T11.heap.size := Nat.le_trans SZ9 KK11.1
  have K11 := Keep.trans K9 KK11 (allS (Or.inr s0_b7) all0)
  obtain ⟨fs, hr, hrun, hended, hW, hsame⟩ := X11.leave (v := some (.ref b7)) (fun h => by rw [Bd.returns] at h; cases h)
  refine ⟨_, _, pre0 _ ?_, hrun, hended, _, _, rfl, ?_, ⟨_, rfl⟩, hW, hsame.mono (by decide) (by decide)⟩
  · show Steps p.tables e below (s₁.setTop (mkF m 0 #[.val (.ref a1), .unset, .unset, .unset] [])) _
    refine XS.aloadN X0.here hx rfl (hb hby d1_0) rfl rfl ?_
    show Steps p.tables e below (s₁.setTop (mkF m 1 #[.val (.ref a1), .unset, .unset, .unset] [(.ref a1)])) _
    refine X0.arraylength hx (by rw [e0]; exact Aru2.1) (State.isArrayOf_alike hZ.alike Aru2.2.1) (g := (mkF m 1 #[.val (.ref a1), .unset, .unset, .unset] [(.ref a1)])) rfl rfl (hb hby d1_1) _ ?_
    rw [len_of Su2 Mu2]
    show Steps p.tables e below (s₁.setTop (mkF m 2 #[.val (.ref a1), .unset, .unset, .unset] [(.int (0 : Int32))])) _
    refine st3 _ ?_
    show Steps p.tables e below (T3.setTop (mkF m 4 #[.val (.ref a1), .unset, .unset, .unset] [(.ref b3)])) _
    refine XS.astoreN X3.here hx rfl (hb hby d1_4) rfl rfl (l' := #[.val (.ref a1), .val (.ref b3), .unset, .unset]) rfl ?_
    show Steps p.tables e below (T3.setTop (mkF m 5 #[.val (.ref a1), .val (.ref b3), .unset, .unset] [])) _
    refine XS.aloadN X3.here hx rfl (hb hby d1_5) rfl rfl ?_
    show Steps p.tables e below (T3.setTop (mkF m 6 #[.val (.ref a1), .val (.ref b3), .unset, .unset] [(.ref a1)])) _
    refine X3.arraylength hx (by rw [e3]; exact Aru4.1) (State.isArrayOf_alike hZ.alike Aru4.2.1) (g := (mkF m 6 #[.val (.ref a1), .val (.ref b3), .unset, .unset] [(.ref a1)])) rfl rfl (hb hby d1_6) _ ?_
    rw [len_of Su4 Mu4]
    show Steps p.tables e below (T3.setTop (mkF m 7 #[.val (.ref a1), .val (.ref b3), .unset, .unset] [(.int (0 : Int32))])) _
    refine st5 _ ?_
    show Steps p.tables e below (T5.setTop (mkF m 9 #[.val (.ref a1), .val (.ref b3), .unset, .unset] [(.ref b5)])) _
    refine XS.astoreN X5.here hx rfl (hb hby d1_9) rfl rfl (l' := #[.val (.ref a1), .val (.ref b3), .val (.ref b5), .unset]) rfl ?_
    show Steps p.tables e below (T5.setTop (mkF m 10 #[.val (.ref a1), .val (.ref b3), .val (.ref b5), .unset] [])) _
    refine XS.iconst X5.here hx rfl (hb hby d1_10) ?_
    show Steps p.tables e below (T5.setTop (mkF m 11 #[.val (.ref a1), .val (.ref b3), .val (.ref b5), .unset] [(.int (0 : Int32))])) _
    refine XS.istoreN X5.here hx rfl (hb hby d1_11) rfl (l' := #[.val (.ref a1), .val (.ref b3), .val (.ref b5), .val (.int (0 : Int32))]) rfl ?_
    show Steps p.tables e below (T5.setTop (mkF m 12 #[.val (.ref a1), .val (.ref b3), .val (.ref b5), .val (.int (0 : Int32))] [])) _
    refine XS.iloadN X5.here hx rfl (hb hby d1_12) rfl ?_
    show Steps p.tables e below (T5.setTop (mkF m 13 #[.val (.ref a1), .val (.ref b3), .val (.ref b5), .val (.int (0 : Int32))] [(.int (0 : Int32))])) _
    refine XS.aloadN X5.here hx rfl (hb hby d1_13) rfl rfl ?_
    show Steps p.tables e below (T5.setTop (mkF m 14 #[.val (.ref a1), .val (.ref b3), .val (.ref b5), .val (.int (0 : Int32))] [(.ref a1), (.int (0 : Int32))])) _
    refine X5.arraylength hx (by rw [e5]; exact Aru6.1) (State.isArrayOf_alike hZ.alike Aru6.2.1) (g := (mkF m 14 #[.val (.ref a1), .val (.ref b3), .val (.ref b5), .val (.int (0 : Int32))] [(.ref a1), (.int (0 : Int32))])) rfl rfl (hb hby d1_14) _ ?_
    rw [len_of Su6 Mu6]
    show Steps p.tables e below (T5.setTop (mkF m 15 #[.val (.ref a1), .val (.ref b3), .val (.ref b5), .val (.int (0 : Int32))] [(.int (0 : Int32)), (.int (0 : Int32))])) _
    refine XS.icmpYes X5.here hx rfl (pc0 := 15) (pc' := 34) rfl (hb hby d1_15) rfl (flt (by decide : ¬ ((0 : Int32) < (0 : Int32)))).2.1 (by decide) (by decide) ?_
    show Steps p.tables e below (T5.setTop (mkF m 34 #[.val (.ref a1), .val (.ref b3), .val (.ref b5), .val (.int (0 : Int32))] [])) _
    refine st7 _ ?_
    show Steps p.tables e below (T7.setTop (mkF m 37 #[.val (.ref a1), .val (.ref b3), .val (.ref b5), .val (.int (0 : Int32))] [(.ref b7)])) _
    refine XS.dup X7.here hx rfl (hb hby d1_37) rfl rfl ?_
    show Steps p.tables e below (T7.setTop (mkF m 38 #[.val (.ref a1), .val (.ref b3), .val (.ref b5), .val (.int (0 : Int32))] [(.ref b7), (.ref b7)])) _
    refine XS.aloadN X7.here hx rfl (hb hby d1_38) rfl rfl ?_
    show Steps p.tables e below (T7.setTop (mkF m 39 #[.val (.ref a1), .val (.ref b3), .val (.ref b5), .val (.int (0 : Int32))] [(.ref a1), (.ref b7), (.ref b7)])) _
    refine XS.aloadN X7.here hx rfl (hb hby d1_39) rfl rfl ?_
    show Steps p.tables e below (T7.setTop (mkF m 40 #[.val (.ref a1), .val (.ref b3), .val (.ref b5), .val (.int (0 : Int32))] [(.ref b3), (.ref a1), (.ref b7), (.ref b7)])) _
    refine XS.aloadN X7.here hx rfl (hb hby d1_40) rfl rfl ?_
    show Steps p.tables e below (T7.setTop (mkF m 41 #[.val (.ref a1), .val (.ref b3), .val (.ref b5), .val (.int (0 : Int32))] [(.ref b5), (.ref b3), (.ref a1), (.ref b7), (.ref b7)])) _
    refine XS.aloadN X7.here hx rfl (hb hby d1_41) rfl rfl ?_
    show Steps p.tables e below (T7.setTop (mkF m 42 #[.val (.ref a1), .val (.ref b3), .val (.ref b5), .val (.int (0 : Int32))] [(.ref a1), (.ref b5), (.ref b3), (.ref a1), (.ref b7), (.ref b7)])) _
    refine X7.arraylength hx (by rw [e7]; exact Aru8.1) (State.isArrayOf_alike hZ.alike Aru8.2.1) (g := (mkF m 42 #[.val (.ref a1), .val (.ref b3), .val (.ref b5), .val (.int (0 : Int32))] [(.ref a1), (.ref b5), (.ref b3), (.ref a1), (.ref b7), (.ref b7)])) rfl rfl (hb hby d1_42) _ ?_
    rw [len_of Su8 Mu8]
    show Steps p.tables e below (T7.setTop (mkF m 43 #[.val (.ref a1), .val (.ref b3), .val (.ref b5), .val (.int (0 : Int32))] [(.int (0 : Int32)), (.ref b5), (.ref b3), (.ref a1), (.ref b7), (.ref b7)])) _
    refine st9 _ ?_
    show Steps p.tables e below (T9.setTop (mkF m 45 #[.val (.ref a1), .val (.ref b3), .val (.ref b5), .val (.int (0 : Int32))] [(.ref b9), (.ref b5), (.ref b3), (.ref a1), (.ref b7), (.ref b7)])) _
    refine XS.aloadN X9.here hx rfl (hb hby d1_45) rfl rfl ?_
    show Steps p.tables e below (T9.setTop (mkF m 46 #[.val (.ref a1), .val (.ref b3), .val (.ref b5), .val (.int (0 : Int32))] [(.ref a1), (.ref b9), (.ref b5), (.ref b3), (.ref a1), (.ref b7), (.ref b7)])) _
    refine X9.arraylength hx (by rw [e9]; exact Aru10.1) (State.isArrayOf_alike hZ.alike Aru10.2.1) (g := (mkF m 46 #[.val (.ref a1), .val (.ref b3), .val (.ref b5), .val (.int (0 : Int32))] [(.ref a1), (.ref b9), (.ref b5), (.ref b3), (.ref a1), (.ref b7), (.ref b7)])) rfl rfl (hb hby d1_46) _ ?_
    rw [len_of Su10 Mu10]
    show Steps p.tables e below (T9.setTop (mkF m 47 #[.val (.ref a1), .val (.ref b3), .val (.ref b5), .val (.int (0 : Int32))] [(.int (0 : Int32)), (.ref b9), (.ref b5), (.ref b3), (.ref a1), (.ref b7), (.ref b7)])) _
    refine st11.trans ?_
    show Steps p.tables e below (T11.setTop (mkF m 50 #[.val (.ref a1), .val (.ref b3), .val (.ref b5), .val (.int (0 : Int32))] [(.ref b7)])) _
    jvm_step X11.here [X11.here.top, hx, (hb hby d1_50), X11.method', Bd.returns, Value.isRef, FieldType.isReference]
    first | (intro acts; rw [hr _ acts rfl rfl rfl]) | rw [hr _ _ rfl rfl rfl]
    exact Steps.refl _
  · show QO0 Z a1 h0 n0 _ T11.heap _
    rw [e11]
    exact ⟨b7, b3, b5, b9, k3, k5, k9, rfl, N11, K11, xE11, x_units11, x_from11, x_to11, x_separator11, x_length11, V_b3_11, V_b5_11, V_b9_11⟩
def QO1 (Z : State) (a1 : Addr) (h0 : Heap) (n0 : Nat) (v : Option Value) (h : Heap) (L : List Loc) : Prop := ∃ (b bf bt bs : Addr) (kf kt ks : ClassId), v = some (.ref b) ∧ Fr n0 L ∧ Keep h0 h [] ∧ Exa Z h b "com/example/words_to_verdict/wordstoverdict/match/FoldedText" ∧ Fld Z h b "com/example/words_to_verdict/wordstoverdict/match/FoldedText" "_units" "[I" (.ref a1) ∧ Fld Z h b "com/example/words_to_verdict/wordstoverdict/match/FoldedText" "_from" "[I" (.ref bf) ∧ Fld Z h b "com/example/words_to_verdict/wordstoverdict/match/FoldedText" "_to" "[I" (.ref bt) ∧ Fld Z h b "com/example/words_to_verdict/wordstoverdict/match/FoldedText" "_separator" "[Z" (.ref bs) ∧ Fld Z h b "com/example/words_to_verdict/wordstoverdict/match/FoldedText" "_length" "I" (.int (1 : Int32)) ∧ Arv Z h bf kf .int (1 : Int32) [(.int (0 : Int32))] (.int (0 : Int32)) ∧ Arv Z h bt kt .int (1 : Int32) [(.int (1 : Int32))] (.int (0 : Int32)) ∧ Arv Z h bs ks .boolean (1 : Int32) [(.int (0 : Int32))] (.int (0 : Int32))
theorem d1_18 : decode prog_24_method_2_code 18 = .ok (.aload_n 1, 1) := by decide +kernel
theorem d1_19 : decode prog_24_method_2_code 19 = .ok (.iload_n 3, 1) := by decide +kernel
theorem d1_20 : decode prog_24_method_2_code 20 = .ok (.iload_n 3, 1) := by decide +kernel
theorem d1_21 : decode prog_24_method_2_code 21 = .ok (.iastore, 1) := by decide +kernel
theorem d1_22 : decode prog_24_method_2_code 22 = .ok (.aload_n 2, 1) := by decide +kernel
theorem d1_23 : decode prog_24_method_2_code 23 = .ok (.iload_n 3, 1) := by decide +kernel
theorem d1_24 : decode prog_24_method_2_code 24 = .ok (.iload_n 3, 1) := by decide +kernel
theorem d1_25 : decode prog_24_method_2_code 25 = .ok (.iconst 1, 1) := by decide +kernel
theorem d1_26 : decode prog_24_method_2_code 26 = .ok (.iadd, 1) := by decide +kernel
theorem d1_27 : decode prog_24_method_2_code 27 = .ok (.iastore, 1) := by decide +kernel
theorem d1_28 : decode prog_24_method_2_code 28 = .ok (.iinc 3 1, 3) := by decide +kernel
theorem d1_31 : decode prog_24_method_2_code 31 = .ok (.goto (-19), 3) := by decide +kernel
set_option maxRecDepth 65536 in
set_option maxHeartbeats 40000000 in
theorem rmO1 (l : Launch) (Z : State) (a0 : Array Value) (hw : ∀ d ∈ tables_1, d.before a0 Z = true) (ws : List Jvm.Cond) (a1 : Addr) (kA : ClassId) (v0 : Int32) (h0 : Heap) (n0 : Nat) (Z0 : n0 ≤ h0.size) (V_a1 : Arv Z h0 a1 kA .int (1 : Int32) [(.int v0)] (.int (0 : Int32))) :
    MetFree l (⟨"com/example/words_to_verdict/wordstoverdict/match/FoldedText", "of", "([I)Lcom/example/words_to_verdict/wordstoverdict/match/FoldedText;"⟩ : MethodName) (head1 (Jvm.Cond.code (⟨"com/example/words_to_verdict/wordstoverdict/match/FoldedText", "of", "([I)Lcom/example/words_to_verdict/wordstoverdict/match/FoldedText;"⟩ : MethodName) prog_24_method_2_code 4 (some (.object "com/example/words_to_verdict/wordstoverdict/match/FoldedText")) :: ws) ({ frames := 2, cells := 4, slots := 8, locals := 30 } : Room)) (fun a U => a = #[(.ref a1)] ∧ Z.Warmed39 U.vm ∧ U.heap = h0) (fun _ _ _ _ _ => True) (fun _ U o U' => ∃ v L, o = .returned v ∧ QO1 Z a1 h0 n0 v U'.heap L ∧ FrameEnd U o U' L ({ frames := 2, cells := 4, slots := 8, locals := 30 } : Room).cells ({ frames := 2, cells := 4, slots := 8, locals := 30 } : Room).slots) := by
  refine MetFree.of_bodySF (plainFor_of_name pn_1) hisR ?_
  intro p e s m args below meth c s₁ Bd hml0 hP hK
  obtain ⟨rfl, hZ, hh⟩ := hP
  have hx := Bd.exec
  have hby := Bd.bytes
  have hml : c.maxLocals = 4 := hml0
  have hown : s.vm.findClass "com/example/words_to_verdict/wordstoverdict/match/FoldedText" = some m.cls := findClass_of_methodNamed Bd.named
  have hnm := (name_of_methodNamed Bd.named Bd.method).1
  have X0 : Stand p l e ({ frames := 2, cells := 4, slots := 8, locals := 30 } : Room) s m #[(.ref a1)] below meth c s₁ [] 0 0 := Stand.of_body Bd
  have e0 : s₁.heap = h0 := by rw [← hh, Bd.state]; rfl
  have N0 := Fr.nil n0
  have pre0 : ∀ t, Steps p.tables e below (s₁.setTop (mkF m 0 #[.val (.ref a1), .unset, .unset, .unset] [])) t → Steps p.tables e below (s₁.setTop (entryFrame m #[(.ref a1)] 4)) t := fun t k => castTop (ef_1 m a1) k
  have K0 : Keep h0 h0 [] := Keep.refl _ _
  obtain ⟨clu2, Aru2, -, Su2, Mu2, -, -⟩ := id V_a1
  obtain ⟨T3, h3, k3, X3, e3, E3, A3, st3⟩ := newP X0 hx hZ (hw _ (List.mem_of_getElem? (i := 1) rfl)) e0 (g := (mkF m 2 #[.val (.ref a1), .unset, .unset, .unset] [(.int (1 : Int32))])) rfl (hb hby d1_2) rfl (by decide) (cap := 1) (by decide) (by decide) (by decide) (by decide)
  obtain ⟨b3, g3⟩ : ∃ z, z = h0.size := ⟨_, rfl⟩
  rw [← g3] at A3 st3
  have ne_a1_b3 : a1 ≠ b3 := Nat.ne_of_lt (Nat.lt_of_lt_of_le V_a1.lt (Nat.le_of_eq g3.symm))
  have g_b3 : n0 ≤ b3 := Nat.le_trans Z0 (Nat.le_of_eq g3.symm)
  have sz_b3 : h0.size ≤ b3 := Nat.le_of_eq g3.symm
  have s0_b3 : h0.size ≤ b3 := Nat.le_trans K0.1 (Nat.le_of_eq g3.symm)
  have V_a1_3 := V_a1.ext E3
  have SZ3 : n0 ≤ h3.size := Nat.le_trans Z0 E3.1
  have K3 := K0.ext E3
  have V_b3 : Arv Z h3 b3 k3 .int (1 : Int32) [(.int (0 : Int32))] (.int (0 : Int32)) := (Arv.new A3 (by decide)).pad (pad_rep [] (.int (0 : Int32)) 1)
  obtain ⟨clu4, Aru4, -, Su4, Mu4, -, -⟩ := id V_a1_3
  obtain ⟨T5, h5, k5, X5, e5, E5, A5, st5⟩ := newP X3 hx hZ (hw _ (List.mem_of_getElem? (i := 1) rfl)) e3 (g := (mkF m 7 #[.val (.ref a1), .val (.ref b3), .unset, .unset] [(.int (1 : Int32))])) rfl (hb hby d1_7) rfl (by decide) (cap := 1) (by decide) (by decide) (by decide) (by decide)
  obtain ⟨b5, g5⟩ : ∃ z, z = h3.size := ⟨_, rfl⟩
  rw [← g5] at A5 st5
  have ne_a1_b5 : a1 ≠ b5 := Nat.ne_of_lt (Nat.lt_of_lt_of_le V_a1_3.lt (Nat.le_of_eq g5.symm))
  have ne_b3_b5 : b3 ≠ b5 := Nat.ne_of_lt (Nat.lt_of_lt_of_le V_b3.lt (Nat.le_of_eq g5.symm))
  have g_b5 : n0 ≤ b5 := Nat.le_trans SZ3 (Nat.le_of_eq g5.symm)
  have sz_b5 : h3.size ≤ b5 := Nat.le_of_eq g5.symm
  have s0_b5 : h0.size ≤ b5 := Nat.le_trans K3.1 (Nat.le_of_eq g5.symm)
  have V_a1_5 := V_a1_3.ext E5
  have V_b3_5 := V_b3.ext E5
  have SZ5 : n0 ≤ h5.size := Nat.le_trans SZ3 E5.1
  have K5 := K3.ext E5
  have V_b5 : Arv Z h5 b5 k5 .int (1 : Int32) [(.int (0 : Int32))] (.int (0 : Int32)) := (Arv.new A5 (by decide)).pad (pad_rep [] (.int (0 : Int32)) 1)
  obtain ⟨clu6, Aru6, -, Su6, Mu6, -, -⟩ := id V_a1_5
  obtain ⟨clu7, Aru7, qu7, Su7, Mu7, Hu7, Gu7⟩ := id V_b3_5
  have hinu7 : ¬ ((0 : Int32) < 0 ∨ clu7.slots.size ≤ ((0 : Int32)).toNatClampNeg) := inb_of Su7 ⟨by decide, by decide⟩
  obtain ⟨T8, h8, X8, e8, W8, st8⟩ := stI X5 hx hZ e5 Aru7 (j := (0 : Int32)) hinu7 (g := (mkF m 21 #[.val (.ref a1), .val (.ref b3), .val (.ref b5), .val (.int (0 : Int32))] [(.int (0 : Int32)), (.int (0 : Int32)), (.ref b3)])) rfl rfl (hb hby d1_21)
  have V_a1_8 := V_a1_5.other W8 ne_a1_b3
  have V_b5_8 := V_b5.other W8 (Ne.symm ne_b3_b5)
  have SZ8 : n0 ≤ h8.size := by rw [W8.size]; exact SZ5
  have K8 := K5.wr W8 (Or.inr s0_b3)
  have N8 := Fr.snoc X8 N0 g_b3
  have V_b3_8 : Arv Z h8 b3 k3 .int (1 : Int32) [(.int (0 : Int32))] (.int (0 : Int32)) := Arv.set Aru7 qu7 Su7 Mu7 Hu7 Gu7 rfl W8 0 rfl (Nat.le_of_ble_eq_true rfl)
  obtain ⟨clu9, Aru9, qu9, Su9, Mu9, Hu9, Gu9⟩ := id V_b5_8
  have hinu9 : ¬ ((0 : Int32) < 0 ∨ clu9.slots.size ≤ ((0 : Int32)).toNatClampNeg) := inb_of Su9 ⟨by decide, by decide⟩
  obtain ⟨T10, h10, X10, e10, W10, st10⟩ := stI X8 hx hZ e8 Aru9 (j := (0 : Int32)) hinu9 (g := (mkF m 27 #[.val (.ref a1), .val (.ref b3), .val (.ref b5), .val (.int (0 : Int32))] [(.int (1 : Int32)), (.int (0 : Int32)), (.ref b5)])) rfl rfl (hb hby d1_27)
  have V_a1_10 := V_a1_8.other W10 ne_a1_b5
  have V_b3_10 := V_b3_8.other W10 ne_b3_b5
  have SZ10 : n0 ≤ h10.size := by rw [W10.size]; exact SZ8
  have K10 := K8.wr W10 (Or.inr s0_b5)
  have N10 := Fr.snoc X10 N8 g_b5
  have V_b5_10 : Arv Z h10 b5 k5 .int (1 : Int32) [(.int (1 : Int32))] (.int (0 : Int32)) := Arv.set Aru9 qu9 Su9 Mu9 Hu9 Gu9 rfl W10 0 rfl (Nat.le_of_ble_eq_true rfl)
  obtain ⟨clu11, Aru11, -, Su11, Mu11, -, -⟩ := id V_a1_10
  obtain ⟨T12, h12, X12, e12, E12, A12, D12, -, st12⟩ := newO X10 hx hZ hown (hw _ (List.mem_of_getElem? (i := 6) rfl)) (hw _ (List.mem_of_getElem? (i := 7) rfl)) (hw _ (List.mem_of_getElem? (i := 4) rfl)) e10 (g := (mkF m 34 #[.val (.ref a1), .val (.ref b3), .val (.ref b5), .val (.int (1 : Int32))] [])) rfl (hb hby d1_34) (by decide) (by decide)
  obtain ⟨b12, g12⟩ : ∃ z, z = h10.size := ⟨_, rfl⟩
  rw [← g12] at A12 D12 st12
  have ne_a1_b12 : a1 ≠ b12 := Nat.ne_of_lt (Nat.lt_of_lt_of_le V_a1_10.lt (Nat.le_of_eq g12.symm))
  have ne_b3_b12 : b3 ≠ b12 := Nat.ne_of_lt (Nat.lt_of_lt_of_le V_b3_10.lt (Nat.le_of_eq g12.symm))
  have ne_b5_b12 : b5 ≠ b12 := Nat.ne_of_lt (Nat.lt_of_lt_of_le V_b5_10.lt (Nat.le_of_eq g12.symm))
  have g_b12 : n0 ≤ b12 := Nat.le_trans SZ10 (Nat.le_of_eq g12.symm)
  have sz_b12 : h10.size ≤ b12 := Nat.le_of_eq g12.symm
  have s0_b12 : h0.size ≤ b12 := Nat.le_trans K10.1 (Nat.le_of_eq g12.symm)
  have V_a1_12 := V_a1_10.ext E12
  have V_b3_12 := V_b3_10.ext E12
  have V_b5_12 := V_b5_10.ext E12
  have SZ12 : n0 ≤ h12.size := Nat.le_trans SZ10 E12.1
  have K12 := K10.ext E12
  have E_b12 := A12
  have F__units_b12 : Fld Z h12 b12 "com/example/words_to_verdict/wordstoverdict/match/FoldedText" "_units" "[I" .null := D12 (Or.inr (hw _ (List.mem_of_getElem? (i := 16) rfl))) (ty := (.array .int)) (by decide)
  have F__from_b12 : Fld Z h12 b12 "com/example/words_to_verdict/wordstoverdict/match/FoldedText" "_from" "[I" .null := D12 (Or.inr (hw _ (List.mem_of_getElem? (i := 18) rfl))) (ty := (.array .int)) (by decide)
  have F__to_b12 : Fld Z h12 b12 "com/example/words_to_verdict/wordstoverdict/match/FoldedText" "_to" "[I" .null := D12 (Or.inr (hw _ (List.mem_of_getElem? (i := 20) rfl))) (ty := (.array .int)) (by decide)
  have F__separator_b12 : Fld Z h12 b12 "com/example/words_to_verdict/wordstoverdict/match/FoldedText" "_separator" "[Z" .null := D12 (Or.inr (hw _ (List.mem_of_getElem? (i := 22) rfl))) (ty := (.array .boolean)) (by decide)
  have F__length_b12 : Fld Z h12 b12 "com/example/words_to_verdict/wordstoverdict/match/FoldedText" "_length" "I" (.int (0 : Int32)) := D12 (Or.inr (hw _ (List.mem_of_getElem? (i := 24) rfl))) (ty := .int) (by decide)
  obtain ⟨clu13, Aru13, -, Su13, Mu13, -, -⟩ := id V_a1_12
  obtain ⟨T14, h14, k14, X14, e14, E14, A14, st14⟩ := newP X12 hx hZ (hw _ (List.mem_of_getElem? (i := 8) rfl)) e12 (g := (mkF m 43 #[.val (.ref a1), .val (.ref b3), .val (.ref b5), .val (.int (1 : Int32))] [(.int (1 : Int32)), (.ref b5), (.ref b3), (.ref a1), (.ref b12), (.ref b12)])) rfl (hb hby d1_43) rfl (by decide) (cap := 1) (by decide) (by decide) (by decide) (by decide)
  obtain ⟨b14, g14⟩ : ∃ z, z = h12.size := ⟨_, rfl⟩
  rw [← g14] at A14 st14
  have ne_a1_b14 : a1 ≠ b14 := Nat.ne_of_lt (Nat.lt_of_lt_of_le V_a1_12.lt (Nat.le_of_eq g14.symm))
  have ne_b3_b14 : b3 ≠ b14 := Nat.ne_of_lt (Nat.lt_of_lt_of_le V_b3_12.lt (Nat.le_of_eq g14.symm))
  have ne_b5_b14 : b5 ≠ b14 := Nat.ne_of_lt (Nat.lt_of_lt_of_le V_b5_12.lt (Nat.le_of_eq g14.symm))
  have ne_b12_b14 : b12 ≠ b14 := Nat.ne_of_lt (Nat.lt_of_lt_of_le E_b12.lt (Nat.le_of_eq g14.symm))
  have g_b14 : n0 ≤ b14 := Nat.le_trans SZ12 (Nat.le_of_eq g14.symm)
  have sz_b14 : h12.size ≤ b14 := Nat.le_of_eq g14.symm
  have s0_b14 : h0.size ≤ b14 := Nat.le_trans K12.1 (Nat.le_of_eq g14.symm)
  have V_a1_14 := V_a1_12.ext E14
  have V_b3_14 := V_b3_12.ext E14
  have V_b5_14 := V_b5_12.ext E14
  have E_b12_14 := E_b12.ext E14
  have F__units_b12_14 := F__units_b12.ext E14
  have F__from_b12_14 := F__from_b12.ext E14
  have F__to_b12_14 := F__to_b12.ext E14
  have F__separator_b12_14 := F__separator_b12.ext E14
  have F__length_b12_14 := F__length_b12.ext E14
  have SZ14 : n0 ≤ h14.size := Nat.le_trans SZ12 E14.1
  have K14 := K12.ext E14
  have V_b14 : Arv Z h14 b14 k14 .boolean (1 : Int32) [(.int (0 : Int32))] (.int (0 : Int32)) := (Arv.new A14 (by decide)).pad (pad_rep [] (.int (0 : Int32)) 1)
  obtain ⟨clu15, Aru15, -, Su15, Mu15, -, -⟩ := id V_a1_14
  obtain ⟨_, _, ⟨T16, L16, k16, n16⟩, -, X16, ⟨Lc16, hQ16, l16, y16, z16⟩, st16⟩ := X14.specialBack hx (y := (⟨"com/example/words_to_verdict/wordstoverdict/match/FoldedText", "<init>", "([I[I[I[ZI)V"⟩ : MethodName)) rfl hown (mvT hZ (hw _ (List.mem_of_getElem? (i := 9) rfl))) (mvT hZ (hw _ (List.mem_of_getElem? (i := 10) rfl))) (mvT hZ (hw _ (List.mem_of_getElem? (i := 11) rfl))) (by decide) (backOf (W := 1) (rmC l Z a0 hw [] b12 a1 b3 b5 b14 (1 : Int32) h14 n0 SZ14 (E_b12_14) (F__units_b12_14) (F__from_b12_14) (F__to_b12_14) (F__separator_b12_14) (F__length_b12_14) (g_b12)) hZ (hw _ (List.mem_of_getElem? (i := 11) rfl)) (hw _ (List.mem_of_getElem? (i := 4) rfl)) (by decide) (by decide)) (g := (mkF m 47 #[.val (.ref a1), .val (.ref b3), .val (.ref b5), .val (.int (1 : Int32))] [(.int (1 : Int32)), (.ref b14), (.ref b5), (.ref b3), (.ref a1), (.ref b12), (.ref b12)])) rfl (by rw [hml]; rfl) (Steps.refl _) (a := b12) (argsL := [(.ref a1), (.ref b3), (.ref b5), (.ref b14), (.int (1 : Int32))]) (rest := [(.ref b12)]) (lenOf pd_0 rfl) rfl (by show 2 * 0 + _ ≤ _; exact Nat.le_of_eq rfl) (hb hby d1_47) (fun _ _ => ⟨rfl, e14, (by decide : 4 + 0 ≤ _), (by decide : 8 + 0 ≤ _)⟩)
  dsimp only [Pt.U, Pt.locs, Pt.cells, Pt.slots] at X16 l16 y16 z16 st16 hQ16
  subst l16 y16 z16
  have e16 : T16.heap = T16.heap := rfl
  obtain ⟨rfl, N16q, KK16, xE16, x_units16, x_from16, x_to16, x_separator16, x_length16⟩ := hQ16
  have N16 := Fr.app N10 N16q
  have V_a1_16 := V_a1_14.keep KK16 (ninS ne_a1_b12 nin0)
  have V_b3_16 := V_b3_14.keep KK16 (ninS ne_b3_b12 nin0)
  have V_b5_16 := V_b5_14.keep KK16 (ninS ne_b5_b12 nin0)
  have E_b12_16 := E_b12_14.keep KK16
  have V_b14_16 := V_b14.keep KK16 (ninS (Ne.symm ne_b12_b14) nin0)
  have SZ16 : n0 ≤ T16.heap.size := Nat.le_trans SZ14 KK16.1
  have K16 := Keep.trans K14 KK16 (allS (Or.inr s0_b12) all0)
  obtain ⟨fs, hr, hrun, hended, hW, hsame⟩ := X16.leave (v := some (.ref b12)) (fun h => by rw [Bd.returns] at h; cases h)
  refine ⟨_, _, pre0 _ ?_, hrun, hended, _, _, rfl, ?_, ⟨_, rfl⟩, hW, hsame.mono (by decide) (by decide)⟩
  · show Steps p.tables e below (s₁.setTop (mkF m 0 #[.val (.ref a1), .unset, .unset, .unset] [])) _
    refine XS.aloadN X0.here hx rfl (hb hby d1_0) rfl rfl ?_
    show Steps p.tables e below (s₁.setTop (mkF m 1 #[.val (.ref a1), .unset, .unset, .unset] [(.ref a1)])) _
    refine X0.arraylength hx (by rw [e0]; exact Aru2.1) (State.isArrayOf_alike hZ.alike Aru2.2.1) (g := (mkF m 1 #[.val (.ref a1), .unset, .unset, .unset] [(.ref a1)])) rfl rfl (hb hby d1_1) _ ?_
    rw [len_of Su2 Mu2]
    show Steps p.tables e below (s₁.setTop (mkF m 2 #[.val (.ref a1), .unset, .unset, .unset] [(.int (1 : Int32))])) _
    refine st3 _ ?_
    show Steps p.tables e below (T3.setTop (mkF m 4 #[.val (.ref a1), .unset, .unset, .unset] [(.ref b3)])) _
    refine XS.astoreN X3.here hx rfl (hb hby d1_4) rfl rfl (l' := #[.val (.ref a1), .val (.ref b3), .unset, .unset]) rfl ?_
    show Steps p.tables e below (T3.setTop (mkF m 5 #[.val (.ref a1), .val (.ref b3), .unset, .unset] [])) _
    refine XS.aloadN X3.here hx rfl (hb hby d1_5) rfl rfl ?_
    show Steps p.tables e below (T3.setTop (mkF m 6 #[.val (.ref a1), .val (.ref b3), .unset, .unset] [(.ref a1)])) _
    refine X3.arraylength hx (by rw [e3]; exact Aru4.1) (State.isArrayOf_alike hZ.alike Aru4.2.1) (g := (mkF m 6 #[.val (.ref a1), .val (.ref b3), .unset, .unset] [(.ref a1)])) rfl rfl (hb hby d1_6) _ ?_
    rw [len_of Su4 Mu4]
    show Steps p.tables e below (T3.setTop (mkF m 7 #[.val (.ref a1), .val (.ref b3), .unset, .unset] [(.int (1 : Int32))])) _
    refine st5 _ ?_
    show Steps p.tables e below (T5.setTop (mkF m 9 #[.val (.ref a1), .val (.ref b3), .unset, .unset] [(.ref b5)])) _
    refine XS.astoreN X5.here hx rfl (hb hby d1_9) rfl rfl (l' := #[.val (.ref a1), .val (.ref b3), .val (.ref b5), .unset]) rfl ?_
    show Steps p.tables e below (T5.setTop (mkF m 10 #[.val (.ref a1), .val (.ref b3), .val (.ref b5), .unset] [])) _
    refine XS.iconst X5.here hx rfl (hb hby d1_10) ?_
    show Steps p.tables e below (T5.setTop (mkF m 11 #[.val (.ref a1), .val (.ref b3), .val (.ref b5), .unset] [(.int (0 : Int32))])) _
    refine XS.istoreN X5.here hx rfl (hb hby d1_11) rfl (l' := #[.val (.ref a1), .val (.ref b3), .val (.ref b5), .val (.int (0 : Int32))]) rfl ?_
    show Steps p.tables e below (T5.setTop (mkF m 12 #[.val (.ref a1), .val (.ref b3), .val (.ref b5), .val (.int (0 : Int32))] [])) _
    refine XS.iloadN X5.here hx rfl (hb hby d1_12) rfl ?_
    show Steps p.tables e below (T5.setTop (mkF m 13 #[.val (.ref a1), .val (.ref b3), .val (.ref b5), .val (.int (0 : Int32))] [(.int (0 : Int32))])) _
    refine XS.aloadN X5.here hx rfl (hb hby d1_13) rfl rfl ?_
    show Steps p.tables e below (T5.setTop (mkF m 14 #[.val (.ref a1), .val (.ref b3), .val (.ref b5), .val (.int (0 : Int32))] [(.ref a1), (.int (0 : Int32))])) _
    refine X5.arraylength hx (by rw [e5]; exact Aru6.1) (State.isArrayOf_alike hZ.alike Aru6.2.1) (g := (mkF m 14 #[.val (.ref a1), .val (.ref b3), .val (.ref b5), .val (.int (0 : Int32))] [(.ref a1), (.int (0 : Int32))])) rfl rfl (hb hby d1_14) _ ?_
    rw [len_of Su6 Mu6]
    show Steps p.tables e below (T5.setTop (mkF m 15 #[.val (.ref a1), .val (.ref b3), .val (.ref b5), .val (.int (0 : Int32))] [(.int (1 : Int32)), (.int (0 : Int32))])) _
    refine XS.icmpNo X5.here hx rfl (hb hby d1_15) rfl (tlt (by decide : (0 : Int32) < (1 : Int32))).2.1 ?_
    show Steps p.tables e below (T5.setTop (mkF m 18 #[.val (.ref a1), .val (.ref b3), .val (.ref b5), .val (.int (0 : Int32))] [])) _
    refine XS.aloadN X5.here hx rfl (hb hby d1_18) rfl rfl ?_
    show Steps p.tables e below (T5.setTop (mkF m 19 #[.val (.ref a1), .val (.ref b3), .val (.ref b5), .val (.int (0 : Int32))] [(.ref b3)])) _
    refine XS.iloadN X5.here hx rfl (hb hby d1_19) rfl ?_
    show Steps p.tables e below (T5.setTop (mkF m 20 #[.val (.ref a1), .val (.ref b3), .val (.ref b5), .val (.int (0 : Int32))] [(.int (0 : Int32)), (.ref b3)])) _
    refine XS.iloadN X5.here hx rfl (hb hby d1_20) rfl ?_
    show Steps p.tables e below (T5.setTop (mkF m 21 #[.val (.ref a1), .val (.ref b3), .val (.ref b5), .val (.int (0 : Int32))] [(.int (0 : Int32)), (.int (0 : Int32)), (.ref b3)])) _
    refine st8 _ ?_
    show Steps p.tables e below (T8.setTop (mkF m 22 #[.val (.ref a1), .val (.ref b3), .val (.ref b5), .val (.int (0 : Int32))] [])) _
    refine XS.aloadN X8.here hx rfl (hb hby d1_22) rfl rfl ?_
    show Steps p.tables e below (T8.setTop (mkF m 23 #[.val (.ref a1), .val (.ref b3), .val (.ref b5), .val (.int (0 : Int32))] [(.ref b5)])) _
    refine XS.iloadN X8.here hx rfl (hb hby d1_23) rfl ?_
    show Steps p.tables e below (T8.setTop (mkF m 24 #[.val (.ref a1), .val (.ref b3), .val (.ref b5), .val (.int (0 : Int32))] [(.int (0 : Int32)), (.ref b5)])) _
    refine XS.iloadN X8.here hx rfl (hb hby d1_24) rfl ?_
    show Steps p.tables e below (T8.setTop (mkF m 25 #[.val (.ref a1), .val (.ref b3), .val (.ref b5), .val (.int (0 : Int32))] [(.int (0 : Int32)), (.int (0 : Int32)), (.ref b5)])) _
    refine XS.iconst X8.here hx rfl (hb hby d1_25) ?_
    show Steps p.tables e below (T8.setTop (mkF m 26 #[.val (.ref a1), .val (.ref b3), .val (.ref b5), .val (.int (0 : Int32))] [(.int (1 : Int32)), (.int (0 : Int32)), (.int (0 : Int32)), (.ref b5)])) _
    refine XS.iadd X8.here hx rfl (hb hby d1_26) rfl ?_
    show Steps p.tables e below (T8.setTop (mkF m 27 #[.val (.ref a1), .val (.ref b3), .val (.ref b5), .val (.int (0 : Int32))] [(.int (1 : Int32)), (.int (0 : Int32)), (.ref b5)])) _
    refine st10 _ ?_
    show Steps p.tables e below (T10.setTop (mkF m 28 #[.val (.ref a1), .val (.ref b3), .val (.ref b5), .val (.int (0 : Int32))] [])) _
    refine XS.iinc X10.here hx rfl (hb hby d1_28) rfl (l' := #[.val (.ref a1), .val (.ref b3), .val (.ref b5), .val (.int (1 : Int32))]) rfl ?_
    show Steps p.tables e below (T10.setTop (mkF m 31 #[.val (.ref a1), .val (.ref b3), .val (.ref b5), .val (.int (1 : Int32))] [])) _
    refine XS.goto X10.here hx rfl (pc0 := 31) (pc' := 12) rfl (hb hby d1_31) (by decide) (by decide) ?_
    show Steps p.tables e below (T10.setTop (mkF m 12 #[.val (.ref a1), .val (.ref b3), .val (.ref b5), .val (.int (1 : Int32))] [])) _
    refine XS.iloadN X10.here hx rfl (hb hby d1_12) rfl ?_
    show Steps p.tables e below (T10.setTop (mkF m 13 #[.val (.ref a1), .val (.ref b3), .val (.ref b5), .val (.int (1 : Int32))] [(.int (1 : Int32))])) _
    refine XS.aloadN X10.here hx rfl (hb hby d1_13) rfl rfl ?_
    show Steps p.tables e below (T10.setTop (mkF m 14 #[.val (.ref a1), .val (.ref b3), .val (.ref b5), .val (.int (1 : Int32))] [(.ref a1), (.int (1 : Int32))])) _
    refine X10.arraylength hx (by rw [e10]; exact Aru11.1) (State.isArrayOf_alike hZ.alike Aru11.2.1) (g := (mkF m 14 #[.val (.ref a1), .val (.ref b3), .val (.ref b5), .val (.int (1 : Int32))] [(.ref a1), (.int (1 : Int32))])) rfl rfl (hb hby d1_14) _ ?_
    rw [len_of Su11 Mu11]
    show Steps p.tables e below (T10.setTop (mkF m 15 #[.val (.ref a1), .val (.ref b3), .val (.ref b5), .val (.int (1 : Int32))] [(.int (1 : Int32)), (.int (1 : Int32))])) _
    refine XS.icmpYes X10.here hx rfl (pc0 := 15) (pc' := 34) rfl (hb hby d1_15) rfl (flt (by decide : ¬ ((1 : Int32) < (1 : Int32)))).2.1 (by decide) (by decide) ?_
    show Steps p.tables e below (T10.setTop (mkF m 34 #[.val (.ref a1), .val (.ref b3), .val (.ref b5), .val (.int (1 : Int32))] [])) _
    refine st12 _ ?_
    show Steps p.tables e below (T12.setTop (mkF m 37 #[.val (.ref a1), .val (.ref b3), .val (.ref b5), .val (.int (1 : Int32))] [(.ref b12)])) _
    refine XS.dup X12.here hx rfl (hb hby d1_37) rfl rfl ?_
    show Steps p.tables e below (T12.setTop (mkF m 38 #[.val (.ref a1), .val (.ref b3), .val (.ref b5), .val (.int (1 : Int32))] [(.ref b12), (.ref b12)])) _
    refine XS.aloadN X12.here hx rfl (hb hby d1_38) rfl rfl ?_
    show Steps p.tables e below (T12.setTop (mkF m 39 #[.val (.ref a1), .val (.ref b3), .val (.ref b5), .val (.int (1 : Int32))] [(.ref a1), (.ref b12), (.ref b12)])) _
    refine XS.aloadN X12.here hx rfl (hb hby d1_39) rfl rfl ?_
    show Steps p.tables e below (T12.setTop (mkF m 40 #[.val (.ref a1), .val (.ref b3), .val (.ref b5), .val (.int (1 : Int32))] [(.ref b3), (.ref a1), (.ref b12), (.ref b12)])) _
    refine XS.aloadN X12.here hx rfl (hb hby d1_40) rfl rfl ?_
    show Steps p.tables e below (T12.setTop (mkF m 41 #[.val (.ref a1), .val (.ref b3), .val (.ref b5), .val (.int (1 : Int32))] [(.ref b5), (.ref b3), (.ref a1), (.ref b12), (.ref b12)])) _
    refine XS.aloadN X12.here hx rfl (hb hby d1_41) rfl rfl ?_
    show Steps p.tables e below (T12.setTop (mkF m 42 #[.val (.ref a1), .val (.ref b3), .val (.ref b5), .val (.int (1 : Int32))] [(.ref a1), (.ref b5), (.ref b3), (.ref a1), (.ref b12), (.ref b12)])) _
    refine X12.arraylength hx (by rw [e12]; exact Aru13.1) (State.isArrayOf_alike hZ.alike Aru13.2.1) (g := (mkF m 42 #[.val (.ref a1), .val (.ref b3), .val (.ref b5), .val (.int (1 : Int32))] [(.ref a1), (.ref b5), (.ref b3), (.ref a1), (.ref b12), (.ref b12)])) rfl rfl (hb hby d1_42) _ ?_
    rw [len_of Su13 Mu13]
    show Steps p.tables e below (T12.setTop (mkF m 43 #[.val (.ref a1), .val (.ref b3), .val (.ref b5), .val (.int (1 : Int32))] [(.int (1 : Int32)), (.ref b5), (.ref b3), (.ref a1), (.ref b12), (.ref b12)])) _
    refine st14 _ ?_
    show Steps p.tables e below (T14.setTop (mkF m 45 #[.val (.ref a1), .val (.ref b3), .val (.ref b5), .val (.int (1 : Int32))] [(.ref b14), (.ref b5), (.ref b3), (.ref a1), (.ref b12), (.ref b12)])) _
    refine XS.aloadN X14.here hx rfl (hb hby d1_45) rfl rfl ?_
    show Steps p.tables e below (T14.setTop (mkF m 46 #[.val (.ref a1), .val (.ref b3), .val (.ref b5), .val (.int (1 : Int32))] [(.ref a1), (.ref b14), (.ref b5), (.ref b3), (.ref a1), (.ref b12), (.ref b12)])) _
    refine X14.arraylength hx (by rw [e14]; exact Aru15.1) (State.isArrayOf_alike hZ.alike Aru15.2.1) (g := (mkF m 46 #[.val (.ref a1), .val (.ref b3), .val (.ref b5), .val (.int (1 : Int32))] [(.ref a1), (.ref b14), (.ref b5), (.ref b3), (.ref a1), (.ref b12), (.ref b12)])) rfl rfl (hb hby d1_46) _ ?_
    rw [len_of Su15 Mu15]
    show Steps p.tables e below (T14.setTop (mkF m 47 #[.val (.ref a1), .val (.ref b3), .val (.ref b5), .val (.int (1 : Int32))] [(.int (1 : Int32)), (.ref b14), (.ref b5), (.ref b3), (.ref a1), (.ref b12), (.ref b12)])) _
    refine st16.trans ?_
    show Steps p.tables e below (T16.setTop (mkF m 50 #[.val (.ref a1), .val (.ref b3), .val (.ref b5), .val (.int (1 : Int32))] [(.ref b12)])) _
    jvm_step X16.here [X16.here.top, hx, (hb hby d1_50), X16.method', Bd.returns, Value.isRef, FieldType.isReference]
    first | (intro acts; rw [hr _ acts rfl rfl rfl]) | rw [hr _ _ rfl rfl rfl]
    exact Steps.refl _
  · show QO1 Z a1 h0 n0 _ T16.heap _
    rw [e16]
    exact ⟨b12, b3, b5, b14, k3, k5, k14, rfl, N16, K16, xE16, x_units16, x_from16, x_to16, x_separator16, x_length16, V_b3_16, V_b5_16, V_b14_16⟩
def QO2 (Z : State) (a1 : Addr) (h0 : Heap) (n0 : Nat) (v : Option Value) (h : Heap) (L : List Loc) : Prop := ∃ (b bf bt bs : Addr) (kf kt ks : ClassId), v = some (.ref b) ∧ Fr n0 L ∧ Keep h0 h [] ∧ Exa Z h b "com/example/words_to_verdict/wordstoverdict/match/FoldedText" ∧ Fld Z h b "com/example/words_to_verdict/wordstoverdict/match/FoldedText" "_units" "[I" (.ref a1) ∧ Fld Z h b "com/example/words_to_verdict/wordstoverdict/match/FoldedText" "_from" "[I" (.ref bf) ∧ Fld Z h b "com/example/words_to_verdict/wordstoverdict/match/FoldedText" "_to" "[I" (.ref bt) ∧ Fld Z h b "com/example/words_to_verdict/wordstoverdict/match/FoldedText" "_separator" "[Z" (.ref bs) ∧ Fld Z h b "com/example/words_to_verdict/wordstoverdict/match/FoldedText" "_length" "I" (.int (2 : Int32)) ∧ Arv Z h bf kf .int (2 : Int32) [(.int (0 : Int32)), (.int (1 : Int32))] (.int (0 : Int32)) ∧ Arv Z h bt kt .int (2 : Int32) [(.int (1 : Int32)), (.int (2 : Int32))] (.int (0 : Int32)) ∧ Arv Z h bs ks .boolean (2 : Int32) [(.int (0 : Int32)), (.int (0 : Int32))] (.int (0 : Int32))
set_option maxRecDepth 65536 in
set_option maxHeartbeats 40000000 in
theorem rmO2 (l : Launch) (Z : State) (a0 : Array Value) (hw : ∀ d ∈ tables_1, d.before a0 Z = true) (ws : List Jvm.Cond) (a1 : Addr) (kA : ClassId) (v0 : Int32) (v1 : Int32) (h0 : Heap) (n0 : Nat) (Z0 : n0 ≤ h0.size) (V_a1 : Arv Z h0 a1 kA .int (2 : Int32) [(.int v0), (.int v1)] (.int (0 : Int32))) :
    MetFree l (⟨"com/example/words_to_verdict/wordstoverdict/match/FoldedText", "of", "([I)Lcom/example/words_to_verdict/wordstoverdict/match/FoldedText;"⟩ : MethodName) (head1 (Jvm.Cond.code (⟨"com/example/words_to_verdict/wordstoverdict/match/FoldedText", "of", "([I)Lcom/example/words_to_verdict/wordstoverdict/match/FoldedText;"⟩ : MethodName) prog_24_method_2_code 4 (some (.object "com/example/words_to_verdict/wordstoverdict/match/FoldedText")) :: ws) ({ frames := 2, cells := 4, slots := 11, locals := 30 } : Room)) (fun a U => a = #[(.ref a1)] ∧ Z.Warmed39 U.vm ∧ U.heap = h0) (fun _ _ _ _ _ => True) (fun _ U o U' => ∃ v L, o = .returned v ∧ QO2 Z a1 h0 n0 v U'.heap L ∧ FrameEnd U o U' L ({ frames := 2, cells := 4, slots := 11, locals := 30 } : Room).cells ({ frames := 2, cells := 4, slots := 11, locals := 30 } : Room).slots) := by
  refine MetFree.of_bodySF (plainFor_of_name pn_1) hisR ?_
  intro p e s m args below meth c s₁ Bd hml0 hP hK
  obtain ⟨rfl, hZ, hh⟩ := hP
  have hx := Bd.exec
  have hby := Bd.bytes
  have hml : c.maxLocals = 4 := hml0
  have hown : s.vm.findClass "com/example/words_to_verdict/wordstoverdict/match/FoldedText" = some m.cls := findClass_of_methodNamed Bd.named
  have hnm := (name_of_methodNamed Bd.named Bd.method).1
  have X0 : Stand p l e ({ frames := 2, cells := 4, slots := 11, locals := 30 } : Room) s m #[(.ref a1)] below meth c s₁ [] 0 0 := Stand.of_body Bd
  have e0 : s₁.heap = h0 := by rw [← hh, Bd.state]; rfl
  have N0 := Fr.nil n0
  have pre0 : ∀ t, Steps p.tables e below (s₁.setTop (mkF m 0 #[.val (.ref a1), .unset, .unset, .unset] [])) t → Steps p.tables e below (s₁.setTop (entryFrame m #[(.ref a1)] 4)) t := fun t k => castTop (ef_1 m a1) k
  have K0 : Keep h0 h0 [] := Keep.refl _ _
  obtain ⟨clu2, Aru2, -, Su2, Mu2, -, -⟩ := id V_a1
  obtain ⟨T3, h3, k3, X3, e3, E3, A3, st3⟩ := newP X0 hx hZ (hw _ (List.mem_of_getElem? (i := 1) rfl)) e0 (g := (mkF m 2 #[.val (.ref a1), .unset, .unset, .unset] [(.int (2 : Int32))])) rfl (hb hby d1_2) rfl (by decide) (cap := 2) (by decide) (by decide) (by decide) (by decide)
  obtain ⟨b3, g3⟩ : ∃ z, z = h0.size := ⟨_, rfl⟩
  rw [← g3] at A3 st3
  have ne_a1_b3 : a1 ≠ b3 := Nat.ne_of_lt (Nat.lt_of_lt_of_le V_a1.lt (Nat.le_of_eq g3.symm))
  have g_b3 : n0 ≤ b3 := Nat.le_trans Z0 (Nat.le_of_eq g3.symm)
  have sz_b3 : h0.size ≤ b3 := Nat.le_of_eq g3.symm
  have s0_b3 : h0.size ≤ b3 := Nat.le_trans K0.1 (Nat.le_of_eq g3.symm)
  have V_a1_3 := V_a1.ext E3
  have SZ3 : n0 ≤ h3.size := Nat.le_trans Z0 E3.1
  have K3 := K0.ext E3
  have V_b3 : Arv Z h3 b3 k3 .int (2 : Int32) [(.int (0 : Int32)), (.int (0 : Int32))] (.int (0 : Int32)) := (Arv.new A3 (by decide)).pad (pad_rep [] (.int (0 : Int32)) 2)
  obtain ⟨clu4, Aru4, -, Su4, Mu4, -, -⟩ := id V_a1_3
  obtain ⟨T5, h5, k5, X5, e5, E5, A5, st5⟩ := newP X3 hx hZ (hw _ (List.mem_of_getElem? (i := 1) rfl)) e3 (g := (mkF m 7 #[.val (.ref a1), .val (.ref b3), .unset, .unset] [(.int (2 : Int32))])) rfl (hb hby d1_7) rfl (by decide) (cap := 2) (by decide) (by decide) (by decide) (by decide)
  obtain ⟨b5, g5⟩ : ∃ z, z = h3.size := ⟨_, rfl⟩
  rw [← g5] at A5 st5
  have ne_a1_b5 : a1 ≠ b5 := Nat.ne_of_lt (Nat.lt_of_lt_of_le V_a1_3.lt (Nat.le_of_eq g5.symm))
  have ne_b3_b5 : b3 ≠ b5 := Nat.ne_of_lt (Nat.lt_of_lt_of_le V_b3.lt (Nat.le_of_eq g5.symm))
  have g_b5 : n0 ≤ b5 := Nat.le_trans SZ3 (Nat.le_of_eq g5.symm)
  have sz_b5 : h3.size ≤ b5 := Nat.le_of_eq g5.symm
  have s0_b5 : h0.size ≤ b5 := Nat.le_trans K3.1 (Nat.le_of_eq g5.symm)
  have V_a1_5 := V_a1_3.ext E5
  have V_b3_5 := V_b3.ext E5
  have SZ5 : n0 ≤ h5.size := Nat.le_trans SZ3 E5.1
  have K5 := K3.ext E5
  have V_b5 : Arv Z h5 b5 k5 .int (2 : Int32) [(.int (0 : Int32)), (.int (0 : Int32))] (.int (0 : Int32)) := (Arv.new A5 (by decide)).pad (pad_rep [] (.int (0 : Int32)) 2)
  obtain ⟨clu6, Aru6, -, Su6, Mu6, -, -⟩ := id V_a1_5
  obtain ⟨clu7, Aru7, qu7, Su7, Mu7, Hu7, Gu7⟩ := id V_b3_5
  have hinu7 : ¬ ((0 : Int32) < 0 ∨ clu7.slots.size ≤ ((0 : Int32)).toNatClampNeg) := inb_of Su7 ⟨by decide, by decide⟩
  obtain ⟨T8, h8, X8, e8, W8, st8⟩ := stI X5 hx hZ e5 Aru7 (j := (0 : Int32)) hinu7 (g := (mkF m 21 #[.val (.ref a1), .val (.ref b3), .val (.ref b5), .val (.int (0 : Int32))] [(.int (0 : Int32)), (.int (0 : Int32)), (.ref b3)])) rfl rfl (hb hby d1_21)
  have V_a1_8 := V_a1_5.other W8 ne_a1_b3
  have V_b5_8 := V_b5.other W8 (Ne.symm ne_b3_b5)
  have SZ8 : n0 ≤ h8.size := by rw [W8.size]; exact SZ5
  have K8 := K5.wr W8 (Or.inr s0_b3)
  have N8 := Fr.snoc X8 N0 g_b3
  have V_b3_8 : Arv Z h8 b3 k3 .int (2 : Int32) [(.int (0 : Int32)), (.int (0 : Int32))] (.int (0 : Int32)) := Arv.set Aru7 qu7 Su7 Mu7 Hu7 Gu7 rfl W8 0 rfl (Nat.le_of_ble_eq_true rfl)
  obtain ⟨clu9, Aru9, qu9, Su9, Mu9, Hu9, Gu9⟩ := id V_b5_8
  have hinu9 : ¬ ((0 : Int32) < 0 ∨ clu9.slots.size ≤ ((0 : Int32)).toNatClampNeg) := inb_of Su9 ⟨by decide, by decide⟩
  obtain ⟨T10, h10, X10, e10, W10, st10⟩ := stI X8 hx hZ e8 Aru9 (j := (0 : Int32)) hinu9 (g := (mkF m 27 #[.val (.ref a1), .val (.ref b3), .val (.ref b5), .val (.int (0 : Int32))] [(.int (1 : Int32)), (.int (0 : Int32)), (.ref b5)])) rfl rfl (hb hby d1_27)
  have V_a1_10 := V_a1_8.other W10 ne_a1_b5
  have V_b3_10 := V_b3_8.other W10 ne_b3_b5
  have SZ10 : n0 ≤ h10.size := by rw [W10.size]; exact SZ8
  have K10 := K8.wr W10 (Or.inr s0_b5)
  have N10 := Fr.snoc X10 N8 g_b5
  have V_b5_10 : Arv Z h10 b5 k5 .int (2 : Int32) [(.int (1 : Int32)), (.int (0 : Int32))] (.int (0 : Int32)) := Arv.set Aru9 qu9 Su9 Mu9 Hu9 Gu9 rfl W10 0 rfl (Nat.le_of_ble_eq_true rfl)
  obtain ⟨clu11, Aru11, -, Su11, Mu11, -, -⟩ := id V_a1_10
  obtain ⟨clu12, Aru12, qu12, Su12, Mu12, Hu12, Gu12⟩ := id V_b3_10
  have hinu12 : ¬ ((1 : Int32) < 0 ∨ clu12.slots.size ≤ ((1 : Int32)).toNatClampNeg) := inb_of Su12 ⟨by decide, by decide⟩
  obtain ⟨T13, h13, X13, e13, W13, st13⟩ := stI X10 hx hZ e10 Aru12 (j := (1 : Int32)) hinu12 (g := (mkF m 21 #[.val (.ref a1), .val (.ref b3), .val (.ref b5), .val (.int (1 : Int32))] [(.int (1 : Int32)), (.int (1 : Int32)), (.ref b3)])) rfl rfl (hb hby d1_21)
  have V_a1_13 := V_a1_10.other W13 ne_a1_b3
  have V_b5_13 := V_b5_10.other W13 (Ne.symm ne_b3_b5)
  have SZ13 : n0 ≤ h13.size := by rw [W13.size]; exact SZ10
  have K13 := K10.wr W13 (Or.inr s0_b3)
  have N13 := Fr.snoc X13 N10 g_b3
  have V_b3_13 : Arv Z h13 b3 k3 .int (2 : Int32) [(.int (0 : Int32)), (.int (1 : Int32))] (.int (0 : Int32)) := Arv.set Aru12 qu12 Su12 Mu12 Hu12 Gu12 rfl W13 1 rfl (Nat.le_of_ble_eq_true rfl)
  obtain ⟨clu14, Aru14, qu14, Su14, Mu14, Hu14, Gu14⟩ := id V_b5_13
  have hinu14 : ¬ ((1 : Int32) < 0 ∨ clu14.slots.size ≤ ((1 : Int32)).toNatClampNeg) := inb_of Su14 ⟨by decide, by decide⟩
  obtain ⟨T15, h15, X15, e15, W15, st15⟩ := stI X13 hx hZ e13 Aru14 (j := (1 : Int32)) hinu14 (g := (mkF m 27 #[.val (.ref a1), .val (.ref b3), .val (.ref b5), .val (.int (1 : Int32))] [(.int (2 : Int32)), (.int (1 : Int32)), (.ref b5)])) rfl rfl (hb hby d1_27)
  have V_a1_15 := V_a1_13.other W15 ne_a1_b5
  have V_b3_15 := V_b3_13.other W15 ne_b3_b5
  have SZ15 : n0 ≤ h15.size := by rw [W15.size]; exact SZ13
  have K15 := K13.wr W15 (Or.inr s0_b5)
  have N15 := Fr.snoc X15 N13 g_b5
  have V_b5_15 : Arv Z h15 b5 k5 .int (2 : Int32) [(.int (1 : Int32)), (.int (2 : Int32))] (.int (0 : Int32)) := Arv.set Aru14 qu14 Su14 Mu14 Hu14 Gu14 rfl W15 1 rfl (Nat.le_of_ble_eq_true rfl)
  obtain ⟨clu16, Aru16, -, Su16, Mu16, -, -⟩ := id V_a1_15
  obtain ⟨T17, h17, X17, e17, E17, A17, D17, -, st17⟩ := newO X15 hx hZ hown (hw _ (List.mem_of_getElem? (i := 6) rfl)) (hw _ (List.mem_of_getElem? (i := 7) rfl)) (hw _ (List.mem_of_getElem? (i := 4) rfl)) e15 (g := (mkF m 34 #[.val (.ref a1), .val (.ref b3), .val (.ref b5), .val (.int (2 : Int32))] [])) rfl (hb hby d1_34) (by decide) (by decide)
  obtain ⟨b17, g17⟩ : ∃ z, z = h15.size := ⟨_, rfl⟩
  rw [← g17] at A17 D17 st17
  have ne_a1_b17 : a1 ≠ b17 := Nat.ne_of_lt (Nat.lt_of_lt_of_le V_a1_15.lt (Nat.le_of_eq g17.symm))
  have ne_b3_b17 : b3 ≠ b17 := Nat.ne_of_lt (Nat.lt_of_lt_of_le V_b3_15.lt (Nat.le_of_eq g17.symm))
  have ne_b5_b17 : b5 ≠ b17 := Nat.ne_of_lt (Nat.lt_of_lt_of_le V_b5_15.lt (Nat.le_of_eq g17.symm))
  have g_b17 : n0 ≤ b17 := Nat.le_trans SZ15 (Nat.le_of_eq g17.symm)
  have sz_b17 : h15.size ≤ b17 := Nat.le_of_eq g17.symm
  have s0_b17 : h0.size ≤ b17 := Nat.le_trans K15.1 (Nat.le_of_eq g17.symm)
  have V_a1_17 := V_a1_15.ext E17
  have V_b3_17 := V_b3_15.ext E17
  have V_b5_17 := V_b5_15.ext E17
  have SZ17 : n0 ≤ h17.size := Nat.le_trans SZ15 E17.1
  have K17 := K15.ext E17
  have E_b17 := A17
  have F__units_b17 : Fld Z h17 b17 "com/example/words_to_verdict/wordstoverdict/match/FoldedText" "_units" "[I" .null := D17 (Or.inr (hw _ (List.mem_of_getElem? (i := 16) rfl))) (ty := (.array .int)) (by decide)
  have F__from_b17 : Fld Z h17 b17 "com/example/words_to_verdict/wordstoverdict/match/FoldedText" "_from" "[I" .null := D17 (Or.inr (hw _ (List.mem_of_getElem? (i := 18) rfl))) (ty := (.array .int)) (by decide)
  have F__to_b17 : Fld Z h17 b17 "com/example/words_to_verdict/wordstoverdict/match/FoldedText" "_to" "[I" .null := D17 (Or.inr (hw _ (List.mem_of_getElem? (i := 20) rfl))) (ty := (.array .int)) (by decide)
  have F__separator_b17 : Fld Z h17 b17 "com/example/words_to_verdict/wordstoverdict/match/FoldedText" "_separator" "[Z" .null := D17 (Or.inr (hw _ (List.mem_of_getElem? (i := 22) rfl))) (ty := (.array .boolean)) (by decide)
  have F__length_b17 : Fld Z h17 b17 "com/example/words_to_verdict/wordstoverdict/match/FoldedText" "_length" "I" (.int (0 : Int32)) := D17 (Or.inr (hw _ (List.mem_of_getElem? (i := 24) rfl))) (ty := .int) (by decide)
  obtain ⟨clu18, Aru18, -, Su18, Mu18, -, -⟩ := id V_a1_17
  obtain ⟨T19, h19, k19, X19, e19, E19, A19, st19⟩ := newP X17 hx hZ (hw _ (List.mem_of_getElem? (i := 8) rfl)) e17 (g := (mkF m 43 #[.val (.ref a1), .val (.ref b3), .val (.ref b5), .val (.int (2 : Int32))] [(.int (2 : Int32)), (.ref b5), (.ref b3), (.ref a1), (.ref b17), (.ref b17)])) rfl (hb hby d1_43) rfl (by decide) (cap := 2) (by decide) (by decide) (by decide) (by decide)
  obtain ⟨b19, g19⟩ : ∃ z, z = h17.size := ⟨_, rfl⟩
  rw [← g19] at A19 st19
  have ne_a1_b19 : a1 ≠ b19 := Nat.ne_of_lt (Nat.lt_of_lt_of_le V_a1_17.lt (Nat.le_of_eq g19.symm))
  have ne_b3_b19 : b3 ≠ b19 := Nat.ne_of_lt (Nat.lt_of_lt_of_le V_b3_17.lt (Nat.le_of_eq g19.symm))
  have ne_b5_b19 : b5 ≠ b19 := Nat.ne_of_lt (Nat.lt_of_lt_of_le V_b5_17.lt (Nat.le_of_eq g19.symm))
  have ne_b17_b19 : b17 ≠ b19 := Nat.ne_of_lt (Nat.lt_of_lt_of_le E_b17.lt (Nat.le_of_eq g19.symm))
  have g_b19 : n0 ≤ b19 := Nat.le_trans SZ17 (Nat.le_of_eq g19.symm)
  have sz_b19 : h17.size ≤ b19 := Nat.le_of_eq g19.symm
  have s0_b19 : h0.size ≤ b19 := Nat.le_trans K17.1 (Nat.le_of_eq g19.symm)
  have V_a1_19 := V_a1_17.ext E19
  have V_b3_19 := V_b3_17.ext E19
  have V_b5_19 := V_b5_17.ext E19
  have E_b17_19 := E_b17.ext E19
  have F__units_b17_19 := F__units_b17.ext E19
  have F__from_b17_19 := F__from_b17.ext E19
  have F__to_b17_19 := F__to_b17.ext E19
  have F__separator_b17_19 := F__separator_b17.ext E19
  have F__length_b17_19 := F__length_b17.ext E19
  have SZ19 : n0 ≤ h19.size := Nat.le_trans SZ17 E19.1
  have K19 := K17.ext E19
  have V_b19 : Arv Z h19 b19 k19 .boolean (2 : Int32) [(.int (0 : Int32)), (.int (0 : Int32))] (.int (0 : Int32)) := (Arv.new A19 (by decide)).pad (pad_rep [] (.int (0 : Int32)) 2)
  obtain ⟨clu20, Aru20, -, Su20, Mu20, -, -⟩ := id V_a1_19
  obtain ⟨_, _, ⟨T21, L21, k21, n21⟩, -, X21, ⟨Lc21, hQ21, l21, y21, z21⟩, st21⟩ := X19.specialBack hx (y := (⟨"com/example/words_to_verdict/wordstoverdict/match/FoldedText", "<init>", "([I[I[I[ZI)V"⟩ : MethodName)) rfl hown (mvT hZ (hw _ (List.mem_of_getElem? (i := 9) rfl))) (mvT hZ (hw _ (List.mem_of_getElem? (i := 10) rfl))) (mvT hZ (hw _ (List.mem_of_getElem? (i := 11) rfl))) (by decide) (backOf (W := 1) (rmC l Z a0 hw [] b17 a1 b3 b5 b19 (2 : Int32) h19 n0 SZ19 (E_b17_19) (F__units_b17_19) (F__from_b17_19) (F__to_b17_19) (F__separator_b17_19) (F__length_b17_19) (g_b17)) hZ (hw _ (List.mem_of_getElem? (i := 11) rfl)) (hw _ (List.mem_of_getElem? (i := 4) rfl)) (by decide) (by decide)) (g := (mkF m 47 #[.val (.ref a1), .val (.ref b3), .val (.ref b5), .val (.int (2 : Int32))] [(.int (2 : Int32)), (.ref b19), (.ref b5), (.ref b3), (.ref a1), (.ref b17), (.ref b17)])) rfl (by rw [hml]; rfl) (Steps.refl _) (a := b17) (argsL := [(.ref a1), (.ref b3), (.ref b5), (.ref b19), (.int (2 : Int32))]) (rest := [(.ref b17)]) (lenOf pd_0 rfl) rfl (by show 2 * 0 + _ ≤ _; exact Nat.le_of_eq rfl) (hb hby d1_47) (fun _ _ => ⟨rfl, e19, (by decide : 4 + 0 ≤ _), (by decide : 11 + 0 ≤ _)⟩)
  dsimp only [Pt.U, Pt.locs, Pt.cells, Pt.slots] at X21 l21 y21 z21 st21 hQ21
  subst l21 y21 z21
  have e21 : T21.heap = T21.heap := rfl
  obtain ⟨rfl, N21q, KK21, xE21, x_units21, x_from21, x_to21, x_separator21, x_length21⟩ := hQ21
  have N21 := Fr.app N15 N21q
  have V_a1_21 := V_a1_19.keep KK21 (ninS ne_a1_b17 nin0)
  have V_b3_21 := V_b3_19.keep KK21 (ninS ne_b3_b17 nin0)
  have V_b5_21 := V_b5_19.keep KK21 (ninS ne_b5_b17 nin0)
  have E_b17_21 := E_b17_19.keep KK21
  have V_b19_21 := V_b19.keep KK21 (ninS (Ne.symm ne_b17_b19) nin0)
  have SZ21 : n0 ≤ T21.heap.size := Nat.le_trans SZ19 KK21.1
  have K21 := Keep.trans K19 KK21 (allS (Or.inr s0_b17) all0)
  obtain ⟨fs, hr, hrun, hended, hW, hsame⟩ := X21.leave (v := some (.ref b17)) (fun h => by rw [Bd.returns] at h; cases h)
  refine ⟨_, _, pre0 _ ?_, hrun, hended, _, _, rfl, ?_, ⟨_, rfl⟩, hW, hsame.mono (by decide) (by decide)⟩
  · show Steps p.tables e below (s₁.setTop (mkF m 0 #[.val (.ref a1), .unset, .unset, .unset] [])) _
    refine XS.aloadN X0.here hx rfl (hb hby d1_0) rfl rfl ?_
    show Steps p.tables e below (s₁.setTop (mkF m 1 #[.val (.ref a1), .unset, .unset, .unset] [(.ref a1)])) _
    refine X0.arraylength hx (by rw [e0]; exact Aru2.1) (State.isArrayOf_alike hZ.alike Aru2.2.1) (g := (mkF m 1 #[.val (.ref a1), .unset, .unset, .unset] [(.ref a1)])) rfl rfl (hb hby d1_1) _ ?_
    rw [len_of Su2 Mu2]
    show Steps p.tables e below (s₁.setTop (mkF m 2 #[.val (.ref a1), .unset, .unset, .unset] [(.int (2 : Int32))])) _
    refine st3 _ ?_
    show Steps p.tables e below (T3.setTop (mkF m 4 #[.val (.ref a1), .unset, .unset, .unset] [(.ref b3)])) _
    refine XS.astoreN X3.here hx rfl (hb hby d1_4) rfl rfl (l' := #[.val (.ref a1), .val (.ref b3), .unset, .unset]) rfl ?_
    show Steps p.tables e below (T3.setTop (mkF m 5 #[.val (.ref a1), .val (.ref b3), .unset, .unset] [])) _
    refine XS.aloadN X3.here hx rfl (hb hby d1_5) rfl rfl ?_
    show Steps p.tables e below (T3.setTop (mkF m 6 #[.val (.ref a1), .val (.ref b3), .unset, .unset] [(.ref a1)])) _
    refine X3.arraylength hx (by rw [e3]; exact Aru4.1) (State.isArrayOf_alike hZ.alike Aru4.2.1) (g := (mkF m 6 #[.val (.ref a1), .val (.ref b3), .unset, .unset] [(.ref a1)])) rfl rfl (hb hby d1_6) _ ?_
    rw [len_of Su4 Mu4]
    show Steps p.tables e below (T3.setTop (mkF m 7 #[.val (.ref a1), .val (.ref b3), .unset, .unset] [(.int (2 : Int32))])) _
    refine st5 _ ?_
    show Steps p.tables e below (T5.setTop (mkF m 9 #[.val (.ref a1), .val (.ref b3), .unset, .unset] [(.ref b5)])) _
    refine XS.astoreN X5.here hx rfl (hb hby d1_9) rfl rfl (l' := #[.val (.ref a1), .val (.ref b3), .val (.ref b5), .unset]) rfl ?_
    show Steps p.tables e below (T5.setTop (mkF m 10 #[.val (.ref a1), .val (.ref b3), .val (.ref b5), .unset] [])) _
    refine XS.iconst X5.here hx rfl (hb hby d1_10) ?_
    show Steps p.tables e below (T5.setTop (mkF m 11 #[.val (.ref a1), .val (.ref b3), .val (.ref b5), .unset] [(.int (0 : Int32))])) _
    refine XS.istoreN X5.here hx rfl (hb hby d1_11) rfl (l' := #[.val (.ref a1), .val (.ref b3), .val (.ref b5), .val (.int (0 : Int32))]) rfl ?_
    show Steps p.tables e below (T5.setTop (mkF m 12 #[.val (.ref a1), .val (.ref b3), .val (.ref b5), .val (.int (0 : Int32))] [])) _
    refine XS.iloadN X5.here hx rfl (hb hby d1_12) rfl ?_
    show Steps p.tables e below (T5.setTop (mkF m 13 #[.val (.ref a1), .val (.ref b3), .val (.ref b5), .val (.int (0 : Int32))] [(.int (0 : Int32))])) _
    refine XS.aloadN X5.here hx rfl (hb hby d1_13) rfl rfl ?_
    show Steps p.tables e below (T5.setTop (mkF m 14 #[.val (.ref a1), .val (.ref b3), .val (.ref b5), .val (.int (0 : Int32))] [(.ref a1), (.int (0 : Int32))])) _
    refine X5.arraylength hx (by rw [e5]; exact Aru6.1) (State.isArrayOf_alike hZ.alike Aru6.2.1) (g := (mkF m 14 #[.val (.ref a1), .val (.ref b3), .val (.ref b5), .val (.int (0 : Int32))] [(.ref a1), (.int (0 : Int32))])) rfl rfl (hb hby d1_14) _ ?_
    rw [len_of Su6 Mu6]
    show Steps p.tables e below (T5.setTop (mkF m 15 #[.val (.ref a1), .val (.ref b3), .val (.ref b5), .val (.int (0 : Int32))] [(.int (2 : Int32)), (.int (0 : Int32))])) _
    refine XS.icmpNo X5.here hx rfl (hb hby d1_15) rfl (tlt (by decide : (0 : Int32) < (2 : Int32))).2.1 ?_
    show Steps p.tables e below (T5.setTop (mkF m 18 #[.val (.ref a1), .val (.ref b3), .val (.ref b5), .val (.int (0 : Int32))] [])) _
    refine XS.aloadN X5.here hx rfl (hb hby d1_18) rfl rfl ?_
    show Steps p.tables e below (T5.setTop (mkF m 19 #[.val (.ref a1), .val (.ref b3), .val (.ref b5), .val (.int (0 : Int32))] [(.ref b3)])) _
    refine XS.iloadN X5.here hx rfl (hb hby d1_19) rfl ?_
    show Steps p.tables e below (T5.setTop (mkF m 20 #[.val (.ref a1), .val (.ref b3), .val (.ref b5), .val (.int (0 : Int32))] [(.int (0 : Int32)), (.ref b3)])) _
    refine XS.iloadN X5.here hx rfl (hb hby d1_20) rfl ?_
    show Steps p.tables e below (T5.setTop (mkF m 21 #[.val (.ref a1), .val (.ref b3), .val (.ref b5), .val (.int (0 : Int32))] [(.int (0 : Int32)), (.int (0 : Int32)), (.ref b3)])) _
    refine st8 _ ?_
    show Steps p.tables e below (T8.setTop (mkF m 22 #[.val (.ref a1), .val (.ref b3), .val (.ref b5), .val (.int (0 : Int32))] [])) _
    refine XS.aloadN X8.here hx rfl (hb hby d1_22) rfl rfl ?_
    show Steps p.tables e below (T8.setTop (mkF m 23 #[.val (.ref a1), .val (.ref b3), .val (.ref b5), .val (.int (0 : Int32))] [(.ref b5)])) _
    refine XS.iloadN X8.here hx rfl (hb hby d1_23) rfl ?_
    show Steps p.tables e below (T8.setTop (mkF m 24 #[.val (.ref a1), .val (.ref b3), .val (.ref b5), .val (.int (0 : Int32))] [(.int (0 : Int32)), (.ref b5)])) _
    refine XS.iloadN X8.here hx rfl (hb hby d1_24) rfl ?_
    show Steps p.tables e below (T8.setTop (mkF m 25 #[.val (.ref a1), .val (.ref b3), .val (.ref b5), .val (.int (0 : Int32))] [(.int (0 : Int32)), (.int (0 : Int32)), (.ref b5)])) _
    refine XS.iconst X8.here hx rfl (hb hby d1_25) ?_
    show Steps p.tables e below (T8.setTop (mkF m 26 #[.val (.ref a1), .val (.ref b3), .val (.ref b5), .val (.int (0 : Int32))] [(.int (1 : Int32)), (.int (0 : Int32)), (.int (0 : Int32)), (.ref b5)])) _
    refine XS.iadd X8.here hx rfl (hb hby d1_26) rfl ?_
    show Steps p.tables e below (T8.setTop (mkF m 27 #[.val (.ref a1), .val (.ref b3), .val (.ref b5), .val (.int (0 : Int32))] [(.int (1 : Int32)), (.int (0 : Int32)), (.ref b5)])) _
    refine st10 _ ?_
    show Steps p.tables e below (T10.setTop (mkF m 28 #[.val (.ref a1), .val (.ref b3), .val (.ref b5), .val (.int (0 : Int32))] [])) _
    refine XS.iinc X10.here hx rfl (hb hby d1_28) rfl (l' := #[.val (.ref a1), .val (.ref b3), .val (.ref b5), .val (.int (1 : Int32))]) rfl ?_
    show Steps p.tables e below (T10.setTop (mkF m 31 #[.val (.ref a1), .val (.ref b3), .val (.ref b5), .val (.int (1 : Int32))] [])) _
    refine XS.goto X10.here hx rfl (pc0 := 31) (pc' := 12) rfl (hb hby d1_31) (by decide) (by decide) ?_
    show Steps p.tables e below (T10.setTop (mkF m 12 #[.val (.ref a1), .val (.ref b3), .val (.ref b5), .val (.int (1 : Int32))] [])) _
    refine XS.iloadN X10.here hx rfl (hb hby d1_12) rfl ?_
    show Steps p.tables e below (T10.setTop (mkF m 13 #[.val (.ref a1), .val (.ref b3), .val (.ref b5), .val (.int (1 : Int32))] [(.int (1 : Int32))])) _
    refine XS.aloadN X10.here hx rfl (hb hby d1_13) rfl rfl ?_
    show Steps p.tables e below (T10.setTop (mkF m 14 #[.val (.ref a1), .val (.ref b3), .val (.ref b5), .val (.int (1 : Int32))] [(.ref a1), (.int (1 : Int32))])) _
    refine X10.arraylength hx (by rw [e10]; exact Aru11.1) (State.isArrayOf_alike hZ.alike Aru11.2.1) (g := (mkF m 14 #[.val (.ref a1), .val (.ref b3), .val (.ref b5), .val (.int (1 : Int32))] [(.ref a1), (.int (1 : Int32))])) rfl rfl (hb hby d1_14) _ ?_
    rw [len_of Su11 Mu11]
    show Steps p.tables e below (T10.setTop (mkF m 15 #[.val (.ref a1), .val (.ref b3), .val (.ref b5), .val (.int (1 : Int32))] [(.int (2 : Int32)), (.int (1 : Int32))])) _
    refine XS.icmpNo X10.here hx rfl (hb hby d1_15) rfl (tlt (by decide : (1 : Int32) < (2 : Int32))).2.1 ?_
    show Steps p.tables e below (T10.setTop (mkF m 18 #[.val (.ref a1), .val (.ref b3), .val (.ref b5), .val (.int (1 : Int32))] [])) _
    refine XS.aloadN X10.here hx rfl (hb hby d1_18) rfl rfl ?_
    show Steps p.tables e below (T10.setTop (mkF m 19 #[.val (.ref a1), .val (.ref b3), .val (.ref b5), .val (.int (1 : Int32))] [(.ref b3)])) _
    refine XS.iloadN X10.here hx rfl (hb hby d1_19) rfl ?_
    show Steps p.tables e below (T10.setTop (mkF m 20 #[.val (.ref a1), .val (.ref b3), .val (.ref b5), .val (.int (1 : Int32))] [(.int (1 : Int32)), (.ref b3)])) _
    refine XS.iloadN X10.here hx rfl (hb hby d1_20) rfl ?_
    show Steps p.tables e below (T10.setTop (mkF m 21 #[.val (.ref a1), .val (.ref b3), .val (.ref b5), .val (.int (1 : Int32))] [(.int (1 : Int32)), (.int (1 : Int32)), (.ref b3)])) _
    refine st13 _ ?_
    show Steps p.tables e below (T13.setTop (mkF m 22 #[.val (.ref a1), .val (.ref b3), .val (.ref b5), .val (.int (1 : Int32))] [])) _
    refine XS.aloadN X13.here hx rfl (hb hby d1_22) rfl rfl ?_
    show Steps p.tables e below (T13.setTop (mkF m 23 #[.val (.ref a1), .val (.ref b3), .val (.ref b5), .val (.int (1 : Int32))] [(.ref b5)])) _
    refine XS.iloadN X13.here hx rfl (hb hby d1_23) rfl ?_
    show Steps p.tables e below (T13.setTop (mkF m 24 #[.val (.ref a1), .val (.ref b3), .val (.ref b5), .val (.int (1 : Int32))] [(.int (1 : Int32)), (.ref b5)])) _
    refine XS.iloadN X13.here hx rfl (hb hby d1_24) rfl ?_
    show Steps p.tables e below (T13.setTop (mkF m 25 #[.val (.ref a1), .val (.ref b3), .val (.ref b5), .val (.int (1 : Int32))] [(.int (1 : Int32)), (.int (1 : Int32)), (.ref b5)])) _
    refine XS.iconst X13.here hx rfl (hb hby d1_25) ?_
    show Steps p.tables e below (T13.setTop (mkF m 26 #[.val (.ref a1), .val (.ref b3), .val (.ref b5), .val (.int (1 : Int32))] [(.int (1 : Int32)), (.int (1 : Int32)), (.int (1 : Int32)), (.ref b5)])) _
    refine XS.iadd X13.here hx rfl (hb hby d1_26) rfl ?_
    show Steps p.tables e below (T13.setTop (mkF m 27 #[.val (.ref a1), .val (.ref b3), .val (.ref b5), .val (.int (1 : Int32))] [(.int (2 : Int32)), (.int (1 : Int32)), (.ref b5)])) _
    refine st15 _ ?_
    show Steps p.tables e below (T15.setTop (mkF m 28 #[.val (.ref a1), .val (.ref b3), .val (.ref b5), .val (.int (1 : Int32))] [])) _
    refine XS.iinc X15.here hx rfl (hb hby d1_28) rfl (l' := #[.val (.ref a1), .val (.ref b3), .val (.ref b5), .val (.int (2 : Int32))]) rfl ?_
    show Steps p.tables e below (T15.setTop (mkF m 31 #[.val (.ref a1), .val (.ref b3), .val (.ref b5), .val (.int (2 : Int32))] [])) _
    refine XS.goto X15.here hx rfl (pc0 := 31) (pc' := 12) rfl (hb hby d1_31) (by decide) (by decide) ?_
    show Steps p.tables e below (T15.setTop (mkF m 12 #[.val (.ref a1), .val (.ref b3), .val (.ref b5), .val (.int (2 : Int32))] [])) _
    refine XS.iloadN X15.here hx rfl (hb hby d1_12) rfl ?_
    show Steps p.tables e below (T15.setTop (mkF m 13 #[.val (.ref a1), .val (.ref b3), .val (.ref b5), .val (.int (2 : Int32))] [(.int (2 : Int32))])) _
    refine XS.aloadN X15.here hx rfl (hb hby d1_13) rfl rfl ?_
    show Steps p.tables e below (T15.setTop (mkF m 14 #[.val (.ref a1), .val (.ref b3), .val (.ref b5), .val (.int (2 : Int32))] [(.ref a1), (.int (2 : Int32))])) _
    refine X15.arraylength hx (by rw [e15]; exact Aru16.1) (State.isArrayOf_alike hZ.alike Aru16.2.1) (g := (mkF m 14 #[.val (.ref a1), .val (.ref b3), .val (.ref b5), .val (.int (2 : Int32))] [(.ref a1), (.int (2 : Int32))])) rfl rfl (hb hby d1_14) _ ?_
    rw [len_of Su16 Mu16]
    show Steps p.tables e below (T15.setTop (mkF m 15 #[.val (.ref a1), .val (.ref b3), .val (.ref b5), .val (.int (2 : Int32))] [(.int (2 : Int32)), (.int (2 : Int32))])) _
    refine XS.icmpYes X15.here hx rfl (pc0 := 15) (pc' := 34) rfl (hb hby d1_15) rfl (flt (by decide : ¬ ((2 : Int32) < (2 : Int32)))).2.1 (by decide) (by decide) ?_
    show Steps p.tables e below (T15.setTop (mkF m 34 #[.val (.ref a1), .val (.ref b3), .val (.ref b5), .val (.int (2 : Int32))] [])) _
    refine st17 _ ?_
    show Steps p.tables e below (T17.setTop (mkF m 37 #[.val (.ref a1), .val (.ref b3), .val (.ref b5), .val (.int (2 : Int32))] [(.ref b17)])) _
    refine XS.dup X17.here hx rfl (hb hby d1_37) rfl rfl ?_
    show Steps p.tables e below (T17.setTop (mkF m 38 #[.val (.ref a1), .val (.ref b3), .val (.ref b5), .val (.int (2 : Int32))] [(.ref b17), (.ref b17)])) _
    refine XS.aloadN X17.here hx rfl (hb hby d1_38) rfl rfl ?_
    show Steps p.tables e below (T17.setTop (mkF m 39 #[.val (.ref a1), .val (.ref b3), .val (.ref b5), .val (.int (2 : Int32))] [(.ref a1), (.ref b17), (.ref b17)])) _
    refine XS.aloadN X17.here hx rfl (hb hby d1_39) rfl rfl ?_
    show Steps p.tables e below (T17.setTop (mkF m 40 #[.val (.ref a1), .val (.ref b3), .val (.ref b5), .val (.int (2 : Int32))] [(.ref b3), (.ref a1), (.ref b17), (.ref b17)])) _
    refine XS.aloadN X17.here hx rfl (hb hby d1_40) rfl rfl ?_
    show Steps p.tables e below (T17.setTop (mkF m 41 #[.val (.ref a1), .val (.ref b3), .val (.ref b5), .val (.int (2 : Int32))] [(.ref b5), (.ref b3), (.ref a1), (.ref b17), (.ref b17)])) _
    refine XS.aloadN X17.here hx rfl (hb hby d1_41) rfl rfl ?_
    show Steps p.tables e below (T17.setTop (mkF m 42 #[.val (.ref a1), .val (.ref b3), .val (.ref b5), .val (.int (2 : Int32))] [(.ref a1), (.ref b5), (.ref b3), (.ref a1), (.ref b17), (.ref b17)])) _
    refine X17.arraylength hx (by rw [e17]; exact Aru18.1) (State.isArrayOf_alike hZ.alike Aru18.2.1) (g := (mkF m 42 #[.val (.ref a1), .val (.ref b3), .val (.ref b5), .val (.int (2 : Int32))] [(.ref a1), (.ref b5), (.ref b3), (.ref a1), (.ref b17), (.ref b17)])) rfl rfl (hb hby d1_42) _ ?_
    rw [len_of Su18 Mu18]
    show Steps p.tables e below (T17.setTop (mkF m 43 #[.val (.ref a1), .val (.ref b3), .val (.ref b5), .val (.int (2 : Int32))] [(.int (2 : Int32)), (.ref b5), (.ref b3), (.ref a1), (.ref b17), (.ref b17)])) _
    refine st19 _ ?_
    show Steps p.tables e below (T19.setTop (mkF m 45 #[.val (.ref a1), .val (.ref b3), .val (.ref b5), .val (.int (2 : Int32))] [(.ref b19), (.ref b5), (.ref b3), (.ref a1), (.ref b17), (.ref b17)])) _
    refine XS.aloadN X19.here hx rfl (hb hby d1_45) rfl rfl ?_
    show Steps p.tables e below (T19.setTop (mkF m 46 #[.val (.ref a1), .val (.ref b3), .val (.ref b5), .val (.int (2 : Int32))] [(.ref a1), (.ref b19), (.ref b5), (.ref b3), (.ref a1), (.ref b17), (.ref b17)])) _
    refine X19.arraylength hx (by rw [e19]; exact Aru20.1) (State.isArrayOf_alike hZ.alike Aru20.2.1) (g := (mkF m 46 #[.val (.ref a1), .val (.ref b3), .val (.ref b5), .val (.int (2 : Int32))] [(.ref a1), (.ref b19), (.ref b5), (.ref b3), (.ref a1), (.ref b17), (.ref b17)])) rfl rfl (hb hby d1_46) _ ?_
    rw [len_of Su20 Mu20]
    show Steps p.tables e below (T19.setTop (mkF m 47 #[.val (.ref a1), .val (.ref b3), .val (.ref b5), .val (.int (2 : Int32))] [(.int (2 : Int32)), (.ref b19), (.ref b5), (.ref b3), (.ref a1), (.ref b17), (.ref b17)])) _
    refine st21.trans ?_
    show Steps p.tables e below (T21.setTop (mkF m 50 #[.val (.ref a1), .val (.ref b3), .val (.ref b5), .val (.int (2 : Int32))] [(.ref b17)])) _
    jvm_step X21.here [X21.here.top, hx, (hb hby d1_50), X21.method', Bd.returns, Value.isRef, FieldType.isReference]
    first | (intro acts; rw [hr _ acts rfl rfl rfl]) | rw [hr _ _ rfl rfl rfl]
    exact Steps.refl _
  · show QO2 Z a1 h0 n0 _ T21.heap _
    rw [e21]
    exact ⟨b17, b3, b5, b19, k3, k5, k19, rfl, N21, K21, xE21, x_units21, x_from21, x_to21, x_separator21, x_length21, V_b3_21, V_b5_21, V_b19_21⟩
theorem d4_0 : decode prog_24_method_3_code 0 = .ok (.aload_n 0, 1) := by decide +kernel
theorem d4_1 : decode prog_24_method_3_code 1 = .ok (.getfield 23, 3) := by decide +kernel
theorem d4_4 : decode prog_24_method_3_code 4 = .ok (.ireturn, 1) := by decide +kernel
theorem pn_4 : plainName "com/example/words_to_verdict/wordstoverdict/match/FoldedText" = true := by first | (simp [plainName, overriddenIn]; done) | decide +kernel
theorem ef_4 (m : MethodId) (x0 : Addr) : entryFrame m #[(.ref x0)] 1 = mkF m 0 #[.val (.ref x0)] [] := by first | (simp [entryFrame, mkF, argsToLocals, Value.category]; done) | rfl
set_option maxRecDepth 65536 in
set_option maxHeartbeats 40000000 in
theorem rm4_L (l : Launch) (Z : State) (a0 : Array Value) (hw : ∀ d ∈ tables_1, d.before a0 Z = true) (ws : List Jvm.Cond) (a1 : Addr) (f__length_a1 : Int32) (h0 : Heap) (n0 : Nat) (Z0 : n0 ≤ h0.size) (F__length_a1 : Fld Z h0 a1 "com/example/words_to_verdict/wordstoverdict/match/FoldedText" "_length" "I" (.int f__length_a1)) :
    MetFree l (⟨"com/example/words_to_verdict/wordstoverdict/match/FoldedText", "length", "()I"⟩ : MethodName) (head1 (Jvm.Cond.code (⟨"com/example/words_to_verdict/wordstoverdict/match/FoldedText", "length", "()I"⟩ : MethodName) prog_24_method_3_code 1 (some .int) :: ws) ({ frames := 0, cells := 0, slots := 0, locals := 0 } : Room)) (fun a U => a = #[(.ref a1)] ∧ Z.Warmed39 U.vm ∧ U.heap = h0) (fun _ _ _ _ _ => True) (fun _ U o U' => ∃ v L, o = .returned v ∧ QN (some (.int f__length_a1)) h0 n0 v U'.heap L ∧ FrameEnd U o U' L ({ frames := 0, cells := 0, slots := 0, locals := 0 } : Room).cells ({ frames := 0, cells := 0, slots := 0, locals := 0 } : Room).slots) := by
  refine MetFree.of_bodySF (plainFor_of_name pn_4) hisR ?_
  intro p e s m args below meth c s₁ Bd hml0 hP hK
  obtain ⟨rfl, hZ, hh⟩ := hP
  have hx := Bd.exec
  have hby := Bd.bytes
  have hml : c.maxLocals = 1 := hml0
  have hown : s.vm.findClass "com/example/words_to_verdict/wordstoverdict/match/FoldedText" = some m.cls := findClass_of_methodNamed Bd.named
  have hnm := (name_of_methodNamed Bd.named Bd.method).1
  have X0 : Stand p l e ({ frames := 0, cells := 0, slots := 0, locals := 0 } : Room) s m #[(.ref a1)] below meth c s₁ [] 0 0 := Stand.of_body Bd
  have e0 : s₁.heap = h0 := by rw [← hh, Bd.state]; rfl
  have N0 := Fr.nil n0
  have pre0 : ∀ t, Steps p.tables e below (s₁.setTop (mkF m 0 #[.val (.ref a1)] [])) t → Steps p.tables e below (s₁.setTop (entryFrame m #[(.ref a1)] 1)) t := fun t k => castTop (ef_4 m a1) k
  obtain ⟨T2, X2, e2, st2⟩ := getF X0 hx hZ hown (host := "") (Or.inl (hw _ (List.mem_of_getElem? (i := 23) rfl))) Via.refl e0 F__length_a1 (g := (mkF m 1 #[.val (.ref a1)] [(.ref a1)])) rfl rfl (hb hby d4_1)
  obtain ⟨fs, hr, hrun, hended, hW, hsame⟩ := X2.leave (v := some (.int f__length_a1)) (fun h => by rw [Bd.returns] at h; cases h)
  refine ⟨_, _, pre0 _ ?_, hrun, hended, _, _, rfl, ?_, ⟨_, rfl⟩, hW, hsame.mono (by decide) (by decide)⟩
  · show Steps p.tables e below (s₁.setTop (mkF m 0 #[.val (.ref a1)] [])) _
    refine XS.aloadN X0.here hx rfl (hb hby d4_0) rfl rfl ?_
    show Steps p.tables e below (s₁.setTop (mkF m 1 #[.val (.ref a1)] [(.ref a1)])) _
    refine st2 _ ?_
    show Steps p.tables e below (T2.setTop (mkF m 4 #[.val (.ref a1)] [(.int f__length_a1)])) _
    exact retI X2 hx Bd.returns (hb hby d4_4) hr
  · exact ⟨rfl, N0, e2⟩
theorem pn_6 : plainName "com/example/words_to_verdict/wordstoverdict/match/FoldedText" = true := by first | (simp [plainName, overriddenIn]; done) | decide +kernel
theorem ef_6 (m : MethodId) (x0 : Addr) (x1 : Int32) : entryFrame m #[(.ref x0), (.int x1)] 2 = mkF m 0 #[.val (.ref x0), .val (.int x1)] [] := by first | (simp [entryFrame, mkF, argsToLocals, Value.category]; done) | rfl
theorem d6_0 : decode prog_24_method_4_code 0 = .ok (.aload_n 0, 1) := by decide +kernel
theorem d6_1 : decode prog_24_method_4_code 1 = .ok (.getfield 7, 3) := by decide +kernel
theorem d6_4 : decode prog_24_method_4_code 4 = .ok (.iload_n 1, 1) := by decide +kernel
theorem d6_5 : decode prog_24_method_4_code 5 = .ok (.iaload, 1) := by decide +kernel
theorem d6_6 : decode prog_24_method_4_code 6 = .ok (.ireturn, 1) := by decide +kernel
set_option maxRecDepth 65536 in
set_option maxHeartbeats 40000000 in
theorem rmR_unit (l : Launch) (Z : State) (a0 : Array Value) (hw : ∀ d ∈ tables_1, d.before a0 Z = true) (ws : List Jvm.Cond) (a1 : Addr) (p2 : Int32) (u : Addr) (k : ClassId) (nz : Int32) (vs : List Value) (r : Int32) (h0 : Heap) (n0 : Nat) (Z0 : n0 ≤ h0.size) (F__units_a1 : Fld Z h0 a1 "com/example/words_to_verdict/wordstoverdict/match/FoldedText" "_units" "[I" (.ref u)) (V_u : Arv Z h0 u k .int nz vs (.int (0 : Int32))) (hj : ¬ p2 < 0 ∧ p2 < nz) (hv : vs.getD p2.toNatClampNeg (.int (0 : Int32)) = .int r) :
    MetFree l (⟨"com/example/words_to_verdict/wordstoverdict/match/FoldedText", "unit", "(I)I"⟩ : MethodName) (head1 (Jvm.Cond.code (⟨"com/example/words_to_verdict/wordstoverdict/match/FoldedText", "unit", "(I)I"⟩ : MethodName) prog_24_method_4_code 2 (some .int) :: ws) ({ frames := 0, cells := 0, slots := 0, locals := 0 } : Room)) (fun a U => a = #[(.ref a1), (.int p2)] ∧ Z.Warmed39 U.vm ∧ U.heap = h0) (fun _ _ _ _ _ => True) (fun _ U o U' => ∃ v L, o = .returned v ∧ QN (some (.int r)) h0 n0 v U'.heap L ∧ FrameEnd U o U' L ({ frames := 0, cells := 0, slots := 0, locals := 0 } : Room).cells ({ frames := 0, cells := 0, slots := 0, locals := 0 } : Room).slots) := by
  refine MetFree.of_bodySF (plainFor_of_name pn_6) hisR ?_
  intro p e s m args below meth c s₁ Bd hml0 hP hK
  obtain ⟨rfl, hZ, hh⟩ := hP
  have hx := Bd.exec
  have hby := Bd.bytes
  have hml : c.maxLocals = 2 := hml0
  have hown : s.vm.findClass "com/example/words_to_verdict/wordstoverdict/match/FoldedText" = some m.cls := findClass_of_methodNamed Bd.named
  have hnm := (name_of_methodNamed Bd.named Bd.method).1
  have X0 : Stand p l e ({ frames := 0, cells := 0, slots := 0, locals := 0 } : Room) s m #[(.ref a1), (.int p2)] below meth c s₁ [] 0 0 := Stand.of_body Bd
  have e0 : s₁.heap = h0 := by rw [← hh, Bd.state]; rfl
  have N0 := Fr.nil n0
  have pre0 : ∀ t, Steps p.tables e below (s₁.setTop (mkF m 0 #[.val (.ref a1), .val (.int p2)] [])) t → Steps p.tables e below (s₁.setTop (entryFrame m #[(.ref a1), (.int p2)] 2)) t := fun t k => castTop (ef_6 m a1 p2) k
  obtain ⟨T3, X3, e3, st3⟩ := getF X0 hx hZ hown (host := "") (Or.inl (hw _ (List.mem_of_getElem? (i := 15) rfl))) Via.refl e0 F__units_a1 (g := (mkF m 1 #[.val (.ref a1), .val (.int p2)] [(.ref a1)])) rfl rfl (hb hby d6_1)
  obtain ⟨clu4, Aru4, qu4, Su4, Mu4, Hu4, Gu4⟩ := id V_u
  have hinu4 : ¬ (p2 < 0 ∨ clu4.slots.size ≤ (p2).toNatClampNeg) := inb_of Su4 hj
  have hatu4 : clu4.slots[(p2).toNatClampNeg]? = some (.int r) := Hu4.at hinu4 hv
  obtain ⟨fs, hr, hrun, hended, hW, hsame⟩ := X3.leave (v := some (.int r)) (fun h => by rw [Bd.returns] at h; cases h)
  refine ⟨_, _, pre0 _ ?_, hrun, hended, _, _, rfl, ?_, ⟨_, rfl⟩, hW, hsame.mono (by decide) (by decide)⟩
  · show Steps p.tables e below (s₁.setTop (mkF m 0 #[.val (.ref a1), .val (.int p2)] [])) _
    refine XS.aloadN X0.here hx rfl (hb hby d6_0) rfl rfl ?_
    show Steps p.tables e below (s₁.setTop (mkF m 1 #[.val (.ref a1), .val (.int p2)] [(.ref a1)])) _
    refine st3 _ ?_
    show Steps p.tables e below (T3.setTop (mkF m 4 #[.val (.ref a1), .val (.int p2)] [(.ref u)])) _
    refine XS.iloadN X3.here hx rfl (hb hby d6_4) rfl ?_
    show Steps p.tables e below (T3.setTop (mkF m 5 #[.val (.ref a1), .val (.int p2)] [(.int p2), (.ref u)])) _
    refine X3.iaload hx (j := p2) (v := (.int r)) (by rw [e3]; exact Aru4.1) (State.isArrayOf_alike hZ.alike Aru4.2.1) Aru4.2.2 hinu4 hatu4 (g := (mkF m 5 #[.val (.ref a1), .val (.int p2)] [(.int p2), (.ref u)])) rfl rfl (hb hby d6_5) _ ?_
    show Steps p.tables e below (T3.setTop (mkF m 6 #[.val (.ref a1), .val (.int p2)] [(.int r)])) _
    exact retI X3 hx Bd.returns (hb hby d6_6) hr
  · show QN (some (.int r)) h0 n0 _ T3.heap _
    rw [e3]
    exact ⟨rfl, N0, rfl⟩
theorem pn_7 : plainName "com/example/words_to_verdict/wordstoverdict/match/FoldedText" = true := by first | (simp [plainName, overriddenIn]; done) | decide +kernel
theorem ef_7 (m : MethodId) (x0 : Addr) (x1 : Int32) : entryFrame m #[(.ref x0), (.int x1)] 2 = mkF m 0 #[.val (.ref x0), .val (.int x1)] [] := by first | (simp [entryFrame, mkF, argsToLocals, Value.category]; done) | rfl
theorem d7_0 : decode prog_24_method_5_code 0 = .ok (.aload_n 0, 1) := by decide +kernel
theorem d7_1 : decode prog_24_method_5_code 1 = .ok (.getfield 13, 3) := by decide +kernel
theorem d7_4 : decode prog_24_method_5_code 4 = .ok (.iload_n 1, 1) := by decide +kernel
theorem d7_5 : decode prog_24_method_5_code 5 = .ok (.iaload, 1) := by decide +kernel
theorem d7_6 : decode prog_24_method_5_code 6 = .ok (.ireturn, 1) := by decide +kernel
set_option maxRecDepth 65536 in
set_option maxHeartbeats 40000000 in
theorem rmR_from (l : Launch) (Z : State) (a0 : Array Value) (hw : ∀ d ∈ tables_1, d.before a0 Z = true) (ws : List Jvm.Cond) (a1 : Addr) (p2 : Int32) (u : Addr) (k : ClassId) (nz : Int32) (vs : List Value) (r : Int32) (h0 : Heap) (n0 : Nat) (Z0 : n0 ≤ h0.size) (F__from_a1 : Fld Z h0 a1 "com/example/words_to_verdict/wordstoverdict/match/FoldedText" "_from" "[I" (.ref u)) (V_u : Arv Z h0 u k .int nz vs (.int (0 : Int32))) (hj : ¬ p2 < 0 ∧ p2 < nz) (hv : vs.getD p2.toNatClampNeg (.int (0 : Int32)) = .int r) :
    MetFree l (⟨"com/example/words_to_verdict/wordstoverdict/match/FoldedText", "from", "(I)I"⟩ : MethodName) (head1 (Jvm.Cond.code (⟨"com/example/words_to_verdict/wordstoverdict/match/FoldedText", "from", "(I)I"⟩ : MethodName) prog_24_method_5_code 2 (some .int) :: ws) ({ frames := 0, cells := 0, slots := 0, locals := 0 } : Room)) (fun a U => a = #[(.ref a1), (.int p2)] ∧ Z.Warmed39 U.vm ∧ U.heap = h0) (fun _ _ _ _ _ => True) (fun _ U o U' => ∃ v L, o = .returned v ∧ QN (some (.int r)) h0 n0 v U'.heap L ∧ FrameEnd U o U' L ({ frames := 0, cells := 0, slots := 0, locals := 0 } : Room).cells ({ frames := 0, cells := 0, slots := 0, locals := 0 } : Room).slots) := by
  refine MetFree.of_bodySF (plainFor_of_name pn_7) hisR ?_
  intro p e s m args below meth c s₁ Bd hml0 hP hK
  obtain ⟨rfl, hZ, hh⟩ := hP
  have hx := Bd.exec
  have hby := Bd.bytes
  have hml : c.maxLocals = 2 := hml0
  have hown : s.vm.findClass "com/example/words_to_verdict/wordstoverdict/match/FoldedText" = some m.cls := findClass_of_methodNamed Bd.named
  have hnm := (name_of_methodNamed Bd.named Bd.method).1
  have X0 : Stand p l e ({ frames := 0, cells := 0, slots := 0, locals := 0 } : Room) s m #[(.ref a1), (.int p2)] below meth c s₁ [] 0 0 := Stand.of_body Bd
  have e0 : s₁.heap = h0 := by rw [← hh, Bd.state]; rfl
  have N0 := Fr.nil n0
  have pre0 : ∀ t, Steps p.tables e below (s₁.setTop (mkF m 0 #[.val (.ref a1), .val (.int p2)] [])) t → Steps p.tables e below (s₁.setTop (entryFrame m #[(.ref a1), (.int p2)] 2)) t := fun t k => castTop (ef_7 m a1 p2) k
  obtain ⟨T3, X3, e3, st3⟩ := getF X0 hx hZ hown (host := "") (Or.inl (hw _ (List.mem_of_getElem? (i := 17) rfl))) Via.refl e0 F__from_a1 (g := (mkF m 1 #[.val (.ref a1), .val (.int p2)] [(.ref a1)])) rfl rfl (hb hby d7_1)
  obtain ⟨clu4, Aru4, qu4, Su4, Mu4, Hu4, Gu4⟩ := id V_u
  have hinu4 : ¬ (p2 < 0 ∨ clu4.slots.size ≤ (p2).toNatClampNeg) := inb_of Su4 hj
  have hatu4 : clu4.slots[(p2).toNatClampNeg]? = some (.int r) := Hu4.at hinu4 hv
  obtain ⟨fs, hr, hrun, hended, hW, hsame⟩ := X3.leave (v := some (.int r)) (fun h => by rw [Bd.returns] at h; cases h)
  refine ⟨_, _, pre0 _ ?_, hrun, hended, _, _, rfl, ?_, ⟨_, rfl⟩, hW, hsame.mono (by decide) (by decide)⟩
  · show Steps p.tables e below (s₁.setTop (mkF m 0 #[.val (.ref a1), .val (.int p2)] [])) _
    refine XS.aloadN X0.here hx rfl (hb hby d7_0) rfl rfl ?_
    show Steps p.tables e below (s₁.setTop (mkF m 1 #[.val (.ref a1), .val (.int p2)] [(.ref a1)])) _
    refine st3 _ ?_
    show Steps p.tables e below (T3.setTop (mkF m 4 #[.val (.ref a1), .val (.int p2)] [(.ref u)])) _
    refine XS.iloadN X3.here hx rfl (hb hby d7_4) rfl ?_
    show Steps p.tables e below (T3.setTop (mkF m 5 #[.val (.ref a1), .val (.int p2)] [(.int p2), (.ref u)])) _
    refine X3.iaload hx (j := p2) (v := (.int r)) (by rw [e3]; exact Aru4.1) (State.isArrayOf_alike hZ.alike Aru4.2.1) Aru4.2.2 hinu4 hatu4 (g := (mkF m 5 #[.val (.ref a1), .val (.int p2)] [(.int p2), (.ref u)])) rfl rfl (hb hby d7_5) _ ?_
    show Steps p.tables e below (T3.setTop (mkF m 6 #[.val (.ref a1), .val (.int p2)] [(.int r)])) _
    exact retI X3 hx Bd.returns (hb hby d7_6) hr
  · show QN (some (.int r)) h0 n0 _ T3.heap _
    rw [e3]
    exact ⟨rfl, N0, rfl⟩
theorem pn_8 : plainName "com/example/words_to_verdict/wordstoverdict/match/FoldedText" = true := by first | (simp [plainName, overriddenIn]; done) | decide +kernel
theorem ef_8 (m : MethodId) (x0 : Addr) (x1 : Int32) : entryFrame m #[(.ref x0), (.int x1)] 2 = mkF m 0 #[.val (.ref x0), .val (.int x1)] [] := by first | (simp [entryFrame, mkF, argsToLocals, Value.category]; done) | rfl
theorem d8_0 : decode prog_24_method_6_code 0 = .ok (.aload_n 0, 1) := by decide +kernel
theorem d8_1 : decode prog_24_method_6_code 1 = .ok (.getfield 16, 3) := by decide +kernel
theorem d8_4 : decode prog_24_method_6_code 4 = .ok (.iload_n 1, 1) := by decide +kernel
theorem d8_5 : decode prog_24_method_6_code 5 = .ok (.iaload, 1) := by decide +kernel
theorem d8_6 : decode prog_24_method_6_code 6 = .ok (.ireturn, 1) := by decide +kernel
set_option maxRecDepth 65536 in
set_option maxHeartbeats 40000000 in
theorem rmR_to (l : Launch) (Z : State) (a0 : Array Value) (hw : ∀ d ∈ tables_1, d.before a0 Z = true) (ws : List Jvm.Cond) (a1 : Addr) (p2 : Int32) (u : Addr) (k : ClassId) (nz : Int32) (vs : List Value) (r : Int32) (h0 : Heap) (n0 : Nat) (Z0 : n0 ≤ h0.size) (F__to_a1 : Fld Z h0 a1 "com/example/words_to_verdict/wordstoverdict/match/FoldedText" "_to" "[I" (.ref u)) (V_u : Arv Z h0 u k .int nz vs (.int (0 : Int32))) (hj : ¬ p2 < 0 ∧ p2 < nz) (hv : vs.getD p2.toNatClampNeg (.int (0 : Int32)) = .int r) :
    MetFree l (⟨"com/example/words_to_verdict/wordstoverdict/match/FoldedText", "to", "(I)I"⟩ : MethodName) (head1 (Jvm.Cond.code (⟨"com/example/words_to_verdict/wordstoverdict/match/FoldedText", "to", "(I)I"⟩ : MethodName) prog_24_method_6_code 2 (some .int) :: ws) ({ frames := 0, cells := 0, slots := 0, locals := 0 } : Room)) (fun a U => a = #[(.ref a1), (.int p2)] ∧ Z.Warmed39 U.vm ∧ U.heap = h0) (fun _ _ _ _ _ => True) (fun _ U o U' => ∃ v L, o = .returned v ∧ QN (some (.int r)) h0 n0 v U'.heap L ∧ FrameEnd U o U' L ({ frames := 0, cells := 0, slots := 0, locals := 0 } : Room).cells ({ frames := 0, cells := 0, slots := 0, locals := 0 } : Room).slots) := by
  refine MetFree.of_bodySF (plainFor_of_name pn_8) hisR ?_
  intro p e s m args below meth c s₁ Bd hml0 hP hK
  obtain ⟨rfl, hZ, hh⟩ := hP
  have hx := Bd.exec
  have hby := Bd.bytes
  have hml : c.maxLocals = 2 := hml0
  have hown : s.vm.findClass "com/example/words_to_verdict/wordstoverdict/match/FoldedText" = some m.cls := findClass_of_methodNamed Bd.named
  have hnm := (name_of_methodNamed Bd.named Bd.method).1
  have X0 : Stand p l e ({ frames := 0, cells := 0, slots := 0, locals := 0 } : Room) s m #[(.ref a1), (.int p2)] below meth c s₁ [] 0 0 := Stand.of_body Bd
  have e0 : s₁.heap = h0 := by rw [← hh, Bd.state]; rfl
  have N0 := Fr.nil n0
  have pre0 : ∀ t, Steps p.tables e below (s₁.setTop (mkF m 0 #[.val (.ref a1), .val (.int p2)] [])) t → Steps p.tables e below (s₁.setTop (entryFrame m #[(.ref a1), (.int p2)] 2)) t := fun t k => castTop (ef_8 m a1 p2) k
  obtain ⟨T3, X3, e3, st3⟩ := getF X0 hx hZ hown (host := "") (Or.inl (hw _ (List.mem_of_getElem? (i := 19) rfl))) Via.refl e0 F__to_a1 (g := (mkF m 1 #[.val (.ref a1), .val (.int p2)] [(.ref a1)])) rfl rfl (hb hby d8_1)
  obtain ⟨clu4, Aru4, qu4, Su4, Mu4, Hu4, Gu4⟩ := id V_u
  have hinu4 : ¬ (p2 < 0 ∨ clu4.slots.size ≤ (p2).toNatClampNeg) := inb_of Su4 hj
  have hatu4 : clu4.slots[(p2).toNatClampNeg]? = some (.int r) := Hu4.at hinu4 hv
  obtain ⟨fs, hr, hrun, hended, hW, hsame⟩ := X3.leave (v := some (.int r)) (fun h => by rw [Bd.returns] at h; cases h)
  refine ⟨_, _, pre0 _ ?_, hrun, hended, _, _, rfl, ?_, ⟨_, rfl⟩, hW, hsame.mono (by decide) (by decide)⟩
  · show Steps p.tables e below (s₁.setTop (mkF m 0 #[.val (.ref a1), .val (.int p2)] [])) _
    refine XS.aloadN X0.here hx rfl (hb hby d8_0) rfl rfl ?_
    show Steps p.tables e below (s₁.setTop (mkF m 1 #[.val (.ref a1), .val (.int p2)] [(.ref a1)])) _
    refine st3 _ ?_
    show Steps p.tables e below (T3.setTop (mkF m 4 #[.val (.ref a1), .val (.int p2)] [(.ref u)])) _
    refine XS.iloadN X3.here hx rfl (hb hby d8_4) rfl ?_
    show Steps p.tables e below (T3.setTop (mkF m 5 #[.val (.ref a1), .val (.int p2)] [(.int p2), (.ref u)])) _
    refine X3.iaload hx (j := p2) (v := (.int r)) (by rw [e3]; exact Aru4.1) (State.isArrayOf_alike hZ.alike Aru4.2.1) Aru4.2.2 hinu4 hatu4 (g := (mkF m 5 #[.val (.ref a1), .val (.int p2)] [(.int p2), (.ref u)])) rfl rfl (hb hby d8_5) _ ?_
    show Steps p.tables e below (T3.setTop (mkF m 6 #[.val (.ref a1), .val (.int p2)] [(.int r)])) _
    exact retI X3 hx Bd.returns (hb hby d8_6) hr
  · show QN (some (.int r)) h0 n0 _ T3.heap _
    rw [e3]
    exact ⟨rfl, N0, rfl⟩
theorem pn_9 : plainName "com/example/words_to_verdict/wordstoverdict/match/FoldedText" = true := by first | (simp [plainName, overriddenIn]; done) | decide +kernel
theorem ef_9 (m : MethodId) (x0 : Addr) (x1 : Int32) : entryFrame m #[(.ref x0), (.int x1)] 2 = mkF m 0 #[.val (.ref x0), .val (.int x1)] [] := by first | (simp [entryFrame, mkF, argsToLocals, Value.category]; done) | rfl
theorem d9_0 : decode prog_24_method_7_code 0 = .ok (.aload_n 0, 1) := by decide +kernel
theorem d9_1 : decode prog_24_method_7_code 1 = .ok (.getfield 19, 3) := by decide +kernel
theorem d9_4 : decode prog_24_method_7_code 4 = .ok (.iload_n 1, 1) := by decide +kernel
theorem d9_5 : decode prog_24_method_7_code 5 = .ok (.baload, 1) := by decide +kernel
theorem d9_6 : decode prog_24_method_7_code 6 = .ok (.ireturn, 1) := by decide +kernel
set_option maxRecDepth 65536 in
set_option maxHeartbeats 40000000 in
theorem rmR_isSeparator (l : Launch) (Z : State) (a0 : Array Value) (hw : ∀ d ∈ tables_1, d.before a0 Z = true) (ws : List Jvm.Cond) (a1 : Addr) (p2 : Int32) (u : Addr) (k : ClassId) (nz : Int32) (vs : List Value) (h0 : Heap) (n0 : Nat) (Z0 : n0 ≤ h0.size) (F__separator_a1 : Fld Z h0 a1 "com/example/words_to_verdict/wordstoverdict/match/FoldedText" "_separator" "[Z" (.ref u)) (V_u : Arv Z h0 u k .boolean nz vs (.int (0 : Int32))) (hj : ¬ p2 < 0 ∧ p2 < nz) (hv : vs.getD p2.toNatClampNeg (.int (0 : Int32)) = .int (0 : Int32)) :
    MetFree l (⟨"com/example/words_to_verdict/wordstoverdict/match/FoldedText", "isSeparator", "(I)Z"⟩ : MethodName) (head1 (Jvm.Cond.code (⟨"com/example/words_to_verdict/wordstoverdict/match/FoldedText", "isSeparator", "(I)Z"⟩ : MethodName) prog_24_method_7_code 2 (some .boolean) :: ws) ({ frames := 0, cells := 0, slots := 0, locals := 0 } : Room)) (fun a U => a = #[(.ref a1), (.int p2)] ∧ Z.Warmed39 U.vm ∧ U.heap = h0) (fun _ _ _ _ _ => True) (fun _ U o U' => ∃ v L, o = .returned v ∧ QN (some (.int (0 : Int32))) h0 n0 v U'.heap L ∧ FrameEnd U o U' L ({ frames := 0, cells := 0, slots := 0, locals := 0 } : Room).cells ({ frames := 0, cells := 0, slots := 0, locals := 0 } : Room).slots) := by
  refine MetFree.of_bodySF (plainFor_of_name pn_9) hisR ?_
  intro p e s m args below meth c s₁ Bd hml0 hP hK
  obtain ⟨rfl, hZ, hh⟩ := hP
  have hx := Bd.exec
  have hby := Bd.bytes
  have hml : c.maxLocals = 2 := hml0
  have hown : s.vm.findClass "com/example/words_to_verdict/wordstoverdict/match/FoldedText" = some m.cls := findClass_of_methodNamed Bd.named
  have hnm := (name_of_methodNamed Bd.named Bd.method).1
  have X0 : Stand p l e ({ frames := 0, cells := 0, slots := 0, locals := 0 } : Room) s m #[(.ref a1), (.int p2)] below meth c s₁ [] 0 0 := Stand.of_body Bd
  have e0 : s₁.heap = h0 := by rw [← hh, Bd.state]; rfl
  have N0 := Fr.nil n0
  have pre0 : ∀ t, Steps p.tables e below (s₁.setTop (mkF m 0 #[.val (.ref a1), .val (.int p2)] [])) t → Steps p.tables e below (s₁.setTop (entryFrame m #[(.ref a1), (.int p2)] 2)) t := fun t k => castTop (ef_9 m a1 p2) k
  obtain ⟨T3, X3, e3, st3⟩ := getF X0 hx hZ hown (host := "") (Or.inl (hw _ (List.mem_of_getElem? (i := 21) rfl))) Via.refl e0 F__separator_a1 (g := (mkF m 1 #[.val (.ref a1), .val (.int p2)] [(.ref a1)])) rfl rfl (hb hby d9_1)
  obtain ⟨clu4, Aru4, qu4, Su4, Mu4, Hu4, Gu4⟩ := id V_u
  have hinu4 : ¬ (p2 < 0 ∨ clu4.slots.size ≤ (p2).toNatClampNeg) := inb_of Su4 hj
  have hatu4 : clu4.slots[(p2).toNatClampNeg]? = some (.int (0 : Int32)) := Hu4.at hinu4 hv
  obtain ⟨fs, hr, hrun, hended, hW, hsame⟩ := X3.leave (v := some (.int (0 : Int32))) (fun h => by rw [Bd.returns] at h; cases h)
  refine ⟨_, _, pre0 _ ?_, hrun, hended, _, _, rfl, ?_, ⟨_, rfl⟩, hW, hsame.mono (by decide) (by decide)⟩
  · show Steps p.tables e below (s₁.setTop (mkF m 0 #[.val (.ref a1), .val (.int p2)] [])) _
    refine XS.aloadN X0.here hx rfl (hb hby d9_0) rfl rfl ?_
    show Steps p.tables e below (s₁.setTop (mkF m 1 #[.val (.ref a1), .val (.int p2)] [(.ref a1)])) _
    refine st3 _ ?_
    show Steps p.tables e below (T3.setTop (mkF m 4 #[.val (.ref a1), .val (.int p2)] [(.ref u)])) _
    refine XS.iloadN X3.here hx rfl (hb hby d9_4) rfl ?_
    show Steps p.tables e below (T3.setTop (mkF m 5 #[.val (.ref a1), .val (.int p2)] [(.int p2), (.ref u)])) _
    refine X3.baloadBooleans hx (j := p2) (v := (.int (0 : Int32))) (by rw [e3]; exact Aru4.1) (State.isArrayOf_alike hZ.alike Aru4.2.1) Aru4.2.2 hinu4 hatu4 (g := (mkF m 5 #[.val (.ref a1), .val (.int p2)] [(.int p2), (.ref u)])) rfl rfl (hb hby d9_5) _ ?_
    show Steps p.tables e below (T3.setTop (mkF m 6 #[.val (.ref a1), .val (.int p2)] [(.int (0 : Int32))])) _
    exact retN X3 hx (t := .boolean) Bd.returns (by simp) (hb hby d9_6) hr
  · show QN (some (.int (0 : Int32))) h0 n0 _ T3.heap _
    rw [e3]
    exact ⟨rfl, N0, rfl⟩
theorem pn_5 : plainName "com/example/words_to_verdict/wordstoverdict/match/FoldedTextOfPinLaw" = true := by first | (simp [plainName, overriddenIn]; done) | decide +kernel
theorem ef_5 (m : MethodId) (x0 : Addr) (x1 : Int32) (x2 : Int32) : entryFrame m #[(.ref x0), (.int x1), (.int x2)] 3 = mkF m 0 #[.val (.ref x0), .val (.int x1), .val (.int x2)] [] := by first | (simp [entryFrame, mkF, argsToLocals, Value.category]; done) | rfl
theorem d5_0 : decode method_2_code 0 = .ok (.aload_n 0, 1) := by decide +kernel
theorem d5_1 : decode method_2_code 1 = .ok (.iload_n 1, 1) := by decide +kernel
theorem d5_2 : decode method_2_code 2 = .ok (.invokevirtual 7, 3) := by decide +kernel
theorem pd_1 : parseMethodDescriptor "(I)I" = some ⟨[.int], some .int⟩ := by decide +kernel
theorem d5_5 : decode method_2_code 5 = .ok (.iload_n 2, 1) := by decide +kernel
theorem d5_6 : decode method_2_code 6 = .ok (.if_icmp .ne 35, 3) := by decide +kernel
theorem d5_9 : decode method_2_code 9 = .ok (.aload_n 0, 1) := by decide +kernel
theorem d5_10 : decode method_2_code 10 = .ok (.iload_n 1, 1) := by decide +kernel
theorem d5_11 : decode method_2_code 11 = .ok (.invokevirtual 13, 3) := by decide +kernel
theorem d5_14 : decode method_2_code 14 = .ok (.iload_n 1, 1) := by decide +kernel
theorem d5_15 : decode method_2_code 15 = .ok (.if_icmp .ne 26, 3) := by decide +kernel
theorem d5_18 : decode method_2_code 18 = .ok (.aload_n 0, 1) := by decide +kernel
theorem d5_19 : decode method_2_code 19 = .ok (.iload_n 1, 1) := by decide +kernel
theorem d5_20 : decode method_2_code 20 = .ok (.invokevirtual 16, 3) := by decide +kernel
theorem d5_23 : decode method_2_code 23 = .ok (.iload_n 1, 1) := by decide +kernel
theorem d5_24 : decode method_2_code 24 = .ok (.iconst 1, 1) := by decide +kernel
theorem d5_25 : decode method_2_code 25 = .ok (.iadd, 1) := by decide +kernel
theorem d5_26 : decode method_2_code 26 = .ok (.if_icmp .ne 15, 3) := by decide +kernel
theorem d5_29 : decode method_2_code 29 = .ok (.aload_n 0, 1) := by decide +kernel
theorem d5_30 : decode method_2_code 30 = .ok (.iload_n 1, 1) := by decide +kernel
theorem d5_31 : decode method_2_code 31 = .ok (.invokevirtual 19, 3) := by decide +kernel
theorem pd_2 : parseMethodDescriptor "(I)Z" = some ⟨[.int], some .boolean⟩ := by decide +kernel
theorem d5_34 : decode method_2_code 34 = .ok (.ifCond .ne 7, 3) := by decide +kernel
theorem d5_37 : decode method_2_code 37 = .ok (.iconst 1, 1) := by decide +kernel
theorem d5_38 : decode method_2_code 38 = .ok (.goto 4, 3) := by decide +kernel
theorem d5_42 : decode method_2_code 42 = .ok (.ireturn, 1) := by decide +kernel
set_option maxRecDepth 65536 in
set_option maxHeartbeats 40000000 in
theorem rmK10 (l : Launch) (Z : State) (a0 : Array Value) (hw : ∀ d ∈ tables_1, d.before a0 Z = true) (ws : List Jvm.Cond) (a1 : Addr) (bu : Addr) (bf : Addr) (bt : Addr) (bs : Addr) (ku : ClassId) (kf : ClassId) (kt : ClassId) (ks : ClassId) (v0 : Int32) (h0 : Heap) (n0 : Nat) (Z0 : n0 ≤ h0.size) (E_a1 : Exa Z h0 a1 "com/example/words_to_verdict/wordstoverdict/match/FoldedText") (F__units_a1 : Fld Z h0 a1 "com/example/words_to_verdict/wordstoverdict/match/FoldedText" "_units" "[I" (.ref bu)) (F__from_a1 : Fld Z h0 a1 "com/example/words_to_verdict/wordstoverdict/match/FoldedText" "_from" "[I" (.ref bf)) (F__to_a1 : Fld Z h0 a1 "com/example/words_to_verdict/wordstoverdict/match/FoldedText" "_to" "[I" (.ref bt)) (F__separator_a1 : Fld Z h0 a1 "com/example/words_to_verdict/wordstoverdict/match/FoldedText" "_separator" "[Z" (.ref bs)) (V_bu : Arv Z h0 bu ku .int (1 : Int32) [(.int v0)] (.int (0 : Int32))) (V_bf : Arv Z h0 bf kf .int (1 : Int32) [(.int (0 : Int32))] (.int (0 : Int32))) (V_bt : Arv Z h0 bt kt .int (1 : Int32) [(.int (1 : Int32))] (.int (0 : Int32))) (V_bs : Arv Z h0 bs ks .boolean (1 : Int32) [(.int (0 : Int32))] (.int (0 : Int32))) :
    MetFree l (⟨"com/example/words_to_verdict/wordstoverdict/match/FoldedTextOfPinLaw", "unitOk", "(Lcom/example/words_to_verdict/wordstoverdict/match/FoldedText;II)Z"⟩ : MethodName) (head1 (Jvm.Cond.code (⟨"com/example/words_to_verdict/wordstoverdict/match/FoldedTextOfPinLaw", "unitOk", "(Lcom/example/words_to_verdict/wordstoverdict/match/FoldedText;II)Z"⟩ : MethodName) method_2_code 3 (some .boolean) :: ws) ({ frames := 1, cells := 0, slots := 0, locals := 13 } : Room)) (fun a U => a = #[(.ref a1), (.int (0 : Int32)), (.int v0)] ∧ Z.Warmed39 U.vm ∧ U.heap = h0) (fun _ _ _ _ _ => True) (fun _ U o U' => ∃ v L, o = .returned v ∧ QN (some (.int (1 : Int32))) h0 n0 v U'.heap L ∧ FrameEnd U o U' L ({ frames := 1, cells := 0, slots := 0, locals := 13 } : Room).cells ({ frames := 1, cells := 0, slots := 0, locals := 13 } : Room).slots) := by
  refine MetFree.of_bodySF (plainFor_of_name pn_5) hisR ?_
  intro p e s m args below meth c s₁ Bd hml0 hP hK
  obtain ⟨rfl, hZ, hh⟩ := hP
  have hx := Bd.exec
  have hby := Bd.bytes
  have hml : c.maxLocals = 3 := hml0
  have hown : s.vm.findClass "com/example/words_to_verdict/wordstoverdict/match/FoldedTextOfPinLaw" = some m.cls := findClass_of_methodNamed Bd.named
  have hnm := (name_of_methodNamed Bd.named Bd.method).1
  have X0 : Stand p l e ({ frames := 1, cells := 0, slots := 0, locals := 13 } : Room) s m #[(.ref a1), (.int (0 : Int32)), (.int v0)] below meth c s₁ [] 0 0 := Stand.of_body Bd
  have e0 : s₁.heap = h0 := by rw [← hh, Bd.state]; rfl
  have N0 := Fr.nil n0
  have pre0 : ∀ t, Steps p.tables e below (s₁.setTop (mkF m 0 #[.val (.ref a1), .val (.int (0 : Int32)), .val (.int v0)] [])) t → Steps p.tables e below (s₁.setTop (entryFrame m #[(.ref a1), (.int (0 : Int32)), (.int v0)] 3)) t := fun t k => castTop (ef_5 m a1 (0 : Int32) v0) k
  obtain ⟨cq1, kq1, q1a, q1b, q1c⟩ := isOf hZ e0 E_a1
  obtain ⟨_, _, ⟨T1, L1, k1, n1⟩, -, X1, ⟨Lc1, hQ1, l1, y1, z1⟩, st1⟩ := X0.virtualBack hx (y := (⟨"com/example/words_to_verdict/wordstoverdict/match/FoldedText", "unit", "(I)I"⟩ : MethodName)) (z := (⟨"com/example/words_to_verdict/wordstoverdict/match/FoldedText", "unit", "(I)I"⟩ : MethodName)) hown (mvT hZ (hw _ (List.mem_of_getElem? (i := 34) rfl))) (mvT hZ (hw _ (List.mem_of_getElem? (i := 35) rfl))) (notFace_of_selects (args := #[]) (mvT hZ (hw _ (List.mem_of_getElem? (i := 37) rfl)))) (mvT hZ (hw _ (List.mem_of_getElem? (i := 37) rfl))) (mvT hZ (hw _ (List.mem_of_getElem? (i := 36) rfl))) (by decide) (backOf (W := 0) (rmR_unit l Z a0 hw [] a1 (0 : Int32) bu ku (1 : Int32) [(.int v0)] v0 h0 n0 Z0 (F__units_a1) (V_bu) (⟨by decide, by decide⟩) (rfl)) hZ (hw _ (List.mem_of_getElem? (i := 38) rfl)) (hw _ (List.mem_of_getElem? (i := 4) rfl)) (by decide) (by decide)) q1a q1c (g := (mkF m 2 #[.val (.ref a1), .val (.int (0 : Int32)), .val (.int v0)] [(.int (0 : Int32)), (.ref a1)])) rfl (by rw [hml]; rfl) (Steps.refl _) (argsL := [(.int (0 : Int32))]) (rest := []) (lenOf pd_1 rfl) rfl (by show 2 * 0 + _ ≤ _; exact Nat.le_of_eq rfl) (hb hby d5_2) (fun _ _ => ⟨rfl, e0, (by decide : 0 + 0 ≤ _), (by decide : 0 + 0 ≤ _)⟩)
  dsimp only [Pt.U, Pt.locs, Pt.cells, Pt.slots] at X1 l1 y1 z1 st1 hQ1
  subst l1 y1 z1
  obtain ⟨rfl, N1q, e1⟩ := hQ1
  have N1 := Fr.app N0 N1q
  obtain ⟨cq2, kq2, q2a, q2b, q2c⟩ := isOf hZ e1 E_a1
  obtain ⟨_, _, ⟨T2, L2, k2, n2⟩, -, X2, ⟨Lc2, hQ2, l2, y2, z2⟩, st2⟩ := X1.virtualBack hx (y := (⟨"com/example/words_to_verdict/wordstoverdict/match/FoldedText", "from", "(I)I"⟩ : MethodName)) (z := (⟨"com/example/words_to_verdict/wordstoverdict/match/FoldedText", "from", "(I)I"⟩ : MethodName)) hown (mvT hZ (hw _ (List.mem_of_getElem? (i := 39) rfl))) (mvT hZ (hw _ (List.mem_of_getElem? (i := 40) rfl))) (notFace_of_selects (args := #[]) (mvT hZ (hw _ (List.mem_of_getElem? (i := 42) rfl)))) (mvT hZ (hw _ (List.mem_of_getElem? (i := 42) rfl))) (mvT hZ (hw _ (List.mem_of_getElem? (i := 41) rfl))) (by decide) (backOf (W := 0) (rmR_from l Z a0 hw [] a1 (0 : Int32) bf kf (1 : Int32) [(.int (0 : Int32))] (0 : Int32) h0 n0 Z0 (F__from_a1) (V_bf) (⟨by decide, by decide⟩) (rfl)) hZ (hw _ (List.mem_of_getElem? (i := 43) rfl)) (hw _ (List.mem_of_getElem? (i := 4) rfl)) (by decide) (by decide)) q2a q2c (g := (mkF m 11 #[.val (.ref a1), .val (.int (0 : Int32)), .val (.int v0)] [(.int (0 : Int32)), (.ref a1)])) rfl (by rw [hml]; rfl) (Steps.refl _) (argsL := [(.int (0 : Int32))]) (rest := []) (lenOf pd_1 rfl) rfl (by show 2 * 0 + _ ≤ _; exact Nat.le_of_eq rfl) (hb hby d5_11) (fun _ _ => ⟨rfl, e1, (by decide : 0 + 0 ≤ _), (by decide : 0 + 0 ≤ _)⟩)
  dsimp only [Pt.U, Pt.locs, Pt.cells, Pt.slots] at X2 l2 y2 z2 st2 hQ2
  subst l2 y2 z2
  obtain ⟨rfl, N2q, e2⟩ := hQ2
  have N2 := Fr.app N1 N2q
  obtain ⟨cq3, kq3, q3a, q3b, q3c⟩ := isOf hZ e2 E_a1
  obtain ⟨_, _, ⟨T3, L3, k3, n3⟩, -, X3, ⟨Lc3, hQ3, l3, y3, z3⟩, st3⟩ := X2.virtualBack hx (y := (⟨"com/example/words_to_verdict/wordstoverdict/match/FoldedText", "to", "(I)I"⟩ : MethodName)) (z := (⟨"com/example/words_to_verdict/wordstoverdict/match/FoldedText", "to", "(I)I"⟩ : MethodName)) hown (mvT hZ (hw _ (List.mem_of_getElem? (i := 44) rfl))) (mvT hZ (hw _ (List.mem_of_getElem? (i := 45) rfl))) (notFace_of_selects (args := #[]) (mvT hZ (hw _ (List.mem_of_getElem? (i := 47) rfl)))) (mvT hZ (hw _ (List.mem_of_getElem? (i := 47) rfl))) (mvT hZ (hw _ (List.mem_of_getElem? (i := 46) rfl))) (by decide) (backOf (W := 0) (rmR_to l Z a0 hw [] a1 (0 : Int32) bt kt (1 : Int32) [(.int (1 : Int32))] (1 : Int32) h0 n0 Z0 (F__to_a1) (V_bt) (⟨by decide, by decide⟩) (rfl)) hZ (hw _ (List.mem_of_getElem? (i := 48) rfl)) (hw _ (List.mem_of_getElem? (i := 4) rfl)) (by decide) (by decide)) q3a q3c (g := (mkF m 20 #[.val (.ref a1), .val (.int (0 : Int32)), .val (.int v0)] [(.int (0 : Int32)), (.ref a1)])) rfl (by rw [hml]; rfl) (Steps.refl _) (argsL := [(.int (0 : Int32))]) (rest := []) (lenOf pd_1 rfl) rfl (by show 2 * 0 + _ ≤ _; exact Nat.le_of_eq rfl) (hb hby d5_20) (fun _ _ => ⟨rfl, e2, (by decide : 0 + 0 ≤ _), (by decide : 0 + 0 ≤ _)⟩)
  dsimp only [Pt.U, Pt.locs, Pt.cells, Pt.slots] at X3 l3 y3 z3 st3 hQ3
  subst l3 y3 z3
  obtain ⟨rfl, N3q, e3⟩ := hQ3
  have N3 := Fr.app N2 N3q
  obtain ⟨cq4, kq4, q4a, q4b, q4c⟩ := isOf hZ e3 E_a1
  obtain ⟨_, _, ⟨T4, L4, k4, n4⟩, -, X4, ⟨Lc4, hQ4, l4, y4, z4⟩, st4⟩ := X3.virtualBack hx (y := (⟨"com/example/words_to_verdict/wordstoverdict/match/FoldedText", "isSeparator", "(I)Z"⟩ : MethodName)) (z := (⟨"com/example/words_to_verdict/wordstoverdict/match/FoldedText", "isSeparator", "(I)Z"⟩ : MethodName)) hown (mvT hZ (hw _ (List.mem_of_getElem? (i := 49) rfl))) (mvT hZ (hw _ (List.mem_of_getElem? (i := 50) rfl))) (notFace_of_selects (args := #[]) (mvT hZ (hw _ (List.mem_of_getElem? (i := 52) rfl)))) (mvT hZ (hw _ (List.mem_of_getElem? (i := 52) rfl))) (mvT hZ (hw _ (List.mem_of_getElem? (i := 51) rfl))) (by decide) (backOf (W := 0) (rmR_isSeparator l Z a0 hw [] a1 (0 : Int32) bs ks (1 : Int32) [(.int (0 : Int32))] h0 n0 Z0 (F__separator_a1) (V_bs) (⟨by decide, by decide⟩) (rfl)) hZ (hw _ (List.mem_of_getElem? (i := 53) rfl)) (hw _ (List.mem_of_getElem? (i := 4) rfl)) (by decide) (by decide)) q4a q4c (g := (mkF m 31 #[.val (.ref a1), .val (.int (0 : Int32)), .val (.int v0)] [(.int (0 : Int32)), (.ref a1)])) rfl (by rw [hml]; rfl) (Steps.refl _) (argsL := [(.int (0 : Int32))]) (rest := []) (lenOf pd_2 rfl) rfl (by show 2 * 0 + _ ≤ _; exact Nat.le_of_eq rfl) (hb hby d5_31) (fun _ _ => ⟨rfl, e3, (by decide : 0 + 0 ≤ _), (by decide : 0 + 0 ≤ _)⟩)
  dsimp only [Pt.U, Pt.locs, Pt.cells, Pt.slots] at X4 l4 y4 z4 st4 hQ4
  subst l4 y4 z4
  obtain ⟨rfl, N4q, e4⟩ := hQ4
  have N4 := Fr.app N3 N4q
  obtain ⟨fs, hr, hrun, hended, hW, hsame⟩ := X4.leave (v := some (.int (1 : Int32))) (fun h => by rw [Bd.returns] at h; cases h)
  refine ⟨_, _, pre0 _ ?_, hrun, hended, _, _, rfl, ?_, ⟨_, rfl⟩, hW, hsame.mono (by decide) (by decide)⟩
  · show Steps p.tables e below (s₁.setTop (mkF m 0 #[.val (.ref a1), .val (.int (0 : Int32)), .val (.int v0)] [])) _
    refine XS.aloadN X0.here hx rfl (hb hby d5_0) rfl rfl ?_
    show Steps p.tables e below (s₁.setTop (mkF m 1 #[.val (.ref a1), .val (.int (0 : Int32)), .val (.int v0)] [(.ref a1)])) _
    refine XS.iloadN X0.here hx rfl (hb hby d5_1) rfl ?_
    show Steps p.tables e below (s₁.setTop (mkF m 2 #[.val (.ref a1), .val (.int (0 : Int32)), .val (.int v0)] [(.int (0 : Int32)), (.ref a1)])) _
    refine st1.trans ?_
    show Steps p.tables e below (T1.setTop (mkF m 5 #[.val (.ref a1), .val (.int (0 : Int32)), .val (.int v0)] [(.int v0)])) _
    refine XS.iloadN X1.here hx rfl (hb hby d5_5) rfl ?_
    show Steps p.tables e below (T1.setTop (mkF m 6 #[.val (.ref a1), .val (.int (0 : Int32)), .val (.int v0)] [(.int v0), (.int v0)])) _
    refine XS.icmpNo X1.here hx rfl (hb hby d5_6) rfl (teq ((rfl) : v0 = v0)).2 ?_
    show Steps p.tables e below (T1.setTop (mkF m 9 #[.val (.ref a1), .val (.int (0 : Int32)), .val (.int v0)] [])) _
    refine XS.aloadN X1.here hx rfl (hb hby d5_9) rfl rfl ?_
    show Steps p.tables e below (T1.setTop (mkF m 10 #[.val (.ref a1), .val (.int (0 : Int32)), .val (.int v0)] [(.ref a1)])) _
    refine XS.iloadN X1.here hx rfl (hb hby d5_10) rfl ?_
    show Steps p.tables e below (T1.setTop (mkF m 11 #[.val (.ref a1), .val (.int (0 : Int32)), .val (.int v0)] [(.int (0 : Int32)), (.ref a1)])) _
    refine st2.trans ?_
    show Steps p.tables e below (T2.setTop (mkF m 14 #[.val (.ref a1), .val (.int (0 : Int32)), .val (.int v0)] [(.int (0 : Int32))])) _
    refine XS.iloadN X2.here hx rfl (hb hby d5_14) rfl ?_
    show Steps p.tables e below (T2.setTop (mkF m 15 #[.val (.ref a1), .val (.int (0 : Int32)), .val (.int v0)] [(.int (0 : Int32)), (.int (0 : Int32))])) _
    refine XS.icmpNo X2.here hx rfl (hb hby d5_15) rfl (teq ((rfl) : (0 : Int32) = (0 : Int32))).2 ?_
    show Steps p.tables e below (T2.setTop (mkF m 18 #[.val (.ref a1), .val (.int (0 : Int32)), .val (.int v0)] [])) _
    refine XS.aloadN X2.here hx rfl (hb hby d5_18) rfl rfl ?_
    show Steps p.tables e below (T2.setTop (mkF m 19 #[.val (.ref a1), .val (.int (0 : Int32)), .val (.int v0)] [(.ref a1)])) _
    refine XS.iloadN X2.here hx rfl (hb hby d5_19) rfl ?_
    show Steps p.tables e below (T2.setTop (mkF m 20 #[.val (.ref a1), .val (.int (0 : Int32)), .val (.int v0)] [(.int (0 : Int32)), (.ref a1)])) _
    refine st3.trans ?_
    show Steps p.tables e below (T3.setTop (mkF m 23 #[.val (.ref a1), .val (.int (0 : Int32)), .val (.int v0)] [(.int (1 : Int32))])) _
    refine XS.iloadN X3.here hx rfl (hb hby d5_23) rfl ?_
    show Steps p.tables e below (T3.setTop (mkF m 24 #[.val (.ref a1), .val (.int (0 : Int32)), .val (.int v0)] [(.int (0 : Int32)), (.int (1 : Int32))])) _
    refine XS.iconst X3.here hx rfl (hb hby d5_24) ?_
    show Steps p.tables e below (T3.setTop (mkF m 25 #[.val (.ref a1), .val (.int (0 : Int32)), .val (.int v0)] [(.int (1 : Int32)), (.int (0 : Int32)), (.int (1 : Int32))])) _
    refine XS.iadd X3.here hx rfl (hb hby d5_25) rfl ?_
    show Steps p.tables e below (T3.setTop (mkF m 26 #[.val (.ref a1), .val (.int (0 : Int32)), .val (.int v0)] [(.int (1 : Int32)), (.int (1 : Int32))])) _
    refine XS.icmpNo X3.here hx rfl (hb hby d5_26) rfl (teq ((rfl) : (1 : Int32) = (1 : Int32))).2 ?_
    show Steps p.tables e below (T3.setTop (mkF m 29 #[.val (.ref a1), .val (.int (0 : Int32)), .val (.int v0)] [])) _
    refine XS.aloadN X3.here hx rfl (hb hby d5_29) rfl rfl ?_
    show Steps p.tables e below (T3.setTop (mkF m 30 #[.val (.ref a1), .val (.int (0 : Int32)), .val (.int v0)] [(.ref a1)])) _
    refine XS.iloadN X3.here hx rfl (hb hby d5_30) rfl ?_
    show Steps p.tables e below (T3.setTop (mkF m 31 #[.val (.ref a1), .val (.int (0 : Int32)), .val (.int v0)] [(.int (0 : Int32)), (.ref a1)])) _
    refine st4.trans ?_
    show Steps p.tables e below (T4.setTop (mkF m 34 #[.val (.ref a1), .val (.int (0 : Int32)), .val (.int v0)] [(.int (0 : Int32))])) _
    refine XS.ifNo X4.here hx rfl (hb hby d5_34) rfl ((if0 _ _).trans (teq ((rfl) : (0 : Int32) = (0 : Int32))).2) ?_
    show Steps p.tables e below (T4.setTop (mkF m 37 #[.val (.ref a1), .val (.int (0 : Int32)), .val (.int v0)] [])) _
    refine XS.iconst X4.here hx rfl (hb hby d5_37) ?_
    show Steps p.tables e below (T4.setTop (mkF m 38 #[.val (.ref a1), .val (.int (0 : Int32)), .val (.int v0)] [(.int (1 : Int32))])) _
    refine XS.goto X4.here hx rfl (pc0 := 38) (pc' := 42) rfl (hb hby d5_38) (by decide) (by decide) ?_
    show Steps p.tables e below (T4.setTop (mkF m 42 #[.val (.ref a1), .val (.int (0 : Int32)), .val (.int v0)] [(.int (1 : Int32))])) _
    exact retN X4 hx (t := .boolean) Bd.returns (by simp) (hb hby d5_42) hr
  · show QN (some (.int (1 : Int32))) h0 n0 _ T4.heap _
    rw [e4]
    exact ⟨rfl, N4, rfl⟩
set_option maxRecDepth 65536 in
set_option maxHeartbeats 40000000 in
theorem rmK20 (l : Launch) (Z : State) (a0 : Array Value) (hw : ∀ d ∈ tables_1, d.before a0 Z = true) (ws : List Jvm.Cond) (a1 : Addr) (bu : Addr) (bf : Addr) (bt : Addr) (bs : Addr) (ku : ClassId) (kf : ClassId) (kt : ClassId) (ks : ClassId) (v0 : Int32) (v1 : Int32) (h0 : Heap) (n0 : Nat) (Z0 : n0 ≤ h0.size) (E_a1 : Exa Z h0 a1 "com/example/words_to_verdict/wordstoverdict/match/FoldedText") (F__units_a1 : Fld Z h0 a1 "com/example/words_to_verdict/wordstoverdict/match/FoldedText" "_units" "[I" (.ref bu)) (F__from_a1 : Fld Z h0 a1 "com/example/words_to_verdict/wordstoverdict/match/FoldedText" "_from" "[I" (.ref bf)) (F__to_a1 : Fld Z h0 a1 "com/example/words_to_verdict/wordstoverdict/match/FoldedText" "_to" "[I" (.ref bt)) (F__separator_a1 : Fld Z h0 a1 "com/example/words_to_verdict/wordstoverdict/match/FoldedText" "_separator" "[Z" (.ref bs)) (V_bu : Arv Z h0 bu ku .int (2 : Int32) [(.int v0), (.int v1)] (.int (0 : Int32))) (V_bf : Arv Z h0 bf kf .int (2 : Int32) [(.int (0 : Int32)), (.int (1 : Int32))] (.int (0 : Int32))) (V_bt : Arv Z h0 bt kt .int (2 : Int32) [(.int (1 : Int32)), (.int (2 : Int32))] (.int (0 : Int32))) (V_bs : Arv Z h0 bs ks .boolean (2 : Int32) [(.int (0 : Int32)), (.int (0 : Int32))] (.int (0 : Int32))) :
    MetFree l (⟨"com/example/words_to_verdict/wordstoverdict/match/FoldedTextOfPinLaw", "unitOk", "(Lcom/example/words_to_verdict/wordstoverdict/match/FoldedText;II)Z"⟩ : MethodName) (head1 (Jvm.Cond.code (⟨"com/example/words_to_verdict/wordstoverdict/match/FoldedTextOfPinLaw", "unitOk", "(Lcom/example/words_to_verdict/wordstoverdict/match/FoldedText;II)Z"⟩ : MethodName) method_2_code 3 (some .boolean) :: ws) ({ frames := 1, cells := 0, slots := 0, locals := 13 } : Room)) (fun a U => a = #[(.ref a1), (.int (0 : Int32)), (.int v0)] ∧ Z.Warmed39 U.vm ∧ U.heap = h0) (fun _ _ _ _ _ => True) (fun _ U o U' => ∃ v L, o = .returned v ∧ QN (some (.int (1 : Int32))) h0 n0 v U'.heap L ∧ FrameEnd U o U' L ({ frames := 1, cells := 0, slots := 0, locals := 13 } : Room).cells ({ frames := 1, cells := 0, slots := 0, locals := 13 } : Room).slots) := by
  refine MetFree.of_bodySF (plainFor_of_name pn_5) hisR ?_
  intro p e s m args below meth c s₁ Bd hml0 hP hK
  obtain ⟨rfl, hZ, hh⟩ := hP
  have hx := Bd.exec
  have hby := Bd.bytes
  have hml : c.maxLocals = 3 := hml0
  have hown : s.vm.findClass "com/example/words_to_verdict/wordstoverdict/match/FoldedTextOfPinLaw" = some m.cls := findClass_of_methodNamed Bd.named
  have hnm := (name_of_methodNamed Bd.named Bd.method).1
  have X0 : Stand p l e ({ frames := 1, cells := 0, slots := 0, locals := 13 } : Room) s m #[(.ref a1), (.int (0 : Int32)), (.int v0)] below meth c s₁ [] 0 0 := Stand.of_body Bd
  have e0 : s₁.heap = h0 := by rw [← hh, Bd.state]; rfl
  have N0 := Fr.nil n0
  have pre0 : ∀ t, Steps p.tables e below (s₁.setTop (mkF m 0 #[.val (.ref a1), .val (.int (0 : Int32)), .val (.int v0)] [])) t → Steps p.tables e below (s₁.setTop (entryFrame m #[(.ref a1), (.int (0 : Int32)), (.int v0)] 3)) t := fun t k => castTop (ef_5 m a1 (0 : Int32) v0) k
  obtain ⟨cq1, kq1, q1a, q1b, q1c⟩ := isOf hZ e0 E_a1
  obtain ⟨_, _, ⟨T1, L1, k1, n1⟩, -, X1, ⟨Lc1, hQ1, l1, y1, z1⟩, st1⟩ := X0.virtualBack hx (y := (⟨"com/example/words_to_verdict/wordstoverdict/match/FoldedText", "unit", "(I)I"⟩ : MethodName)) (z := (⟨"com/example/words_to_verdict/wordstoverdict/match/FoldedText", "unit", "(I)I"⟩ : MethodName)) hown (mvT hZ (hw _ (List.mem_of_getElem? (i := 34) rfl))) (mvT hZ (hw _ (List.mem_of_getElem? (i := 35) rfl))) (notFace_of_selects (args := #[]) (mvT hZ (hw _ (List.mem_of_getElem? (i := 37) rfl)))) (mvT hZ (hw _ (List.mem_of_getElem? (i := 37) rfl))) (mvT hZ (hw _ (List.mem_of_getElem? (i := 36) rfl))) (by decide) (backOf (W := 0) (rmR_unit l Z a0 hw [] a1 (0 : Int32) bu ku (2 : Int32) [(.int v0), (.int v1)] v0 h0 n0 Z0 (F__units_a1) (V_bu) (⟨by decide, by decide⟩) (rfl)) hZ (hw _ (List.mem_of_getElem? (i := 38) rfl)) (hw _ (List.mem_of_getElem? (i := 4) rfl)) (by decide) (by decide)) q1a q1c (g := (mkF m 2 #[.val (.ref a1), .val (.int (0 : Int32)), .val (.int v0)] [(.int (0 : Int32)), (.ref a1)])) rfl (by rw [hml]; rfl) (Steps.refl _) (argsL := [(.int (0 : Int32))]) (rest := []) (lenOf pd_1 rfl) rfl (by show 2 * 0 + _ ≤ _; exact Nat.le_of_eq rfl) (hb hby d5_2) (fun _ _ => ⟨rfl, e0, (by decide : 0 + 0 ≤ _), (by decide : 0 + 0 ≤ _)⟩)
  dsimp only [Pt.U, Pt.locs, Pt.cells, Pt.slots] at X1 l1 y1 z1 st1 hQ1
  subst l1 y1 z1
  obtain ⟨rfl, N1q, e1⟩ := hQ1
  have N1 := Fr.app N0 N1q
  obtain ⟨cq2, kq2, q2a, q2b, q2c⟩ := isOf hZ e1 E_a1
  obtain ⟨_, _, ⟨T2, L2, k2, n2⟩, -, X2, ⟨Lc2, hQ2, l2, y2, z2⟩, st2⟩ := X1.virtualBack hx (y := (⟨"com/example/words_to_verdict/wordstoverdict/match/FoldedText", "from", "(I)I"⟩ : MethodName)) (z := (⟨"com/example/words_to_verdict/wordstoverdict/match/FoldedText", "from", "(I)I"⟩ : MethodName)) hown (mvT hZ (hw _ (List.mem_of_getElem? (i := 39) rfl))) (mvT hZ (hw _ (List.mem_of_getElem? (i := 40) rfl))) (notFace_of_selects (args := #[]) (mvT hZ (hw _ (List.mem_of_getElem? (i := 42) rfl)))) (mvT hZ (hw _ (List.mem_of_getElem? (i := 42) rfl))) (mvT hZ (hw _ (List.mem_of_getElem? (i := 41) rfl))) (by decide) (backOf (W := 0) (rmR_from l Z a0 hw [] a1 (0 : Int32) bf kf (2 : Int32) [(.int (0 : Int32)), (.int (1 : Int32))] (0 : Int32) h0 n0 Z0 (F__from_a1) (V_bf) (⟨by decide, by decide⟩) (rfl)) hZ (hw _ (List.mem_of_getElem? (i := 43) rfl)) (hw _ (List.mem_of_getElem? (i := 4) rfl)) (by decide) (by decide)) q2a q2c (g := (mkF m 11 #[.val (.ref a1), .val (.int (0 : Int32)), .val (.int v0)] [(.int (0 : Int32)), (.ref a1)])) rfl (by rw [hml]; rfl) (Steps.refl _) (argsL := [(.int (0 : Int32))]) (rest := []) (lenOf pd_1 rfl) rfl (by show 2 * 0 + _ ≤ _; exact Nat.le_of_eq rfl) (hb hby d5_11) (fun _ _ => ⟨rfl, e1, (by decide : 0 + 0 ≤ _), (by decide : 0 + 0 ≤ _)⟩)
  dsimp only [Pt.U, Pt.locs, Pt.cells, Pt.slots] at X2 l2 y2 z2 st2 hQ2
  subst l2 y2 z2
  obtain ⟨rfl, N2q, e2⟩ := hQ2
  have N2 := Fr.app N1 N2q
  obtain ⟨cq3, kq3, q3a, q3b, q3c⟩ := isOf hZ e2 E_a1
  obtain ⟨_, _, ⟨T3, L3, k3, n3⟩, -, X3, ⟨Lc3, hQ3, l3, y3, z3⟩, st3⟩ := X2.virtualBack hx (y := (⟨"com/example/words_to_verdict/wordstoverdict/match/FoldedText", "to", "(I)I"⟩ : MethodName)) (z := (⟨"com/example/words_to_verdict/wordstoverdict/match/FoldedText", "to", "(I)I"⟩ : MethodName)) hown (mvT hZ (hw _ (List.mem_of_getElem? (i := 44) rfl))) (mvT hZ (hw _ (List.mem_of_getElem? (i := 45) rfl))) (notFace_of_selects (args := #[]) (mvT hZ (hw _ (List.mem_of_getElem? (i := 47) rfl)))) (mvT hZ (hw _ (List.mem_of_getElem? (i := 47) rfl))) (mvT hZ (hw _ (List.mem_of_getElem? (i := 46) rfl))) (by decide) (backOf (W := 0) (rmR_to l Z a0 hw [] a1 (0 : Int32) bt kt (2 : Int32) [(.int (1 : Int32)), (.int (2 : Int32))] (1 : Int32) h0 n0 Z0 (F__to_a1) (V_bt) (⟨by decide, by decide⟩) (rfl)) hZ (hw _ (List.mem_of_getElem? (i := 48) rfl)) (hw _ (List.mem_of_getElem? (i := 4) rfl)) (by decide) (by decide)) q3a q3c (g := (mkF m 20 #[.val (.ref a1), .val (.int (0 : Int32)), .val (.int v0)] [(.int (0 : Int32)), (.ref a1)])) rfl (by rw [hml]; rfl) (Steps.refl _) (argsL := [(.int (0 : Int32))]) (rest := []) (lenOf pd_1 rfl) rfl (by show 2 * 0 + _ ≤ _; exact Nat.le_of_eq rfl) (hb hby d5_20) (fun _ _ => ⟨rfl, e2, (by decide : 0 + 0 ≤ _), (by decide : 0 + 0 ≤ _)⟩)
  dsimp only [Pt.U, Pt.locs, Pt.cells, Pt.slots] at X3 l3 y3 z3 st3 hQ3
  subst l3 y3 z3
  obtain ⟨rfl, N3q, e3⟩ := hQ3
  have N3 := Fr.app N2 N3q
  obtain ⟨cq4, kq4, q4a, q4b, q4c⟩ := isOf hZ e3 E_a1
  obtain ⟨_, _, ⟨T4, L4, k4, n4⟩, -, X4, ⟨Lc4, hQ4, l4, y4, z4⟩, st4⟩ := X3.virtualBack hx (y := (⟨"com/example/words_to_verdict/wordstoverdict/match/FoldedText", "isSeparator", "(I)Z"⟩ : MethodName)) (z := (⟨"com/example/words_to_verdict/wordstoverdict/match/FoldedText", "isSeparator", "(I)Z"⟩ : MethodName)) hown (mvT hZ (hw _ (List.mem_of_getElem? (i := 49) rfl))) (mvT hZ (hw _ (List.mem_of_getElem? (i := 50) rfl))) (notFace_of_selects (args := #[]) (mvT hZ (hw _ (List.mem_of_getElem? (i := 52) rfl)))) (mvT hZ (hw _ (List.mem_of_getElem? (i := 52) rfl))) (mvT hZ (hw _ (List.mem_of_getElem? (i := 51) rfl))) (by decide) (backOf (W := 0) (rmR_isSeparator l Z a0 hw [] a1 (0 : Int32) bs ks (2 : Int32) [(.int (0 : Int32)), (.int (0 : Int32))] h0 n0 Z0 (F__separator_a1) (V_bs) (⟨by decide, by decide⟩) (rfl)) hZ (hw _ (List.mem_of_getElem? (i := 53) rfl)) (hw _ (List.mem_of_getElem? (i := 4) rfl)) (by decide) (by decide)) q4a q4c (g := (mkF m 31 #[.val (.ref a1), .val (.int (0 : Int32)), .val (.int v0)] [(.int (0 : Int32)), (.ref a1)])) rfl (by rw [hml]; rfl) (Steps.refl _) (argsL := [(.int (0 : Int32))]) (rest := []) (lenOf pd_2 rfl) rfl (by show 2 * 0 + _ ≤ _; exact Nat.le_of_eq rfl) (hb hby d5_31) (fun _ _ => ⟨rfl, e3, (by decide : 0 + 0 ≤ _), (by decide : 0 + 0 ≤ _)⟩)
  dsimp only [Pt.U, Pt.locs, Pt.cells, Pt.slots] at X4 l4 y4 z4 st4 hQ4
  subst l4 y4 z4
  obtain ⟨rfl, N4q, e4⟩ := hQ4
  have N4 := Fr.app N3 N4q
  obtain ⟨fs, hr, hrun, hended, hW, hsame⟩ := X4.leave (v := some (.int (1 : Int32))) (fun h => by rw [Bd.returns] at h; cases h)
  refine ⟨_, _, pre0 _ ?_, hrun, hended, _, _, rfl, ?_, ⟨_, rfl⟩, hW, hsame.mono (by decide) (by decide)⟩
  · show Steps p.tables e below (s₁.setTop (mkF m 0 #[.val (.ref a1), .val (.int (0 : Int32)), .val (.int v0)] [])) _
    refine XS.aloadN X0.here hx rfl (hb hby d5_0) rfl rfl ?_
    show Steps p.tables e below (s₁.setTop (mkF m 1 #[.val (.ref a1), .val (.int (0 : Int32)), .val (.int v0)] [(.ref a1)])) _
    refine XS.iloadN X0.here hx rfl (hb hby d5_1) rfl ?_
    show Steps p.tables e below (s₁.setTop (mkF m 2 #[.val (.ref a1), .val (.int (0 : Int32)), .val (.int v0)] [(.int (0 : Int32)), (.ref a1)])) _
    refine st1.trans ?_
    show Steps p.tables e below (T1.setTop (mkF m 5 #[.val (.ref a1), .val (.int (0 : Int32)), .val (.int v0)] [(.int v0)])) _
    refine XS.iloadN X1.here hx rfl (hb hby d5_5) rfl ?_
    show Steps p.tables e below (T1.setTop (mkF m 6 #[.val (.ref a1), .val (.int (0 : Int32)), .val (.int v0)] [(.int v0), (.int v0)])) _
    refine XS.icmpNo X1.here hx rfl (hb hby d5_6) rfl (teq ((rfl) : v0 = v0)).2 ?_
    show Steps p.tables e below (T1.setTop (mkF m 9 #[.val (.ref a1), .val (.int (0 : Int32)), .val (.int v0)] [])) _
    refine XS.aloadN X1.here hx rfl (hb hby d5_9) rfl rfl ?_
    show Steps p.tables e below (T1.setTop (mkF m 10 #[.val (.ref a1), .val (.int (0 : Int32)), .val (.int v0)] [(.ref a1)])) _
    refine XS.iloadN X1.here hx rfl (hb hby d5_10) rfl ?_
    show Steps p.tables e below (T1.setTop (mkF m 11 #[.val (.ref a1), .val (.int (0 : Int32)), .val (.int v0)] [(.int (0 : Int32)), (.ref a1)])) _
    refine st2.trans ?_
    show Steps p.tables e below (T2.setTop (mkF m 14 #[.val (.ref a1), .val (.int (0 : Int32)), .val (.int v0)] [(.int (0 : Int32))])) _
    refine XS.iloadN X2.here hx rfl (hb hby d5_14) rfl ?_
    show Steps p.tables e below (T2.setTop (mkF m 15 #[.val (.ref a1), .val (.int (0 : Int32)), .val (.int v0)] [(.int (0 : Int32)), (.int (0 : Int32))])) _
    refine XS.icmpNo X2.here hx rfl (hb hby d5_15) rfl (teq ((rfl) : (0 : Int32) = (0 : Int32))).2 ?_
    show Steps p.tables e below (T2.setTop (mkF m 18 #[.val (.ref a1), .val (.int (0 : Int32)), .val (.int v0)] [])) _
    refine XS.aloadN X2.here hx rfl (hb hby d5_18) rfl rfl ?_
    show Steps p.tables e below (T2.setTop (mkF m 19 #[.val (.ref a1), .val (.int (0 : Int32)), .val (.int v0)] [(.ref a1)])) _
    refine XS.iloadN X2.here hx rfl (hb hby d5_19) rfl ?_
    show Steps p.tables e below (T2.setTop (mkF m 20 #[.val (.ref a1), .val (.int (0 : Int32)), .val (.int v0)] [(.int (0 : Int32)), (.ref a1)])) _
    refine st3.trans ?_
    show Steps p.tables e below (T3.setTop (mkF m 23 #[.val (.ref a1), .val (.int (0 : Int32)), .val (.int v0)] [(.int (1 : Int32))])) _
    refine XS.iloadN X3.here hx rfl (hb hby d5_23) rfl ?_
    show Steps p.tables e below (T3.setTop (mkF m 24 #[.val (.ref a1), .val (.int (0 : Int32)), .val (.int v0)] [(.int (0 : Int32)), (.int (1 : Int32))])) _
    refine XS.iconst X3.here hx rfl (hb hby d5_24) ?_
    show Steps p.tables e below (T3.setTop (mkF m 25 #[.val (.ref a1), .val (.int (0 : Int32)), .val (.int v0)] [(.int (1 : Int32)), (.int (0 : Int32)), (.int (1 : Int32))])) _
    refine XS.iadd X3.here hx rfl (hb hby d5_25) rfl ?_
    show Steps p.tables e below (T3.setTop (mkF m 26 #[.val (.ref a1), .val (.int (0 : Int32)), .val (.int v0)] [(.int (1 : Int32)), (.int (1 : Int32))])) _
    refine XS.icmpNo X3.here hx rfl (hb hby d5_26) rfl (teq ((rfl) : (1 : Int32) = (1 : Int32))).2 ?_
    show Steps p.tables e below (T3.setTop (mkF m 29 #[.val (.ref a1), .val (.int (0 : Int32)), .val (.int v0)] [])) _
    refine XS.aloadN X3.here hx rfl (hb hby d5_29) rfl rfl ?_
    show Steps p.tables e below (T3.setTop (mkF m 30 #[.val (.ref a1), .val (.int (0 : Int32)), .val (.int v0)] [(.ref a1)])) _
    refine XS.iloadN X3.here hx rfl (hb hby d5_30) rfl ?_
    show Steps p.tables e below (T3.setTop (mkF m 31 #[.val (.ref a1), .val (.int (0 : Int32)), .val (.int v0)] [(.int (0 : Int32)), (.ref a1)])) _
    refine st4.trans ?_
    show Steps p.tables e below (T4.setTop (mkF m 34 #[.val (.ref a1), .val (.int (0 : Int32)), .val (.int v0)] [(.int (0 : Int32))])) _
    refine XS.ifNo X4.here hx rfl (hb hby d5_34) rfl ((if0 _ _).trans (teq ((rfl) : (0 : Int32) = (0 : Int32))).2) ?_
    show Steps p.tables e below (T4.setTop (mkF m 37 #[.val (.ref a1), .val (.int (0 : Int32)), .val (.int v0)] [])) _
    refine XS.iconst X4.here hx rfl (hb hby d5_37) ?_
    show Steps p.tables e below (T4.setTop (mkF m 38 #[.val (.ref a1), .val (.int (0 : Int32)), .val (.int v0)] [(.int (1 : Int32))])) _
    refine XS.goto X4.here hx rfl (pc0 := 38) (pc' := 42) rfl (hb hby d5_38) (by decide) (by decide) ?_
    show Steps p.tables e below (T4.setTop (mkF m 42 #[.val (.ref a1), .val (.int (0 : Int32)), .val (.int v0)] [(.int (1 : Int32))])) _
    exact retN X4 hx (t := .boolean) Bd.returns (by simp) (hb hby d5_42) hr
  · show QN (some (.int (1 : Int32))) h0 n0 _ T4.heap _
    rw [e4]
    exact ⟨rfl, N4, rfl⟩
set_option maxRecDepth 65536 in
set_option maxHeartbeats 40000000 in
theorem rmK21 (l : Launch) (Z : State) (a0 : Array Value) (hw : ∀ d ∈ tables_1, d.before a0 Z = true) (ws : List Jvm.Cond) (a1 : Addr) (bu : Addr) (bf : Addr) (bt : Addr) (bs : Addr) (ku : ClassId) (kf : ClassId) (kt : ClassId) (ks : ClassId) (v0 : Int32) (v1 : Int32) (h0 : Heap) (n0 : Nat) (Z0 : n0 ≤ h0.size) (E_a1 : Exa Z h0 a1 "com/example/words_to_verdict/wordstoverdict/match/FoldedText") (F__units_a1 : Fld Z h0 a1 "com/example/words_to_verdict/wordstoverdict/match/FoldedText" "_units" "[I" (.ref bu)) (F__from_a1 : Fld Z h0 a1 "com/example/words_to_verdict/wordstoverdict/match/FoldedText" "_from" "[I" (.ref bf)) (F__to_a1 : Fld Z h0 a1 "com/example/words_to_verdict/wordstoverdict/match/FoldedText" "_to" "[I" (.ref bt)) (F__separator_a1 : Fld Z h0 a1 "com/example/words_to_verdict/wordstoverdict/match/FoldedText" "_separator" "[Z" (.ref bs)) (V_bu : Arv Z h0 bu ku .int (2 : Int32) [(.int v0), (.int v1)] (.int (0 : Int32))) (V_bf : Arv Z h0 bf kf .int (2 : Int32) [(.int (0 : Int32)), (.int (1 : Int32))] (.int (0 : Int32))) (V_bt : Arv Z h0 bt kt .int (2 : Int32) [(.int (1 : Int32)), (.int (2 : Int32))] (.int (0 : Int32))) (V_bs : Arv Z h0 bs ks .boolean (2 : Int32) [(.int (0 : Int32)), (.int (0 : Int32))] (.int (0 : Int32))) :
    MetFree l (⟨"com/example/words_to_verdict/wordstoverdict/match/FoldedTextOfPinLaw", "unitOk", "(Lcom/example/words_to_verdict/wordstoverdict/match/FoldedText;II)Z"⟩ : MethodName) (head1 (Jvm.Cond.code (⟨"com/example/words_to_verdict/wordstoverdict/match/FoldedTextOfPinLaw", "unitOk", "(Lcom/example/words_to_verdict/wordstoverdict/match/FoldedText;II)Z"⟩ : MethodName) method_2_code 3 (some .boolean) :: ws) ({ frames := 1, cells := 0, slots := 0, locals := 13 } : Room)) (fun a U => a = #[(.ref a1), (.int (1 : Int32)), (.int v1)] ∧ Z.Warmed39 U.vm ∧ U.heap = h0) (fun _ _ _ _ _ => True) (fun _ U o U' => ∃ v L, o = .returned v ∧ QN (some (.int (1 : Int32))) h0 n0 v U'.heap L ∧ FrameEnd U o U' L ({ frames := 1, cells := 0, slots := 0, locals := 13 } : Room).cells ({ frames := 1, cells := 0, slots := 0, locals := 13 } : Room).slots) := by
  refine MetFree.of_bodySF (plainFor_of_name pn_5) hisR ?_
  intro p e s m args below meth c s₁ Bd hml0 hP hK
  obtain ⟨rfl, hZ, hh⟩ := hP
  have hx := Bd.exec
  have hby := Bd.bytes
  have hml : c.maxLocals = 3 := hml0
  have hown : s.vm.findClass "com/example/words_to_verdict/wordstoverdict/match/FoldedTextOfPinLaw" = some m.cls := findClass_of_methodNamed Bd.named
  have hnm := (name_of_methodNamed Bd.named Bd.method).1
  have X0 : Stand p l e ({ frames := 1, cells := 0, slots := 0, locals := 13 } : Room) s m #[(.ref a1), (.int (1 : Int32)), (.int v1)] below meth c s₁ [] 0 0 := Stand.of_body Bd
  have e0 : s₁.heap = h0 := by rw [← hh, Bd.state]; rfl
  have N0 := Fr.nil n0
  have pre0 : ∀ t, Steps p.tables e below (s₁.setTop (mkF m 0 #[.val (.ref a1), .val (.int (1 : Int32)), .val (.int v1)] [])) t → Steps p.tables e below (s₁.setTop (entryFrame m #[(.ref a1), (.int (1 : Int32)), (.int v1)] 3)) t := fun t k => castTop (ef_5 m a1 (1 : Int32) v1) k
  obtain ⟨cq1, kq1, q1a, q1b, q1c⟩ := isOf hZ e0 E_a1
  obtain ⟨_, _, ⟨T1, L1, k1, n1⟩, -, X1, ⟨Lc1, hQ1, l1, y1, z1⟩, st1⟩ := X0.virtualBack hx (y := (⟨"com/example/words_to_verdict/wordstoverdict/match/FoldedText", "unit", "(I)I"⟩ : MethodName)) (z := (⟨"com/example/words_to_verdict/wordstoverdict/match/FoldedText", "unit", "(I)I"⟩ : MethodName)) hown (mvT hZ (hw _ (List.mem_of_getElem? (i := 34) rfl))) (mvT hZ (hw _ (List.mem_of_getElem? (i := 35) rfl))) (notFace_of_selects (args := #[]) (mvT hZ (hw _ (List.mem_of_getElem? (i := 37) rfl)))) (mvT hZ (hw _ (List.mem_of_getElem? (i := 37) rfl))) (mvT hZ (hw _ (List.mem_of_getElem? (i := 36) rfl))) (by decide) (backOf (W := 0) (rmR_unit l Z a0 hw [] a1 (1 : Int32) bu ku (2 : Int32) [(.int v0), (.int v1)] v1 h0 n0 Z0 (F__units_a1) (V_bu) (⟨by decide, by decide⟩) (rfl)) hZ (hw _ (List.mem_of_getElem? (i := 38) rfl)) (hw _ (List.mem_of_getElem? (i := 4) rfl)) (by decide) (by decide)) q1a q1c (g := (mkF m 2 #[.val (.ref a1), .val (.int (1 : Int32)), .val (.int v1)] [(.int (1 : Int32)), (.ref a1)])) rfl (by rw [hml]; rfl) (Steps.refl _) (argsL := [(.int (1 : Int32))]) (rest := []) (lenOf pd_1 rfl) rfl (by show 2 * 0 + _ ≤ _; exact Nat.le_of_eq rfl) (hb hby d5_2) (fun _ _ => ⟨rfl, e0, (by decide : 0 + 0 ≤ _), (by decide : 0 + 0 ≤ _)⟩)
  dsimp only [Pt.U, Pt.locs, Pt.cells, Pt.slots] at X1 l1 y1 z1 st1 hQ1
  subst l1 y1 z1
  obtain ⟨rfl, N1q, e1⟩ := hQ1
  have N1 := Fr.app N0 N1q
  obtain ⟨cq2, kq2, q2a, q2b, q2c⟩ := isOf hZ e1 E_a1
  obtain ⟨_, _, ⟨T2, L2, k2, n2⟩, -, X2, ⟨Lc2, hQ2, l2, y2, z2⟩, st2⟩ := X1.virtualBack hx (y := (⟨"com/example/words_to_verdict/wordstoverdict/match/FoldedText", "from", "(I)I"⟩ : MethodName)) (z := (⟨"com/example/words_to_verdict/wordstoverdict/match/FoldedText", "from", "(I)I"⟩ : MethodName)) hown (mvT hZ (hw _ (List.mem_of_getElem? (i := 39) rfl))) (mvT hZ (hw _ (List.mem_of_getElem? (i := 40) rfl))) (notFace_of_selects (args := #[]) (mvT hZ (hw _ (List.mem_of_getElem? (i := 42) rfl)))) (mvT hZ (hw _ (List.mem_of_getElem? (i := 42) rfl))) (mvT hZ (hw _ (List.mem_of_getElem? (i := 41) rfl))) (by decide) (backOf (W := 0) (rmR_from l Z a0 hw [] a1 (1 : Int32) bf kf (2 : Int32) [(.int (0 : Int32)), (.int (1 : Int32))] (1 : Int32) h0 n0 Z0 (F__from_a1) (V_bf) (⟨by decide, by decide⟩) (rfl)) hZ (hw _ (List.mem_of_getElem? (i := 43) rfl)) (hw _ (List.mem_of_getElem? (i := 4) rfl)) (by decide) (by decide)) q2a q2c (g := (mkF m 11 #[.val (.ref a1), .val (.int (1 : Int32)), .val (.int v1)] [(.int (1 : Int32)), (.ref a1)])) rfl (by rw [hml]; rfl) (Steps.refl _) (argsL := [(.int (1 : Int32))]) (rest := []) (lenOf pd_1 rfl) rfl (by show 2 * 0 + _ ≤ _; exact Nat.le_of_eq rfl) (hb hby d5_11) (fun _ _ => ⟨rfl, e1, (by decide : 0 + 0 ≤ _), (by decide : 0 + 0 ≤ _)⟩)
  dsimp only [Pt.U, Pt.locs, Pt.cells, Pt.slots] at X2 l2 y2 z2 st2 hQ2
  subst l2 y2 z2
  obtain ⟨rfl, N2q, e2⟩ := hQ2
  have N2 := Fr.app N1 N2q
  obtain ⟨cq3, kq3, q3a, q3b, q3c⟩ := isOf hZ e2 E_a1
  obtain ⟨_, _, ⟨T3, L3, k3, n3⟩, -, X3, ⟨Lc3, hQ3, l3, y3, z3⟩, st3⟩ := X2.virtualBack hx (y := (⟨"com/example/words_to_verdict/wordstoverdict/match/FoldedText", "to", "(I)I"⟩ : MethodName)) (z := (⟨"com/example/words_to_verdict/wordstoverdict/match/FoldedText", "to", "(I)I"⟩ : MethodName)) hown (mvT hZ (hw _ (List.mem_of_getElem? (i := 44) rfl))) (mvT hZ (hw _ (List.mem_of_getElem? (i := 45) rfl))) (notFace_of_selects (args := #[]) (mvT hZ (hw _ (List.mem_of_getElem? (i := 47) rfl)))) (mvT hZ (hw _ (List.mem_of_getElem? (i := 47) rfl))) (mvT hZ (hw _ (List.mem_of_getElem? (i := 46) rfl))) (by decide) (backOf (W := 0) (rmR_to l Z a0 hw [] a1 (1 : Int32) bt kt (2 : Int32) [(.int (1 : Int32)), (.int (2 : Int32))] (2 : Int32) h0 n0 Z0 (F__to_a1) (V_bt) (⟨by decide, by decide⟩) (rfl)) hZ (hw _ (List.mem_of_getElem? (i := 48) rfl)) (hw _ (List.mem_of_getElem? (i := 4) rfl)) (by decide) (by decide)) q3a q3c (g := (mkF m 20 #[.val (.ref a1), .val (.int (1 : Int32)), .val (.int v1)] [(.int (1 : Int32)), (.ref a1)])) rfl (by rw [hml]; rfl) (Steps.refl _) (argsL := [(.int (1 : Int32))]) (rest := []) (lenOf pd_1 rfl) rfl (by show 2 * 0 + _ ≤ _; exact Nat.le_of_eq rfl) (hb hby d5_20) (fun _ _ => ⟨rfl, e2, (by decide : 0 + 0 ≤ _), (by decide : 0 + 0 ≤ _)⟩)
  dsimp only [Pt.U, Pt.locs, Pt.cells, Pt.slots] at X3 l3 y3 z3 st3 hQ3
  subst l3 y3 z3
  obtain ⟨rfl, N3q, e3⟩ := hQ3
  have N3 := Fr.app N2 N3q
  obtain ⟨cq4, kq4, q4a, q4b, q4c⟩ := isOf hZ e3 E_a1
  obtain ⟨_, _, ⟨T4, L4, k4, n4⟩, -, X4, ⟨Lc4, hQ4, l4, y4, z4⟩, st4⟩ := X3.virtualBack hx (y := (⟨"com/example/words_to_verdict/wordstoverdict/match/FoldedText", "isSeparator", "(I)Z"⟩ : MethodName)) (z := (⟨"com/example/words_to_verdict/wordstoverdict/match/FoldedText", "isSeparator", "(I)Z"⟩ : MethodName)) hown (mvT hZ (hw _ (List.mem_of_getElem? (i := 49) rfl))) (mvT hZ (hw _ (List.mem_of_getElem? (i := 50) rfl))) (notFace_of_selects (args := #[]) (mvT hZ (hw _ (List.mem_of_getElem? (i := 52) rfl)))) (mvT hZ (hw _ (List.mem_of_getElem? (i := 52) rfl))) (mvT hZ (hw _ (List.mem_of_getElem? (i := 51) rfl))) (by decide) (backOf (W := 0) (rmR_isSeparator l Z a0 hw [] a1 (1 : Int32) bs ks (2 : Int32) [(.int (0 : Int32)), (.int (0 : Int32))] h0 n0 Z0 (F__separator_a1) (V_bs) (⟨by decide, by decide⟩) (rfl)) hZ (hw _ (List.mem_of_getElem? (i := 53) rfl)) (hw _ (List.mem_of_getElem? (i := 4) rfl)) (by decide) (by decide)) q4a q4c (g := (mkF m 31 #[.val (.ref a1), .val (.int (1 : Int32)), .val (.int v1)] [(.int (1 : Int32)), (.ref a1)])) rfl (by rw [hml]; rfl) (Steps.refl _) (argsL := [(.int (1 : Int32))]) (rest := []) (lenOf pd_2 rfl) rfl (by show 2 * 0 + _ ≤ _; exact Nat.le_of_eq rfl) (hb hby d5_31) (fun _ _ => ⟨rfl, e3, (by decide : 0 + 0 ≤ _), (by decide : 0 + 0 ≤ _)⟩)
  dsimp only [Pt.U, Pt.locs, Pt.cells, Pt.slots] at X4 l4 y4 z4 st4 hQ4
  subst l4 y4 z4
  obtain ⟨rfl, N4q, e4⟩ := hQ4
  have N4 := Fr.app N3 N4q
  obtain ⟨fs, hr, hrun, hended, hW, hsame⟩ := X4.leave (v := some (.int (1 : Int32))) (fun h => by rw [Bd.returns] at h; cases h)
  refine ⟨_, _, pre0 _ ?_, hrun, hended, _, _, rfl, ?_, ⟨_, rfl⟩, hW, hsame.mono (by decide) (by decide)⟩
  · show Steps p.tables e below (s₁.setTop (mkF m 0 #[.val (.ref a1), .val (.int (1 : Int32)), .val (.int v1)] [])) _
    refine XS.aloadN X0.here hx rfl (hb hby d5_0) rfl rfl ?_
    show Steps p.tables e below (s₁.setTop (mkF m 1 #[.val (.ref a1), .val (.int (1 : Int32)), .val (.int v1)] [(.ref a1)])) _
    refine XS.iloadN X0.here hx rfl (hb hby d5_1) rfl ?_
    show Steps p.tables e below (s₁.setTop (mkF m 2 #[.val (.ref a1), .val (.int (1 : Int32)), .val (.int v1)] [(.int (1 : Int32)), (.ref a1)])) _
    refine st1.trans ?_
    show Steps p.tables e below (T1.setTop (mkF m 5 #[.val (.ref a1), .val (.int (1 : Int32)), .val (.int v1)] [(.int v1)])) _
    refine XS.iloadN X1.here hx rfl (hb hby d5_5) rfl ?_
    show Steps p.tables e below (T1.setTop (mkF m 6 #[.val (.ref a1), .val (.int (1 : Int32)), .val (.int v1)] [(.int v1), (.int v1)])) _
    refine XS.icmpNo X1.here hx rfl (hb hby d5_6) rfl (teq ((rfl) : v1 = v1)).2 ?_
    show Steps p.tables e below (T1.setTop (mkF m 9 #[.val (.ref a1), .val (.int (1 : Int32)), .val (.int v1)] [])) _
    refine XS.aloadN X1.here hx rfl (hb hby d5_9) rfl rfl ?_
    show Steps p.tables e below (T1.setTop (mkF m 10 #[.val (.ref a1), .val (.int (1 : Int32)), .val (.int v1)] [(.ref a1)])) _
    refine XS.iloadN X1.here hx rfl (hb hby d5_10) rfl ?_
    show Steps p.tables e below (T1.setTop (mkF m 11 #[.val (.ref a1), .val (.int (1 : Int32)), .val (.int v1)] [(.int (1 : Int32)), (.ref a1)])) _
    refine st2.trans ?_
    show Steps p.tables e below (T2.setTop (mkF m 14 #[.val (.ref a1), .val (.int (1 : Int32)), .val (.int v1)] [(.int (1 : Int32))])) _
    refine XS.iloadN X2.here hx rfl (hb hby d5_14) rfl ?_
    show Steps p.tables e below (T2.setTop (mkF m 15 #[.val (.ref a1), .val (.int (1 : Int32)), .val (.int v1)] [(.int (1 : Int32)), (.int (1 : Int32))])) _
    refine XS.icmpNo X2.here hx rfl (hb hby d5_15) rfl (teq ((rfl) : (1 : Int32) = (1 : Int32))).2 ?_
    show Steps p.tables e below (T2.setTop (mkF m 18 #[.val (.ref a1), .val (.int (1 : Int32)), .val (.int v1)] [])) _
    refine XS.aloadN X2.here hx rfl (hb hby d5_18) rfl rfl ?_
    show Steps p.tables e below (T2.setTop (mkF m 19 #[.val (.ref a1), .val (.int (1 : Int32)), .val (.int v1)] [(.ref a1)])) _
    refine XS.iloadN X2.here hx rfl (hb hby d5_19) rfl ?_
    show Steps p.tables e below (T2.setTop (mkF m 20 #[.val (.ref a1), .val (.int (1 : Int32)), .val (.int v1)] [(.int (1 : Int32)), (.ref a1)])) _
    refine st3.trans ?_
    show Steps p.tables e below (T3.setTop (mkF m 23 #[.val (.ref a1), .val (.int (1 : Int32)), .val (.int v1)] [(.int (2 : Int32))])) _
    refine XS.iloadN X3.here hx rfl (hb hby d5_23) rfl ?_
    show Steps p.tables e below (T3.setTop (mkF m 24 #[.val (.ref a1), .val (.int (1 : Int32)), .val (.int v1)] [(.int (1 : Int32)), (.int (2 : Int32))])) _
    refine XS.iconst X3.here hx rfl (hb hby d5_24) ?_
    show Steps p.tables e below (T3.setTop (mkF m 25 #[.val (.ref a1), .val (.int (1 : Int32)), .val (.int v1)] [(.int (1 : Int32)), (.int (1 : Int32)), (.int (2 : Int32))])) _
    refine XS.iadd X3.here hx rfl (hb hby d5_25) rfl ?_
    show Steps p.tables e below (T3.setTop (mkF m 26 #[.val (.ref a1), .val (.int (1 : Int32)), .val (.int v1)] [(.int (2 : Int32)), (.int (2 : Int32))])) _
    refine XS.icmpNo X3.here hx rfl (hb hby d5_26) rfl (teq ((rfl) : (2 : Int32) = (2 : Int32))).2 ?_
    show Steps p.tables e below (T3.setTop (mkF m 29 #[.val (.ref a1), .val (.int (1 : Int32)), .val (.int v1)] [])) _
    refine XS.aloadN X3.here hx rfl (hb hby d5_29) rfl rfl ?_
    show Steps p.tables e below (T3.setTop (mkF m 30 #[.val (.ref a1), .val (.int (1 : Int32)), .val (.int v1)] [(.ref a1)])) _
    refine XS.iloadN X3.here hx rfl (hb hby d5_30) rfl ?_
    show Steps p.tables e below (T3.setTop (mkF m 31 #[.val (.ref a1), .val (.int (1 : Int32)), .val (.int v1)] [(.int (1 : Int32)), (.ref a1)])) _
    refine st4.trans ?_
    show Steps p.tables e below (T4.setTop (mkF m 34 #[.val (.ref a1), .val (.int (1 : Int32)), .val (.int v1)] [(.int (0 : Int32))])) _
    refine XS.ifNo X4.here hx rfl (hb hby d5_34) rfl ((if0 _ _).trans (teq ((rfl) : (0 : Int32) = (0 : Int32))).2) ?_
    show Steps p.tables e below (T4.setTop (mkF m 37 #[.val (.ref a1), .val (.int (1 : Int32)), .val (.int v1)] [])) _
    refine XS.iconst X4.here hx rfl (hb hby d5_37) ?_
    show Steps p.tables e below (T4.setTop (mkF m 38 #[.val (.ref a1), .val (.int (1 : Int32)), .val (.int v1)] [(.int (1 : Int32))])) _
    refine XS.goto X4.here hx rfl (pc0 := 38) (pc' := 42) rfl (hb hby d5_38) (by decide) (by decide) ?_
    show Steps p.tables e below (T4.setTop (mkF m 42 #[.val (.ref a1), .val (.int (1 : Int32)), .val (.int v1)] [(.int (1 : Int32))])) _
    exact retN X4 hx (t := .boolean) Bd.returns (by simp) (hb hby d5_42) hr
  · show QN (some (.int (1 : Int32))) h0 n0 _ T4.heap _
    rw [e4]
    exact ⟨rfl, N4, rfl⟩
def QF (n0 : Nat) (v : Option Value) (h : Heap) (L : List Loc) : Prop := v = some (.int 1) ∧ Fr n0 L
theorem pn_0 : plainName "com/example/words_to_verdict/wordstoverdict/match/FoldedTextOfPinLaw" = true := by first | (simp [plainName, overriddenIn]; done) | decide +kernel
theorem ef_0 (m : MethodId) (x0 : Int32) (x1 : Int32) (x2 : Int32) : entryFrame m #[(.int x0), (.int x1), (.int x2)] maxLocals = mkF m 0 #[.val (.int x0), .val (.int x1), .val (.int x2), .unset, .unset, .unset] [] := by first | (simp [entryFrame, mkF, argsToLocals, Value.category, maxLocals]; done) | rfl
theorem pd_3 : parseMethodDescriptor "([I)Lcom/example/words_to_verdict/wordstoverdict/match/FoldedText;" = some ⟨[(.array .int)], some (.object "com/example/words_to_verdict/wordstoverdict/match/FoldedText")⟩ := by decide +kernel
theorem pd_4 : parseMethodDescriptor "()I" = some ⟨[], some .int⟩ := by decide +kernel
theorem pd_5 : parseMethodDescriptor "(Lcom/example/words_to_verdict/wordstoverdict/match/FoldedText;II)Z" = some ⟨[(.object "com/example/words_to_verdict/wordstoverdict/match/FoldedText"), .int, .int], some .boolean⟩ := by decide +kernel
set_option maxRecDepth 65536 in
set_option maxHeartbeats 40000000 in
theorem rm0 (l : Launch) (Z : State) (a0 : Array Value) (hw : ∀ d ∈ tables_1, d.before a0 Z = true) (ws : List Jvm.Cond) (p1 : Int32) (p2 : Int32) (p3 : Int32) (h0 : Heap) (n0 : Nat) (Z0 : n0 ≤ h0.size) :
    MetFree l x (head1 (Jvm.Cond.code x code maxLocals ret :: ws) room_1) (fun a U => a = #[(.int p1), (.int p2), (.int p3)] ∧ Z.Warmed39 U.vm ∧ U.heap = h0) (fun _ _ _ _ _ => True) (fun _ U o U' => ∃ v L, o = .returned v ∧ QF n0 v U'.heap L ∧ FrameEnd U o U' L room_1.cells room_1.slots) := by
  refine MetFree.of_bodySF (plainFor_of_name pn_0) hisR ?_
  intro p e s m args below meth c s₁ Bd hml0 hP hK
  obtain ⟨rfl, hZ, hh⟩ := hP
  have hx := Bd.exec
  have hby := Bd.bytes
  have hml : c.maxLocals = 6 := hml0
  have hown : s.vm.findClass "com/example/words_to_verdict/wordstoverdict/match/FoldedTextOfPinLaw" = some m.cls := findClass_of_methodNamed Bd.named
  have hnm := (name_of_methodNamed Bd.named Bd.method).1
  have X0 : Stand p l e room_1 s m #[(.int p1), (.int p2), (.int p3)] below meth c s₁ [] 0 0 := Stand.of_body Bd
  have e0 : s₁.heap = h0 := by rw [← hh, Bd.state]; rfl
  have N0 := Fr.nil n0
  have pre0 : ∀ t, Steps p.tables e below (s₁.setTop (mkF m 0 #[.val (.int p1), .val (.int p2), .val (.int p3), .unset, .unset, .unset] [])) t → Steps p.tables e below (s₁.setTop (entryFrame m #[(.int p1), (.int p2), (.int p3)] maxLocals)) t := fun t k => castTop (ef_0 m p1 p2 p3) k
  have m1 := c_mask p1 2147483647 31 (by decide) (by decide)
  rw [show ((2 ^ 31 : Nat) : Int) = 2147483648 from rfl] at m1
  have m2 := (c_irem (p1 &&& 2147483647) 3 3 rfl).1 (by omega)
  have m3 : ((p1 &&& 2147483647) % 3).toInt = 0 ∨ ((p1 &&& 2147483647) % 3).toInt = 1 ∨ ((p1 &&& 2147483647) % 3).toInt = 2 := by omega
  rcases m3 with m3 | m3 | m3
  · have hn : ((p1 &&& (2147483647 : Int32)) % (3 : Int32)) = (0 : Int32) := Int32.toInt_inj.mp (m3.trans rfl)
    obtain ⟨T4, h4, k4, X4, e4, E4, A4, st4⟩ := newP X0 hx hZ (hw _ (List.mem_of_getElem? (i := 1) rfl)) e0 (g := (mkF m 8 #[.val (.int p1), .val (.int p2), .val (.int p3), .val (.int (0 : Int32)), .unset, .unset] [(.int (0 : Int32))])) rfl (hb hby at_8) rfl (by decide) (cap := 0) (by decide) (by decide) (by decide) (by decide)
    obtain ⟨b4, g4⟩ : ∃ z, z = h0.size := ⟨_, rfl⟩
    rw [← g4] at A4 st4
    have g_b4 : n0 ≤ b4 := Nat.le_trans Z0 (Nat.le_of_eq g4.symm)
    have sz_b4 : h0.size ≤ b4 := Nat.le_of_eq g4.symm
    have SZ4 : n0 ≤ h4.size := Nat.le_trans Z0 E4.1
    have V_b4 : Arv Z h4 b4 k4 .int (0 : Int32) [] (.int (0 : Int32)) := (Arv.new A4 (by decide)).pad (pad_rep [] (.int (0 : Int32)) 0)
    obtain ⟨_, _, ⟨T5, L5, k5, n5⟩, -, X5, ⟨Lc5, hQ5, l5, y5, z5⟩, st5⟩ := Jvm.LawKit.callS X4 hx (y := (⟨"com/example/words_to_verdict/wordstoverdict/match/FoldedText", "of", "([I)Lcom/example/words_to_verdict/wordstoverdict/match/FoldedText;"⟩ : MethodName)) hown (mvT hZ (hw _ (List.mem_of_getElem? (i := 2) rfl))) (mvT hZ (hw _ (List.mem_of_getElem? (i := 3) rfl))) (mvT hZ (hw _ (List.mem_of_getElem? (i := 4) rfl))) (mvT hZ (hw _ (List.mem_of_getElem? (i := 5) rfl))) (by decide) (backOf (W := 0) (rmO0 l Z a0 hw [] b4 k4 h4 n0 SZ4 (V_b4)) hZ (hw _ (List.mem_of_getElem? (i := 5) rfl)) (hw _ (List.mem_of_getElem? (i := 4) rfl)) (by decide) (by decide)) (g := (mkF m 33 #[.val (.int p1), .val (.int p2), .val (.int p3), .val (.int (0 : Int32)), .val (.ref b4), .unset] [(.ref b4)])) rfl (by rw [hml]; rfl) (argsL := [(.ref b4)]) (rest := []) (lenOf pd_3 rfl) rfl (by show 2 * 0 + _ ≤ _; exact Nat.le_of_eq rfl) (hb hby at_33) (fun _ _ => ⟨rfl, e4, (by decide : 1 + 4 ≤ _), (by decide : 0 + 5 ≤ _)⟩)
    dsimp only [Pt.U, Pt.locs, Pt.cells, Pt.slots] at X5 l5 y5 z5 st5 hQ5
    subst l5 y5 z5
    have e5 : T5.heap = T5.heap := rfl
    obtain ⟨ob5, bf5, bt5, bs5, kf5, kt5, ks5, rfl, N5q, KK5, xE5, x_units5, x_from5, x_to5, x_separator5, x_length5, xf5, xt5, xs5⟩ := hQ5
    have N5 := Fr.app N0 N5q
    have V_b4_5 := V_b4.keep KK5 nin0
    have SZ5 : n0 ≤ T5.heap.size := Nat.le_trans SZ4 KK5.1
    obtain ⟨cq6, kq6, q6a, q6b, q6c⟩ := isOf hZ e5 xE5
    obtain ⟨_, _, ⟨T6, L6, k6, n6⟩, -, X6, ⟨Lc6, hQ6, l6, y6, z6⟩, st6⟩ := X5.virtualBack hx (y := (⟨"com/example/words_to_verdict/wordstoverdict/match/FoldedText", "length", "()I"⟩ : MethodName)) (z := (⟨"com/example/words_to_verdict/wordstoverdict/match/FoldedText", "length", "()I"⟩ : MethodName)) hown (mvT hZ (hw _ (List.mem_of_getElem? (i := 25) rfl))) (mvT hZ (hw _ (List.mem_of_getElem? (i := 26) rfl))) (notFace_of_selects (args := #[]) (mvT hZ (hw _ (List.mem_of_getElem? (i := 28) rfl)))) (mvT hZ (hw _ (List.mem_of_getElem? (i := 28) rfl))) (mvT hZ (hw _ (List.mem_of_getElem? (i := 27) rfl))) (by decide) (backOf (W := 0) (rm4_L l Z a0 hw [] ob5 (0 : Int32) T5.heap n0 SZ5 (x_length5)) hZ (hw _ (List.mem_of_getElem? (i := 29) rfl)) (hw _ (List.mem_of_getElem? (i := 4) rfl)) (by decide) (by decide)) q6a q6c (g := (mkF m 40 #[.val (.int p1), .val (.int p2), .val (.int p3), .val (.int (0 : Int32)), .val (.ref b4), .val (.ref ob5)] [(.ref ob5)])) rfl (by rw [hml]; rfl) (Steps.refl _) (argsL := []) (rest := []) (lenOf pd_4 rfl) rfl (by show 2 * 0 + _ ≤ _; exact Nat.le_of_eq rfl) (hb hby at_40) (fun _ _ => ⟨rfl, e5, (by decide : 5 + 0 ≤ _), (by decide : 5 + 0 ≤ _)⟩)
    dsimp only [Pt.U, Pt.locs, Pt.cells, Pt.slots] at X6 l6 y6 z6 st6 hQ6
    subst l6 y6 z6
    obtain ⟨rfl, N6q, e6⟩ := hQ6
    have N6 := Fr.app N5 N6q
    obtain ⟨fs, hr, hrun, hended, hW, hsame⟩ := X6.leave (v := some (.int (1 : Int32))) (fun h => by rw [Bd.returns] at h; cases h)
    refine ⟨_, _, pre0 _ ?_, hrun, hended, _, _, rfl, ?_, ⟨_, rfl⟩, hW, hsame.mono (by decide) (by decide)⟩
    · show Steps p.tables e below (s₁.setTop (mkF m 0 #[.val (.int p1), .val (.int p2), .val (.int p3), .unset, .unset, .unset] [])) _
      refine XS.iloadN X0.here hx rfl (hb hby at_0) rfl ?_
      show Steps p.tables e below (s₁.setTop (mkF m 1 #[.val (.int p1), .val (.int p2), .val (.int p3), .unset, .unset, .unset] [(.int p1)])) _
      refine X0.ldcI hx hown (mvT hZ (hw _ (List.mem_of_getElem? (i := 0) rfl))) (g := (mkF m 1 #[.val (.int p1), .val (.int p2), .val (.int p3), .unset, .unset, .unset] [(.int p1)])) rfl (hb hby at_1) ?_
      show Steps p.tables e below (s₁.setTop (mkF m 3 #[.val (.int p1), .val (.int p2), .val (.int p3), .unset, .unset, .unset] [(.int (2147483647 : Int32)), (.int p1)])) _
      refine XS.iand X0.here hx rfl (hb hby at_3) rfl ?_
      show Steps p.tables e below (s₁.setTop (mkF m 4 #[.val (.int p1), .val (.int p2), .val (.int p3), .unset, .unset, .unset] [(.int (p1 &&& (2147483647 : Int32)))])) _
      refine XS.iconst X0.here hx rfl (hb hby at_4) ?_
      show Steps p.tables e below (s₁.setTop (mkF m 5 #[.val (.int p1), .val (.int p2), .val (.int p3), .unset, .unset, .unset] [(.int (3 : Int32)), (.int (p1 &&& (2147483647 : Int32)))])) _
      refine XS.irem X0.here hx rfl (hb hby at_5) rfl (by decide) ?_
      rw [own_irem]
      rw [hn]
      show Steps p.tables e below (s₁.setTop (mkF m 6 #[.val (.int p1), .val (.int p2), .val (.int p3), .unset, .unset, .unset] [(.int (0 : Int32))])) _
      refine XS.istoreN X0.here hx rfl (hb hby at_6) rfl (l' := #[.val (.int p1), .val (.int p2), .val (.int p3), .val (.int (0 : Int32)), .unset, .unset]) rfl ?_
      show Steps p.tables e below (s₁.setTop (mkF m 7 #[.val (.int p1), .val (.int p2), .val (.int p3), .val (.int (0 : Int32)), .unset, .unset] [])) _
      refine XS.iloadN X0.here hx rfl (hb hby at_7) rfl ?_
      show Steps p.tables e below (s₁.setTop (mkF m 8 #[.val (.int p1), .val (.int p2), .val (.int p3), .val (.int (0 : Int32)), .unset, .unset] [(.int (0 : Int32))])) _
      refine st4 _ ?_
      show Steps p.tables e below (T4.setTop (mkF m 10 #[.val (.int p1), .val (.int p2), .val (.int p3), .val (.int (0 : Int32)), .unset, .unset] [(.ref b4)])) _
      refine XS.astore X4.here hx rfl (hb hby at_10) rfl rfl (l' := #[.val (.int p1), .val (.int p2), .val (.int p3), .val (.int (0 : Int32)), .val (.ref b4), .unset]) rfl ?_
      show Steps p.tables e below (T4.setTop (mkF m 12 #[.val (.int p1), .val (.int p2), .val (.int p3), .val (.int (0 : Int32)), .val (.ref b4), .unset] [])) _
      refine XS.iloadN X4.here hx rfl (hb hby at_12) rfl ?_
      show Steps p.tables e below (T4.setTop (mkF m 13 #[.val (.int p1), .val (.int p2), .val (.int p3), .val (.int (0 : Int32)), .val (.ref b4), .unset] [(.int (0 : Int32))])) _
      refine XS.ifYes X4.here hx rfl (pc0 := 13) (pc' := 21) rfl (hb hby at_13) rfl ((if0 _ _).trans (flt (by decide : ¬ ((0 : Int32) < (0 : Int32)))).2.2.2) (by decide) (by decide) ?_
      show Steps p.tables e below (T4.setTop (mkF m 21 #[.val (.int p1), .val (.int p2), .val (.int p3), .val (.int (0 : Int32)), .val (.ref b4), .unset] [])) _
      refine XS.iloadN X4.here hx rfl (hb hby at_21) rfl ?_
      show Steps p.tables e below (T4.setTop (mkF m 22 #[.val (.int p1), .val (.int p2), .val (.int p3), .val (.int (0 : Int32)), .val (.ref b4), .unset] [(.int (0 : Int32))])) _
      refine XS.iconst X4.here hx rfl (hb hby at_22) ?_
      show Steps p.tables e below (T4.setTop (mkF m 23 #[.val (.int p1), .val (.int p2), .val (.int p3), .val (.int (0 : Int32)), .val (.ref b4), .unset] [(.int (1 : Int32)), (.int (0 : Int32))])) _
      refine XS.icmpYes X4.here hx rfl (pc0 := 23) (pc' := 31) rfl (hb hby at_23) rfl (flt (by decide : ¬ ((1 : Int32) < (0 : Int32)))).2.2.2 (by decide) (by decide) ?_
      show Steps p.tables e below (T4.setTop (mkF m 31 #[.val (.int p1), .val (.int p2), .val (.int p3), .val (.int (0 : Int32)), .val (.ref b4), .unset] [])) _
      refine XS.aload X4.here hx rfl (hb hby at_31) rfl rfl ?_
      show Steps p.tables e below (T4.setTop (mkF m 33 #[.val (.int p1), .val (.int p2), .val (.int p3), .val (.int (0 : Int32)), .val (.ref b4), .unset] [(.ref b4)])) _
      refine st5 _ ?_
      show Steps p.tables e below (T5.setTop (mkF m 36 #[.val (.int p1), .val (.int p2), .val (.int p3), .val (.int (0 : Int32)), .val (.ref b4), .unset] [(.ref ob5)])) _
      refine XS.astore X5.here hx rfl (hb hby at_36) rfl rfl (l' := #[.val (.int p1), .val (.int p2), .val (.int p3), .val (.int (0 : Int32)), .val (.ref b4), .val (.ref ob5)]) rfl ?_
      show Steps p.tables e below (T5.setTop (mkF m 38 #[.val (.int p1), .val (.int p2), .val (.int p3), .val (.int (0 : Int32)), .val (.ref b4), .val (.ref ob5)] [])) _
      refine XS.aload X5.here hx rfl (hb hby at_38) rfl rfl ?_
      show Steps p.tables e below (T5.setTop (mkF m 40 #[.val (.int p1), .val (.int p2), .val (.int p3), .val (.int (0 : Int32)), .val (.ref b4), .val (.ref ob5)] [(.ref ob5)])) _
      refine st6.trans ?_
      show Steps p.tables e below (T6.setTop (mkF m 43 #[.val (.int p1), .val (.int p2), .val (.int p3), .val (.int (0 : Int32)), .val (.ref b4), .val (.ref ob5)] [(.int (0 : Int32))])) _
      refine XS.iloadN X6.here hx rfl (hb hby at_43) rfl ?_
      show Steps p.tables e below (T6.setTop (mkF m 44 #[.val (.int p1), .val (.int p2), .val (.int p3), .val (.int (0 : Int32)), .val (.ref b4), .val (.ref ob5)] [(.int (0 : Int32)), (.int (0 : Int32))])) _
      refine XS.icmpYes X6.here hx rfl (pc0 := 44) (pc' := 49) rfl (hb hby at_44) rfl (teq ((rfl) : (0 : Int32) = (0 : Int32))).1 (by decide) (by decide) ?_
      show Steps p.tables e below (T6.setTop (mkF m 49 #[.val (.int p1), .val (.int p2), .val (.int p3), .val (.int (0 : Int32)), .val (.ref b4), .val (.ref ob5)] [])) _
      refine XS.iloadN X6.here hx rfl (hb hby at_49) rfl ?_
      show Steps p.tables e below (T6.setTop (mkF m 50 #[.val (.int p1), .val (.int p2), .val (.int p3), .val (.int (0 : Int32)), .val (.ref b4), .val (.ref ob5)] [(.int (0 : Int32))])) _
      refine XS.ifYes X6.here hx rfl (pc0 := 50) (pc' := 65) rfl (hb hby at_50) rfl ((if0 _ _).trans (flt (by decide : ¬ ((0 : Int32) < (0 : Int32)))).2.2.2) (by decide) (by decide) ?_
      show Steps p.tables e below (T6.setTop (mkF m 65 #[.val (.int p1), .val (.int p2), .val (.int p3), .val (.int (0 : Int32)), .val (.ref b4), .val (.ref ob5)] [])) _
      refine XS.iloadN X6.here hx rfl (hb hby at_65) rfl ?_
      show Steps p.tables e below (T6.setTop (mkF m 66 #[.val (.int p1), .val (.int p2), .val (.int p3), .val (.int (0 : Int32)), .val (.ref b4), .val (.ref ob5)] [(.int (0 : Int32))])) _
      refine XS.iconst X6.here hx rfl (hb hby at_66) ?_
      show Steps p.tables e below (T6.setTop (mkF m 67 #[.val (.int p1), .val (.int p2), .val (.int p3), .val (.int (0 : Int32)), .val (.ref b4), .val (.ref ob5)] [(.int (1 : Int32)), (.int (0 : Int32))])) _
      refine XS.icmpYes X6.here hx rfl (pc0 := 67) (pc' := 82) rfl (hb hby at_67) rfl (flt (by decide : ¬ ((1 : Int32) < (0 : Int32)))).2.2.2 (by decide) (by decide) ?_
      show Steps p.tables e below (T6.setTop (mkF m 82 #[.val (.int p1), .val (.int p2), .val (.int p3), .val (.int (0 : Int32)), .val (.ref b4), .val (.ref ob5)] [])) _
      refine XS.iconst X6.here hx rfl (hb hby at_82) ?_
      show Steps p.tables e below (T6.setTop (mkF m 83 #[.val (.int p1), .val (.int p2), .val (.int p3), .val (.int (0 : Int32)), .val (.ref b4), .val (.ref ob5)] [(.int (1 : Int32))])) _
      exact retN X6 hx (t := .boolean) Bd.returns (by simp) (hb hby at_83) hr
    · show QF n0 _ T6.heap _
      rw [e6]
      exact ⟨rfl, N6⟩
  · have hn : ((p1 &&& (2147483647 : Int32)) % (3 : Int32)) = (1 : Int32) := Int32.toInt_inj.mp (m3.trans rfl)
    obtain ⟨T7, h7, k7, X7, e7, E7, A7, st7⟩ := newP X0 hx hZ (hw _ (List.mem_of_getElem? (i := 1) rfl)) e0 (g := (mkF m 8 #[.val (.int p1), .val (.int p2), .val (.int p3), .val (.int (1 : Int32)), .unset, .unset] [(.int (1 : Int32))])) rfl (hb hby at_8) rfl (by decide) (cap := 1) (by decide) (by decide) (by decide) (by decide)
    obtain ⟨b7, g7⟩ : ∃ z, z = h0.size := ⟨_, rfl⟩
    rw [← g7] at A7 st7
    have g_b7 : n0 ≤ b7 := Nat.le_trans Z0 (Nat.le_of_eq g7.symm)
    have sz_b7 : h0.size ≤ b7 := Nat.le_of_eq g7.symm
    have SZ7 : n0 ≤ h7.size := Nat.le_trans Z0 E7.1
    have V_b7 : Arv Z h7 b7 k7 .int (1 : Int32) [(.int (0 : Int32))] (.int (0 : Int32)) := (Arv.new A7 (by decide)).pad (pad_rep [] (.int (0 : Int32)) 1)
    obtain ⟨clu8, Aru8, qu8, Su8, Mu8, Hu8, Gu8⟩ := id V_b7
    have hinu8 : ¬ ((0 : Int32) < 0 ∨ clu8.slots.size ≤ ((0 : Int32)).toNatClampNeg) := inb_of Su8 ⟨by decide, by decide⟩
    obtain ⟨T9, h9, X9, e9, W9, st9⟩ := stI X7 hx hZ e7 Aru8 (j := (0 : Int32)) hinu8 (g := (mkF m 20 #[.val (.int p1), .val (.int p2), .val (.int p3), .val (.int (1 : Int32)), .val (.ref b7), .unset] [(.int p2), (.int (0 : Int32)), (.ref b7)])) rfl rfl (hb hby at_20)
    have SZ9 : n0 ≤ h9.size := by rw [W9.size]; exact SZ7
    have N9 := Fr.snoc X9 N0 g_b7
    have V_b7_9 : Arv Z h9 b7 k7 .int (1 : Int32) [(.int p2)] (.int (0 : Int32)) := Arv.set Aru8 qu8 Su8 Mu8 Hu8 Gu8 rfl W9 0 rfl (Nat.le_of_ble_eq_true rfl)
    obtain ⟨_, _, ⟨T10, L10, k10, n10⟩, -, X10, ⟨Lc10, hQ10, l10, y10, z10⟩, st10⟩ := Jvm.LawKit.callS X9 hx (y := (⟨"com/example/words_to_verdict/wordstoverdict/match/FoldedText", "of", "([I)Lcom/example/words_to_verdict/wordstoverdict/match/FoldedText;"⟩ : MethodName)) hown (mvT hZ (hw _ (List.mem_of_getElem? (i := 2) rfl))) (mvT hZ (hw _ (List.mem_of_getElem? (i := 3) rfl))) (mvT hZ (hw _ (List.mem_of_getElem? (i := 4) rfl))) (mvT hZ (hw _ (List.mem_of_getElem? (i := 5) rfl))) (by decide) (backOf (W := 0) (rmO1 l Z a0 hw [] b7 k7 p2 h9 n0 SZ9 (V_b7_9)) hZ (hw _ (List.mem_of_getElem? (i := 5) rfl)) (hw _ (List.mem_of_getElem? (i := 4) rfl)) (by decide) (by decide)) (g := (mkF m 33 #[.val (.int p1), .val (.int p2), .val (.int p3), .val (.int (1 : Int32)), .val (.ref b7), .unset] [(.ref b7)])) rfl (by rw [hml]; rfl) (argsL := [(.ref b7)]) (rest := []) (lenOf pd_3 rfl) rfl (by show 2 * 0 + _ ≤ _; exact Nat.le_of_eq rfl) (hb hby at_33) (fun _ _ => ⟨rfl, e9, (by decide : 1 + 4 ≤ _), (by decide : 1 + 8 ≤ _)⟩)
    dsimp only [Pt.U, Pt.locs, Pt.cells, Pt.slots] at X10 l10 y10 z10 st10 hQ10
    subst l10 y10 z10
    have e10 : T10.heap = T10.heap := rfl
    obtain ⟨ob10, bf10, bt10, bs10, kf10, kt10, ks10, rfl, N10q, KK10, xE10, x_units10, x_from10, x_to10, x_separator10, x_length10, xf10, xt10, xs10⟩ := hQ10
    have N10 := Fr.app N9 N10q
    have V_b7_10 := V_b7_9.keep KK10 nin0
    have SZ10 : n0 ≤ T10.heap.size := Nat.le_trans SZ9 KK10.1
    obtain ⟨cq11, kq11, q11a, q11b, q11c⟩ := isOf hZ e10 xE10
    obtain ⟨_, _, ⟨T11, L11, k11, n11⟩, -, X11, ⟨Lc11, hQ11, l11, y11, z11⟩, st11⟩ := X10.virtualBack hx (y := (⟨"com/example/words_to_verdict/wordstoverdict/match/FoldedText", "length", "()I"⟩ : MethodName)) (z := (⟨"com/example/words_to_verdict/wordstoverdict/match/FoldedText", "length", "()I"⟩ : MethodName)) hown (mvT hZ (hw _ (List.mem_of_getElem? (i := 25) rfl))) (mvT hZ (hw _ (List.mem_of_getElem? (i := 26) rfl))) (notFace_of_selects (args := #[]) (mvT hZ (hw _ (List.mem_of_getElem? (i := 28) rfl)))) (mvT hZ (hw _ (List.mem_of_getElem? (i := 28) rfl))) (mvT hZ (hw _ (List.mem_of_getElem? (i := 27) rfl))) (by decide) (backOf (W := 0) (rm4_L l Z a0 hw [] ob10 (1 : Int32) T10.heap n0 SZ10 (x_length10)) hZ (hw _ (List.mem_of_getElem? (i := 29) rfl)) (hw _ (List.mem_of_getElem? (i := 4) rfl)) (by decide) (by decide)) q11a q11c (g := (mkF m 40 #[.val (.int p1), .val (.int p2), .val (.int p3), .val (.int (1 : Int32)), .val (.ref b7), .val (.ref ob10)] [(.ref ob10)])) rfl (by rw [hml]; rfl) (Steps.refl _) (argsL := []) (rest := []) (lenOf pd_4 rfl) rfl (by show 2 * 0 + _ ≤ _; exact Nat.le_of_eq rfl) (hb hby at_40) (fun _ _ => ⟨rfl, e10, (by decide : 5 + 0 ≤ _), (by decide : 9 + 0 ≤ _)⟩)
    dsimp only [Pt.U, Pt.locs, Pt.cells, Pt.slots] at X11 l11 y11 z11 st11 hQ11
    subst l11 y11 z11
    obtain ⟨rfl, N11q, e11⟩ := hQ11
    have N11 := Fr.app N10 N11q
    obtain ⟨_, _, ⟨T12, L12, k12, n12⟩, -, X12, ⟨Lc12, hQ12, l12, y12, z12⟩, st12⟩ := Jvm.LawKit.callS X11 hx (y := (⟨"com/example/words_to_verdict/wordstoverdict/match/FoldedTextOfPinLaw", "unitOk", "(Lcom/example/words_to_verdict/wordstoverdict/match/FoldedText;II)Z"⟩ : MethodName)) hown (mvT hZ (hw _ (List.mem_of_getElem? (i := 30) rfl))) (mvT hZ (hw _ (List.mem_of_getElem? (i := 31) rfl))) (mvT hZ (hw _ (List.mem_of_getElem? (i := 32) rfl))) (mvT hZ (hw _ (List.mem_of_getElem? (i := 33) rfl))) (by decide) (backOf (W := 0) (rmK10 l Z a0 hw [] ob10 b7 bf10 bt10 bs10 k7 kf10 kt10 ks10 p2 T10.heap n0 SZ10 (xE10) (x_units10) (x_from10) (x_to10) (x_separator10) (V_b7_10) (xf10) (xt10) (xs10)) hZ (hw _ (List.mem_of_getElem? (i := 33) rfl)) (hw _ (List.mem_of_getElem? (i := 32) rfl)) (by decide) (by decide)) (g := (mkF m 57 #[.val (.int p1), .val (.int p2), .val (.int p3), .val (.int (1 : Int32)), .val (.ref b7), .val (.ref ob10)] [(.int p2), (.int (0 : Int32)), (.ref ob10)])) rfl (by rw [hml]; rfl) (argsL := [(.ref ob10), (.int (0 : Int32)), (.int p2)]) (rest := []) (lenOf pd_5 rfl) rfl (by show 2 * 0 + _ ≤ _; exact Nat.le_of_eq rfl) (hb hby at_57) (fun _ _ => ⟨rfl, e11, (by decide : 5 + 0 ≤ _), (by decide : 9 + 0 ≤ _)⟩)
    dsimp only [Pt.U, Pt.locs, Pt.cells, Pt.slots] at X12 l12 y12 z12 st12 hQ12
    subst l12 y12 z12
    obtain ⟨rfl, N12q, e12⟩ := hQ12
    have N12 := Fr.app N11 N12q
    obtain ⟨fs, hr, hrun, hended, hW, hsame⟩ := X12.leave (v := some (.int (1 : Int32))) (fun h => by rw [Bd.returns] at h; cases h)
    refine ⟨_, _, pre0 _ ?_, hrun, hended, _, _, rfl, ?_, ⟨_, rfl⟩, hW, hsame.mono (by decide) (by decide)⟩
    · show Steps p.tables e below (s₁.setTop (mkF m 0 #[.val (.int p1), .val (.int p2), .val (.int p3), .unset, .unset, .unset] [])) _
      refine XS.iloadN X0.here hx rfl (hb hby at_0) rfl ?_
      show Steps p.tables e below (s₁.setTop (mkF m 1 #[.val (.int p1), .val (.int p2), .val (.int p3), .unset, .unset, .unset] [(.int p1)])) _
      refine X0.ldcI hx hown (mvT hZ (hw _ (List.mem_of_getElem? (i := 0) rfl))) (g := (mkF m 1 #[.val (.int p1), .val (.int p2), .val (.int p3), .unset, .unset, .unset] [(.int p1)])) rfl (hb hby at_1) ?_
      show Steps p.tables e below (s₁.setTop (mkF m 3 #[.val (.int p1), .val (.int p2), .val (.int p3), .unset, .unset, .unset] [(.int (2147483647 : Int32)), (.int p1)])) _
      refine XS.iand X0.here hx rfl (hb hby at_3) rfl ?_
      show Steps p.tables e below (s₁.setTop (mkF m 4 #[.val (.int p1), .val (.int p2), .val (.int p3), .unset, .unset, .unset] [(.int (p1 &&& (2147483647 : Int32)))])) _
      refine XS.iconst X0.here hx rfl (hb hby at_4) ?_
      show Steps p.tables e below (s₁.setTop (mkF m 5 #[.val (.int p1), .val (.int p2), .val (.int p3), .unset, .unset, .unset] [(.int (3 : Int32)), (.int (p1 &&& (2147483647 : Int32)))])) _
      refine XS.irem X0.here hx rfl (hb hby at_5) rfl (by decide) ?_
      rw [own_irem]
      rw [hn]
      show Steps p.tables e below (s₁.setTop (mkF m 6 #[.val (.int p1), .val (.int p2), .val (.int p3), .unset, .unset, .unset] [(.int (1 : Int32))])) _
      refine XS.istoreN X0.here hx rfl (hb hby at_6) rfl (l' := #[.val (.int p1), .val (.int p2), .val (.int p3), .val (.int (1 : Int32)), .unset, .unset]) rfl ?_
      show Steps p.tables e below (s₁.setTop (mkF m 7 #[.val (.int p1), .val (.int p2), .val (.int p3), .val (.int (1 : Int32)), .unset, .unset] [])) _
      refine XS.iloadN X0.here hx rfl (hb hby at_7) rfl ?_
      show Steps p.tables e below (s₁.setTop (mkF m 8 #[.val (.int p1), .val (.int p2), .val (.int p3), .val (.int (1 : Int32)), .unset, .unset] [(.int (1 : Int32))])) _
      refine st7 _ ?_
      show Steps p.tables e below (T7.setTop (mkF m 10 #[.val (.int p1), .val (.int p2), .val (.int p3), .val (.int (1 : Int32)), .unset, .unset] [(.ref b7)])) _
      refine XS.astore X7.here hx rfl (hb hby at_10) rfl rfl (l' := #[.val (.int p1), .val (.int p2), .val (.int p3), .val (.int (1 : Int32)), .val (.ref b7), .unset]) rfl ?_
      show Steps p.tables e below (T7.setTop (mkF m 12 #[.val (.int p1), .val (.int p2), .val (.int p3), .val (.int (1 : Int32)), .val (.ref b7), .unset] [])) _
      refine XS.iloadN X7.here hx rfl (hb hby at_12) rfl ?_
      show Steps p.tables e below (T7.setTop (mkF m 13 #[.val (.int p1), .val (.int p2), .val (.int p3), .val (.int (1 : Int32)), .val (.ref b7), .unset] [(.int (1 : Int32))])) _
      refine XS.ifNo X7.here hx rfl (hb hby at_13) rfl ((if0 _ _).trans (tlt (by decide : (0 : Int32) < (1 : Int32))).2.2.2) ?_
      show Steps p.tables e below (T7.setTop (mkF m 16 #[.val (.int p1), .val (.int p2), .val (.int p3), .val (.int (1 : Int32)), .val (.ref b7), .unset] [])) _
      refine XS.aload X7.here hx rfl (hb hby at_16) rfl rfl ?_
      show Steps p.tables e below (T7.setTop (mkF m 18 #[.val (.int p1), .val (.int p2), .val (.int p3), .val (.int (1 : Int32)), .val (.ref b7), .unset] [(.ref b7)])) _
      refine XS.iconst X7.here hx rfl (hb hby at_18) ?_
      show Steps p.tables e below (T7.setTop (mkF m 19 #[.val (.int p1), .val (.int p2), .val (.int p3), .val (.int (1 : Int32)), .val (.ref b7), .unset] [(.int (0 : Int32)), (.ref b7)])) _
      refine XS.iloadN X7.here hx rfl (hb hby at_19) rfl ?_
      show Steps p.tables e below (T7.setTop (mkF m 20 #[.val (.int p1), .val (.int p2), .val (.int p3), .val (.int (1 : Int32)), .val (.ref b7), .unset] [(.int p2), (.int (0 : Int32)), (.ref b7)])) _
      refine st9 _ ?_
      show Steps p.tables e below (T9.setTop (mkF m 21 #[.val (.int p1), .val (.int p2), .val (.int p3), .val (.int (1 : Int32)), .val (.ref b7), .unset] [])) _
      refine XS.iloadN X9.here hx rfl (hb hby at_21) rfl ?_
      show Steps p.tables e below (T9.setTop (mkF m 22 #[.val (.int p1), .val (.int p2), .val (.int p3), .val (.int (1 : Int32)), .val (.ref b7), .unset] [(.int (1 : Int32))])) _
      refine XS.iconst X9.here hx rfl (hb hby at_22) ?_
      show Steps p.tables e below (T9.setTop (mkF m 23 #[.val (.int p1), .val (.int p2), .val (.int p3), .val (.int (1 : Int32)), .val (.ref b7), .unset] [(.int (1 : Int32)), (.int (1 : Int32))])) _
      refine XS.icmpYes X9.here hx rfl (pc0 := 23) (pc' := 31) rfl (hb hby at_23) rfl (flt (by decide : ¬ ((1 : Int32) < (1 : Int32)))).2.2.2 (by decide) (by decide) ?_
      show Steps p.tables e below (T9.setTop (mkF m 31 #[.val (.int p1), .val (.int p2), .val (.int p3), .val (.int (1 : Int32)), .val (.ref b7), .unset] [])) _
      refine XS.aload X9.here hx rfl (hb hby at_31) rfl rfl ?_
      show Steps p.tables e below (T9.setTop (mkF m 33 #[.val (.int p1), .val (.int p2), .val (.int p3), .val (.int (1 : Int32)), .val (.ref b7), .unset] [(.ref b7)])) _
      refine st10 _ ?_
      show Steps p.tables e below (T10.setTop (mkF m 36 #[.val (.int p1), .val (.int p2), .val (.int p3), .val (.int (1 : Int32)), .val (.ref b7), .unset] [(.ref ob10)])) _
      refine XS.astore X10.here hx rfl (hb hby at_36) rfl rfl (l' := #[.val (.int p1), .val (.int p2), .val (.int p3), .val (.int (1 : Int32)), .val (.ref b7), .val (.ref ob10)]) rfl ?_
      show Steps p.tables e below (T10.setTop (mkF m 38 #[.val (.int p1), .val (.int p2), .val (.int p3), .val (.int (1 : Int32)), .val (.ref b7), .val (.ref ob10)] [])) _
      refine XS.aload X10.here hx rfl (hb hby at_38) rfl rfl ?_
      show Steps p.tables e below (T10.setTop (mkF m 40 #[.val (.int p1), .val (.int p2), .val (.int p3), .val (.int (1 : Int32)), .val (.ref b7), .val (.ref ob10)] [(.ref ob10)])) _
      refine st11.trans ?_
      show Steps p.tables e below (T11.setTop (mkF m 43 #[.val (.int p1), .val (.int p2), .val (.int p3), .val (.int (1 : Int32)), .val (.ref b7), .val (.ref ob10)] [(.int (1 : Int32))])) _
      refine XS.iloadN X11.here hx rfl (hb hby at_43) rfl ?_
      show Steps p.tables e below (T11.setTop (mkF m 44 #[.val (.int p1), .val (.int p2), .val (.int p3), .val (.int (1 : Int32)), .val (.ref b7), .val (.ref ob10)] [(.int (1 : Int32)), (.int (1 : Int32))])) _
      refine XS.icmpYes X11.here hx rfl (pc0 := 44) (pc' := 49) rfl (hb hby at_44) rfl (teq ((rfl) : (1 : Int32) = (1 : Int32))).1 (by decide) (by decide) ?_
      show Steps p.tables e below (T11.setTop (mkF m 49 #[.val (.int p1), .val (.int p2), .val (.int p3), .val (.int (1 : Int32)), .val (.ref b7), .val (.ref ob10)] [])) _
      refine XS.iloadN X11.here hx rfl (hb hby at_49) rfl ?_
      show Steps p.tables e below (T11.setTop (mkF m 50 #[.val (.int p1), .val (.int p2), .val (.int p3), .val (.int (1 : Int32)), .val (.ref b7), .val (.ref ob10)] [(.int (1 : Int32))])) _
      refine XS.ifNo X11.here hx rfl (hb hby at_50) rfl ((if0 _ _).trans (tlt (by decide : (0 : Int32) < (1 : Int32))).2.2.2) ?_
      show Steps p.tables e below (T11.setTop (mkF m 53 #[.val (.int p1), .val (.int p2), .val (.int p3), .val (.int (1 : Int32)), .val (.ref b7), .val (.ref ob10)] [])) _
      refine XS.aload X11.here hx rfl (hb hby at_53) rfl rfl ?_
      show Steps p.tables e below (T11.setTop (mkF m 55 #[.val (.int p1), .val (.int p2), .val (.int p3), .val (.int (1 : Int32)), .val (.ref b7), .val (.ref ob10)] [(.ref ob10)])) _
      refine XS.iconst X11.here hx rfl (hb hby at_55) ?_
      show Steps p.tables e below (T11.setTop (mkF m 56 #[.val (.int p1), .val (.int p2), .val (.int p3), .val (.int (1 : Int32)), .val (.ref b7), .val (.ref ob10)] [(.int (0 : Int32)), (.ref ob10)])) _
      refine XS.iloadN X11.here hx rfl (hb hby at_56) rfl ?_
      show Steps p.tables e below (T11.setTop (mkF m 57 #[.val (.int p1), .val (.int p2), .val (.int p3), .val (.int (1 : Int32)), .val (.ref b7), .val (.ref ob10)] [(.int p2), (.int (0 : Int32)), (.ref ob10)])) _
      refine st12 _ ?_
      show Steps p.tables e below (T12.setTop (mkF m 60 #[.val (.int p1), .val (.int p2), .val (.int p3), .val (.int (1 : Int32)), .val (.ref b7), .val (.ref ob10)] [(.int (1 : Int32))])) _
      refine XS.ifYes X12.here hx rfl (pc0 := 60) (pc' := 65) rfl (hb hby at_60) rfl ((if0 _ _).trans (feq (by decide : ¬ ((1 : Int32) = (0 : Int32)))).2) (by decide) (by decide) ?_
      show Steps p.tables e below (T12.setTop (mkF m 65 #[.val (.int p1), .val (.int p2), .val (.int p3), .val (.int (1 : Int32)), .val (.ref b7), .val (.ref ob10)] [])) _
      refine XS.iloadN X12.here hx rfl (hb hby at_65) rfl ?_
      show Steps p.tables e below (T12.setTop (mkF m 66 #[.val (.int p1), .val (.int p2), .val (.int p3), .val (.int (1 : Int32)), .val (.ref b7), .val (.ref ob10)] [(.int (1 : Int32))])) _
      refine XS.iconst X12.here hx rfl (hb hby at_66) ?_
      show Steps p.tables e below (T12.setTop (mkF m 67 #[.val (.int p1), .val (.int p2), .val (.int p3), .val (.int (1 : Int32)), .val (.ref b7), .val (.ref ob10)] [(.int (1 : Int32)), (.int (1 : Int32))])) _
      refine XS.icmpYes X12.here hx rfl (pc0 := 67) (pc' := 82) rfl (hb hby at_67) rfl (flt (by decide : ¬ ((1 : Int32) < (1 : Int32)))).2.2.2 (by decide) (by decide) ?_
      show Steps p.tables e below (T12.setTop (mkF m 82 #[.val (.int p1), .val (.int p2), .val (.int p3), .val (.int (1 : Int32)), .val (.ref b7), .val (.ref ob10)] [])) _
      refine XS.iconst X12.here hx rfl (hb hby at_82) ?_
      show Steps p.tables e below (T12.setTop (mkF m 83 #[.val (.int p1), .val (.int p2), .val (.int p3), .val (.int (1 : Int32)), .val (.ref b7), .val (.ref ob10)] [(.int (1 : Int32))])) _
      exact retN X12 hx (t := .boolean) Bd.returns (by simp) (hb hby at_83) hr
    · show QF n0 _ T12.heap _
      rw [e12]
      exact ⟨rfl, N12⟩
  · have hn : ((p1 &&& (2147483647 : Int32)) % (3 : Int32)) = (2 : Int32) := Int32.toInt_inj.mp (m3.trans rfl)
    obtain ⟨T13, h13, k13, X13, e13, E13, A13, st13⟩ := newP X0 hx hZ (hw _ (List.mem_of_getElem? (i := 1) rfl)) e0 (g := (mkF m 8 #[.val (.int p1), .val (.int p2), .val (.int p3), .val (.int (2 : Int32)), .unset, .unset] [(.int (2 : Int32))])) rfl (hb hby at_8) rfl (by decide) (cap := 2) (by decide) (by decide) (by decide) (by decide)
    obtain ⟨b13, g13⟩ : ∃ z, z = h0.size := ⟨_, rfl⟩
    rw [← g13] at A13 st13
    have g_b13 : n0 ≤ b13 := Nat.le_trans Z0 (Nat.le_of_eq g13.symm)
    have sz_b13 : h0.size ≤ b13 := Nat.le_of_eq g13.symm
    have SZ13 : n0 ≤ h13.size := Nat.le_trans Z0 E13.1
    have V_b13 : Arv Z h13 b13 k13 .int (2 : Int32) [(.int (0 : Int32)), (.int (0 : Int32))] (.int (0 : Int32)) := (Arv.new A13 (by decide)).pad (pad_rep [] (.int (0 : Int32)) 2)
    obtain ⟨clu14, Aru14, qu14, Su14, Mu14, Hu14, Gu14⟩ := id V_b13
    have hinu14 : ¬ ((0 : Int32) < 0 ∨ clu14.slots.size ≤ ((0 : Int32)).toNatClampNeg) := inb_of Su14 ⟨by decide, by decide⟩
    obtain ⟨T15, h15, X15, e15, W15, st15⟩ := stI X13 hx hZ e13 Aru14 (j := (0 : Int32)) hinu14 (g := (mkF m 20 #[.val (.int p1), .val (.int p2), .val (.int p3), .val (.int (2 : Int32)), .val (.ref b13), .unset] [(.int p2), (.int (0 : Int32)), (.ref b13)])) rfl rfl (hb hby at_20)
    have SZ15 : n0 ≤ h15.size := by rw [W15.size]; exact SZ13
    have N15 := Fr.snoc X15 N0 g_b13
    have V_b13_15 : Arv Z h15 b13 k13 .int (2 : Int32) [(.int p2), (.int (0 : Int32))] (.int (0 : Int32)) := Arv.set Aru14 qu14 Su14 Mu14 Hu14 Gu14 rfl W15 0 rfl (Nat.le_of_ble_eq_true rfl)
    obtain ⟨clu16, Aru16, qu16, Su16, Mu16, Hu16, Gu16⟩ := id V_b13_15
    have hinu16 : ¬ ((1 : Int32) < 0 ∨ clu16.slots.size ≤ ((1 : Int32)).toNatClampNeg) := inb_of Su16 ⟨by decide, by decide⟩
    obtain ⟨T17, h17, X17, e17, W17, st17⟩ := stI X15 hx hZ e15 Aru16 (j := (1 : Int32)) hinu16 (g := (mkF m 30 #[.val (.int p1), .val (.int p2), .val (.int p3), .val (.int (2 : Int32)), .val (.ref b13), .unset] [(.int p3), (.int (1 : Int32)), (.ref b13)])) rfl rfl (hb hby at_30)
    have SZ17 : n0 ≤ h17.size := by rw [W17.size]; exact SZ15
    have N17 := Fr.snoc X17 N15 g_b13
    have V_b13_17 : Arv Z h17 b13 k13 .int (2 : Int32) [(.int p2), (.int p3)] (.int (0 : Int32)) := Arv.set Aru16 qu16 Su16 Mu16 Hu16 Gu16 rfl W17 1 rfl (Nat.le_of_ble_eq_true rfl)
    obtain ⟨_, _, ⟨T18, L18, k18, n18⟩, -, X18, ⟨Lc18, hQ18, l18, y18, z18⟩, st18⟩ := Jvm.LawKit.callS X17 hx (y := (⟨"com/example/words_to_verdict/wordstoverdict/match/FoldedText", "of", "([I)Lcom/example/words_to_verdict/wordstoverdict/match/FoldedText;"⟩ : MethodName)) hown (mvT hZ (hw _ (List.mem_of_getElem? (i := 2) rfl))) (mvT hZ (hw _ (List.mem_of_getElem? (i := 3) rfl))) (mvT hZ (hw _ (List.mem_of_getElem? (i := 4) rfl))) (mvT hZ (hw _ (List.mem_of_getElem? (i := 5) rfl))) (by decide) (backOf (W := 0) (rmO2 l Z a0 hw [] b13 k13 p2 p3 h17 n0 SZ17 (V_b13_17)) hZ (hw _ (List.mem_of_getElem? (i := 5) rfl)) (hw _ (List.mem_of_getElem? (i := 4) rfl)) (by decide) (by decide)) (g := (mkF m 33 #[.val (.int p1), .val (.int p2), .val (.int p3), .val (.int (2 : Int32)), .val (.ref b13), .unset] [(.ref b13)])) rfl (by rw [hml]; rfl) (argsL := [(.ref b13)]) (rest := []) (lenOf pd_3 rfl) rfl (by show 2 * 0 + _ ≤ _; exact Nat.le_of_eq rfl) (hb hby at_33) (fun _ _ => ⟨rfl, e17, (by decide : 1 + 4 ≤ _), (by decide : 2 + 11 ≤ _)⟩)
    dsimp only [Pt.U, Pt.locs, Pt.cells, Pt.slots] at X18 l18 y18 z18 st18 hQ18
    subst l18 y18 z18
    have e18 : T18.heap = T18.heap := rfl
    obtain ⟨ob18, bf18, bt18, bs18, kf18, kt18, ks18, rfl, N18q, KK18, xE18, x_units18, x_from18, x_to18, x_separator18, x_length18, xf18, xt18, xs18⟩ := hQ18
    have N18 := Fr.app N17 N18q
    have V_b13_18 := V_b13_17.keep KK18 nin0
    have SZ18 : n0 ≤ T18.heap.size := Nat.le_trans SZ17 KK18.1
    obtain ⟨cq19, kq19, q19a, q19b, q19c⟩ := isOf hZ e18 xE18
    obtain ⟨_, _, ⟨T19, L19, k19, n19⟩, -, X19, ⟨Lc19, hQ19, l19, y19, z19⟩, st19⟩ := X18.virtualBack hx (y := (⟨"com/example/words_to_verdict/wordstoverdict/match/FoldedText", "length", "()I"⟩ : MethodName)) (z := (⟨"com/example/words_to_verdict/wordstoverdict/match/FoldedText", "length", "()I"⟩ : MethodName)) hown (mvT hZ (hw _ (List.mem_of_getElem? (i := 25) rfl))) (mvT hZ (hw _ (List.mem_of_getElem? (i := 26) rfl))) (notFace_of_selects (args := #[]) (mvT hZ (hw _ (List.mem_of_getElem? (i := 28) rfl)))) (mvT hZ (hw _ (List.mem_of_getElem? (i := 28) rfl))) (mvT hZ (hw _ (List.mem_of_getElem? (i := 27) rfl))) (by decide) (backOf (W := 0) (rm4_L l Z a0 hw [] ob18 (2 : Int32) T18.heap n0 SZ18 (x_length18)) hZ (hw _ (List.mem_of_getElem? (i := 29) rfl)) (hw _ (List.mem_of_getElem? (i := 4) rfl)) (by decide) (by decide)) q19a q19c (g := (mkF m 40 #[.val (.int p1), .val (.int p2), .val (.int p3), .val (.int (2 : Int32)), .val (.ref b13), .val (.ref ob18)] [(.ref ob18)])) rfl (by rw [hml]; rfl) (Steps.refl _) (argsL := []) (rest := []) (lenOf pd_4 rfl) rfl (by show 2 * 0 + _ ≤ _; exact Nat.le_of_eq rfl) (hb hby at_40) (fun _ _ => ⟨rfl, e18, (by decide : 5 + 0 ≤ _), (by decide : 13 + 0 ≤ _)⟩)
    dsimp only [Pt.U, Pt.locs, Pt.cells, Pt.slots] at X19 l19 y19 z19 st19 hQ19
    subst l19 y19 z19
    obtain ⟨rfl, N19q, e19⟩ := hQ19
    have N19 := Fr.app N18 N19q
    obtain ⟨_, _, ⟨T20, L20, k20, n20⟩, -, X20, ⟨Lc20, hQ20, l20, y20, z20⟩, st20⟩ := Jvm.LawKit.callS X19 hx (y := (⟨"com/example/words_to_verdict/wordstoverdict/match/FoldedTextOfPinLaw", "unitOk", "(Lcom/example/words_to_verdict/wordstoverdict/match/FoldedText;II)Z"⟩ : MethodName)) hown (mvT hZ (hw _ (List.mem_of_getElem? (i := 30) rfl))) (mvT hZ (hw _ (List.mem_of_getElem? (i := 31) rfl))) (mvT hZ (hw _ (List.mem_of_getElem? (i := 32) rfl))) (mvT hZ (hw _ (List.mem_of_getElem? (i := 33) rfl))) (by decide) (backOf (W := 0) (rmK20 l Z a0 hw [] ob18 b13 bf18 bt18 bs18 k13 kf18 kt18 ks18 p2 p3 T18.heap n0 SZ18 (xE18) (x_units18) (x_from18) (x_to18) (x_separator18) (V_b13_18) (xf18) (xt18) (xs18)) hZ (hw _ (List.mem_of_getElem? (i := 33) rfl)) (hw _ (List.mem_of_getElem? (i := 32) rfl)) (by decide) (by decide)) (g := (mkF m 57 #[.val (.int p1), .val (.int p2), .val (.int p3), .val (.int (2 : Int32)), .val (.ref b13), .val (.ref ob18)] [(.int p2), (.int (0 : Int32)), (.ref ob18)])) rfl (by rw [hml]; rfl) (argsL := [(.ref ob18), (.int (0 : Int32)), (.int p2)]) (rest := []) (lenOf pd_5 rfl) rfl (by show 2 * 0 + _ ≤ _; exact Nat.le_of_eq rfl) (hb hby at_57) (fun _ _ => ⟨rfl, e19, (by decide : 5 + 0 ≤ _), (by decide : 13 + 0 ≤ _)⟩)
    dsimp only [Pt.U, Pt.locs, Pt.cells, Pt.slots] at X20 l20 y20 z20 st20 hQ20
    subst l20 y20 z20
    obtain ⟨rfl, N20q, e20⟩ := hQ20
    have N20 := Fr.app N19 N20q
    obtain ⟨_, _, ⟨T21, L21, k21, n21⟩, -, X21, ⟨Lc21, hQ21, l21, y21, z21⟩, st21⟩ := Jvm.LawKit.callS X20 hx (y := (⟨"com/example/words_to_verdict/wordstoverdict/match/FoldedTextOfPinLaw", "unitOk", "(Lcom/example/words_to_verdict/wordstoverdict/match/FoldedText;II)Z"⟩ : MethodName)) hown (mvT hZ (hw _ (List.mem_of_getElem? (i := 30) rfl))) (mvT hZ (hw _ (List.mem_of_getElem? (i := 31) rfl))) (mvT hZ (hw _ (List.mem_of_getElem? (i := 32) rfl))) (mvT hZ (hw _ (List.mem_of_getElem? (i := 33) rfl))) (by decide) (backOf (W := 0) (rmK21 l Z a0 hw [] ob18 b13 bf18 bt18 bs18 k13 kf18 kt18 ks18 p2 p3 T18.heap n0 SZ18 (xE18) (x_units18) (x_from18) (x_to18) (x_separator18) (V_b13_18) (xf18) (xt18) (xs18)) hZ (hw _ (List.mem_of_getElem? (i := 33) rfl)) (hw _ (List.mem_of_getElem? (i := 32) rfl)) (by decide) (by decide)) (g := (mkF m 74 #[.val (.int p1), .val (.int p2), .val (.int p3), .val (.int (2 : Int32)), .val (.ref b13), .val (.ref ob18)] [(.int p3), (.int (1 : Int32)), (.ref ob18)])) rfl (by rw [hml]; rfl) (argsL := [(.ref ob18), (.int (1 : Int32)), (.int p3)]) (rest := []) (lenOf pd_5 rfl) rfl (by show 2 * 0 + _ ≤ _; exact Nat.le_of_eq rfl) (hb hby at_74) (fun _ _ => ⟨rfl, e20, (by decide : 5 + 0 ≤ _), (by decide : 13 + 0 ≤ _)⟩)
    dsimp only [Pt.U, Pt.locs, Pt.cells, Pt.slots] at X21 l21 y21 z21 st21 hQ21
    subst l21 y21 z21
    obtain ⟨rfl, N21q, e21⟩ := hQ21
    have N21 := Fr.app N20 N21q
    obtain ⟨fs, hr, hrun, hended, hW, hsame⟩ := X21.leave (v := some (.int (1 : Int32))) (fun h => by rw [Bd.returns] at h; cases h)
    refine ⟨_, _, pre0 _ ?_, hrun, hended, _, _, rfl, ?_, ⟨_, rfl⟩, hW, hsame.mono (by decide) (by decide)⟩
    · show Steps p.tables e below (s₁.setTop (mkF m 0 #[.val (.int p1), .val (.int p2), .val (.int p3), .unset, .unset, .unset] [])) _
      refine XS.iloadN X0.here hx rfl (hb hby at_0) rfl ?_
      show Steps p.tables e below (s₁.setTop (mkF m 1 #[.val (.int p1), .val (.int p2), .val (.int p3), .unset, .unset, .unset] [(.int p1)])) _
      refine X0.ldcI hx hown (mvT hZ (hw _ (List.mem_of_getElem? (i := 0) rfl))) (g := (mkF m 1 #[.val (.int p1), .val (.int p2), .val (.int p3), .unset, .unset, .unset] [(.int p1)])) rfl (hb hby at_1) ?_
      show Steps p.tables e below (s₁.setTop (mkF m 3 #[.val (.int p1), .val (.int p2), .val (.int p3), .unset, .unset, .unset] [(.int (2147483647 : Int32)), (.int p1)])) _
      refine XS.iand X0.here hx rfl (hb hby at_3) rfl ?_
      show Steps p.tables e below (s₁.setTop (mkF m 4 #[.val (.int p1), .val (.int p2), .val (.int p3), .unset, .unset, .unset] [(.int (p1 &&& (2147483647 : Int32)))])) _
      refine XS.iconst X0.here hx rfl (hb hby at_4) ?_
      show Steps p.tables e below (s₁.setTop (mkF m 5 #[.val (.int p1), .val (.int p2), .val (.int p3), .unset, .unset, .unset] [(.int (3 : Int32)), (.int (p1 &&& (2147483647 : Int32)))])) _
      refine XS.irem X0.here hx rfl (hb hby at_5) rfl (by decide) ?_
      rw [own_irem]
      rw [hn]
      show Steps p.tables e below (s₁.setTop (mkF m 6 #[.val (.int p1), .val (.int p2), .val (.int p3), .unset, .unset, .unset] [(.int (2 : Int32))])) _
      refine XS.istoreN X0.here hx rfl (hb hby at_6) rfl (l' := #[.val (.int p1), .val (.int p2), .val (.int p3), .val (.int (2 : Int32)), .unset, .unset]) rfl ?_
      show Steps p.tables e below (s₁.setTop (mkF m 7 #[.val (.int p1), .val (.int p2), .val (.int p3), .val (.int (2 : Int32)), .unset, .unset] [])) _
      refine XS.iloadN X0.here hx rfl (hb hby at_7) rfl ?_
      show Steps p.tables e below (s₁.setTop (mkF m 8 #[.val (.int p1), .val (.int p2), .val (.int p3), .val (.int (2 : Int32)), .unset, .unset] [(.int (2 : Int32))])) _
      refine st13 _ ?_
      show Steps p.tables e below (T13.setTop (mkF m 10 #[.val (.int p1), .val (.int p2), .val (.int p3), .val (.int (2 : Int32)), .unset, .unset] [(.ref b13)])) _
      refine XS.astore X13.here hx rfl (hb hby at_10) rfl rfl (l' := #[.val (.int p1), .val (.int p2), .val (.int p3), .val (.int (2 : Int32)), .val (.ref b13), .unset]) rfl ?_
      show Steps p.tables e below (T13.setTop (mkF m 12 #[.val (.int p1), .val (.int p2), .val (.int p3), .val (.int (2 : Int32)), .val (.ref b13), .unset] [])) _
      refine XS.iloadN X13.here hx rfl (hb hby at_12) rfl ?_
      show Steps p.tables e below (T13.setTop (mkF m 13 #[.val (.int p1), .val (.int p2), .val (.int p3), .val (.int (2 : Int32)), .val (.ref b13), .unset] [(.int (2 : Int32))])) _
      refine XS.ifNo X13.here hx rfl (hb hby at_13) rfl ((if0 _ _).trans (tlt (by decide : (0 : Int32) < (2 : Int32))).2.2.2) ?_
      show Steps p.tables e below (T13.setTop (mkF m 16 #[.val (.int p1), .val (.int p2), .val (.int p3), .val (.int (2 : Int32)), .val (.ref b13), .unset] [])) _
      refine XS.aload X13.here hx rfl (hb hby at_16) rfl rfl ?_
      show Steps p.tables e below (T13.setTop (mkF m 18 #[.val (.int p1), .val (.int p2), .val (.int p3), .val (.int (2 : Int32)), .val (.ref b13), .unset] [(.ref b13)])) _
      refine XS.iconst X13.here hx rfl (hb hby at_18) ?_
      show Steps p.tables e below (T13.setTop (mkF m 19 #[.val (.int p1), .val (.int p2), .val (.int p3), .val (.int (2 : Int32)), .val (.ref b13), .unset] [(.int (0 : Int32)), (.ref b13)])) _
      refine XS.iloadN X13.here hx rfl (hb hby at_19) rfl ?_
      show Steps p.tables e below (T13.setTop (mkF m 20 #[.val (.int p1), .val (.int p2), .val (.int p3), .val (.int (2 : Int32)), .val (.ref b13), .unset] [(.int p2), (.int (0 : Int32)), (.ref b13)])) _
      refine st15 _ ?_
      show Steps p.tables e below (T15.setTop (mkF m 21 #[.val (.int p1), .val (.int p2), .val (.int p3), .val (.int (2 : Int32)), .val (.ref b13), .unset] [])) _
      refine XS.iloadN X15.here hx rfl (hb hby at_21) rfl ?_
      show Steps p.tables e below (T15.setTop (mkF m 22 #[.val (.int p1), .val (.int p2), .val (.int p3), .val (.int (2 : Int32)), .val (.ref b13), .unset] [(.int (2 : Int32))])) _
      refine XS.iconst X15.here hx rfl (hb hby at_22) ?_
      show Steps p.tables e below (T15.setTop (mkF m 23 #[.val (.int p1), .val (.int p2), .val (.int p3), .val (.int (2 : Int32)), .val (.ref b13), .unset] [(.int (1 : Int32)), (.int (2 : Int32))])) _
      refine XS.icmpNo X15.here hx rfl (hb hby at_23) rfl (tlt (by decide : (1 : Int32) < (2 : Int32))).2.2.2 ?_
      show Steps p.tables e below (T15.setTop (mkF m 26 #[.val (.int p1), .val (.int p2), .val (.int p3), .val (.int (2 : Int32)), .val (.ref b13), .unset] [])) _
      refine XS.aload X15.here hx rfl (hb hby at_26) rfl rfl ?_
      show Steps p.tables e below (T15.setTop (mkF m 28 #[.val (.int p1), .val (.int p2), .val (.int p3), .val (.int (2 : Int32)), .val (.ref b13), .unset] [(.ref b13)])) _
      refine XS.iconst X15.here hx rfl (hb hby at_28) ?_
      show Steps p.tables e below (T15.setTop (mkF m 29 #[.val (.int p1), .val (.int p2), .val (.int p3), .val (.int (2 : Int32)), .val (.ref b13), .unset] [(.int (1 : Int32)), (.ref b13)])) _
      refine XS.iloadN X15.here hx rfl (hb hby at_29) rfl ?_
      show Steps p.tables e below (T15.setTop (mkF m 30 #[.val (.int p1), .val (.int p2), .val (.int p3), .val (.int (2 : Int32)), .val (.ref b13), .unset] [(.int p3), (.int (1 : Int32)), (.ref b13)])) _
      refine st17 _ ?_
      show Steps p.tables e below (T17.setTop (mkF m 31 #[.val (.int p1), .val (.int p2), .val (.int p3), .val (.int (2 : Int32)), .val (.ref b13), .unset] [])) _
      refine XS.aload X17.here hx rfl (hb hby at_31) rfl rfl ?_
      show Steps p.tables e below (T17.setTop (mkF m 33 #[.val (.int p1), .val (.int p2), .val (.int p3), .val (.int (2 : Int32)), .val (.ref b13), .unset] [(.ref b13)])) _
      refine st18 _ ?_
      show Steps p.tables e below (T18.setTop (mkF m 36 #[.val (.int p1), .val (.int p2), .val (.int p3), .val (.int (2 : Int32)), .val (.ref b13), .unset] [(.ref ob18)])) _
      refine XS.astore X18.here hx rfl (hb hby at_36) rfl rfl (l' := #[.val (.int p1), .val (.int p2), .val (.int p3), .val (.int (2 : Int32)), .val (.ref b13), .val (.ref ob18)]) rfl ?_
      show Steps p.tables e below (T18.setTop (mkF m 38 #[.val (.int p1), .val (.int p2), .val (.int p3), .val (.int (2 : Int32)), .val (.ref b13), .val (.ref ob18)] [])) _
      refine XS.aload X18.here hx rfl (hb hby at_38) rfl rfl ?_
      show Steps p.tables e below (T18.setTop (mkF m 40 #[.val (.int p1), .val (.int p2), .val (.int p3), .val (.int (2 : Int32)), .val (.ref b13), .val (.ref ob18)] [(.ref ob18)])) _
      refine st19.trans ?_
      show Steps p.tables e below (T19.setTop (mkF m 43 #[.val (.int p1), .val (.int p2), .val (.int p3), .val (.int (2 : Int32)), .val (.ref b13), .val (.ref ob18)] [(.int (2 : Int32))])) _
      refine XS.iloadN X19.here hx rfl (hb hby at_43) rfl ?_
      show Steps p.tables e below (T19.setTop (mkF m 44 #[.val (.int p1), .val (.int p2), .val (.int p3), .val (.int (2 : Int32)), .val (.ref b13), .val (.ref ob18)] [(.int (2 : Int32)), (.int (2 : Int32))])) _
      refine XS.icmpYes X19.here hx rfl (pc0 := 44) (pc' := 49) rfl (hb hby at_44) rfl (teq ((rfl) : (2 : Int32) = (2 : Int32))).1 (by decide) (by decide) ?_
      show Steps p.tables e below (T19.setTop (mkF m 49 #[.val (.int p1), .val (.int p2), .val (.int p3), .val (.int (2 : Int32)), .val (.ref b13), .val (.ref ob18)] [])) _
      refine XS.iloadN X19.here hx rfl (hb hby at_49) rfl ?_
      show Steps p.tables e below (T19.setTop (mkF m 50 #[.val (.int p1), .val (.int p2), .val (.int p3), .val (.int (2 : Int32)), .val (.ref b13), .val (.ref ob18)] [(.int (2 : Int32))])) _
      refine XS.ifNo X19.here hx rfl (hb hby at_50) rfl ((if0 _ _).trans (tlt (by decide : (0 : Int32) < (2 : Int32))).2.2.2) ?_
      show Steps p.tables e below (T19.setTop (mkF m 53 #[.val (.int p1), .val (.int p2), .val (.int p3), .val (.int (2 : Int32)), .val (.ref b13), .val (.ref ob18)] [])) _
      refine XS.aload X19.here hx rfl (hb hby at_53) rfl rfl ?_
      show Steps p.tables e below (T19.setTop (mkF m 55 #[.val (.int p1), .val (.int p2), .val (.int p3), .val (.int (2 : Int32)), .val (.ref b13), .val (.ref ob18)] [(.ref ob18)])) _
      refine XS.iconst X19.here hx rfl (hb hby at_55) ?_
      show Steps p.tables e below (T19.setTop (mkF m 56 #[.val (.int p1), .val (.int p2), .val (.int p3), .val (.int (2 : Int32)), .val (.ref b13), .val (.ref ob18)] [(.int (0 : Int32)), (.ref ob18)])) _
      refine XS.iloadN X19.here hx rfl (hb hby at_56) rfl ?_
      show Steps p.tables e below (T19.setTop (mkF m 57 #[.val (.int p1), .val (.int p2), .val (.int p3), .val (.int (2 : Int32)), .val (.ref b13), .val (.ref ob18)] [(.int p2), (.int (0 : Int32)), (.ref ob18)])) _
      refine st20 _ ?_
      show Steps p.tables e below (T20.setTop (mkF m 60 #[.val (.int p1), .val (.int p2), .val (.int p3), .val (.int (2 : Int32)), .val (.ref b13), .val (.ref ob18)] [(.int (1 : Int32))])) _
      refine XS.ifYes X20.here hx rfl (pc0 := 60) (pc' := 65) rfl (hb hby at_60) rfl ((if0 _ _).trans (feq (by decide : ¬ ((1 : Int32) = (0 : Int32)))).2) (by decide) (by decide) ?_
      show Steps p.tables e below (T20.setTop (mkF m 65 #[.val (.int p1), .val (.int p2), .val (.int p3), .val (.int (2 : Int32)), .val (.ref b13), .val (.ref ob18)] [])) _
      refine XS.iloadN X20.here hx rfl (hb hby at_65) rfl ?_
      show Steps p.tables e below (T20.setTop (mkF m 66 #[.val (.int p1), .val (.int p2), .val (.int p3), .val (.int (2 : Int32)), .val (.ref b13), .val (.ref ob18)] [(.int (2 : Int32))])) _
      refine XS.iconst X20.here hx rfl (hb hby at_66) ?_
      show Steps p.tables e below (T20.setTop (mkF m 67 #[.val (.int p1), .val (.int p2), .val (.int p3), .val (.int (2 : Int32)), .val (.ref b13), .val (.ref ob18)] [(.int (1 : Int32)), (.int (2 : Int32))])) _
      refine XS.icmpNo X20.here hx rfl (hb hby at_67) rfl (tlt (by decide : (1 : Int32) < (2 : Int32))).2.2.2 ?_
      show Steps p.tables e below (T20.setTop (mkF m 70 #[.val (.int p1), .val (.int p2), .val (.int p3), .val (.int (2 : Int32)), .val (.ref b13), .val (.ref ob18)] [])) _
      refine XS.aload X20.here hx rfl (hb hby at_70) rfl rfl ?_
      show Steps p.tables e below (T20.setTop (mkF m 72 #[.val (.int p1), .val (.int p2), .val (.int p3), .val (.int (2 : Int32)), .val (.ref b13), .val (.ref ob18)] [(.ref ob18)])) _
      refine XS.iconst X20.here hx rfl (hb hby at_72) ?_
      show Steps p.tables e below (T20.setTop (mkF m 73 #[.val (.int p1), .val (.int p2), .val (.int p3), .val (.int (2 : Int32)), .val (.ref b13), .val (.ref ob18)] [(.int (1 : Int32)), (.ref ob18)])) _
      refine XS.iloadN X20.here hx rfl (hb hby at_73) rfl ?_
      show Steps p.tables e below (T20.setTop (mkF m 74 #[.val (.int p1), .val (.int p2), .val (.int p3), .val (.int (2 : Int32)), .val (.ref b13), .val (.ref ob18)] [(.int p3), (.int (1 : Int32)), (.ref ob18)])) _
      refine st21 _ ?_
      show Steps p.tables e below (T21.setTop (mkF m 77 #[.val (.int p1), .val (.int p2), .val (.int p3), .val (.int (2 : Int32)), .val (.ref b13), .val (.ref ob18)] [(.int (1 : Int32))])) _
      refine XS.ifYes X21.here hx rfl (pc0 := 77) (pc' := 82) rfl (hb hby at_77) rfl ((if0 _ _).trans (feq (by decide : ¬ ((1 : Int32) = (0 : Int32)))).2) (by decide) (by decide) ?_
      show Steps p.tables e below (T21.setTop (mkF m 82 #[.val (.int p1), .val (.int p2), .val (.int p3), .val (.int (2 : Int32)), .val (.ref b13), .val (.ref ob18)] [])) _
      refine XS.iconst X21.here hx rfl (hb hby at_82) ?_
      show Steps p.tables e below (T21.setTop (mkF m 83 #[.val (.int p1), .val (.int p2), .val (.int p3), .val (.int (2 : Int32)), .val (.ref b13), .val (.ref ob18)] [(.int (1 : Int32))])) _
      exact retN X21 hx (t := .boolean) Bd.returns (by simp) (hb hby at_83) hr
    · show QF n0 _ T21.heap _
      rw [e21]
      exact ⟨rfl, N21⟩
set_option maxRecDepth 65536 in
set_option maxHeartbeats 40000000 in
theorem comes_1 {Post : Tables → Env → Array Value → State → Outcome → State → Prop} (hpost : ∀ tb e args s v u, (limb_1_1.after args s (.returned v) u = true ∧ limb_1_2.after args s (.returned v) u = true ∧ True) → FrameEnd s (.returned v) u (Jvm.fieldLocs frame_1_writes args s ++ Jvm.arrayLocs frame_1_arrays args s ++ Jvm.staticLocs frame_1_statics s) 24 128 → Post tb e args s (.returned v) u) :
    ArmFor flags0 classFile x code maxLocals ret World_1 tables_1 room_1 Calls_1 rest_1 Pre_1 Post := by
  intro l hfl _ _ p e ha hc hk s m args below hf hA hF happ hP
  obtain ⟨hcalls, hrest, hpre⟩ := hP
  obtain ⟨-, -, -, hnamed, -, -, -, hat⟩ := (Spec.applies_iff hf).mp happ
  obtain ⟨hg, hn⟩ := and_e (Cond.before_iff.mp (show (Jvm.Cond.and given_1 narrow_1).before args s = true from hpre))
  obtain ⟨hg0, hg⟩ := and_e hg
  obtain ⟨gA0, hg⟩ := and_e hg
  obtain ⟨gA1, hg⟩ := and_e hg
  have gA2 := hg
  obtain ⟨w0, w1, w2, rfl⟩ : ∃ w0 w1 w2 : Value, args = #[w0, w1, w2] := by
    have hs : args.size = 3 := by simpa [Cond.value, given_1] using hg0
    obtain ⟨L⟩ := args
    match L, hs with
    | [w0, w1, w2], _ => exact ⟨w0, w1, w2, rfl⟩
  have hw := fun d (hd : d ∈ tables_1) => atoms_spec (ws := Jvm.Cond.code x code maxLocals ret :: tables_1) hat d (List.mem_cons_of_mem _ hd)
  obtain ⟨i0, ei0⟩ := is_v gA0
  obtain rfl : w0 = (.int i0) := Option.some.inj ei0
  obtain ⟨i1, ei1⟩ := is_v gA1
  obtain rfl : w1 = (.int i1) := Option.some.inj ei1
  obtain ⟨i2, ei2⟩ := is_v gA2
  obtain rfl : w2 = (.int i2) := Option.some.inj ei2
  obtain ⟨n, o, h1, h2, h3, _, L, rfl, ⟨rfl, N⟩, hq⟩ := rm0 l s _ hw tables_1 i0 i1 i2 s.heap s.heap.size (Nat.le_refl _) p e ha hc hk s m _ below hf ((Spec.applies_iff_loose hf).mp happ).1 ⟨rfl, State.Warmed39.refl s, rfl⟩ trivial
  refine ⟨n, _, h1, h2, h3, hpost _ _ _ _ _ _ ⟨Cond.after_iff.mpr rfl, Cond.after_iff.mpr (eq_i res_at (Term.int_eval (1)) rfl), trivial⟩ ⟨hq.1, hq.2.1, (hq.2.2.sift fun y hy => Or.inr (N y hy)).mono (by decide) (by decide)⟩⟩
theorem main_1_1 : Claimed_1_1 := comes_1 fun _ _ _ _ _ _ h hF => ⟨h.1, hF⟩
theorem main_1_2 : Claimed_1_2 := comes_1 fun _ _ _ _ _ _ h hF => ⟨h.2.1, hF⟩
end Jvm.Pilot.@@N@@
namespace Jvm.Pilot.@@N@@
open Jvm Jvm.ClassFile Sem Op Lib Jvm.Free Jvm.Stand Jvm.Pilot.@@N@@.Jvm.D
/-! MADE BY PROGRAM (witnessworld.py) out of the Statement's table words and the real class files: 11 classes; the members and pool entries that the words name. The judged class is class 1, her method 2. -/
namespace start1
open Jvm.ClassFile
def u (s : String) : CpInfo := .utf8 (stringToUtf16 s)
/-- a pool by its gaps: so many unusable entries, then the entry; so many at the end -/
def gap : Nat → List CpInfo → List CpInfo
  | 0, r => r
  | n + 1, r => .unusable :: gap n r
def poolList (es : List (Nat × CpInfo)) (last : Nat) : List CpInfo := es.foldr (fun e r => gap e.1 (e.2 :: r)) (gap last [])
def pool (es : List (Nat × CpInfo)) (last : Nat) : Array CpInfo := ⟨poolList es last⟩
def fileOf (pool : Array CpInfo) (this : Nat) (attrs : Array Attribute := #[]) (ms : Array MethodInfo := #[]) (fl : Nat := 33) (sup : Nat := 0) (ifs : Array Nat := #[]) (fds : Array FieldInfo := #[]) : ClassFile where
  minorVersion := 0
  majorVersion := 65
  constantPool := pool
  accessFlags := fl
  thisClass := this
  superClass := sup
  interfaces := ifs
  fields := fds
  methods := ms
  attributes := attrs
def plain (name : String) (sup : Option ClassId) : Class where
  name := name
  kind := .ordinary
  loader := none
  accessFlags := 33
  super := sup
  interfaces := #[]
  cf := none
  fields := #[]
  methods := #[]
  instanceTypes := #[]
  staticTypes := #[]
  resolved := #[]
  callSites := []
  init := .initialized
  statics := none
  mirror := none

def pool0 : Array CpInfo := pool [(5, u "<init>"), (0, u "()V"), (1, .class_ 10), (1, u "java/lang/Object")] 113

def k0c0 : Code := { maxStack := 0, maxLocals := 1, code := object_method_1_code, exceptionTable := #[], attributes := #[] }
def k0m0 : Method := { name := "<init>", desc := "()V", sig := { parameters := [], returnType := none }, accessFlags := 1, code := some k0c0 }
/-- java/lang/Object -/
def k0 : Class := { plain "java/lang/Object" none with
  accessFlags := 33
  interfaces := #[]
  cf := some (fileOf pool0 8 #[] #[{ accessFlags := 1, nameIndex := 5, descriptorIndex := 6, attributes := #[] }] 33 0 #[] #[])
  fields := #[]
  methods := #[k0m0]
  instanceTypes := #[]
  staticTypes := #[]
  resolved := Array.replicate 124 none
  statics := none }

def pool1 : Array CpInfo := pool [(2, .class_ 4), (1, u "java/lang/Object"), (0, u "<init>"), (0, u "()V"), (0, .methodref 8 9), (0, .class_ 10), (0, .nameAndType 11 12), (0, u "com/example/words_to_verdict/wordstoverdict/match/FoldedText"), (0, u "unit"), (0, u "(I)I"), (0, .methodref 8 14), (0, .nameAndType 15 12), (0, u "from"), (0, .methodref 8 17), (0, .nameAndType 18 12), (0, u "to"), (0, .methodref 8 20), (0, .nameAndType 21 22), (0, u "isSeparator"), (0, u "(I)Z"), (0, .integer 2147483647), (0, .methodref 8 25), (0, .nameAndType 26 27), (0, u "of"), (0, u "([I)Lcom/example/words_to_verdict/wordstoverdict/match/FoldedText;"), (0, .methodref 8 29), (0, .nameAndType 30 31), (0, u "length"), (0, u "()I"), (0, .methodref 33 34), (0, .class_ 35), (0, .nameAndType 36 37), (0, u "com/example/words_to_verdict/wordstoverdict/match/FoldedTextOfPinLaw"), (0, u "unitOk"), (0, u "(Lcom/example/words_to_verdict/wordstoverdict/match/FoldedText;II)Z"), (3, u "law"), (0, u "(III)Z")] 4

def k1m0 : Method := { name := "<init>", desc := "()V", sig := { parameters := [], returnType := none }, accessFlags := 1, code := none }
def k1c1 : Code := { maxStack := 3, maxLocals := 3, code := method_2_code, exceptionTable := #[], attributes := #[] }
def k1m1 : Method := { name := "unitOk", desc := "(Lcom/example/words_to_verdict/wordstoverdict/match/FoldedText;II)Z", sig := { parameters := [(.object "com/example/words_to_verdict/wordstoverdict/match/FoldedText"), .int, .int], returnType := some .boolean }, accessFlags := 10, code := some k1c1 }
def k1c2 : Code := { maxStack := 3, maxLocals := 6, code := code, exceptionTable := #[], attributes := #[] }
def k1m2 : Method := { name := "law", desc := "(III)Z", sig := { parameters := [.int, .int, .int], returnType := some .boolean }, accessFlags := 9, code := some k1c2 }
/-- com/example/words_to_verdict/wordstoverdict/match/FoldedTextOfPinLaw -/
def k1 : Class := { plain "com/example/words_to_verdict/wordstoverdict/match/FoldedTextOfPinLaw" (some 0) with
  accessFlags := 49
  interfaces := #[]
  cf := some (fileOf pool1 33 #[] #[{ accessFlags := 1, nameIndex := 5, descriptorIndex := 6, attributes := #[] }, { accessFlags := 10, nameIndex := 36, descriptorIndex := 37, attributes := #[] }, { accessFlags := 9, nameIndex := 41, descriptorIndex := 42, attributes := #[] }] 49 2 #[] #[])
  fields := #[]
  methods := #[k1m0, k1m1, k1m2]
  instanceTypes := #[]
  staticTypes := #[]
  resolved := Array.replicate 47 none
  statics := none }

def pool2 : Array CpInfo := pool [(1, .methodref 2 3), (0, .class_ 4), (0, .nameAndType 5 6), (0, u "java/lang/Object"), (0, u "<init>"), (0, u "()V"), (0, .fieldref 8 9), (0, .class_ 10), (0, .nameAndType 11 12), (0, u "com/example/words_to_verdict/wordstoverdict/match/FoldedText"), (0, u "_units"), (0, u "[I"), (0, .fieldref 8 14), (0, .nameAndType 15 12), (0, u "_from"), (0, .fieldref 8 17), (0, .nameAndType 18 12), (0, u "_to"), (0, .fieldref 8 20), (0, .nameAndType 21 22), (0, u "_separator"), (0, u "[Z"), (0, .fieldref 8 24), (0, .nameAndType 25 26), (0, u "_length"), (0, u "I"), (0, .methodref 8 28), (0, .nameAndType 5 29), (0, u "([I[I[I[ZI)V"), (5, u "(I)I"), (8, u "of"), (0, u "([I)Lcom/example/words_to_verdict/wordstoverdict/match/FoldedText;"), (2, u "length"), (0, u "()I"), (0, u "unit"), (0, u "from"), (0, u "to"), (0, u "isSeparator"), (0, u "(I)Z"), (7, .class_ 63), (0, u "com/example/words_to_verdict/wordstoverdict/match/FoldedText$Builder")] 2

def k2c0 : Code := { maxStack := 2, maxLocals := 6, code := prog_24_method_1_code, exceptionTable := #[], attributes := #[] }
def k2m0 : Method := { name := "<init>", desc := "([I[I[I[ZI)V", sig := { parameters := [(.array .int), (.array .int), (.array .int), (.array .boolean), .int], returnType := none }, accessFlags := 2, code := some k2c0 }
def k2c1 : Code := { maxStack := 7, maxLocals := 4, code := prog_24_method_2_code, exceptionTable := #[], attributes := #[] }
def k2m1 : Method := { name := "of", desc := "([I)Lcom/example/words_to_verdict/wordstoverdict/match/FoldedText;", sig := { parameters := [(.array .int)], returnType := some (.object "com/example/words_to_verdict/wordstoverdict/match/FoldedText") }, accessFlags := 8, code := some k2c1 }
def k2c2 : Code := { maxStack := 1, maxLocals := 1, code := prog_24_method_3_code, exceptionTable := #[], attributes := #[] }
def k2m2 : Method := { name := "length", desc := "()I", sig := { parameters := [], returnType := some .int }, accessFlags := 0, code := some k2c2 }
def k2c3 : Code := { maxStack := 2, maxLocals := 2, code := prog_24_method_4_code, exceptionTable := #[], attributes := #[] }
def k2m3 : Method := { name := "unit", desc := "(I)I", sig := { parameters := [.int], returnType := some .int }, accessFlags := 0, code := some k2c3 }
def k2c4 : Code := { maxStack := 2, maxLocals := 2, code := prog_24_method_5_code, exceptionTable := #[], attributes := #[] }
def k2m4 : Method := { name := "from", desc := "(I)I", sig := { parameters := [.int], returnType := some .int }, accessFlags := 0, code := some k2c4 }
def k2c5 : Code := { maxStack := 2, maxLocals := 2, code := prog_24_method_6_code, exceptionTable := #[], attributes := #[] }
def k2m5 : Method := { name := "to", desc := "(I)I", sig := { parameters := [.int], returnType := some .int }, accessFlags := 0, code := some k2c5 }
def k2c6 : Code := { maxStack := 2, maxLocals := 2, code := prog_24_method_7_code, exceptionTable := #[], attributes := #[] }
def k2m6 : Method := { name := "isSeparator", desc := "(I)Z", sig := { parameters := [.int], returnType := some .boolean }, accessFlags := 0, code := some k2c6 }
/-- com/example/words_to_verdict/wordstoverdict/match/FoldedText -/
def k2 : Class := { plain "com/example/words_to_verdict/wordstoverdict/match/FoldedText" (some 0) with
  accessFlags := 48
  interfaces := #[]
  cf := some (fileOf pool2 8 #[.nestMembers #[62]] #[{ accessFlags := 2, nameIndex := 5, descriptorIndex := 29, attributes := #[] }, { accessFlags := 8, nameIndex := 44, descriptorIndex := 45, attributes := #[] }, { accessFlags := 0, nameIndex := 48, descriptorIndex := 49, attributes := #[] }, { accessFlags := 0, nameIndex := 50, descriptorIndex := 35, attributes := #[] }, { accessFlags := 0, nameIndex := 51, descriptorIndex := 35, attributes := #[] }, { accessFlags := 0, nameIndex := 52, descriptorIndex := 35, attributes := #[] }, { accessFlags := 0, nameIndex := 53, descriptorIndex := 54, attributes := #[] }] 48 2 #[] #[{ accessFlags := 18, nameIndex := 11, descriptorIndex := 12, attributes := #[] }, { accessFlags := 18, nameIndex := 15, descriptorIndex := 12, attributes := #[] }, { accessFlags := 18, nameIndex := 18, descriptorIndex := 12, attributes := #[] }, { accessFlags := 18, nameIndex := 21, descriptorIndex := 22, attributes := #[] }, { accessFlags := 18, nameIndex := 25, descriptorIndex := 26, attributes := #[] }])
  fields := #[{ name := "_units", type := (.array .int), accessFlags := 18, slot := 0, constantValue := 0 }, { name := "_from", type := (.array .int), accessFlags := 18, slot := 1, constantValue := 0 }, { name := "_to", type := (.array .int), accessFlags := 18, slot := 2, constantValue := 0 }, { name := "_separator", type := (.array .boolean), accessFlags := 18, slot := 3, constantValue := 0 }, { name := "_length", type := .int, accessFlags := 18, slot := 4, constantValue := 0 }]
  methods := #[k2m0, k2m1, k2m2, k2m3, k2m4, k2m5, k2m6]
  instanceTypes := #[(.array .int), (.array .int), (.array .int), (.array .boolean), .int]
  staticTypes := #[]
  resolved := Array.replicate 66 none
  statics := none }

def pool3 : Array CpInfo := pool [(1, u "java/lang/Cloneable"), (0, .class_ 1), (0, u "java/lang/Object"), (0, .class_ 3)] 3

/-- java/lang/Cloneable -/
def k3 : Class := { plain "java/lang/Cloneable" (some 0) with
  accessFlags := 1537
  interfaces := #[]
  cf := some (fileOf pool3 2 #[] #[] 1537 4 #[] #[])
  fields := #[]
  methods := #[]
  instanceTypes := #[]
  staticTypes := #[]
  resolved := Array.replicate 8 none
  statics := none }

def pool4 : Array CpInfo := pool [(1, u "java/io/Serializable"), (0, .class_ 1), (0, u "java/lang/Object"), (0, .class_ 3)] 3

/-- java/io/Serializable -/
def k4 : Class := { plain "java/io/Serializable" (some 0) with
  accessFlags := 1537
  interfaces := #[]
  cf := some (fileOf pool4 2 #[] #[] 1537 4 #[] #[])
  fields := #[]
  methods := #[]
  instanceTypes := #[]
  staticTypes := #[]
  resolved := Array.replicate 8 none
  statics := none }

/-- the primitive boolean -/
def k5 : Class := { plain "boolean" none with kind := .primitive 'Z', accessFlags := 0x411 }
/-- [Z -/
def k6 : Class := { plain "[Z" (some 0) with kind := .array 5 .boolean, interfaces := #[3, 4], accessFlags := 1041 }

/-- the primitive byte -/
def k7 : Class := { plain "byte" none with kind := .primitive 'B', accessFlags := 0x411 }
/-- [B -/
def k8 : Class := { plain "[B" (some 0) with kind := .array 7 .byte, interfaces := #[3, 4], accessFlags := 1041 }

/-- the primitive int -/
def k9 : Class := { plain "int" none with kind := .primitive 'I', accessFlags := 0x411 }
/-- [I -/
def k10 : Class := { plain "[I" (some 0) with kind := .array 9 .int, interfaces := #[3, 4], accessFlags := 1041 }

def heap : Heap := #[]
def classes : Array Class := #[k0, k1, k2, k3, k4, k5, k6, k7, k8, k9, k10]
def interned : List (Array UInt16 × Addr) := []
def slotsUsed : Nat := 0
def theMethod : MethodId := ⟨1, 2⟩
def args0 : Array Value := #[.int 5, .int 3, .int 2]
def aboutOver (below : List Frame) : State where
  vm := { classes := classes, interned := interned.toArray }
  heap := heap
  slotsUsed := slotsUsed
  threads := #[{ frames := .invoking theMethod args0 :: below }]
def below0 : List Frame := [.native { method := ⟨0, 0⟩, args := #[] }]
def about1 : State := aboutOver below0
def p0 : Program := .bare "" "" ""
def e0 : Env := launch0.env 0 0 0
theorem w_frames : about1.frames = Frame.invoking theMethod args0 :: below0 := rfl
set_option maxRecDepth 65536 in
theorem w_args : argsFit about1.vm theMethod args0 = true := by decide +kernel
set_option maxRecDepth 65536 in
theorem w_heap : heapFits about1 = true := by decide +kernel
set_option maxRecDepth 65536 in
theorem w_runnable : about1.curStatus? = some .runnable := by decide +kernel
set_option maxRecDepth 65536 in
theorem w_alone : about1.alone = true := by decide +kernel
set_option maxRecDepth 65536 in
theorem w_named : about1.methodNamed? x = some theMethod := by decide +kernel
set_option maxRecDepth 65536 in
theorem w_hears : about1.hears theMethod below0 = true := by decide +kernel
set_option maxRecDepth 65536 in
theorem w_ripe : about1.ripe theMethod args0 below0 = true := by decide +kernel
theorem w_running : about1.status = .running := rfl
set_option maxRecDepth 65536 in
theorem w_room : about1.hasRoom e0.platform room_1 = true :=
  launch0.hasRoom_least _ room_1 (by decide +kernel) (by decide +kernel) (by decide +kernel) (by decide +kernel) (by decide +kernel) (by decide +kernel)
theorem allAtoms_all (ts : List Jvm.Cond) (a : Array Jvm.Value) (st : Jvm.State) : (allAtoms ts).before a st = ts.all (fun c => c.before a st) := by
  induction ts with
  | nil => rfl
  | cons c t ih =>
    show (Jvm.Cond.and c (allAtoms t)).before a st = _
    rw [Jvm.Cond.before_and, ih, List.all_cons]
def words1 : List Jvm.Cond := Jvm.Cond.code x code maxLocals ret :: tables_1
/-- a 'code' word, met by the world's own term for the bytes: nothing is compared byte by byte -/
theorem code_word {y : MethodName} {bytes : ByteArray} {mx : Nat} {rt : Option FieldType} {a : Array Value} {s : State} {m : MethodId} {meth : Method} {c : Code} (h1 : s.methodNamed? y = some m) (h2 : s.vm.method? m = some meth) (h3 : meth.code = some c) (h4 : c.code = bytes)
    (h5 : (c.maxLocals == mx && c.exceptionTable.isEmpty && decide (c.maxStack ≤ mostOperands) && decide (meth.sig.returnType = rt) && !meth.locks && decide (parseMethodDescriptor y.desc = some meth.sig)) = true) : (Jvm.Cond.code y bytes mx rt).before a s = true := by
  simp only [Bool.and_eq_true, beq_iff_eq, Bool.not_eq_true', decide_eq_true_eq] at h5
  obtain ⟨⟨⟨⟨⟨g1, g2⟩, g3⟩, g4⟩, g5⟩, g6⟩ := h5
  simp [Cond.before, Cond.holds, Cond.value, h1, h2, h3, h4, g1, g2, g3, g4, g5, g6]
def isCode : Jvm.Cond → Bool
  | .code _ _ _ _ => true
  | _ => false
theorem all_split {L : List Jvm.Cond} {P : Jvm.Cond → Bool} (h1 : L.all (fun c => isCode c || P c) = true) (h2 : ∀ c ∈ L.filter isCode, P c = true) : L.all P = true := by
  refine List.all_eq_true.mpr fun c hc => ?_
  have h := List.all_eq_true.mp h1 c hc
  rcases Bool.eq_false_or_eq_true (isCode c) with hi | hi
  · exact h2 c (List.mem_filter.mpr ⟨hc, hi⟩)
  · simpa [hi] using h
set_option maxRecDepth 65536 in
theorem w_c0 : (Jvm.Cond.code x code maxLocals ret).before args0 about1 = true := code_word (m := ⟨1, 2⟩) (meth := k1m2) (c := k1c2) (by decide +kernel) rfl rfl rfl (by decide +kernel)
set_option maxRecDepth 65536 in
theorem w_c1 : (Jvm.Cond.code ({ cls := "com/example/words_to_verdict/wordstoverdict/match/FoldedText", name := "of", desc := "([I)Lcom/example/words_to_verdict/wordstoverdict/match/FoldedText;" } : Jvm.MethodName) prog_24_method_2_code (4 : Nat) (Option.some (Jvm.ClassFile.FieldType.object "com/example/words_to_verdict/wordstoverdict/match/FoldedText"))).before args0 about1 = true := code_word (m := ⟨2, 1⟩) (meth := k2m1) (c := k2c1) (by decide +kernel) rfl rfl rfl (by decide +kernel)
set_option maxRecDepth 65536 in
theorem w_c2 : (Jvm.Cond.code ({ cls := "com/example/words_to_verdict/wordstoverdict/match/FoldedText", name := "<init>", desc := "([I[I[I[ZI)V" } : Jvm.MethodName) prog_24_method_1_code (6 : Nat) (Option.none : Option Jvm.ClassFile.FieldType)).before args0 about1 = true := code_word (m := ⟨2, 0⟩) (meth := k2m0) (c := k2c0) (by decide +kernel) rfl rfl rfl (by decide +kernel)
set_option maxRecDepth 65536 in
theorem w_c3 : (Jvm.Cond.code ({ cls := "java/lang/Object", name := "<init>", desc := "()V" } : Jvm.MethodName) object_method_1_code (1 : Nat) (Option.none : Option Jvm.ClassFile.FieldType)).before args0 about1 = true := code_word (m := ⟨0, 0⟩) (meth := k0m0) (c := k0c0) (by decide +kernel) rfl rfl rfl (by decide +kernel)
set_option maxRecDepth 65536 in
theorem w_c4 : (Jvm.Cond.code ({ cls := "com/example/words_to_verdict/wordstoverdict/match/FoldedText", name := "length", desc := "()I" } : Jvm.MethodName) prog_24_method_3_code (1 : Nat) (Option.some Jvm.ClassFile.FieldType.int)).before args0 about1 = true := code_word (m := ⟨2, 2⟩) (meth := k2m2) (c := k2c2) (by decide +kernel) rfl rfl rfl (by decide +kernel)
set_option maxRecDepth 65536 in
theorem w_c5 : (Jvm.Cond.code ({ cls := "com/example/words_to_verdict/wordstoverdict/match/FoldedTextOfPinLaw", name := "unitOk", desc := "(Lcom/example/words_to_verdict/wordstoverdict/match/FoldedText;II)Z" } : Jvm.MethodName) method_2_code (3 : Nat) (Option.some Jvm.ClassFile.FieldType.boolean)).before args0 about1 = true := code_word (m := ⟨1, 1⟩) (meth := k1m1) (c := k1c1) (by decide +kernel) rfl rfl rfl (by decide +kernel)
set_option maxRecDepth 65536 in
theorem w_c6 : (Jvm.Cond.code ({ cls := "com/example/words_to_verdict/wordstoverdict/match/FoldedText", name := "unit", desc := "(I)I" } : Jvm.MethodName) prog_24_method_4_code (2 : Nat) (Option.some Jvm.ClassFile.FieldType.int)).before args0 about1 = true := code_word (m := ⟨2, 3⟩) (meth := k2m3) (c := k2c3) (by decide +kernel) rfl rfl rfl (by decide +kernel)
set_option maxRecDepth 65536 in
theorem w_c7 : (Jvm.Cond.code ({ cls := "com/example/words_to_verdict/wordstoverdict/match/FoldedText", name := "from", desc := "(I)I" } : Jvm.MethodName) prog_24_method_5_code (2 : Nat) (Option.some Jvm.ClassFile.FieldType.int)).before args0 about1 = true := code_word (m := ⟨2, 4⟩) (meth := k2m4) (c := k2c4) (by decide +kernel) rfl rfl rfl (by decide +kernel)
set_option maxRecDepth 65536 in
theorem w_c8 : (Jvm.Cond.code ({ cls := "com/example/words_to_verdict/wordstoverdict/match/FoldedText", name := "to", desc := "(I)I" } : Jvm.MethodName) prog_24_method_6_code (2 : Nat) (Option.some Jvm.ClassFile.FieldType.int)).before args0 about1 = true := code_word (m := ⟨2, 5⟩) (meth := k2m5) (c := k2c5) (by decide +kernel) rfl rfl rfl (by decide +kernel)
set_option maxRecDepth 65536 in
theorem w_c9 : (Jvm.Cond.code ({ cls := "com/example/words_to_verdict/wordstoverdict/match/FoldedText", name := "isSeparator", desc := "(I)Z" } : Jvm.MethodName) prog_24_method_7_code (2 : Nat) (Option.some Jvm.ClassFile.FieldType.boolean)).before args0 about1 = true := code_word (m := ⟨2, 6⟩) (meth := k2m6) (c := k2c6) (by decide +kernel) rfl rfl rfl (by decide +kernel)
def codes1 : List Jvm.Cond := [Jvm.Cond.code x code maxLocals ret, Jvm.Cond.code ({ cls := "com/example/words_to_verdict/wordstoverdict/match/FoldedText", name := "of", desc := "([I)Lcom/example/words_to_verdict/wordstoverdict/match/FoldedText;" } : Jvm.MethodName) prog_24_method_2_code (4 : Nat) (Option.some (Jvm.ClassFile.FieldType.object "com/example/words_to_verdict/wordstoverdict/match/FoldedText")), Jvm.Cond.code ({ cls := "com/example/words_to_verdict/wordstoverdict/match/FoldedText", name := "<init>", desc := "([I[I[I[ZI)V" } : Jvm.MethodName) prog_24_method_1_code (6 : Nat) (Option.none : Option Jvm.ClassFile.FieldType), Jvm.Cond.code ({ cls := "java/lang/Object", name := "<init>", desc := "()V" } : Jvm.MethodName) object_method_1_code (1 : Nat) (Option.none : Option Jvm.ClassFile.FieldType), Jvm.Cond.code ({ cls := "com/example/words_to_verdict/wordstoverdict/match/FoldedText", name := "length", desc := "()I" } : Jvm.MethodName) prog_24_method_3_code (1 : Nat) (Option.some Jvm.ClassFile.FieldType.int), Jvm.Cond.code ({ cls := "com/example/words_to_verdict/wordstoverdict/match/FoldedTextOfPinLaw", name := "unitOk", desc := "(Lcom/example/words_to_verdict/wordstoverdict/match/FoldedText;II)Z" } : Jvm.MethodName) method_2_code (3 : Nat) (Option.some Jvm.ClassFile.FieldType.boolean), Jvm.Cond.code ({ cls := "com/example/words_to_verdict/wordstoverdict/match/FoldedText", name := "unit", desc := "(I)I" } : Jvm.MethodName) prog_24_method_4_code (2 : Nat) (Option.some Jvm.ClassFile.FieldType.int), Jvm.Cond.code ({ cls := "com/example/words_to_verdict/wordstoverdict/match/FoldedText", name := "from", desc := "(I)I" } : Jvm.MethodName) prog_24_method_5_code (2 : Nat) (Option.some Jvm.ClassFile.FieldType.int), Jvm.Cond.code ({ cls := "com/example/words_to_verdict/wordstoverdict/match/FoldedText", name := "to", desc := "(I)I" } : Jvm.MethodName) prog_24_method_6_code (2 : Nat) (Option.some Jvm.ClassFile.FieldType.int), Jvm.Cond.code ({ cls := "com/example/words_to_verdict/wordstoverdict/match/FoldedText", name := "isSeparator", desc := "(I)Z" } : Jvm.MethodName) prog_24_method_7_code (2 : Nat) (Option.some Jvm.ClassFile.FieldType.boolean)]
set_option maxRecDepth 65536 in
theorem codes_eq : words1.filter isCode = codes1 := rfl
theorem w_codes : ∀ c ∈ words1.filter isCode, c.before args0 about1 = true := by
  rw [codes_eq]
  intro c hc
  simp only [codes1, List.mem_cons, List.not_mem_nil, or_false] at hc
  rcases hc with rfl | rfl | rfl | rfl | rfl | rfl | rfl | rfl | rfl | rfl
  · exact w_c0
  · exact w_c1
  · exact w_c2
  · exact w_c3
  · exact w_c4
  · exact w_c5
  · exact w_c6
  · exact w_c7
  · exact w_c8
  · exact w_c9
set_option maxRecDepth 65536 in
theorem w_t1 : (words1.take 24).all (fun c => isCode c || c.before args0 about1) = true := by decide +kernel
set_option maxRecDepth 65536 in
theorem w_t2 : ((words1.drop 24).take 24).all (fun c => isCode c || c.before args0 about1) = true := by decide +kernel
set_option maxRecDepth 65536 in
theorem w_t3 : ((words1.drop 24).drop 24).all (fun c => isCode c || c.before args0 about1) = true := by decide +kernel
theorem w_tables : (allAtoms (Jvm.Cond.code x code maxLocals ret :: tables_1)).before args0 about1 = true := by
  rw [allAtoms_all]
  show words1.all (fun c => c.before args0 about1) = true
  refine all_split ?_ w_codes
  rw [← List.take_append_drop 24 words1, List.all_append, w_t1, ← List.take_append_drop 24 (words1.drop 24), List.all_append, w_t2, w_t3]
  rfl
set_option maxRecDepth 65536 in
theorem w_case : (Jvm.Cond.and given_1 narrow_1).before args0 about1 = true := by decide +kernel
theorem w_applies : (headSpec (Jvm.Cond.code x code maxLocals ret :: tables_1) room_1).applies x e0.platform about1 = true :=
  (Spec.applies_iff w_frames).mpr ⟨w_running, w_runnable, w_alone, w_named, w_hears, w_ripe, w_room, w_tables⟩
theorem atStart : AtStart classFile x code maxLocals ret World_1 tables_1 room_1 Calls_1 rest_1 Pre_1 launch0 p0 e0 about1 theMethod args0 below0 :=
  ⟨lists_1, trivial, launch0.admits_env _ _ _, launch0.least_env, fairChoices_fair.cas, fairChoices_fair.clock, w_frames, w_args, w_heap, w_applies, trivial, trivial, w_case⟩
end start1
theorem witness_1 : WitnessClaimed_1 := ⟨start1.p0, start1.e0, start1.about1, start1.theMethod, start1.args0, start1.below0, start1.atStart⟩
end Jvm.Pilot.@@N@@
