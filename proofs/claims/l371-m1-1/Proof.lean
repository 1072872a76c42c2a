import JvmDerived
import JvmDerived.Pilot.@@N@@Statement
import JvmDerived.Pilot.@@N@@Code
set_option linter.unusedVariables false
set_option linter.unusedSimpArgs false
namespace Jvm.RoadKit
open Sem ClassFile Op Lib Jvm.Stand Jvm.Free Jvm.LawKit
section New
variable {p : Program} {l : Launch} {e : Env} {R : Room} {s : State} {m : MethodId} {args : Array Value} {below : List Frame} {meth : Method} {c : Code} {T : State} {locs : List Loc} {cells slots : Nat}
theorem retI (X : Stand p l e R s m args below meth c T locs cells slots) (hx : p.tables.exec = Jvm.exec) {pc : Nat} {Ls : Array Slot} {z : Int32} {rest : List Value} (hret : meth.sig.returnType = some .int) (hd : decode c.code pc = .ok (.ireturn, 1)) {fs : List Frame}
    (hl : ∀ (f : JFrame) (acts : List Action), f.method = m → f.locked = none → f.entered = [] → (doReturn e (T.setTop f) acts (some (.int z))).1 = T.setFrames fs) : Steps p.tables e below (T.setTop (mkF m pc Ls (.int z :: rest))) (T.setFrames fs) := by
  have hm' : T.vm.method? m = some meth := X.method'
  have hn : narrow .int (.int z) = .int z := rfl
  show Steps p.tables e below (T.setTop { method := m, pc := pc, locals := Ls, stack := _ :: rest, locked := none }) _
  jvm_step X.here [X.here.top, hx, hd, hm', hret, hn]
  first | (intro acts; rw [hl _ acts rfl rfl rfl]) | rw [hl _ _ rfl rfl rfl]
  exact Steps.refl _
end New
end Jvm.RoadKit
namespace Jvm.Pilot.@@N@@
open Jvm Jvm.ClassFile Sem Op Lib Jvm.Free Jvm.Stand Jvm.LawKit Jvm.RoadKit Bundle Jvm.Pilot.@@N@@.Jvm.D
def BB (n : Nat) (a : Int64) : Prop := -(n : Int) ≤ a.toInt ∧ a.toInt ≤ n
theorem BB.i32 (x : Int32) : BB 2147483648 x.toInt64 := by
  have h1 := x.le_toInt; have h2 := x.toInt_lt
  unfold BB; rw [Int32.toInt_toInt64]; constructor <;> omega
theorem BB.add {n m : Nat} {a b : Int64} (ha : BB n a) (hb : BB m b) (h : n + m < 4611686018427387904) : BB (n + m) (a + b) := by
  unfold BB at *; rw [Int64.toInt_add, Int.bmod_def]; constructor <;> omega
theorem BB.sub {n m : Nat} {a b : Int64} (ha : BB n a) (hb : BB m b) (h : n + m < 4611686018427387904) : BB (n + m) (a - b) := by
  unfold BB at *; rw [Int64.toInt_sub, Int.bmod_def]; constructor <;> omega
theorem BB.b53 {n : Nat} {a : Int64} (ha : BB n a) (h : n < 9007199254740992) : B53 a := by
  unfold BB at ha; constructor <;> omega
def own_cont (x a b : Int64) (li ui : Int32) : Int32 :=
  if li = 0 then
    (if 0 < lcmpW x a then (if ui = 0 then (if lcmpW x b < 0 then 1 else 0) else (if 0 < lcmpW x b then 0 else 1)) else 0)
  else (if lcmpW x a < 0 then 0 else (if ui = 0 then (if lcmpW x b < 0 then 1 else 0) else (if 0 < lcmpW x b then 0 else 1)))
theorem own_lt (x y : Int32) : lcmpW x.toInt64 y.toInt64 < 0 ↔ x < y := by
  rw [lcW, lc_lt, Int64.lt_iff_toInt_lt, Int32.lt_iff_toInt_lt, Int32.toInt_toInt64, Int32.toInt_toInt64]
theorem own_gt (x y : Int32) : 0 < lcmpW x.toInt64 y.toInt64 ↔ y < x := by
  rw [lcW, lc_gt, Int64.lt_iff_toInt_lt, Int32.lt_iff_toInt_lt, Int32.toInt_toInt64, Int32.toInt_toInt64]
theorem own_cont_eq (x a b li ui A B E : Int32) (hli : li = 0 ∨ li = 1) (hui : ui = 0 ∨ ui = 1)
    (hA : A = if a < x then 1 else if li = 0 then 0 else if x = a then 1 else 0)
    (hB : B = if x < b then 1 else if ui = 0 then 0 else if x = b then 1 else 0)
    (hE : E = if A = 0 then 0 else if B = 0 then 0 else 1) : own_cont x.toInt64 a.toInt64 b.toInt64 li ui = E := by
  unfold own_cont
  simp only [own_lt, own_gt]
  have tri : ∀ u v : Int32, (u = v) ↔ (¬ u < v ∧ ¬ v < u) := by
    intro u v
    simp only [Int32.lt_iff_toInt_lt, ← Int32.toInt_inj]
    omega
  have e01 : ¬ ((1 : Int32) = 0) := by decide
  simp only [tri x a] at hA
  simp only [tri x b] at hB
  by_cases c1 : x < a <;> by_cases c2 : a < x <;> by_cases c3 : x < b <;> by_cases c4 : b < x <;> rcases hli with rfl | rfl <;> rcases hui with rfl | rfl <;>
    simp only [c1, c2, c3, c4, if_true, if_false, e01, not_true, not_false_iff, and_true, and_false, true_and, false_and, and_self, eq_self] at hA hB ⊢ <;> subst hA hB <;> simp only [e01, if_true, if_false, eq_self] at hE <;> first | exact hE.symm | (exfalso; simp only [Int32.lt_iff_toInt_lt] at c1 c2 c3 c4; omega)
theorem own_nar0 : nar .boolean (0 : Int32) = 0 := by decide
theorem own_nar1 : nar .boolean (1 : Int32) = 1 := by decide
theorem own_nar {b : Int32} (h : b = 0 ∨ b = 1) : nar .boolean b = b := by rcases h with rfl | rfl <;> decide
theorem d2_0 : decode jdk_30_method_1_code 0 = .ok (.aload_n 0, 1) := by decide +kernel
theorem d2_1 : decode jdk_30_method_1_code 1 = .ok (.invokespecial 1, 3) := by decide +kernel
theorem d2_4 : decode jdk_30_method_1_code 4 = .ok (.return_, 1) := by decide +kernel
theorem pn_java_lang_Record : plainName "java/lang/Record" = true := by first | (simp [plainName, overriddenIn]; done) | decide +kernel
theorem ef_rmRec (m : MethodId) (x0 : Addr) : entryFrame m #[(.ref x0)] 1 = mkF m 0 #[.val (.ref x0)] [] := by first | (simp [entryFrame, mkF, argsToLocals, Value.category]; done) | rfl
def QrmRec (Z : State) (a1 : Addr) (h0 : Heap) (n0 : Nat) (v : Option Value) (h : Heap) (L : List Loc) : Prop := v = none ∧ Fr n0 L ∧ h = h0
set_option maxRecDepth 65536 in
set_option maxHeartbeats 40000000 in
theorem rmRec (l : Launch) (Z : State) (a0 : Array Value) (hw : ∀ d ∈ tables_1, d.before a0 Z = true) (ws : List Jvm.Cond) (a1 : Addr) (h0 : Heap) (n0 : Nat) (Z0 : n0 ≤ h0.size) :
    MetFree l (⟨"java/lang/Record", "<init>", "()V"⟩ : MethodName) (head1 (Jvm.Cond.code (⟨"java/lang/Record", "<init>", "()V"⟩ : MethodName) jdk_30_method_1_code 1 none :: ws) ({ frames := 1, cells := 0, slots := 0, locals := 12 } : Room)) (fun a U => a = #[(.ref a1)] ∧ Z.Warmed39 U.vm ∧ U.heap = h0) (fun _ _ _ _ _ => True) (fun _ U o U' => ∃ v L, o = .returned v ∧ QrmRec Z a1 h0 n0 v U'.heap L ∧ FrameEnd U o U' L ({ frames := 1, cells := 0, slots := 0, locals := 12 } : Room).cells ({ frames := 1, cells := 0, slots := 0, locals := 12 } : Room).slots) := by
  refine MetFree.of_bodySF (plainFor_of_name pn_java_lang_Record) hisR ?_
  intro p e s m args below meth c s₁ Bd hml0 hP hK
  obtain ⟨rfl, hZ, hh⟩ := hP
  have hx := Bd.exec
  have hby := Bd.bytes
  have hml : c.maxLocals = 1 := hml0
  have hown : s.vm.findClass "java/lang/Record" = some m.cls := findClass_of_methodNamed Bd.named
  have hnm := (name_of_methodNamed Bd.named Bd.method).1
  have X0 : Stand p l e ({ frames := 1, cells := 0, slots := 0, locals := 12 } : Room) s m #[(.ref a1)] below meth c s₁ [] 0 0 := Stand.of_body Bd
  have e0 : s₁.heap = h0 := by rw [← hh, Bd.state]; rfl
  have N0 := Fr.nil n0
  have pre0 : ∀ t, Steps p.tables e below (s₁.setTop (mkF m 0 #[.val (.ref a1)] [])) t → Steps p.tables e below (s₁.setTop (entryFrame m #[(.ref a1)] 1)) t := fun t k => castTop (ef_rmRec m a1) k
  obtain ⟨T1, X1, e1, st1⟩ := initO X0 hx hZ hown (hw _ (List.mem_of_getElem? (i := 11) rfl)) (hw _ (List.mem_of_getElem? (i := 12) rfl)) (hw _ (List.mem_of_getElem? (i := 13) rfl)) e0 (g := (mkF m 1 #[.val (.ref a1)] [(.ref a1)])) rfl (by rw [hml]; rfl) rfl (hb hby d2_1) (by decide) (W := 0) (by show 2 * 0 + _ ≤ _; exact Nat.le_of_eq rfl) (by decide)
  obtain ⟨fs, hr, hrun, hended, hW, hsame⟩ := X1.leave (v := none) (fun _ => rfl)
  refine ⟨_, _, pre0 _ (?_), hrun, hended, _, _, rfl, ?_, ⟨_, rfl⟩, hW, hsame.mono (by decide) (by decide)⟩
  · show Steps p.tables e below (s₁.setTop (mkF m 0 #[.val (.ref a1)] [])) _
    refine XS.aloadN X0.here hx rfl (hb hby d2_0) rfl rfl ?_
    show Steps p.tables e below (s₁.setTop (mkF m 1 #[.val (.ref a1)] [(.ref a1)])) _
    refine st1 _ ?_
    show Steps p.tables e below (T1.setTop (mkF m 4 #[.val (.ref a1)] [])) _
    exact X1.returnOut hx Bd.returns (hb hby d2_4) hr
  · show QrmRec Z a1 h0 n0 _ T1.heap _
    rw [e1]
    exact ⟨rfl, N0, rfl⟩
theorem d1_0 : decode prog_30_method_1_code 0 = .ok (.aload_n 0, 1) := by decide +kernel
theorem d1_1 : decode prog_30_method_1_code 1 = .ok (.invokespecial 1, 3) := by decide +kernel
theorem d1_4 : decode prog_30_method_1_code 4 = .ok (.aload_n 0, 1) := by decide +kernel
theorem d1_5 : decode prog_30_method_1_code 5 = .ok (.dload_n 1, 1) := by decide +kernel
theorem d1_6 : decode prog_30_method_1_code 6 = .ok (.putfield 7, 3) := by decide +kernel
theorem d1_9 : decode prog_30_method_1_code 9 = .ok (.aload_n 0, 1) := by decide +kernel
theorem d1_10 : decode prog_30_method_1_code 10 = .ok (.iload_n 3, 1) := by decide +kernel
theorem d1_11 : decode prog_30_method_1_code 11 = .ok (.putfield 13, 3) := by decide +kernel
theorem d1_14 : decode prog_30_method_1_code 14 = .ok (.aload_n 0, 1) := by decide +kernel
theorem d1_15 : decode prog_30_method_1_code 15 = .ok (.dload 4, 2) := by decide +kernel
theorem d1_17 : decode prog_30_method_1_code 17 = .ok (.putfield 17, 3) := by decide +kernel
theorem d1_20 : decode prog_30_method_1_code 20 = .ok (.aload_n 0, 1) := by decide +kernel
theorem d1_21 : decode prog_30_method_1_code 21 = .ok (.iload 6, 2) := by decide +kernel
theorem d1_23 : decode prog_30_method_1_code 23 = .ok (.putfield 20, 3) := by decide +kernel
theorem d1_26 : decode prog_30_method_1_code 26 = .ok (.return_, 1) := by decide +kernel
theorem pn_com_example_weir3_weir3_core_Range : plainName "com/example/weir3/weir3/core/Range" = true := by first | (simp [plainName, overriddenIn]; done) | decide +kernel
theorem pd__28_29V : parseMethodDescriptor "()V" = some ⟨[], none⟩ := by decide +kernel
theorem ef_rmI (m : MethodId) (x0 : Addr) (x1 : UInt64) (x2 : Int32) (x3 : UInt64) (x4 : Int32) : entryFrame m #[(.ref x0), (.double x1), (.int x2), (.double x3), (.int x4)] 7 = mkF m 0 #[.val (.ref x0), .val (.double x1), .second, .val (.int x2), .val (.double x3), .second, .val (.int x4)] [] := by first | (simp [entryFrame, mkF, argsToLocals, Value.category]; done) | rfl
def QrmI (Z : State) (a1 : Addr) (d1 : UInt64) (b1 : Int32) (d2 : UInt64) (b2 : Int32) (u1 u2 u3 u4 : Value) (h0 : Heap) (n0 : Nat) (v : Option Value) (h : Heap) (L : List Loc) : Prop := v = none ∧ Fr n0 L ∧ Keep h0 h [a1] ∧ Exa Z h a1 "com/example/weir3/weir3/core/Range" ∧ Fld Z h a1 "com/example/weir3/weir3/core/Range" "lower" "D" (.double d1) ∧ Fld Z h a1 "com/example/weir3/weir3/core/Range" "lowerIncluded" "Z" (.int (nar .boolean b1)) ∧ Fld Z h a1 "com/example/weir3/weir3/core/Range" "upper" "D" (.double d2) ∧ Fld Z h a1 "com/example/weir3/weir3/core/Range" "upperIncluded" "Z" (.int (nar .boolean b2))
set_option maxRecDepth 65536 in
set_option maxHeartbeats 40000000 in
theorem rmI (l : Launch) (Z : State) (a0 : Array Value) (hw : ∀ d ∈ tables_1, d.before a0 Z = true) (ws : List Jvm.Cond) (a1 : Addr) (d1 : UInt64) (b1 : Int32) (d2 : UInt64) (b2 : Int32) (u1 u2 u3 u4 : Value) (h0 : Heap) (n0 : Nat) (Z0 : n0 ≤ h0.size) (E1 : Exa Z h0 a1 "com/example/weir3/weir3/core/Range") (F0 : Fld Z h0 a1 "com/example/weir3/weir3/core/Range" "lower" "D" u1) (F1 : Fld Z h0 a1 "com/example/weir3/weir3/core/Range" "lowerIncluded" "Z" u2) (F2 : Fld Z h0 a1 "com/example/weir3/weir3/core/Range" "upper" "D" u3) (F3 : Fld Z h0 a1 "com/example/weir3/weir3/core/Range" "upperIncluded" "Z" u4) (g_a1 : n0 ≤ a1) :
    MetFree l (⟨"com/example/weir3/weir3/core/Range", "<init>", "(DZDZ)V"⟩ : MethodName) (head1 (Jvm.Cond.code (⟨"com/example/weir3/weir3/core/Range", "<init>", "(DZDZ)V"⟩ : MethodName) prog_30_method_1_code 7 none :: ws) ({ frames := 2, cells := 0, slots := 0, locals := 24 } : Room)) (fun a U => a = #[(.ref a1), (.double d1), (.int b1), (.double d2), (.int b2)] ∧ Z.Warmed39 U.vm ∧ U.heap = h0) (fun _ _ _ _ _ => True) (fun _ U o U' => ∃ v L, o = .returned v ∧ QrmI Z a1 d1 b1 d2 b2 u1 u2 u3 u4 h0 n0 v U'.heap L ∧ FrameEnd U o U' L ({ frames := 2, cells := 0, slots := 0, locals := 24 } : Room).cells ({ frames := 2, cells := 0, slots := 0, locals := 24 } : Room).slots) := by
  refine MetFree.of_bodySF (plainFor_of_name pn_com_example_weir3_weir3_core_Range) hisR ?_
  intro p e s m args below meth c s₁ Bd hml0 hP hK
  obtain ⟨rfl, hZ, hh⟩ := hP
  have hx := Bd.exec
  have hby := Bd.bytes
  have hml : c.maxLocals = 7 := hml0
  have hown : s.vm.findClass "com/example/weir3/weir3/core/Range" = some m.cls := findClass_of_methodNamed Bd.named
  have hnm := (name_of_methodNamed Bd.named Bd.method).1
  have X0 : Stand p l e ({ frames := 2, cells := 0, slots := 0, locals := 24 } : Room) s m #[(.ref a1), (.double d1), (.int b1), (.double d2), (.int b2)] below meth c s₁ [] 0 0 := Stand.of_body Bd
  have e0 : s₁.heap = h0 := by rw [← hh, Bd.state]; rfl
  have N0 := Fr.nil n0
  have pre0 : ∀ t, Steps p.tables e below (s₁.setTop (mkF m 0 #[.val (.ref a1), .val (.double d1), .second, .val (.int b1), .val (.double d2), .second, .val (.int b2)] [])) t → Steps p.tables e below (s₁.setTop (entryFrame m #[(.ref a1), (.double d1), (.int b1), (.double d2), (.int b2)] 7)) t := fun t k => castTop (ef_rmI m a1 d1 b1 d2 b2) k
  obtain ⟨_, _, ⟨T1, L1, k1, n1⟩, -, X1, ⟨Lc1, hQ1, l1, y1, z1⟩, st1⟩ := X0.specialBack hx (y := (⟨"java/lang/Record", "<init>", "()V"⟩ : MethodName)) rfl hown (mvT hZ (hw _ (List.mem_of_getElem? (i := 6) rfl))) (mvT hZ (hw _ (List.mem_of_getElem? (i := 7) rfl))) (mvT hZ (hw _ (List.mem_of_getElem? (i := 10) rfl))) (by decide) (backOf (W := 0) (rmRec l Z a0 hw [] a1 h0 n0 Z0) hZ (hw _ (List.mem_of_getElem? (i := 10) rfl)) (hw _ (List.mem_of_getElem? (i := 9) rfl)) (by decide) (by decide)) (g := (mkF m 1 #[.val (.ref a1), .val (.double d1), .second, .val (.int b1), .val (.double d2), .second, .val (.int b2)] [(.ref a1)])) rfl (by rw [hml]; rfl) (Steps.refl _) (a := a1) (argsL := []) (rest := []) (lenOf pd__28_29V rfl) rfl (by show 2 * 0 + _ ≤ _; exact Nat.le_of_eq rfl) (hb hby d1_1) (fun _ _ => ⟨rfl, e0, (by decide : 0 + 0 ≤ _), (by decide : 0 + 0 ≤ _)⟩)
  dsimp only [Pt.U, Pt.locs, Pt.cells, Pt.slots] at X1 l1 y1 z1 st1 hQ1
  subst l1 y1 z1
  obtain ⟨rfl, N1q, e1⟩ := hQ1
  have N1 := Fr.app N0 N1q
  obtain ⟨T2, h2, X2, e2, W2, st2⟩ := putF X1 hx hZ hown (host := "") (Or.inl (hw _ (List.mem_of_getElem? (i := 14) rfl))) Via.refl e1 F0 E1 (Or.inr ⟨(hw _ (List.mem_of_getElem? (i := 15) rfl)), rfl, hnm⟩) (hw _ (List.mem_of_getElem? (i := 1) rfl)) (ty := .double) (by decide) rfl rfl (g := (mkF m 6 #[.val (.ref a1), .val (.double d1), .second, .val (.int b1), .val (.double d2), .second, .val (.int b2)] [(.double d1), (.ref a1)])) rfl rfl (hb hby d1_6)
  have Fw2 := F0.same W2
  have K2 : Keep h0 h2 [a1] := (Keep.refl h0 [a1]).wr W2 (Or.inl (List.mem_of_getElem? (i := 0) rfl))
  have N2 := Fr.snoc X2 N1 g_a1
  have Z2 : n0 ≤ h2.size := Nat.le_trans Z0 (Keep.of_wr W2).1
  have f3 := (F1.other W2 (Or.inr (slot_ne (Or.inr (hw _ (List.mem_of_getElem? (i := 17) rfl))) (Or.inr (hw _ (List.mem_of_getElem? (i := 15) rfl))) (by decide) (t := .boolean) (t' := .double) (by decide) (by decide))))
  have f4 := (E1.wr W2)
  obtain ⟨T5, h5, X5, e5, W5, st5⟩ := putFN X2 hx hZ hown (hw _ (List.mem_of_getElem? (i := 16) rfl)) Via.refl e2 f3 f4 (Or.inr ⟨(hw _ (List.mem_of_getElem? (i := 17) rfl)), rfl, hnm⟩) (hw _ (List.mem_of_getElem? (i := 1) rfl)) (ty := .boolean) (v' := (.int (nar .boolean b1))) (by decide) rfl (fits_nar_bool _) (g := (mkF m 11 #[.val (.ref a1), .val (.double d1), .second, .val (.int b1), .val (.double d2), .second, .val (.int b2)] [(.int b1), (.ref a1)])) rfl rfl (hb hby d1_11)
  have Fw5 := f3.same W5
  have K5 : Keep h0 h5 [a1] := K2.wr W5 (Or.inl (List.mem_of_getElem? (i := 0) rfl))
  have N5 := Fr.snoc X5 N2 g_a1
  have Z5 : n0 ≤ h5.size := Nat.le_trans Z2 (Keep.of_wr W5).1
  have f6 := ((F2.other W2 (Or.inr (slot_ne (Or.inr (hw _ (List.mem_of_getElem? (i := 19) rfl))) (Or.inr (hw _ (List.mem_of_getElem? (i := 15) rfl))) (by decide) (t := .double) (t' := .double) (by decide) (by decide)))).other W5 (Or.inr (slot_ne (Or.inr (hw _ (List.mem_of_getElem? (i := 19) rfl))) (Or.inr (hw _ (List.mem_of_getElem? (i := 17) rfl))) (by decide) (t := .double) (t' := .boolean) (by decide) (by decide))))
  have f7 := (f4.wr W5)
  obtain ⟨T8, h8, X8, e8, W8, st8⟩ := putF X5 hx hZ hown (host := "") (Or.inl (hw _ (List.mem_of_getElem? (i := 18) rfl))) Via.refl e5 f6 f7 (Or.inr ⟨(hw _ (List.mem_of_getElem? (i := 19) rfl)), rfl, hnm⟩) (hw _ (List.mem_of_getElem? (i := 1) rfl)) (ty := .double) (by decide) rfl rfl (g := (mkF m 17 #[.val (.ref a1), .val (.double d1), .second, .val (.int b1), .val (.double d2), .second, .val (.int b2)] [(.double d2), (.ref a1)])) rfl rfl (hb hby d1_17)
  have Fw8 := f6.same W8
  have K8 : Keep h0 h8 [a1] := K5.wr W8 (Or.inl (List.mem_of_getElem? (i := 0) rfl))
  have N8 := Fr.snoc X8 N5 g_a1
  have Z8 : n0 ≤ h8.size := Nat.le_trans Z5 (Keep.of_wr W8).1
  have f9 := (((F3.other W2 (Or.inr (slot_ne (Or.inr (hw _ (List.mem_of_getElem? (i := 21) rfl))) (Or.inr (hw _ (List.mem_of_getElem? (i := 15) rfl))) (by decide) (t := .boolean) (t' := .double) (by decide) (by decide)))).other W5 (Or.inr (slot_ne (Or.inr (hw _ (List.mem_of_getElem? (i := 21) rfl))) (Or.inr (hw _ (List.mem_of_getElem? (i := 17) rfl))) (by decide) (t := .boolean) (t' := .boolean) (by decide) (by decide)))).other W8 (Or.inr (slot_ne (Or.inr (hw _ (List.mem_of_getElem? (i := 21) rfl))) (Or.inr (hw _ (List.mem_of_getElem? (i := 19) rfl))) (by decide) (t := .boolean) (t' := .double) (by decide) (by decide))))
  have f10 := (f7.wr W8)
  obtain ⟨T11, h11, X11, e11, W11, st11⟩ := putFN X8 hx hZ hown (hw _ (List.mem_of_getElem? (i := 20) rfl)) Via.refl e8 f9 f10 (Or.inr ⟨(hw _ (List.mem_of_getElem? (i := 21) rfl)), rfl, hnm⟩) (hw _ (List.mem_of_getElem? (i := 1) rfl)) (ty := .boolean) (v' := (.int (nar .boolean b2))) (by decide) rfl (fits_nar_bool _) (g := (mkF m 23 #[.val (.ref a1), .val (.double d1), .second, .val (.int b1), .val (.double d2), .second, .val (.int b2)] [(.int b2), (.ref a1)])) rfl rfl (hb hby d1_23)
  have Fw11 := f9.same W11
  have K11 : Keep h0 h11 [a1] := K8.wr W11 (Or.inl (List.mem_of_getElem? (i := 0) rfl))
  have N11 := Fr.snoc X11 N8 g_a1
  have Z11 : n0 ≤ h11.size := Nat.le_trans Z8 (Keep.of_wr W11).1
  obtain ⟨fs, hr, hrun, hended, hW, hsame⟩ := X11.leave (v := none) (fun _ => rfl)
  refine ⟨_, _, pre0 _ (?_), hrun, hended, _, _, rfl, ?_, ⟨_, rfl⟩, hW, hsame.mono (by decide) (by decide)⟩
  · show Steps p.tables e below (s₁.setTop (mkF m 0 #[.val (.ref a1), .val (.double d1), .second, .val (.int b1), .val (.double d2), .second, .val (.int b2)] [])) _
    refine XS.aloadN X0.here hx rfl (hb hby d1_0) rfl rfl ?_
    show Steps p.tables e below (s₁.setTop (mkF m 1 #[.val (.ref a1), .val (.double d1), .second, .val (.int b1), .val (.double d2), .second, .val (.int b2)] [(.ref a1)])) _
    refine st1.trans ?_
    show Steps p.tables e below (T1.setTop (mkF m 4 #[.val (.ref a1), .val (.double d1), .second, .val (.int b1), .val (.double d2), .second, .val (.int b2)] [])) _
    refine XS.aloadN X1.here hx rfl (hb hby d1_4) rfl rfl ?_
    show Steps p.tables e below (T1.setTop (mkF m 5 #[.val (.ref a1), .val (.double d1), .second, .val (.int b1), .val (.double d2), .second, .val (.int b2)] [(.ref a1)])) _
    refine XS.dloadN X1.here hx rfl (hb hby d1_5) rfl ?_
    show Steps p.tables e below (T1.setTop (mkF m 6 #[.val (.ref a1), .val (.double d1), .second, .val (.int b1), .val (.double d2), .second, .val (.int b2)] [(.double d1), (.ref a1)])) _
    refine st2 _ ?_
    show Steps p.tables e below (T2.setTop (mkF m 9 #[.val (.ref a1), .val (.double d1), .second, .val (.int b1), .val (.double d2), .second, .val (.int b2)] [])) _
    refine XS.aloadN X2.here hx rfl (hb hby d1_9) rfl rfl ?_
    show Steps p.tables e below (T2.setTop (mkF m 10 #[.val (.ref a1), .val (.double d1), .second, .val (.int b1), .val (.double d2), .second, .val (.int b2)] [(.ref a1)])) _
    refine XS.iloadN X2.here hx rfl (hb hby d1_10) rfl ?_
    show Steps p.tables e below (T2.setTop (mkF m 11 #[.val (.ref a1), .val (.double d1), .second, .val (.int b1), .val (.double d2), .second, .val (.int b2)] [(.int b1), (.ref a1)])) _
    refine st5 _ ?_
    show Steps p.tables e below (T5.setTop (mkF m 14 #[.val (.ref a1), .val (.double d1), .second, .val (.int b1), .val (.double d2), .second, .val (.int b2)] [])) _
    refine XS.aloadN X5.here hx rfl (hb hby d1_14) rfl rfl ?_
    show Steps p.tables e below (T5.setTop (mkF m 15 #[.val (.ref a1), .val (.double d1), .second, .val (.int b1), .val (.double d2), .second, .val (.int b2)] [(.ref a1)])) _
    refine XS.dload X5.here hx rfl (hb hby d1_15) rfl ?_
    show Steps p.tables e below (T5.setTop (mkF m 17 #[.val (.ref a1), .val (.double d1), .second, .val (.int b1), .val (.double d2), .second, .val (.int b2)] [(.double d2), (.ref a1)])) _
    refine st8 _ ?_
    show Steps p.tables e below (T8.setTop (mkF m 20 #[.val (.ref a1), .val (.double d1), .second, .val (.int b1), .val (.double d2), .second, .val (.int b2)] [])) _
    refine XS.aloadN X8.here hx rfl (hb hby d1_20) rfl rfl ?_
    show Steps p.tables e below (T8.setTop (mkF m 21 #[.val (.ref a1), .val (.double d1), .second, .val (.int b1), .val (.double d2), .second, .val (.int b2)] [(.ref a1)])) _
    refine XS.iload X8.here hx rfl (hb hby d1_21) rfl ?_
    show Steps p.tables e below (T8.setTop (mkF m 23 #[.val (.ref a1), .val (.double d1), .second, .val (.int b1), .val (.double d2), .second, .val (.int b2)] [(.int b2), (.ref a1)])) _
    refine st11 _ ?_
    show Steps p.tables e below (T11.setTop (mkF m 26 #[.val (.ref a1), .val (.double d1), .second, .val (.int b1), .val (.double d2), .second, .val (.int b2)] [])) _
    exact X11.returnOut hx Bd.returns (hb hby d1_26) hr
  have f12 := (f10.wr W11)
  have f13 := (((Fw2.other W5 (Or.inr (slot_ne (Or.inr (hw _ (List.mem_of_getElem? (i := 15) rfl))) (Or.inr (hw _ (List.mem_of_getElem? (i := 17) rfl))) (by decide) (t := .double) (t' := .boolean) (by decide) (by decide)))).other W8 (Or.inr (slot_ne (Or.inr (hw _ (List.mem_of_getElem? (i := 15) rfl))) (Or.inr (hw _ (List.mem_of_getElem? (i := 19) rfl))) (by decide) (t := .double) (t' := .double) (by decide) (by decide)))).other W11 (Or.inr (slot_ne (Or.inr (hw _ (List.mem_of_getElem? (i := 15) rfl))) (Or.inr (hw _ (List.mem_of_getElem? (i := 21) rfl))) (by decide) (t := .double) (t' := .boolean) (by decide) (by decide))))
  have f14 := ((Fw5.other W8 (Or.inr (slot_ne (Or.inr (hw _ (List.mem_of_getElem? (i := 17) rfl))) (Or.inr (hw _ (List.mem_of_getElem? (i := 19) rfl))) (by decide) (t := .boolean) (t' := .double) (by decide) (by decide)))).other W11 (Or.inr (slot_ne (Or.inr (hw _ (List.mem_of_getElem? (i := 17) rfl))) (Or.inr (hw _ (List.mem_of_getElem? (i := 21) rfl))) (by decide) (t := .boolean) (t' := .boolean) (by decide) (by decide))))
  have f15 := (Fw8.other W11 (Or.inr (slot_ne (Or.inr (hw _ (List.mem_of_getElem? (i := 19) rfl))) (Or.inr (hw _ (List.mem_of_getElem? (i := 21) rfl))) (by decide) (t := .double) (t' := .boolean) (by decide) (by decide))))
  · show QrmI Z a1 d1 b1 d2 b2 u1 u2 u3 u4 h0 n0 _ T11.heap _
    rw [e11]
    exact ⟨rfl, N11, K11, f12, f13, f14, f15, Fw11⟩
theorem d4_0 : decode prog_30_method_7_code 0 = .ok (.aload_n 0, 1) := by decide +kernel
theorem d4_1 : decode prog_30_method_7_code 1 = .ok (.getfield 13, 3) := by decide +kernel
theorem d4_4 : decode prog_30_method_7_code 4 = .ok (.ifCond .eq 20, 3) := by decide +kernel
theorem d4_7 : decode prog_30_method_7_code 7 = .ok (.dload_n 1, 1) := by decide +kernel
theorem d4_8 : decode prog_30_method_7_code 8 = .ok (.aload_n 0, 1) := by decide +kernel
theorem d4_9 : decode prog_30_method_7_code 9 = .ok (.getfield 7, 3) := by decide +kernel
theorem d4_12 : decode prog_30_method_7_code 12 = .ok (.dcmp .l, 1) := by decide +kernel
theorem d4_13 : decode prog_30_method_7_code 13 = .ok (.ifCond .lt 7, 3) := by decide +kernel
theorem d4_16 : decode prog_30_method_7_code 16 = .ok (.iconst 1, 1) := by decide +kernel
theorem d4_17 : decode prog_30_method_7_code 17 = .ok (.goto 21, 3) := by decide +kernel
theorem d4_20 : decode prog_30_method_7_code 20 = .ok (.iconst 0, 1) := by decide +kernel
theorem d4_21 : decode prog_30_method_7_code 21 = .ok (.goto 17, 3) := by decide +kernel
theorem d4_24 : decode prog_30_method_7_code 24 = .ok (.dload_n 1, 1) := by decide +kernel
theorem d4_25 : decode prog_30_method_7_code 25 = .ok (.aload_n 0, 1) := by decide +kernel
theorem d4_26 : decode prog_30_method_7_code 26 = .ok (.getfield 7, 3) := by decide +kernel
theorem d4_29 : decode prog_30_method_7_code 29 = .ok (.dcmp .l, 1) := by decide +kernel
theorem d4_30 : decode prog_30_method_7_code 30 = .ok (.ifCond .le 7, 3) := by decide +kernel
theorem d4_33 : decode prog_30_method_7_code 33 = .ok (.iconst 1, 1) := by decide +kernel
theorem d4_34 : decode prog_30_method_7_code 34 = .ok (.goto 4, 3) := by decide +kernel
theorem d4_37 : decode prog_30_method_7_code 37 = .ok (.iconst 0, 1) := by decide +kernel
theorem d4_38 : decode prog_30_method_7_code 38 = .ok (.istore_n 3, 1) := by decide +kernel
theorem d4_39 : decode prog_30_method_7_code 39 = .ok (.aload_n 0, 1) := by decide +kernel
theorem d4_40 : decode prog_30_method_7_code 40 = .ok (.getfield 20, 3) := by decide +kernel
theorem d4_43 : decode prog_30_method_7_code 43 = .ok (.ifCond .eq 20, 3) := by decide +kernel
theorem d4_46 : decode prog_30_method_7_code 46 = .ok (.dload_n 1, 1) := by decide +kernel
theorem d4_47 : decode prog_30_method_7_code 47 = .ok (.aload_n 0, 1) := by decide +kernel
theorem d4_48 : decode prog_30_method_7_code 48 = .ok (.getfield 17, 3) := by decide +kernel
theorem d4_51 : decode prog_30_method_7_code 51 = .ok (.dcmp .g, 1) := by decide +kernel
theorem d4_52 : decode prog_30_method_7_code 52 = .ok (.ifCond .gt 7, 3) := by decide +kernel
theorem d4_55 : decode prog_30_method_7_code 55 = .ok (.iconst 1, 1) := by decide +kernel
theorem d4_56 : decode prog_30_method_7_code 56 = .ok (.goto 21, 3) := by decide +kernel
theorem d4_59 : decode prog_30_method_7_code 59 = .ok (.iconst 0, 1) := by decide +kernel
theorem d4_60 : decode prog_30_method_7_code 60 = .ok (.goto 17, 3) := by decide +kernel
theorem d4_63 : decode prog_30_method_7_code 63 = .ok (.dload_n 1, 1) := by decide +kernel
theorem d4_64 : decode prog_30_method_7_code 64 = .ok (.aload_n 0, 1) := by decide +kernel
theorem d4_65 : decode prog_30_method_7_code 65 = .ok (.getfield 17, 3) := by decide +kernel
theorem d4_68 : decode prog_30_method_7_code 68 = .ok (.dcmp .g, 1) := by decide +kernel
theorem d4_69 : decode prog_30_method_7_code 69 = .ok (.ifCond .ge 7, 3) := by decide +kernel
theorem d4_72 : decode prog_30_method_7_code 72 = .ok (.iconst 1, 1) := by decide +kernel
theorem d4_73 : decode prog_30_method_7_code 73 = .ok (.goto 4, 3) := by decide +kernel
theorem d4_76 : decode prog_30_method_7_code 76 = .ok (.iconst 0, 1) := by decide +kernel
theorem d4_77 : decode prog_30_method_7_code 77 = .ok (.istore 4, 2) := by decide +kernel
theorem d4_79 : decode prog_30_method_7_code 79 = .ok (.iload_n 3, 1) := by decide +kernel
theorem d4_80 : decode prog_30_method_7_code 80 = .ok (.ifCond .eq 12, 3) := by decide +kernel
theorem d4_83 : decode prog_30_method_7_code 83 = .ok (.iload 4, 2) := by decide +kernel
theorem d4_85 : decode prog_30_method_7_code 85 = .ok (.ifCond .eq 7, 3) := by decide +kernel
theorem d4_88 : decode prog_30_method_7_code 88 = .ok (.iconst 1, 1) := by decide +kernel
theorem d4_89 : decode prog_30_method_7_code 89 = .ok (.goto 4, 3) := by decide +kernel
theorem d4_92 : decode prog_30_method_7_code 92 = .ok (.iconst 0, 1) := by decide +kernel
theorem d4_93 : decode prog_30_method_7_code 93 = .ok (.ireturn, 1) := by decide +kernel
theorem ef_rmC (m : MethodId) (x0 : Addr) (x1 : UInt64) : entryFrame m #[(.ref x0), (.double x1)] 5 = mkF m 0 #[.val (.ref x0), .val (.double x1), .second, .unset, .unset] [] := by first | (simp [entryFrame, mkF, argsToLocals, Value.category]; done) | rfl
def QrmC (Z : State) (a1 : Addr) (x1 q1 q2 : Int64) (b1 b2 : Int32) (h0 : Heap) (n0 : Nat) (v : Option Value) (h : Heap) (L : List Loc) : Prop := v = some (.int (own_cont x1 q1 q2 b1 b2)) ∧ Fr n0 L ∧ h = h0
set_option maxRecDepth 65536 in
set_option maxHeartbeats 40000000 in
theorem rmC (l : Launch) (Z : State) (a0 : Array Value) (hw : ∀ d ∈ tables_1, d.before a0 Z = true) (ws : List Jvm.Cond) (a1 : Addr) (x1 q1 q2 : Int64) (b1 b2 : Int32) (h0 : Heap) (n0 : Nat) (Z0 : n0 ≤ h0.size) (Bx1 : BB 2147483648 x1) (Bq1 : BB 2147483648 q1) (Bq2 : BB 2147483648 q2) (F0 : Fld Z h0 a1 "com/example/weir3/weir3/core/Range" "lower" "D" (.double (FP.l2d q1))) (F1 : Fld Z h0 a1 "com/example/weir3/weir3/core/Range" "lowerIncluded" "Z" (.int b1)) (F2 : Fld Z h0 a1 "com/example/weir3/weir3/core/Range" "upper" "D" (.double (FP.l2d q2))) (F3 : Fld Z h0 a1 "com/example/weir3/weir3/core/Range" "upperIncluded" "Z" (.int b2)) :
    MetFree l (⟨"com/example/weir3/weir3/core/Range", "contains", "(D)Z"⟩ : MethodName) (head1 (Jvm.Cond.code (⟨"com/example/weir3/weir3/core/Range", "contains", "(D)Z"⟩ : MethodName) prog_30_method_7_code 5 (some .boolean) :: ws) ({ frames := 0, cells := 0, slots := 0, locals := 0 } : Room)) (fun a U => a = #[(.ref a1), (.double (FP.l2d x1))] ∧ Z.Warmed39 U.vm ∧ U.heap = h0) (fun _ _ _ _ _ => True) (fun _ U o U' => ∃ v L, o = .returned v ∧ QrmC Z a1 x1 q1 q2 b1 b2 h0 n0 v U'.heap L ∧ FrameEnd U o U' L ({ frames := 0, cells := 0, slots := 0, locals := 0 } : Room).cells ({ frames := 0, cells := 0, slots := 0, locals := 0 } : Room).slots) := by
  refine MetFree.of_bodySF (plainFor_of_name pn_com_example_weir3_weir3_core_Range) hisR ?_
  intro p e s m args below meth c s₁ Bd hml0 hP hK
  obtain ⟨rfl, hZ, hh⟩ := hP
  have hx := Bd.exec
  have hby := Bd.bytes
  have hml : c.maxLocals = 5 := hml0
  have hown : s.vm.findClass "com/example/weir3/weir3/core/Range" = some m.cls := findClass_of_methodNamed Bd.named
  have hnm := (name_of_methodNamed Bd.named Bd.method).1
  have X0 : Stand p l e ({ frames := 0, cells := 0, slots := 0, locals := 0 } : Room) s m #[(.ref a1), (.double (FP.l2d x1))] below meth c s₁ [] 0 0 := Stand.of_body Bd
  have e0 : s₁.heap = h0 := by rw [← hh, Bd.state]; rfl
  have N0 := Fr.nil n0
  have pre0 : ∀ t, Steps p.tables e below (s₁.setTop (mkF m 0 #[.val (.ref a1), .val (.double (FP.l2d x1)), .second, .unset, .unset] [])) t → Steps p.tables e below (s₁.setTop (entryFrame m #[(.ref a1), (.double (FP.l2d x1))] 5)) t := fun t k => castTop (ef_rmC m a1 (FP.l2d x1)) k
  obtain ⟨T1, X1, e1, st1⟩ := getF X0 hx hZ hown (host := "") (Or.inl (hw _ (List.mem_of_getElem? (i := 16) rfl))) Via.refl e0 F1 (g := (mkF m 1 #[.val (.ref a1), .val (.double (FP.l2d x1)), .second, .unset, .unset] [(.ref a1)])) rfl rfl (hb hby d4_1)
  have c2 : ∀ t, Steps p.tables e below (T1.setTop (mkF m 4 #[.val (.ref a1), .val (.double (FP.l2d x1)), .second, .unset, .unset] [(.int b1)])) t → Steps p.tables e below (s₁.setTop (mkF m 0 #[.val (.ref a1), .val (.double (FP.l2d x1)), .second, .unset, .unset] [])) t := by
    intro t kt
    show Steps p.tables e below (s₁.setTop (mkF m 0 #[.val (.ref a1), .val (.double (FP.l2d x1)), .second, .unset, .unset] [])) _
    refine XS.aloadN X0.here hx rfl (hb hby d4_0) rfl rfl ?_
    show Steps p.tables e below (s₁.setTop (mkF m 1 #[.val (.ref a1), .val (.double (FP.l2d x1)), .second, .unset, .unset] [(.ref a1)])) _
    refine st1 _ ?_
    exact kt
  by_cases hc4 : b1 = (0 : Int32)
  · obtain ⟨T3, X3, e3, st3⟩ := getF X1 hx hZ hown (host := "") (Or.inl (hw _ (List.mem_of_getElem? (i := 14) rfl))) Via.refl e1 F0 (g := (mkF m 26 #[.val (.ref a1), .val (.double (FP.l2d x1)), .second, .unset, .unset] [(.ref a1), (.double (FP.l2d x1))])) rfl rfl (hb hby d4_26)
    have c4 : ∀ t, Steps p.tables e below (T3.setTop (mkF m 30 #[.val (.ref a1), .val (.double (FP.l2d x1)), .second, .unset, .unset] [(.int (lcmpW x1 q1))])) t → Steps p.tables e below (T1.setTop (mkF m 4 #[.val (.ref a1), .val (.double (FP.l2d x1)), .second, .unset, .unset] [(.int b1)])) t := by
      intro t kt
      show Steps p.tables e below (T1.setTop (mkF m 4 #[.val (.ref a1), .val (.double (FP.l2d x1)), .second, .unset, .unset] [(.int b1)])) _
      refine XS.ifYes X1.here hx rfl (pc0 := 4) (pc' := 24) rfl (hb hby d4_4) rfl ((if0 _ _).trans (teq hc4).1) (by decide) (by decide) ?_
      show Steps p.tables e below (T1.setTop (mkF m 24 #[.val (.ref a1), .val (.double (FP.l2d x1)), .second, .unset, .unset] [])) _
      refine XS.dloadN X1.here hx rfl (hb hby d4_24) rfl ?_
      show Steps p.tables e below (T1.setTop (mkF m 25 #[.val (.ref a1), .val (.double (FP.l2d x1)), .second, .unset, .unset] [(.double (FP.l2d x1))])) _
      refine XS.aloadN X1.here hx rfl (hb hby d4_25) rfl rfl ?_
      show Steps p.tables e below (T1.setTop (mkF m 26 #[.val (.ref a1), .val (.double (FP.l2d x1)), .second, .unset, .unset] [(.ref a1), (.double (FP.l2d x1))])) _
      refine st3 _ ?_
      show Steps p.tables e below (T3.setTop (mkF m 29 #[.val (.ref a1), .val (.double (FP.l2d x1)), .second, .unset, .unset] [(.double (FP.l2d q1)), (.double (FP.l2d x1))])) _
      refine XS.dcmpS X3.here hx rfl (v := (lcmpW x1 q1)) (hb hby d4_29) rfl (dcmpV_w (Bx1.b53 (by decide)) (Bq1.b53 (by decide)) _) ?_
      exact kt
    by_cases hc30 : (0 : Int32) < (lcmpW x1 q1)
    · obtain ⟨T5, X5, e5, st5⟩ := getF X3 hx hZ hown (host := "") (Or.inl (hw _ (List.mem_of_getElem? (i := 20) rfl))) Via.refl e3 F3 (g := (mkF m 40 #[.val (.ref a1), .val (.double (FP.l2d x1)), .second, .val (.int (1 : Int32)), .unset] [(.ref a1)])) rfl rfl (hb hby d4_40)
      have c6 : ∀ t, Steps p.tables e below (T5.setTop (mkF m 43 #[.val (.ref a1), .val (.double (FP.l2d x1)), .second, .val (.int (1 : Int32)), .unset] [(.int b2)])) t → Steps p.tables e below (T3.setTop (mkF m 30 #[.val (.ref a1), .val (.double (FP.l2d x1)), .second, .unset, .unset] [(.int (lcmpW x1 q1))])) t := by
        intro t kt
        show Steps p.tables e below (T3.setTop (mkF m 30 #[.val (.ref a1), .val (.double (FP.l2d x1)), .second, .unset, .unset] [(.int (lcmpW x1 q1))])) _
        refine XS.ifNo X3.here hx rfl (hb hby d4_30) rfl ((if0 _ _).trans (tlt hc30).2.2.2) ?_
        show Steps p.tables e below (T3.setTop (mkF m 33 #[.val (.ref a1), .val (.double (FP.l2d x1)), .second, .unset, .unset] [])) _
        refine XS.iconst X3.here hx rfl (hb hby d4_33) ?_
        show Steps p.tables e below (T3.setTop (mkF m 34 #[.val (.ref a1), .val (.double (FP.l2d x1)), .second, .unset, .unset] [(.int (1 : Int32))])) _
        refine XS.goto X3.here hx rfl (pc0 := 34) (pc' := 38) rfl (hb hby d4_34) (by decide) (by decide) ?_
        show Steps p.tables e below (T3.setTop (mkF m 38 #[.val (.ref a1), .val (.double (FP.l2d x1)), .second, .unset, .unset] [(.int (1 : Int32))])) _
        refine XS.istoreN X3.here hx rfl (hb hby d4_38) rfl (l' := #[.val (.ref a1), .val (.double (FP.l2d x1)), .second, .val (.int (1 : Int32)), .unset]) rfl ?_
        show Steps p.tables e below (T3.setTop (mkF m 39 #[.val (.ref a1), .val (.double (FP.l2d x1)), .second, .val (.int (1 : Int32)), .unset] [])) _
        refine XS.aloadN X3.here hx rfl (hb hby d4_39) rfl rfl ?_
        show Steps p.tables e below (T3.setTop (mkF m 40 #[.val (.ref a1), .val (.double (FP.l2d x1)), .second, .val (.int (1 : Int32)), .unset] [(.ref a1)])) _
        refine st5 _ ?_
        exact kt
      by_cases hc43 : b2 = (0 : Int32)
      · obtain ⟨T7, X7, e7, st7⟩ := getF X5 hx hZ hown (host := "") (Or.inl (hw _ (List.mem_of_getElem? (i := 18) rfl))) Via.refl e5 F2 (g := (mkF m 65 #[.val (.ref a1), .val (.double (FP.l2d x1)), .second, .val (.int (1 : Int32)), .unset] [(.ref a1), (.double (FP.l2d x1))])) rfl rfl (hb hby d4_65)
        have c8 : ∀ t, Steps p.tables e below (T7.setTop (mkF m 69 #[.val (.ref a1), .val (.double (FP.l2d x1)), .second, .val (.int (1 : Int32)), .unset] [(.int (lcmpW x1 q2))])) t → Steps p.tables e below (T5.setTop (mkF m 43 #[.val (.ref a1), .val (.double (FP.l2d x1)), .second, .val (.int (1 : Int32)), .unset] [(.int b2)])) t := by
          intro t kt
          show Steps p.tables e below (T5.setTop (mkF m 43 #[.val (.ref a1), .val (.double (FP.l2d x1)), .second, .val (.int (1 : Int32)), .unset] [(.int b2)])) _
          refine XS.ifYes X5.here hx rfl (pc0 := 43) (pc' := 63) rfl (hb hby d4_43) rfl ((if0 _ _).trans (teq hc43).1) (by decide) (by decide) ?_
          show Steps p.tables e below (T5.setTop (mkF m 63 #[.val (.ref a1), .val (.double (FP.l2d x1)), .second, .val (.int (1 : Int32)), .unset] [])) _
          refine XS.dloadN X5.here hx rfl (hb hby d4_63) rfl ?_
          show Steps p.tables e below (T5.setTop (mkF m 64 #[.val (.ref a1), .val (.double (FP.l2d x1)), .second, .val (.int (1 : Int32)), .unset] [(.double (FP.l2d x1))])) _
          refine XS.aloadN X5.here hx rfl (hb hby d4_64) rfl rfl ?_
          show Steps p.tables e below (T5.setTop (mkF m 65 #[.val (.ref a1), .val (.double (FP.l2d x1)), .second, .val (.int (1 : Int32)), .unset] [(.ref a1), (.double (FP.l2d x1))])) _
          refine st7 _ ?_
          show Steps p.tables e below (T7.setTop (mkF m 68 #[.val (.ref a1), .val (.double (FP.l2d x1)), .second, .val (.int (1 : Int32)), .unset] [(.double (FP.l2d q2)), (.double (FP.l2d x1))])) _
          refine XS.dcmpS X7.here hx rfl (v := (lcmpW x1 q2)) (hb hby d4_68) rfl (dcmpV_w (Bx1.b53 (by decide)) (Bq2.b53 (by decide)) _) ?_
          exact kt
        by_cases hc69 : (lcmpW x1 q2) < (0 : Int32)
        · obtain ⟨fs, hr, hrun, hended, hW, hsame⟩ := X7.leave (v := some (.int (1 : Int32))) (fun h => by rw [Bd.returns] at h; cases h)
          refine ⟨_, _, pre0 _ (c2 _ (c4 _ (c6 _ (c8 _ (?_))))), hrun, hended, _, _, rfl, ?_, ⟨_, rfl⟩, hW, hsame.mono (by decide) (by decide)⟩
          · show Steps p.tables e below (T7.setTop (mkF m 69 #[.val (.ref a1), .val (.double (FP.l2d x1)), .second, .val (.int (1 : Int32)), .unset] [(.int (lcmpW x1 q2))])) _
            refine XS.ifNo X7.here hx rfl (hb hby d4_69) rfl ((if0 _ _).trans (tlt hc69).2.1) ?_
            show Steps p.tables e below (T7.setTop (mkF m 72 #[.val (.ref a1), .val (.double (FP.l2d x1)), .second, .val (.int (1 : Int32)), .unset] [])) _
            refine XS.iconst X7.here hx rfl (hb hby d4_72) ?_
            show Steps p.tables e below (T7.setTop (mkF m 73 #[.val (.ref a1), .val (.double (FP.l2d x1)), .second, .val (.int (1 : Int32)), .unset] [(.int (1 : Int32))])) _
            refine XS.goto X7.here hx rfl (pc0 := 73) (pc' := 77) rfl (hb hby d4_73) (by decide) (by decide) ?_
            show Steps p.tables e below (T7.setTop (mkF m 77 #[.val (.ref a1), .val (.double (FP.l2d x1)), .second, .val (.int (1 : Int32)), .unset] [(.int (1 : Int32))])) _
            refine XS.istore X7.here hx rfl (hb hby d4_77) rfl (l' := #[.val (.ref a1), .val (.double (FP.l2d x1)), .second, .val (.int (1 : Int32)), .val (.int (1 : Int32))]) rfl ?_
            show Steps p.tables e below (T7.setTop (mkF m 79 #[.val (.ref a1), .val (.double (FP.l2d x1)), .second, .val (.int (1 : Int32)), .val (.int (1 : Int32))] [])) _
            refine XS.iloadN X7.here hx rfl (hb hby d4_79) rfl ?_
            show Steps p.tables e below (T7.setTop (mkF m 80 #[.val (.ref a1), .val (.double (FP.l2d x1)), .second, .val (.int (1 : Int32)), .val (.int (1 : Int32))] [(.int (1 : Int32))])) _
            refine XS.ifNo X7.here hx rfl (hb hby d4_80) rfl ((if0 _ _).trans (feq (by decide : ¬ ((1 : Int32) = (0 : Int32)))).1) ?_
            show Steps p.tables e below (T7.setTop (mkF m 83 #[.val (.ref a1), .val (.double (FP.l2d x1)), .second, .val (.int (1 : Int32)), .val (.int (1 : Int32))] [])) _
            refine XS.iload X7.here hx rfl (hb hby d4_83) rfl ?_
            show Steps p.tables e below (T7.setTop (mkF m 85 #[.val (.ref a1), .val (.double (FP.l2d x1)), .second, .val (.int (1 : Int32)), .val (.int (1 : Int32))] [(.int (1 : Int32))])) _
            refine XS.ifNo X7.here hx rfl (hb hby d4_85) rfl ((if0 _ _).trans (feq (by decide : ¬ ((1 : Int32) = (0 : Int32)))).1) ?_
            show Steps p.tables e below (T7.setTop (mkF m 88 #[.val (.ref a1), .val (.double (FP.l2d x1)), .second, .val (.int (1 : Int32)), .val (.int (1 : Int32))] [])) _
            refine XS.iconst X7.here hx rfl (hb hby d4_88) ?_
            show Steps p.tables e below (T7.setTop (mkF m 89 #[.val (.ref a1), .val (.double (FP.l2d x1)), .second, .val (.int (1 : Int32)), .val (.int (1 : Int32))] [(.int (1 : Int32))])) _
            refine XS.goto X7.here hx rfl (pc0 := 89) (pc' := 93) rfl (hb hby d4_89) (by decide) (by decide) ?_
            show Steps p.tables e below (T7.setTop (mkF m 93 #[.val (.ref a1), .val (.double (FP.l2d x1)), .second, .val (.int (1 : Int32)), .val (.int (1 : Int32))] [(.int (1 : Int32))])) _
            exact retN X7 hx (t := .boolean) Bd.returns (by simp) (hb hby d4_93) hr
          · show QrmC Z a1 x1 q1 q2 b1 b2 h0 n0 _ T7.heap _
            rw [e7]
            exact ⟨by simp only [own_cont, hc4, hc30, hc43, hc69, if_true, if_false], N0, rfl⟩
        · obtain ⟨fs, hr, hrun, hended, hW, hsame⟩ := X7.leave (v := some (.int (0 : Int32))) (fun h => by rw [Bd.returns] at h; cases h)
          refine ⟨_, _, pre0 _ (c2 _ (c4 _ (c6 _ (c8 _ (?_))))), hrun, hended, _, _, rfl, ?_, ⟨_, rfl⟩, hW, hsame.mono (by decide) (by decide)⟩
          · show Steps p.tables e below (T7.setTop (mkF m 69 #[.val (.ref a1), .val (.double (FP.l2d x1)), .second, .val (.int (1 : Int32)), .unset] [(.int (lcmpW x1 q2))])) _
            refine XS.ifYes X7.here hx rfl (pc0 := 69) (pc' := 76) rfl (hb hby d4_69) rfl ((if0 _ _).trans (flt hc69).2.1) (by decide) (by decide) ?_
            show Steps p.tables e below (T7.setTop (mkF m 76 #[.val (.ref a1), .val (.double (FP.l2d x1)), .second, .val (.int (1 : Int32)), .unset] [])) _
            refine XS.iconst X7.here hx rfl (hb hby d4_76) ?_
            show Steps p.tables e below (T7.setTop (mkF m 77 #[.val (.ref a1), .val (.double (FP.l2d x1)), .second, .val (.int (1 : Int32)), .unset] [(.int (0 : Int32))])) _
            refine XS.istore X7.here hx rfl (hb hby d4_77) rfl (l' := #[.val (.ref a1), .val (.double (FP.l2d x1)), .second, .val (.int (1 : Int32)), .val (.int (0 : Int32))]) rfl ?_
            show Steps p.tables e below (T7.setTop (mkF m 79 #[.val (.ref a1), .val (.double (FP.l2d x1)), .second, .val (.int (1 : Int32)), .val (.int (0 : Int32))] [])) _
            refine XS.iloadN X7.here hx rfl (hb hby d4_79) rfl ?_
            show Steps p.tables e below (T7.setTop (mkF m 80 #[.val (.ref a1), .val (.double (FP.l2d x1)), .second, .val (.int (1 : Int32)), .val (.int (0 : Int32))] [(.int (1 : Int32))])) _
            refine XS.ifNo X7.here hx rfl (hb hby d4_80) rfl ((if0 _ _).trans (feq (by decide : ¬ ((1 : Int32) = (0 : Int32)))).1) ?_
            show Steps p.tables e below (T7.setTop (mkF m 83 #[.val (.ref a1), .val (.double (FP.l2d x1)), .second, .val (.int (1 : Int32)), .val (.int (0 : Int32))] [])) _
            refine XS.iload X7.here hx rfl (hb hby d4_83) rfl ?_
            show Steps p.tables e below (T7.setTop (mkF m 85 #[.val (.ref a1), .val (.double (FP.l2d x1)), .second, .val (.int (1 : Int32)), .val (.int (0 : Int32))] [(.int (0 : Int32))])) _
            refine XS.ifYes X7.here hx rfl (pc0 := 85) (pc' := 92) rfl (hb hby d4_85) rfl ((if0 _ _).trans (teq (by decide : (0 : Int32) = (0 : Int32))).1) (by decide) (by decide) ?_
            show Steps p.tables e below (T7.setTop (mkF m 92 #[.val (.ref a1), .val (.double (FP.l2d x1)), .second, .val (.int (1 : Int32)), .val (.int (0 : Int32))] [])) _
            refine XS.iconst X7.here hx rfl (hb hby d4_92) ?_
            show Steps p.tables e below (T7.setTop (mkF m 93 #[.val (.ref a1), .val (.double (FP.l2d x1)), .second, .val (.int (1 : Int32)), .val (.int (0 : Int32))] [(.int (0 : Int32))])) _
            exact retN X7 hx (t := .boolean) Bd.returns (by simp) (hb hby d4_93) hr
          · show QrmC Z a1 x1 q1 q2 b1 b2 h0 n0 _ T7.heap _
            rw [e7]
            exact ⟨by simp only [own_cont, hc4, hc30, hc43, hc69, if_true, if_false], N0, rfl⟩
      · obtain ⟨T9, X9, e9, st9⟩ := getF X5 hx hZ hown (host := "") (Or.inl (hw _ (List.mem_of_getElem? (i := 18) rfl))) Via.refl e5 F2 (g := (mkF m 48 #[.val (.ref a1), .val (.double (FP.l2d x1)), .second, .val (.int (1 : Int32)), .unset] [(.ref a1), (.double (FP.l2d x1))])) rfl rfl (hb hby d4_48)
        have c10 : ∀ t, Steps p.tables e below (T9.setTop (mkF m 52 #[.val (.ref a1), .val (.double (FP.l2d x1)), .second, .val (.int (1 : Int32)), .unset] [(.int (lcmpW x1 q2))])) t → Steps p.tables e below (T5.setTop (mkF m 43 #[.val (.ref a1), .val (.double (FP.l2d x1)), .second, .val (.int (1 : Int32)), .unset] [(.int b2)])) t := by
          intro t kt
          show Steps p.tables e below (T5.setTop (mkF m 43 #[.val (.ref a1), .val (.double (FP.l2d x1)), .second, .val (.int (1 : Int32)), .unset] [(.int b2)])) _
          refine XS.ifNo X5.here hx rfl (hb hby d4_43) rfl ((if0 _ _).trans (feq hc43).1) ?_
          show Steps p.tables e below (T5.setTop (mkF m 46 #[.val (.ref a1), .val (.double (FP.l2d x1)), .second, .val (.int (1 : Int32)), .unset] [])) _
          refine XS.dloadN X5.here hx rfl (hb hby d4_46) rfl ?_
          show Steps p.tables e below (T5.setTop (mkF m 47 #[.val (.ref a1), .val (.double (FP.l2d x1)), .second, .val (.int (1 : Int32)), .unset] [(.double (FP.l2d x1))])) _
          refine XS.aloadN X5.here hx rfl (hb hby d4_47) rfl rfl ?_
          show Steps p.tables e below (T5.setTop (mkF m 48 #[.val (.ref a1), .val (.double (FP.l2d x1)), .second, .val (.int (1 : Int32)), .unset] [(.ref a1), (.double (FP.l2d x1))])) _
          refine st9 _ ?_
          show Steps p.tables e below (T9.setTop (mkF m 51 #[.val (.ref a1), .val (.double (FP.l2d x1)), .second, .val (.int (1 : Int32)), .unset] [(.double (FP.l2d q2)), (.double (FP.l2d x1))])) _
          refine XS.dcmpS X9.here hx rfl (v := (lcmpW x1 q2)) (hb hby d4_51) rfl (dcmpV_w (Bx1.b53 (by decide)) (Bq2.b53 (by decide)) _) ?_
          exact kt
        by_cases hc52 : (0 : Int32) < (lcmpW x1 q2)
        · obtain ⟨fs, hr, hrun, hended, hW, hsame⟩ := X9.leave (v := some (.int (0 : Int32))) (fun h => by rw [Bd.returns] at h; cases h)
          refine ⟨_, _, pre0 _ (c2 _ (c4 _ (c6 _ (c10 _ (?_))))), hrun, hended, _, _, rfl, ?_, ⟨_, rfl⟩, hW, hsame.mono (by decide) (by decide)⟩
          · show Steps p.tables e below (T9.setTop (mkF m 52 #[.val (.ref a1), .val (.double (FP.l2d x1)), .second, .val (.int (1 : Int32)), .unset] [(.int (lcmpW x1 q2))])) _
            refine XS.ifYes X9.here hx rfl (pc0 := 52) (pc' := 59) rfl (hb hby d4_52) rfl ((if0 _ _).trans (tlt hc52).2.2.1) (by decide) (by decide) ?_
            show Steps p.tables e below (T9.setTop (mkF m 59 #[.val (.ref a1), .val (.double (FP.l2d x1)), .second, .val (.int (1 : Int32)), .unset] [])) _
            refine XS.iconst X9.here hx rfl (hb hby d4_59) ?_
            show Steps p.tables e below (T9.setTop (mkF m 60 #[.val (.ref a1), .val (.double (FP.l2d x1)), .second, .val (.int (1 : Int32)), .unset] [(.int (0 : Int32))])) _
            refine XS.goto X9.here hx rfl (pc0 := 60) (pc' := 77) rfl (hb hby d4_60) (by decide) (by decide) ?_
            show Steps p.tables e below (T9.setTop (mkF m 77 #[.val (.ref a1), .val (.double (FP.l2d x1)), .second, .val (.int (1 : Int32)), .unset] [(.int (0 : Int32))])) _
            refine XS.istore X9.here hx rfl (hb hby d4_77) rfl (l' := #[.val (.ref a1), .val (.double (FP.l2d x1)), .second, .val (.int (1 : Int32)), .val (.int (0 : Int32))]) rfl ?_
            show Steps p.tables e below (T9.setTop (mkF m 79 #[.val (.ref a1), .val (.double (FP.l2d x1)), .second, .val (.int (1 : Int32)), .val (.int (0 : Int32))] [])) _
            refine XS.iloadN X9.here hx rfl (hb hby d4_79) rfl ?_
            show Steps p.tables e below (T9.setTop (mkF m 80 #[.val (.ref a1), .val (.double (FP.l2d x1)), .second, .val (.int (1 : Int32)), .val (.int (0 : Int32))] [(.int (1 : Int32))])) _
            refine XS.ifNo X9.here hx rfl (hb hby d4_80) rfl ((if0 _ _).trans (feq (by decide : ¬ ((1 : Int32) = (0 : Int32)))).1) ?_
            show Steps p.tables e below (T9.setTop (mkF m 83 #[.val (.ref a1), .val (.double (FP.l2d x1)), .second, .val (.int (1 : Int32)), .val (.int (0 : Int32))] [])) _
            refine XS.iload X9.here hx rfl (hb hby d4_83) rfl ?_
            show Steps p.tables e below (T9.setTop (mkF m 85 #[.val (.ref a1), .val (.double (FP.l2d x1)), .second, .val (.int (1 : Int32)), .val (.int (0 : Int32))] [(.int (0 : Int32))])) _
            refine XS.ifYes X9.here hx rfl (pc0 := 85) (pc' := 92) rfl (hb hby d4_85) rfl ((if0 _ _).trans (teq (by decide : (0 : Int32) = (0 : Int32))).1) (by decide) (by decide) ?_
            show Steps p.tables e below (T9.setTop (mkF m 92 #[.val (.ref a1), .val (.double (FP.l2d x1)), .second, .val (.int (1 : Int32)), .val (.int (0 : Int32))] [])) _
            refine XS.iconst X9.here hx rfl (hb hby d4_92) ?_
            show Steps p.tables e below (T9.setTop (mkF m 93 #[.val (.ref a1), .val (.double (FP.l2d x1)), .second, .val (.int (1 : Int32)), .val (.int (0 : Int32))] [(.int (0 : Int32))])) _
            exact retN X9 hx (t := .boolean) Bd.returns (by simp) (hb hby d4_93) hr
          · show QrmC Z a1 x1 q1 q2 b1 b2 h0 n0 _ T9.heap _
            rw [e9]
            exact ⟨by simp only [own_cont, hc4, hc30, hc43, hc52, if_true, if_false], N0, rfl⟩
        · obtain ⟨fs, hr, hrun, hended, hW, hsame⟩ := X9.leave (v := some (.int (1 : Int32))) (fun h => by rw [Bd.returns] at h; cases h)
          refine ⟨_, _, pre0 _ (c2 _ (c4 _ (c6 _ (c10 _ (?_))))), hrun, hended, _, _, rfl, ?_, ⟨_, rfl⟩, hW, hsame.mono (by decide) (by decide)⟩
          · show Steps p.tables e below (T9.setTop (mkF m 52 #[.val (.ref a1), .val (.double (FP.l2d x1)), .second, .val (.int (1 : Int32)), .unset] [(.int (lcmpW x1 q2))])) _
            refine XS.ifNo X9.here hx rfl (hb hby d4_52) rfl ((if0 _ _).trans (flt hc52).2.2.1) ?_
            show Steps p.tables e below (T9.setTop (mkF m 55 #[.val (.ref a1), .val (.double (FP.l2d x1)), .second, .val (.int (1 : Int32)), .unset] [])) _
            refine XS.iconst X9.here hx rfl (hb hby d4_55) ?_
            show Steps p.tables e below (T9.setTop (mkF m 56 #[.val (.ref a1), .val (.double (FP.l2d x1)), .second, .val (.int (1 : Int32)), .unset] [(.int (1 : Int32))])) _
            refine XS.goto X9.here hx rfl (pc0 := 56) (pc' := 77) rfl (hb hby d4_56) (by decide) (by decide) ?_
            show Steps p.tables e below (T9.setTop (mkF m 77 #[.val (.ref a1), .val (.double (FP.l2d x1)), .second, .val (.int (1 : Int32)), .unset] [(.int (1 : Int32))])) _
            refine XS.istore X9.here hx rfl (hb hby d4_77) rfl (l' := #[.val (.ref a1), .val (.double (FP.l2d x1)), .second, .val (.int (1 : Int32)), .val (.int (1 : Int32))]) rfl ?_
            show Steps p.tables e below (T9.setTop (mkF m 79 #[.val (.ref a1), .val (.double (FP.l2d x1)), .second, .val (.int (1 : Int32)), .val (.int (1 : Int32))] [])) _
            refine XS.iloadN X9.here hx rfl (hb hby d4_79) rfl ?_
            show Steps p.tables e below (T9.setTop (mkF m 80 #[.val (.ref a1), .val (.double (FP.l2d x1)), .second, .val (.int (1 : Int32)), .val (.int (1 : Int32))] [(.int (1 : Int32))])) _
            refine XS.ifNo X9.here hx rfl (hb hby d4_80) rfl ((if0 _ _).trans (feq (by decide : ¬ ((1 : Int32) = (0 : Int32)))).1) ?_
            show Steps p.tables e below (T9.setTop (mkF m 83 #[.val (.ref a1), .val (.double (FP.l2d x1)), .second, .val (.int (1 : Int32)), .val (.int (1 : Int32))] [])) _
            refine XS.iload X9.here hx rfl (hb hby d4_83) rfl ?_
            show Steps p.tables e below (T9.setTop (mkF m 85 #[.val (.ref a1), .val (.double (FP.l2d x1)), .second, .val (.int (1 : Int32)), .val (.int (1 : Int32))] [(.int (1 : Int32))])) _
            refine XS.ifNo X9.here hx rfl (hb hby d4_85) rfl ((if0 _ _).trans (feq (by decide : ¬ ((1 : Int32) = (0 : Int32)))).1) ?_
            show Steps p.tables e below (T9.setTop (mkF m 88 #[.val (.ref a1), .val (.double (FP.l2d x1)), .second, .val (.int (1 : Int32)), .val (.int (1 : Int32))] [])) _
            refine XS.iconst X9.here hx rfl (hb hby d4_88) ?_
            show Steps p.tables e below (T9.setTop (mkF m 89 #[.val (.ref a1), .val (.double (FP.l2d x1)), .second, .val (.int (1 : Int32)), .val (.int (1 : Int32))] [(.int (1 : Int32))])) _
            refine XS.goto X9.here hx rfl (pc0 := 89) (pc' := 93) rfl (hb hby d4_89) (by decide) (by decide) ?_
            show Steps p.tables e below (T9.setTop (mkF m 93 #[.val (.ref a1), .val (.double (FP.l2d x1)), .second, .val (.int (1 : Int32)), .val (.int (1 : Int32))] [(.int (1 : Int32))])) _
            exact retN X9 hx (t := .boolean) Bd.returns (by simp) (hb hby d4_93) hr
          · show QrmC Z a1 x1 q1 q2 b1 b2 h0 n0 _ T9.heap _
            rw [e9]
            exact ⟨by simp only [own_cont, hc4, hc30, hc43, hc52, if_true, if_false], N0, rfl⟩
    · obtain ⟨T11, X11, e11, st11⟩ := getF X3 hx hZ hown (host := "") (Or.inl (hw _ (List.mem_of_getElem? (i := 20) rfl))) Via.refl e3 F3 (g := (mkF m 40 #[.val (.ref a1), .val (.double (FP.l2d x1)), .second, .val (.int (0 : Int32)), .unset] [(.ref a1)])) rfl rfl (hb hby d4_40)
      have c12 : ∀ t, Steps p.tables e below (T11.setTop (mkF m 43 #[.val (.ref a1), .val (.double (FP.l2d x1)), .second, .val (.int (0 : Int32)), .unset] [(.int b2)])) t → Steps p.tables e below (T3.setTop (mkF m 30 #[.val (.ref a1), .val (.double (FP.l2d x1)), .second, .unset, .unset] [(.int (lcmpW x1 q1))])) t := by
        intro t kt
        show Steps p.tables e below (T3.setTop (mkF m 30 #[.val (.ref a1), .val (.double (FP.l2d x1)), .second, .unset, .unset] [(.int (lcmpW x1 q1))])) _
        refine XS.ifYes X3.here hx rfl (pc0 := 30) (pc' := 37) rfl (hb hby d4_30) rfl ((if0 _ _).trans (flt hc30).2.2.2) (by decide) (by decide) ?_
        show Steps p.tables e below (T3.setTop (mkF m 37 #[.val (.ref a1), .val (.double (FP.l2d x1)), .second, .unset, .unset] [])) _
        refine XS.iconst X3.here hx rfl (hb hby d4_37) ?_
        show Steps p.tables e below (T3.setTop (mkF m 38 #[.val (.ref a1), .val (.double (FP.l2d x1)), .second, .unset, .unset] [(.int (0 : Int32))])) _
        refine XS.istoreN X3.here hx rfl (hb hby d4_38) rfl (l' := #[.val (.ref a1), .val (.double (FP.l2d x1)), .second, .val (.int (0 : Int32)), .unset]) rfl ?_
        show Steps p.tables e below (T3.setTop (mkF m 39 #[.val (.ref a1), .val (.double (FP.l2d x1)), .second, .val (.int (0 : Int32)), .unset] [])) _
        refine XS.aloadN X3.here hx rfl (hb hby d4_39) rfl rfl ?_
        show Steps p.tables e below (T3.setTop (mkF m 40 #[.val (.ref a1), .val (.double (FP.l2d x1)), .second, .val (.int (0 : Int32)), .unset] [(.ref a1)])) _
        refine st11 _ ?_
        exact kt
      by_cases hc43 : b2 = (0 : Int32)
      · obtain ⟨T13, X13, e13, st13⟩ := getF X11 hx hZ hown (host := "") (Or.inl (hw _ (List.mem_of_getElem? (i := 18) rfl))) Via.refl e11 F2 (g := (mkF m 65 #[.val (.ref a1), .val (.double (FP.l2d x1)), .second, .val (.int (0 : Int32)), .unset] [(.ref a1), (.double (FP.l2d x1))])) rfl rfl (hb hby d4_65)
        have c14 : ∀ t, Steps p.tables e below (T13.setTop (mkF m 69 #[.val (.ref a1), .val (.double (FP.l2d x1)), .second, .val (.int (0 : Int32)), .unset] [(.int (lcmpW x1 q2))])) t → Steps p.tables e below (T11.setTop (mkF m 43 #[.val (.ref a1), .val (.double (FP.l2d x1)), .second, .val (.int (0 : Int32)), .unset] [(.int b2)])) t := by
          intro t kt
          show Steps p.tables e below (T11.setTop (mkF m 43 #[.val (.ref a1), .val (.double (FP.l2d x1)), .second, .val (.int (0 : Int32)), .unset] [(.int b2)])) _
          refine XS.ifYes X11.here hx rfl (pc0 := 43) (pc' := 63) rfl (hb hby d4_43) rfl ((if0 _ _).trans (teq hc43).1) (by decide) (by decide) ?_
          show Steps p.tables e below (T11.setTop (mkF m 63 #[.val (.ref a1), .val (.double (FP.l2d x1)), .second, .val (.int (0 : Int32)), .unset] [])) _
          refine XS.dloadN X11.here hx rfl (hb hby d4_63) rfl ?_
          show Steps p.tables e below (T11.setTop (mkF m 64 #[.val (.ref a1), .val (.double (FP.l2d x1)), .second, .val (.int (0 : Int32)), .unset] [(.double (FP.l2d x1))])) _
          refine XS.aloadN X11.here hx rfl (hb hby d4_64) rfl rfl ?_
          show Steps p.tables e below (T11.setTop (mkF m 65 #[.val (.ref a1), .val (.double (FP.l2d x1)), .second, .val (.int (0 : Int32)), .unset] [(.ref a1), (.double (FP.l2d x1))])) _
          refine st13 _ ?_
          show Steps p.tables e below (T13.setTop (mkF m 68 #[.val (.ref a1), .val (.double (FP.l2d x1)), .second, .val (.int (0 : Int32)), .unset] [(.double (FP.l2d q2)), (.double (FP.l2d x1))])) _
          refine XS.dcmpS X13.here hx rfl (v := (lcmpW x1 q2)) (hb hby d4_68) rfl (dcmpV_w (Bx1.b53 (by decide)) (Bq2.b53 (by decide)) _) ?_
          exact kt
        by_cases hc69 : (lcmpW x1 q2) < (0 : Int32)
        · obtain ⟨fs, hr, hrun, hended, hW, hsame⟩ := X13.leave (v := some (.int (0 : Int32))) (fun h => by rw [Bd.returns] at h; cases h)
          refine ⟨_, _, pre0 _ (c2 _ (c4 _ (c12 _ (c14 _ (?_))))), hrun, hended, _, _, rfl, ?_, ⟨_, rfl⟩, hW, hsame.mono (by decide) (by decide)⟩
          · show Steps p.tables e below (T13.setTop (mkF m 69 #[.val (.ref a1), .val (.double (FP.l2d x1)), .second, .val (.int (0 : Int32)), .unset] [(.int (lcmpW x1 q2))])) _
            refine XS.ifNo X13.here hx rfl (hb hby d4_69) rfl ((if0 _ _).trans (tlt hc69).2.1) ?_
            show Steps p.tables e below (T13.setTop (mkF m 72 #[.val (.ref a1), .val (.double (FP.l2d x1)), .second, .val (.int (0 : Int32)), .unset] [])) _
            refine XS.iconst X13.here hx rfl (hb hby d4_72) ?_
            show Steps p.tables e below (T13.setTop (mkF m 73 #[.val (.ref a1), .val (.double (FP.l2d x1)), .second, .val (.int (0 : Int32)), .unset] [(.int (1 : Int32))])) _
            refine XS.goto X13.here hx rfl (pc0 := 73) (pc' := 77) rfl (hb hby d4_73) (by decide) (by decide) ?_
            show Steps p.tables e below (T13.setTop (mkF m 77 #[.val (.ref a1), .val (.double (FP.l2d x1)), .second, .val (.int (0 : Int32)), .unset] [(.int (1 : Int32))])) _
            refine XS.istore X13.here hx rfl (hb hby d4_77) rfl (l' := #[.val (.ref a1), .val (.double (FP.l2d x1)), .second, .val (.int (0 : Int32)), .val (.int (1 : Int32))]) rfl ?_
            show Steps p.tables e below (T13.setTop (mkF m 79 #[.val (.ref a1), .val (.double (FP.l2d x1)), .second, .val (.int (0 : Int32)), .val (.int (1 : Int32))] [])) _
            refine XS.iloadN X13.here hx rfl (hb hby d4_79) rfl ?_
            show Steps p.tables e below (T13.setTop (mkF m 80 #[.val (.ref a1), .val (.double (FP.l2d x1)), .second, .val (.int (0 : Int32)), .val (.int (1 : Int32))] [(.int (0 : Int32))])) _
            refine XS.ifYes X13.here hx rfl (pc0 := 80) (pc' := 92) rfl (hb hby d4_80) rfl ((if0 _ _).trans (teq (by decide : (0 : Int32) = (0 : Int32))).1) (by decide) (by decide) ?_
            show Steps p.tables e below (T13.setTop (mkF m 92 #[.val (.ref a1), .val (.double (FP.l2d x1)), .second, .val (.int (0 : Int32)), .val (.int (1 : Int32))] [])) _
            refine XS.iconst X13.here hx rfl (hb hby d4_92) ?_
            show Steps p.tables e below (T13.setTop (mkF m 93 #[.val (.ref a1), .val (.double (FP.l2d x1)), .second, .val (.int (0 : Int32)), .val (.int (1 : Int32))] [(.int (0 : Int32))])) _
            exact retN X13 hx (t := .boolean) Bd.returns (by simp) (hb hby d4_93) hr
          · show QrmC Z a1 x1 q1 q2 b1 b2 h0 n0 _ T13.heap _
            rw [e13]
            exact ⟨by simp only [own_cont, hc4, hc30, hc43, hc69, if_true, if_false], N0, rfl⟩
        · obtain ⟨fs, hr, hrun, hended, hW, hsame⟩ := X13.leave (v := some (.int (0 : Int32))) (fun h => by rw [Bd.returns] at h; cases h)
          refine ⟨_, _, pre0 _ (c2 _ (c4 _ (c12 _ (c14 _ (?_))))), hrun, hended, _, _, rfl, ?_, ⟨_, rfl⟩, hW, hsame.mono (by decide) (by decide)⟩
          · show Steps p.tables e below (T13.setTop (mkF m 69 #[.val (.ref a1), .val (.double (FP.l2d x1)), .second, .val (.int (0 : Int32)), .unset] [(.int (lcmpW x1 q2))])) _
            refine XS.ifYes X13.here hx rfl (pc0 := 69) (pc' := 76) rfl (hb hby d4_69) rfl ((if0 _ _).trans (flt hc69).2.1) (by decide) (by decide) ?_
            show Steps p.tables e below (T13.setTop (mkF m 76 #[.val (.ref a1), .val (.double (FP.l2d x1)), .second, .val (.int (0 : Int32)), .unset] [])) _
            refine XS.iconst X13.here hx rfl (hb hby d4_76) ?_
            show Steps p.tables e below (T13.setTop (mkF m 77 #[.val (.ref a1), .val (.double (FP.l2d x1)), .second, .val (.int (0 : Int32)), .unset] [(.int (0 : Int32))])) _
            refine XS.istore X13.here hx rfl (hb hby d4_77) rfl (l' := #[.val (.ref a1), .val (.double (FP.l2d x1)), .second, .val (.int (0 : Int32)), .val (.int (0 : Int32))]) rfl ?_
            show Steps p.tables e below (T13.setTop (mkF m 79 #[.val (.ref a1), .val (.double (FP.l2d x1)), .second, .val (.int (0 : Int32)), .val (.int (0 : Int32))] [])) _
            refine XS.iloadN X13.here hx rfl (hb hby d4_79) rfl ?_
            show Steps p.tables e below (T13.setTop (mkF m 80 #[.val (.ref a1), .val (.double (FP.l2d x1)), .second, .val (.int (0 : Int32)), .val (.int (0 : Int32))] [(.int (0 : Int32))])) _
            refine XS.ifYes X13.here hx rfl (pc0 := 80) (pc' := 92) rfl (hb hby d4_80) rfl ((if0 _ _).trans (teq (by decide : (0 : Int32) = (0 : Int32))).1) (by decide) (by decide) ?_
            show Steps p.tables e below (T13.setTop (mkF m 92 #[.val (.ref a1), .val (.double (FP.l2d x1)), .second, .val (.int (0 : Int32)), .val (.int (0 : Int32))] [])) _
            refine XS.iconst X13.here hx rfl (hb hby d4_92) ?_
            show Steps p.tables e below (T13.setTop (mkF m 93 #[.val (.ref a1), .val (.double (FP.l2d x1)), .second, .val (.int (0 : Int32)), .val (.int (0 : Int32))] [(.int (0 : Int32))])) _
            exact retN X13 hx (t := .boolean) Bd.returns (by simp) (hb hby d4_93) hr
          · show QrmC Z a1 x1 q1 q2 b1 b2 h0 n0 _ T13.heap _
            rw [e13]
            exact ⟨by simp only [own_cont, hc4, hc30, hc43, hc69, if_true, if_false], N0, rfl⟩
      · obtain ⟨T15, X15, e15, st15⟩ := getF X11 hx hZ hown (host := "") (Or.inl (hw _ (List.mem_of_getElem? (i := 18) rfl))) Via.refl e11 F2 (g := (mkF m 48 #[.val (.ref a1), .val (.double (FP.l2d x1)), .second, .val (.int (0 : Int32)), .unset] [(.ref a1), (.double (FP.l2d x1))])) rfl rfl (hb hby d4_48)
        have c16 : ∀ t, Steps p.tables e below (T15.setTop (mkF m 52 #[.val (.ref a1), .val (.double (FP.l2d x1)), .second, .val (.int (0 : Int32)), .unset] [(.int (lcmpW x1 q2))])) t → Steps p.tables e below (T11.setTop (mkF m 43 #[.val (.ref a1), .val (.double (FP.l2d x1)), .second, .val (.int (0 : Int32)), .unset] [(.int b2)])) t := by
          intro t kt
          show Steps p.tables e below (T11.setTop (mkF m 43 #[.val (.ref a1), .val (.double (FP.l2d x1)), .second, .val (.int (0 : Int32)), .unset] [(.int b2)])) _
          refine XS.ifNo X11.here hx rfl (hb hby d4_43) rfl ((if0 _ _).trans (feq hc43).1) ?_
          show Steps p.tables e below (T11.setTop (mkF m 46 #[.val (.ref a1), .val (.double (FP.l2d x1)), .second, .val (.int (0 : Int32)), .unset] [])) _
          refine XS.dloadN X11.here hx rfl (hb hby d4_46) rfl ?_
          show Steps p.tables e below (T11.setTop (mkF m 47 #[.val (.ref a1), .val (.double (FP.l2d x1)), .second, .val (.int (0 : Int32)), .unset] [(.double (FP.l2d x1))])) _
          refine XS.aloadN X11.here hx rfl (hb hby d4_47) rfl rfl ?_
          show Steps p.tables e below (T11.setTop (mkF m 48 #[.val (.ref a1), .val (.double (FP.l2d x1)), .second, .val (.int (0 : Int32)), .unset] [(.ref a1), (.double (FP.l2d x1))])) _
          refine st15 _ ?_
          show Steps p.tables e below (T15.setTop (mkF m 51 #[.val (.ref a1), .val (.double (FP.l2d x1)), .second, .val (.int (0 : Int32)), .unset] [(.double (FP.l2d q2)), (.double (FP.l2d x1))])) _
          refine XS.dcmpS X15.here hx rfl (v := (lcmpW x1 q2)) (hb hby d4_51) rfl (dcmpV_w (Bx1.b53 (by decide)) (Bq2.b53 (by decide)) _) ?_
          exact kt
        by_cases hc52 : (0 : Int32) < (lcmpW x1 q2)
        · obtain ⟨fs, hr, hrun, hended, hW, hsame⟩ := X15.leave (v := some (.int (0 : Int32))) (fun h => by rw [Bd.returns] at h; cases h)
          refine ⟨_, _, pre0 _ (c2 _ (c4 _ (c12 _ (c16 _ (?_))))), hrun, hended, _, _, rfl, ?_, ⟨_, rfl⟩, hW, hsame.mono (by decide) (by decide)⟩
          · show Steps p.tables e below (T15.setTop (mkF m 52 #[.val (.ref a1), .val (.double (FP.l2d x1)), .second, .val (.int (0 : Int32)), .unset] [(.int (lcmpW x1 q2))])) _
            refine XS.ifYes X15.here hx rfl (pc0 := 52) (pc' := 59) rfl (hb hby d4_52) rfl ((if0 _ _).trans (tlt hc52).2.2.1) (by decide) (by decide) ?_
            show Steps p.tables e below (T15.setTop (mkF m 59 #[.val (.ref a1), .val (.double (FP.l2d x1)), .second, .val (.int (0 : Int32)), .unset] [])) _
            refine XS.iconst X15.here hx rfl (hb hby d4_59) ?_
            show Steps p.tables e below (T15.setTop (mkF m 60 #[.val (.ref a1), .val (.double (FP.l2d x1)), .second, .val (.int (0 : Int32)), .unset] [(.int (0 : Int32))])) _
            refine XS.goto X15.here hx rfl (pc0 := 60) (pc' := 77) rfl (hb hby d4_60) (by decide) (by decide) ?_
            show Steps p.tables e below (T15.setTop (mkF m 77 #[.val (.ref a1), .val (.double (FP.l2d x1)), .second, .val (.int (0 : Int32)), .unset] [(.int (0 : Int32))])) _
            refine XS.istore X15.here hx rfl (hb hby d4_77) rfl (l' := #[.val (.ref a1), .val (.double (FP.l2d x1)), .second, .val (.int (0 : Int32)), .val (.int (0 : Int32))]) rfl ?_
            show Steps p.tables e below (T15.setTop (mkF m 79 #[.val (.ref a1), .val (.double (FP.l2d x1)), .second, .val (.int (0 : Int32)), .val (.int (0 : Int32))] [])) _
            refine XS.iloadN X15.here hx rfl (hb hby d4_79) rfl ?_
            show Steps p.tables e below (T15.setTop (mkF m 80 #[.val (.ref a1), .val (.double (FP.l2d x1)), .second, .val (.int (0 : Int32)), .val (.int (0 : Int32))] [(.int (0 : Int32))])) _
            refine XS.ifYes X15.here hx rfl (pc0 := 80) (pc' := 92) rfl (hb hby d4_80) rfl ((if0 _ _).trans (teq (by decide : (0 : Int32) = (0 : Int32))).1) (by decide) (by decide) ?_
            show Steps p.tables e below (T15.setTop (mkF m 92 #[.val (.ref a1), .val (.double (FP.l2d x1)), .second, .val (.int (0 : Int32)), .val (.int (0 : Int32))] [])) _
            refine XS.iconst X15.here hx rfl (hb hby d4_92) ?_
            show Steps p.tables e below (T15.setTop (mkF m 93 #[.val (.ref a1), .val (.double (FP.l2d x1)), .second, .val (.int (0 : Int32)), .val (.int (0 : Int32))] [(.int (0 : Int32))])) _
            exact retN X15 hx (t := .boolean) Bd.returns (by simp) (hb hby d4_93) hr
          · show QrmC Z a1 x1 q1 q2 b1 b2 h0 n0 _ T15.heap _
            rw [e15]
            exact ⟨by simp only [own_cont, hc4, hc30, hc43, hc52, if_true, if_false], N0, rfl⟩
        · obtain ⟨fs, hr, hrun, hended, hW, hsame⟩ := X15.leave (v := some (.int (0 : Int32))) (fun h => by rw [Bd.returns] at h; cases h)
          refine ⟨_, _, pre0 _ (c2 _ (c4 _ (c12 _ (c16 _ (?_))))), hrun, hended, _, _, rfl, ?_, ⟨_, rfl⟩, hW, hsame.mono (by decide) (by decide)⟩
          · show Steps p.tables e below (T15.setTop (mkF m 52 #[.val (.ref a1), .val (.double (FP.l2d x1)), .second, .val (.int (0 : Int32)), .unset] [(.int (lcmpW x1 q2))])) _
            refine XS.ifNo X15.here hx rfl (hb hby d4_52) rfl ((if0 _ _).trans (flt hc52).2.2.1) ?_
            show Steps p.tables e below (T15.setTop (mkF m 55 #[.val (.ref a1), .val (.double (FP.l2d x1)), .second, .val (.int (0 : Int32)), .unset] [])) _
            refine XS.iconst X15.here hx rfl (hb hby d4_55) ?_
            show Steps p.tables e below (T15.setTop (mkF m 56 #[.val (.ref a1), .val (.double (FP.l2d x1)), .second, .val (.int (0 : Int32)), .unset] [(.int (1 : Int32))])) _
            refine XS.goto X15.here hx rfl (pc0 := 56) (pc' := 77) rfl (hb hby d4_56) (by decide) (by decide) ?_
            show Steps p.tables e below (T15.setTop (mkF m 77 #[.val (.ref a1), .val (.double (FP.l2d x1)), .second, .val (.int (0 : Int32)), .unset] [(.int (1 : Int32))])) _
            refine XS.istore X15.here hx rfl (hb hby d4_77) rfl (l' := #[.val (.ref a1), .val (.double (FP.l2d x1)), .second, .val (.int (0 : Int32)), .val (.int (1 : Int32))]) rfl ?_
            show Steps p.tables e below (T15.setTop (mkF m 79 #[.val (.ref a1), .val (.double (FP.l2d x1)), .second, .val (.int (0 : Int32)), .val (.int (1 : Int32))] [])) _
            refine XS.iloadN X15.here hx rfl (hb hby d4_79) rfl ?_
            show Steps p.tables e below (T15.setTop (mkF m 80 #[.val (.ref a1), .val (.double (FP.l2d x1)), .second, .val (.int (0 : Int32)), .val (.int (1 : Int32))] [(.int (0 : Int32))])) _
            refine XS.ifYes X15.here hx rfl (pc0 := 80) (pc' := 92) rfl (hb hby d4_80) rfl ((if0 _ _).trans (teq (by decide : (0 : Int32) = (0 : Int32))).1) (by decide) (by decide) ?_
            show Steps p.tables e below (T15.setTop (mkF m 92 #[.val (.ref a1), .val (.double (FP.l2d x1)), .second, .val (.int (0 : Int32)), .val (.int (1 : Int32))] [])) _
            refine XS.iconst X15.here hx rfl (hb hby d4_92) ?_
            show Steps p.tables e below (T15.setTop (mkF m 93 #[.val (.ref a1), .val (.double (FP.l2d x1)), .second, .val (.int (0 : Int32)), .val (.int (1 : Int32))] [(.int (0 : Int32))])) _
            exact retN X15 hx (t := .boolean) Bd.returns (by simp) (hb hby d4_93) hr
          · show QrmC Z a1 x1 q1 q2 b1 b2 h0 n0 _ T15.heap _
            rw [e15]
            exact ⟨by simp only [own_cont, hc4, hc30, hc43, hc52, if_true, if_false], N0, rfl⟩
  · obtain ⟨T17, X17, e17, st17⟩ := getF X1 hx hZ hown (host := "") (Or.inl (hw _ (List.mem_of_getElem? (i := 14) rfl))) Via.refl e1 F0 (g := (mkF m 9 #[.val (.ref a1), .val (.double (FP.l2d x1)), .second, .unset, .unset] [(.ref a1), (.double (FP.l2d x1))])) rfl rfl (hb hby d4_9)
    have c18 : ∀ t, Steps p.tables e below (T17.setTop (mkF m 13 #[.val (.ref a1), .val (.double (FP.l2d x1)), .second, .unset, .unset] [(.int (lcmpW x1 q1))])) t → Steps p.tables e below (T1.setTop (mkF m 4 #[.val (.ref a1), .val (.double (FP.l2d x1)), .second, .unset, .unset] [(.int b1)])) t := by
      intro t kt
      show Steps p.tables e below (T1.setTop (mkF m 4 #[.val (.ref a1), .val (.double (FP.l2d x1)), .second, .unset, .unset] [(.int b1)])) _
      refine XS.ifNo X1.here hx rfl (hb hby d4_4) rfl ((if0 _ _).trans (feq hc4).1) ?_
      show Steps p.tables e below (T1.setTop (mkF m 7 #[.val (.ref a1), .val (.double (FP.l2d x1)), .second, .unset, .unset] [])) _
      refine XS.dloadN X1.here hx rfl (hb hby d4_7) rfl ?_
      show Steps p.tables e below (T1.setTop (mkF m 8 #[.val (.ref a1), .val (.double (FP.l2d x1)), .second, .unset, .unset] [(.double (FP.l2d x1))])) _
      refine XS.aloadN X1.here hx rfl (hb hby d4_8) rfl rfl ?_
      show Steps p.tables e below (T1.setTop (mkF m 9 #[.val (.ref a1), .val (.double (FP.l2d x1)), .second, .unset, .unset] [(.ref a1), (.double (FP.l2d x1))])) _
      refine st17 _ ?_
      show Steps p.tables e below (T17.setTop (mkF m 12 #[.val (.ref a1), .val (.double (FP.l2d x1)), .second, .unset, .unset] [(.double (FP.l2d q1)), (.double (FP.l2d x1))])) _
      refine XS.dcmpS X17.here hx rfl (v := (lcmpW x1 q1)) (hb hby d4_12) rfl (dcmpV_w (Bx1.b53 (by decide)) (Bq1.b53 (by decide)) _) ?_
      exact kt
    by_cases hc13 : (lcmpW x1 q1) < (0 : Int32)
    · obtain ⟨T19, X19, e19, st19⟩ := getF X17 hx hZ hown (host := "") (Or.inl (hw _ (List.mem_of_getElem? (i := 20) rfl))) Via.refl e17 F3 (g := (mkF m 40 #[.val (.ref a1), .val (.double (FP.l2d x1)), .second, .val (.int (0 : Int32)), .unset] [(.ref a1)])) rfl rfl (hb hby d4_40)
      have c20 : ∀ t, Steps p.tables e below (T19.setTop (mkF m 43 #[.val (.ref a1), .val (.double (FP.l2d x1)), .second, .val (.int (0 : Int32)), .unset] [(.int b2)])) t → Steps p.tables e below (T17.setTop (mkF m 13 #[.val (.ref a1), .val (.double (FP.l2d x1)), .second, .unset, .unset] [(.int (lcmpW x1 q1))])) t := by
        intro t kt
        show Steps p.tables e below (T17.setTop (mkF m 13 #[.val (.ref a1), .val (.double (FP.l2d x1)), .second, .unset, .unset] [(.int (lcmpW x1 q1))])) _
        refine XS.ifYes X17.here hx rfl (pc0 := 13) (pc' := 20) rfl (hb hby d4_13) rfl ((if0 _ _).trans (tlt hc13).1) (by decide) (by decide) ?_
        show Steps p.tables e below (T17.setTop (mkF m 20 #[.val (.ref a1), .val (.double (FP.l2d x1)), .second, .unset, .unset] [])) _
        refine XS.iconst X17.here hx rfl (hb hby d4_20) ?_
        show Steps p.tables e below (T17.setTop (mkF m 21 #[.val (.ref a1), .val (.double (FP.l2d x1)), .second, .unset, .unset] [(.int (0 : Int32))])) _
        refine XS.goto X17.here hx rfl (pc0 := 21) (pc' := 38) rfl (hb hby d4_21) (by decide) (by decide) ?_
        show Steps p.tables e below (T17.setTop (mkF m 38 #[.val (.ref a1), .val (.double (FP.l2d x1)), .second, .unset, .unset] [(.int (0 : Int32))])) _
        refine XS.istoreN X17.here hx rfl (hb hby d4_38) rfl (l' := #[.val (.ref a1), .val (.double (FP.l2d x1)), .second, .val (.int (0 : Int32)), .unset]) rfl ?_
        show Steps p.tables e below (T17.setTop (mkF m 39 #[.val (.ref a1), .val (.double (FP.l2d x1)), .second, .val (.int (0 : Int32)), .unset] [])) _
        refine XS.aloadN X17.here hx rfl (hb hby d4_39) rfl rfl ?_
        show Steps p.tables e below (T17.setTop (mkF m 40 #[.val (.ref a1), .val (.double (FP.l2d x1)), .second, .val (.int (0 : Int32)), .unset] [(.ref a1)])) _
        refine st19 _ ?_
        exact kt
      by_cases hc43 : b2 = (0 : Int32)
      · obtain ⟨T21, X21, e21, st21⟩ := getF X19 hx hZ hown (host := "") (Or.inl (hw _ (List.mem_of_getElem? (i := 18) rfl))) Via.refl e19 F2 (g := (mkF m 65 #[.val (.ref a1), .val (.double (FP.l2d x1)), .second, .val (.int (0 : Int32)), .unset] [(.ref a1), (.double (FP.l2d x1))])) rfl rfl (hb hby d4_65)
        have c22 : ∀ t, Steps p.tables e below (T21.setTop (mkF m 69 #[.val (.ref a1), .val (.double (FP.l2d x1)), .second, .val (.int (0 : Int32)), .unset] [(.int (lcmpW x1 q2))])) t → Steps p.tables e below (T19.setTop (mkF m 43 #[.val (.ref a1), .val (.double (FP.l2d x1)), .second, .val (.int (0 : Int32)), .unset] [(.int b2)])) t := by
          intro t kt
          show Steps p.tables e below (T19.setTop (mkF m 43 #[.val (.ref a1), .val (.double (FP.l2d x1)), .second, .val (.int (0 : Int32)), .unset] [(.int b2)])) _
          refine XS.ifYes X19.here hx rfl (pc0 := 43) (pc' := 63) rfl (hb hby d4_43) rfl ((if0 _ _).trans (teq hc43).1) (by decide) (by decide) ?_
          show Steps p.tables e below (T19.setTop (mkF m 63 #[.val (.ref a1), .val (.double (FP.l2d x1)), .second, .val (.int (0 : Int32)), .unset] [])) _
          refine XS.dloadN X19.here hx rfl (hb hby d4_63) rfl ?_
          show Steps p.tables e below (T19.setTop (mkF m 64 #[.val (.ref a1), .val (.double (FP.l2d x1)), .second, .val (.int (0 : Int32)), .unset] [(.double (FP.l2d x1))])) _
          refine XS.aloadN X19.here hx rfl (hb hby d4_64) rfl rfl ?_
          show Steps p.tables e below (T19.setTop (mkF m 65 #[.val (.ref a1), .val (.double (FP.l2d x1)), .second, .val (.int (0 : Int32)), .unset] [(.ref a1), (.double (FP.l2d x1))])) _
          refine st21 _ ?_
          show Steps p.tables e below (T21.setTop (mkF m 68 #[.val (.ref a1), .val (.double (FP.l2d x1)), .second, .val (.int (0 : Int32)), .unset] [(.double (FP.l2d q2)), (.double (FP.l2d x1))])) _
          refine XS.dcmpS X21.here hx rfl (v := (lcmpW x1 q2)) (hb hby d4_68) rfl (dcmpV_w (Bx1.b53 (by decide)) (Bq2.b53 (by decide)) _) ?_
          exact kt
        by_cases hc69 : (lcmpW x1 q2) < (0 : Int32)
        · obtain ⟨fs, hr, hrun, hended, hW, hsame⟩ := X21.leave (v := some (.int (0 : Int32))) (fun h => by rw [Bd.returns] at h; cases h)
          refine ⟨_, _, pre0 _ (c2 _ (c18 _ (c20 _ (c22 _ (?_))))), hrun, hended, _, _, rfl, ?_, ⟨_, rfl⟩, hW, hsame.mono (by decide) (by decide)⟩
          · show Steps p.tables e below (T21.setTop (mkF m 69 #[.val (.ref a1), .val (.double (FP.l2d x1)), .second, .val (.int (0 : Int32)), .unset] [(.int (lcmpW x1 q2))])) _
            refine XS.ifNo X21.here hx rfl (hb hby d4_69) rfl ((if0 _ _).trans (tlt hc69).2.1) ?_
            show Steps p.tables e below (T21.setTop (mkF m 72 #[.val (.ref a1), .val (.double (FP.l2d x1)), .second, .val (.int (0 : Int32)), .unset] [])) _
            refine XS.iconst X21.here hx rfl (hb hby d4_72) ?_
            show Steps p.tables e below (T21.setTop (mkF m 73 #[.val (.ref a1), .val (.double (FP.l2d x1)), .second, .val (.int (0 : Int32)), .unset] [(.int (1 : Int32))])) _
            refine XS.goto X21.here hx rfl (pc0 := 73) (pc' := 77) rfl (hb hby d4_73) (by decide) (by decide) ?_
            show Steps p.tables e below (T21.setTop (mkF m 77 #[.val (.ref a1), .val (.double (FP.l2d x1)), .second, .val (.int (0 : Int32)), .unset] [(.int (1 : Int32))])) _
            refine XS.istore X21.here hx rfl (hb hby d4_77) rfl (l' := #[.val (.ref a1), .val (.double (FP.l2d x1)), .second, .val (.int (0 : Int32)), .val (.int (1 : Int32))]) rfl ?_
            show Steps p.tables e below (T21.setTop (mkF m 79 #[.val (.ref a1), .val (.double (FP.l2d x1)), .second, .val (.int (0 : Int32)), .val (.int (1 : Int32))] [])) _
            refine XS.iloadN X21.here hx rfl (hb hby d4_79) rfl ?_
            show Steps p.tables e below (T21.setTop (mkF m 80 #[.val (.ref a1), .val (.double (FP.l2d x1)), .second, .val (.int (0 : Int32)), .val (.int (1 : Int32))] [(.int (0 : Int32))])) _
            refine XS.ifYes X21.here hx rfl (pc0 := 80) (pc' := 92) rfl (hb hby d4_80) rfl ((if0 _ _).trans (teq (by decide : (0 : Int32) = (0 : Int32))).1) (by decide) (by decide) ?_
            show Steps p.tables e below (T21.setTop (mkF m 92 #[.val (.ref a1), .val (.double (FP.l2d x1)), .second, .val (.int (0 : Int32)), .val (.int (1 : Int32))] [])) _
            refine XS.iconst X21.here hx rfl (hb hby d4_92) ?_
            show Steps p.tables e below (T21.setTop (mkF m 93 #[.val (.ref a1), .val (.double (FP.l2d x1)), .second, .val (.int (0 : Int32)), .val (.int (1 : Int32))] [(.int (0 : Int32))])) _
            exact retN X21 hx (t := .boolean) Bd.returns (by simp) (hb hby d4_93) hr
          · show QrmC Z a1 x1 q1 q2 b1 b2 h0 n0 _ T21.heap _
            rw [e21]
            exact ⟨by simp only [own_cont, hc4, hc13, hc43, hc69, if_true, if_false], N0, rfl⟩
        · obtain ⟨fs, hr, hrun, hended, hW, hsame⟩ := X21.leave (v := some (.int (0 : Int32))) (fun h => by rw [Bd.returns] at h; cases h)
          refine ⟨_, _, pre0 _ (c2 _ (c18 _ (c20 _ (c22 _ (?_))))), hrun, hended, _, _, rfl, ?_, ⟨_, rfl⟩, hW, hsame.mono (by decide) (by decide)⟩
          · show Steps p.tables e below (T21.setTop (mkF m 69 #[.val (.ref a1), .val (.double (FP.l2d x1)), .second, .val (.int (0 : Int32)), .unset] [(.int (lcmpW x1 q2))])) _
            refine XS.ifYes X21.here hx rfl (pc0 := 69) (pc' := 76) rfl (hb hby d4_69) rfl ((if0 _ _).trans (flt hc69).2.1) (by decide) (by decide) ?_
            show Steps p.tables e below (T21.setTop (mkF m 76 #[.val (.ref a1), .val (.double (FP.l2d x1)), .second, .val (.int (0 : Int32)), .unset] [])) _
            refine XS.iconst X21.here hx rfl (hb hby d4_76) ?_
            show Steps p.tables e below (T21.setTop (mkF m 77 #[.val (.ref a1), .val (.double (FP.l2d x1)), .second, .val (.int (0 : Int32)), .unset] [(.int (0 : Int32))])) _
            refine XS.istore X21.here hx rfl (hb hby d4_77) rfl (l' := #[.val (.ref a1), .val (.double (FP.l2d x1)), .second, .val (.int (0 : Int32)), .val (.int (0 : Int32))]) rfl ?_
            show Steps p.tables e below (T21.setTop (mkF m 79 #[.val (.ref a1), .val (.double (FP.l2d x1)), .second, .val (.int (0 : Int32)), .val (.int (0 : Int32))] [])) _
            refine XS.iloadN X21.here hx rfl (hb hby d4_79) rfl ?_
            show Steps p.tables e below (T21.setTop (mkF m 80 #[.val (.ref a1), .val (.double (FP.l2d x1)), .second, .val (.int (0 : Int32)), .val (.int (0 : Int32))] [(.int (0 : Int32))])) _
            refine XS.ifYes X21.here hx rfl (pc0 := 80) (pc' := 92) rfl (hb hby d4_80) rfl ((if0 _ _).trans (teq (by decide : (0 : Int32) = (0 : Int32))).1) (by decide) (by decide) ?_
            show Steps p.tables e below (T21.setTop (mkF m 92 #[.val (.ref a1), .val (.double (FP.l2d x1)), .second, .val (.int (0 : Int32)), .val (.int (0 : Int32))] [])) _
            refine XS.iconst X21.here hx rfl (hb hby d4_92) ?_
            show Steps p.tables e below (T21.setTop (mkF m 93 #[.val (.ref a1), .val (.double (FP.l2d x1)), .second, .val (.int (0 : Int32)), .val (.int (0 : Int32))] [(.int (0 : Int32))])) _
            exact retN X21 hx (t := .boolean) Bd.returns (by simp) (hb hby d4_93) hr
          · show QrmC Z a1 x1 q1 q2 b1 b2 h0 n0 _ T21.heap _
            rw [e21]
            exact ⟨by simp only [own_cont, hc4, hc13, hc43, hc69, if_true, if_false], N0, rfl⟩
      · obtain ⟨T23, X23, e23, st23⟩ := getF X19 hx hZ hown (host := "") (Or.inl (hw _ (List.mem_of_getElem? (i := 18) rfl))) Via.refl e19 F2 (g := (mkF m 48 #[.val (.ref a1), .val (.double (FP.l2d x1)), .second, .val (.int (0 : Int32)), .unset] [(.ref a1), (.double (FP.l2d x1))])) rfl rfl (hb hby d4_48)
        have c24 : ∀ t, Steps p.tables e below (T23.setTop (mkF m 52 #[.val (.ref a1), .val (.double (FP.l2d x1)), .second, .val (.int (0 : Int32)), .unset] [(.int (lcmpW x1 q2))])) t → Steps p.tables e below (T19.setTop (mkF m 43 #[.val (.ref a1), .val (.double (FP.l2d x1)), .second, .val (.int (0 : Int32)), .unset] [(.int b2)])) t := by
          intro t kt
          show Steps p.tables e below (T19.setTop (mkF m 43 #[.val (.ref a1), .val (.double (FP.l2d x1)), .second, .val (.int (0 : Int32)), .unset] [(.int b2)])) _
          refine XS.ifNo X19.here hx rfl (hb hby d4_43) rfl ((if0 _ _).trans (feq hc43).1) ?_
          show Steps p.tables e below (T19.setTop (mkF m 46 #[.val (.ref a1), .val (.double (FP.l2d x1)), .second, .val (.int (0 : Int32)), .unset] [])) _
          refine XS.dloadN X19.here hx rfl (hb hby d4_46) rfl ?_
          show Steps p.tables e below (T19.setTop (mkF m 47 #[.val (.ref a1), .val (.double (FP.l2d x1)), .second, .val (.int (0 : Int32)), .unset] [(.double (FP.l2d x1))])) _
          refine XS.aloadN X19.here hx rfl (hb hby d4_47) rfl rfl ?_
          show Steps p.tables e below (T19.setTop (mkF m 48 #[.val (.ref a1), .val (.double (FP.l2d x1)), .second, .val (.int (0 : Int32)), .unset] [(.ref a1), (.double (FP.l2d x1))])) _
          refine st23 _ ?_
          show Steps p.tables e below (T23.setTop (mkF m 51 #[.val (.ref a1), .val (.double (FP.l2d x1)), .second, .val (.int (0 : Int32)), .unset] [(.double (FP.l2d q2)), (.double (FP.l2d x1))])) _
          refine XS.dcmpS X23.here hx rfl (v := (lcmpW x1 q2)) (hb hby d4_51) rfl (dcmpV_w (Bx1.b53 (by decide)) (Bq2.b53 (by decide)) _) ?_
          exact kt
        by_cases hc52 : (0 : Int32) < (lcmpW x1 q2)
        · obtain ⟨fs, hr, hrun, hended, hW, hsame⟩ := X23.leave (v := some (.int (0 : Int32))) (fun h => by rw [Bd.returns] at h; cases h)
          refine ⟨_, _, pre0 _ (c2 _ (c18 _ (c20 _ (c24 _ (?_))))), hrun, hended, _, _, rfl, ?_, ⟨_, rfl⟩, hW, hsame.mono (by decide) (by decide)⟩
          · show Steps p.tables e below (T23.setTop (mkF m 52 #[.val (.ref a1), .val (.double (FP.l2d x1)), .second, .val (.int (0 : Int32)), .unset] [(.int (lcmpW x1 q2))])) _
            refine XS.ifYes X23.here hx rfl (pc0 := 52) (pc' := 59) rfl (hb hby d4_52) rfl ((if0 _ _).trans (tlt hc52).2.2.1) (by decide) (by decide) ?_
            show Steps p.tables e below (T23.setTop (mkF m 59 #[.val (.ref a1), .val (.double (FP.l2d x1)), .second, .val (.int (0 : Int32)), .unset] [])) _
            refine XS.iconst X23.here hx rfl (hb hby d4_59) ?_
            show Steps p.tables e below (T23.setTop (mkF m 60 #[.val (.ref a1), .val (.double (FP.l2d x1)), .second, .val (.int (0 : Int32)), .unset] [(.int (0 : Int32))])) _
            refine XS.goto X23.here hx rfl (pc0 := 60) (pc' := 77) rfl (hb hby d4_60) (by decide) (by decide) ?_
            show Steps p.tables e below (T23.setTop (mkF m 77 #[.val (.ref a1), .val (.double (FP.l2d x1)), .second, .val (.int (0 : Int32)), .unset] [(.int (0 : Int32))])) _
            refine XS.istore X23.here hx rfl (hb hby d4_77) rfl (l' := #[.val (.ref a1), .val (.double (FP.l2d x1)), .second, .val (.int (0 : Int32)), .val (.int (0 : Int32))]) rfl ?_
            show Steps p.tables e below (T23.setTop (mkF m 79 #[.val (.ref a1), .val (.double (FP.l2d x1)), .second, .val (.int (0 : Int32)), .val (.int (0 : Int32))] [])) _
            refine XS.iloadN X23.here hx rfl (hb hby d4_79) rfl ?_
            show Steps p.tables e below (T23.setTop (mkF m 80 #[.val (.ref a1), .val (.double (FP.l2d x1)), .second, .val (.int (0 : Int32)), .val (.int (0 : Int32))] [(.int (0 : Int32))])) _
            refine XS.ifYes X23.here hx rfl (pc0 := 80) (pc' := 92) rfl (hb hby d4_80) rfl ((if0 _ _).trans (teq (by decide : (0 : Int32) = (0 : Int32))).1) (by decide) (by decide) ?_
            show Steps p.tables e below (T23.setTop (mkF m 92 #[.val (.ref a1), .val (.double (FP.l2d x1)), .second, .val (.int (0 : Int32)), .val (.int (0 : Int32))] [])) _
            refine XS.iconst X23.here hx rfl (hb hby d4_92) ?_
            show Steps p.tables e below (T23.setTop (mkF m 93 #[.val (.ref a1), .val (.double (FP.l2d x1)), .second, .val (.int (0 : Int32)), .val (.int (0 : Int32))] [(.int (0 : Int32))])) _
            exact retN X23 hx (t := .boolean) Bd.returns (by simp) (hb hby d4_93) hr
          · show QrmC Z a1 x1 q1 q2 b1 b2 h0 n0 _ T23.heap _
            rw [e23]
            exact ⟨by simp only [own_cont, hc4, hc13, hc43, hc52, if_true, if_false], N0, rfl⟩
        · obtain ⟨fs, hr, hrun, hended, hW, hsame⟩ := X23.leave (v := some (.int (0 : Int32))) (fun h => by rw [Bd.returns] at h; cases h)
          refine ⟨_, _, pre0 _ (c2 _ (c18 _ (c20 _ (c24 _ (?_))))), hrun, hended, _, _, rfl, ?_, ⟨_, rfl⟩, hW, hsame.mono (by decide) (by decide)⟩
          · show Steps p.tables e below (T23.setTop (mkF m 52 #[.val (.ref a1), .val (.double (FP.l2d x1)), .second, .val (.int (0 : Int32)), .unset] [(.int (lcmpW x1 q2))])) _
            refine XS.ifNo X23.here hx rfl (hb hby d4_52) rfl ((if0 _ _).trans (flt hc52).2.2.1) ?_
            show Steps p.tables e below (T23.setTop (mkF m 55 #[.val (.ref a1), .val (.double (FP.l2d x1)), .second, .val (.int (0 : Int32)), .unset] [])) _
            refine XS.iconst X23.here hx rfl (hb hby d4_55) ?_
            show Steps p.tables e below (T23.setTop (mkF m 56 #[.val (.ref a1), .val (.double (FP.l2d x1)), .second, .val (.int (0 : Int32)), .unset] [(.int (1 : Int32))])) _
            refine XS.goto X23.here hx rfl (pc0 := 56) (pc' := 77) rfl (hb hby d4_56) (by decide) (by decide) ?_
            show Steps p.tables e below (T23.setTop (mkF m 77 #[.val (.ref a1), .val (.double (FP.l2d x1)), .second, .val (.int (0 : Int32)), .unset] [(.int (1 : Int32))])) _
            refine XS.istore X23.here hx rfl (hb hby d4_77) rfl (l' := #[.val (.ref a1), .val (.double (FP.l2d x1)), .second, .val (.int (0 : Int32)), .val (.int (1 : Int32))]) rfl ?_
            show Steps p.tables e below (T23.setTop (mkF m 79 #[.val (.ref a1), .val (.double (FP.l2d x1)), .second, .val (.int (0 : Int32)), .val (.int (1 : Int32))] [])) _
            refine XS.iloadN X23.here hx rfl (hb hby d4_79) rfl ?_
            show Steps p.tables e below (T23.setTop (mkF m 80 #[.val (.ref a1), .val (.double (FP.l2d x1)), .second, .val (.int (0 : Int32)), .val (.int (1 : Int32))] [(.int (0 : Int32))])) _
            refine XS.ifYes X23.here hx rfl (pc0 := 80) (pc' := 92) rfl (hb hby d4_80) rfl ((if0 _ _).trans (teq (by decide : (0 : Int32) = (0 : Int32))).1) (by decide) (by decide) ?_
            show Steps p.tables e below (T23.setTop (mkF m 92 #[.val (.ref a1), .val (.double (FP.l2d x1)), .second, .val (.int (0 : Int32)), .val (.int (1 : Int32))] [])) _
            refine XS.iconst X23.here hx rfl (hb hby d4_92) ?_
            show Steps p.tables e below (T23.setTop (mkF m 93 #[.val (.ref a1), .val (.double (FP.l2d x1)), .second, .val (.int (0 : Int32)), .val (.int (1 : Int32))] [(.int (0 : Int32))])) _
            exact retN X23 hx (t := .boolean) Bd.returns (by simp) (hb hby d4_93) hr
          · show QrmC Z a1 x1 q1 q2 b1 b2 h0 n0 _ T23.heap _
            rw [e23]
            exact ⟨by simp only [own_cont, hc4, hc13, hc43, hc52, if_true, if_false], N0, rfl⟩
    · obtain ⟨T25, X25, e25, st25⟩ := getF X17 hx hZ hown (host := "") (Or.inl (hw _ (List.mem_of_getElem? (i := 20) rfl))) Via.refl e17 F3 (g := (mkF m 40 #[.val (.ref a1), .val (.double (FP.l2d x1)), .second, .val (.int (1 : Int32)), .unset] [(.ref a1)])) rfl rfl (hb hby d4_40)
      have c26 : ∀ t, Steps p.tables e below (T25.setTop (mkF m 43 #[.val (.ref a1), .val (.double (FP.l2d x1)), .second, .val (.int (1 : Int32)), .unset] [(.int b2)])) t → Steps p.tables e below (T17.setTop (mkF m 13 #[.val (.ref a1), .val (.double (FP.l2d x1)), .second, .unset, .unset] [(.int (lcmpW x1 q1))])) t := by
        intro t kt
        show Steps p.tables e below (T17.setTop (mkF m 13 #[.val (.ref a1), .val (.double (FP.l2d x1)), .second, .unset, .unset] [(.int (lcmpW x1 q1))])) _
        refine XS.ifNo X17.here hx rfl (hb hby d4_13) rfl ((if0 _ _).trans (flt hc13).1) ?_
        show Steps p.tables e below (T17.setTop (mkF m 16 #[.val (.ref a1), .val (.double (FP.l2d x1)), .second, .unset, .unset] [])) _
        refine XS.iconst X17.here hx rfl (hb hby d4_16) ?_
        show Steps p.tables e below (T17.setTop (mkF m 17 #[.val (.ref a1), .val (.double (FP.l2d x1)), .second, .unset, .unset] [(.int (1 : Int32))])) _
        refine XS.goto X17.here hx rfl (pc0 := 17) (pc' := 38) rfl (hb hby d4_17) (by decide) (by decide) ?_
        show Steps p.tables e below (T17.setTop (mkF m 38 #[.val (.ref a1), .val (.double (FP.l2d x1)), .second, .unset, .unset] [(.int (1 : Int32))])) _
        refine XS.istoreN X17.here hx rfl (hb hby d4_38) rfl (l' := #[.val (.ref a1), .val (.double (FP.l2d x1)), .second, .val (.int (1 : Int32)), .unset]) rfl ?_
        show Steps p.tables e below (T17.setTop (mkF m 39 #[.val (.ref a1), .val (.double (FP.l2d x1)), .second, .val (.int (1 : Int32)), .unset] [])) _
        refine XS.aloadN X17.here hx rfl (hb hby d4_39) rfl rfl ?_
        show Steps p.tables e below (T17.setTop (mkF m 40 #[.val (.ref a1), .val (.double (FP.l2d x1)), .second, .val (.int (1 : Int32)), .unset] [(.ref a1)])) _
        refine st25 _ ?_
        exact kt
      by_cases hc43 : b2 = (0 : Int32)
      · obtain ⟨T27, X27, e27, st27⟩ := getF X25 hx hZ hown (host := "") (Or.inl (hw _ (List.mem_of_getElem? (i := 18) rfl))) Via.refl e25 F2 (g := (mkF m 65 #[.val (.ref a1), .val (.double (FP.l2d x1)), .second, .val (.int (1 : Int32)), .unset] [(.ref a1), (.double (FP.l2d x1))])) rfl rfl (hb hby d4_65)
        have c28 : ∀ t, Steps p.tables e below (T27.setTop (mkF m 69 #[.val (.ref a1), .val (.double (FP.l2d x1)), .second, .val (.int (1 : Int32)), .unset] [(.int (lcmpW x1 q2))])) t → Steps p.tables e below (T25.setTop (mkF m 43 #[.val (.ref a1), .val (.double (FP.l2d x1)), .second, .val (.int (1 : Int32)), .unset] [(.int b2)])) t := by
          intro t kt
          show Steps p.tables e below (T25.setTop (mkF m 43 #[.val (.ref a1), .val (.double (FP.l2d x1)), .second, .val (.int (1 : Int32)), .unset] [(.int b2)])) _
          refine XS.ifYes X25.here hx rfl (pc0 := 43) (pc' := 63) rfl (hb hby d4_43) rfl ((if0 _ _).trans (teq hc43).1) (by decide) (by decide) ?_
          show Steps p.tables e below (T25.setTop (mkF m 63 #[.val (.ref a1), .val (.double (FP.l2d x1)), .second, .val (.int (1 : Int32)), .unset] [])) _
          refine XS.dloadN X25.here hx rfl (hb hby d4_63) rfl ?_
          show Steps p.tables e below (T25.setTop (mkF m 64 #[.val (.ref a1), .val (.double (FP.l2d x1)), .second, .val (.int (1 : Int32)), .unset] [(.double (FP.l2d x1))])) _
          refine XS.aloadN X25.here hx rfl (hb hby d4_64) rfl rfl ?_
          show Steps p.tables e below (T25.setTop (mkF m 65 #[.val (.ref a1), .val (.double (FP.l2d x1)), .second, .val (.int (1 : Int32)), .unset] [(.ref a1), (.double (FP.l2d x1))])) _
          refine st27 _ ?_
          show Steps p.tables e below (T27.setTop (mkF m 68 #[.val (.ref a1), .val (.double (FP.l2d x1)), .second, .val (.int (1 : Int32)), .unset] [(.double (FP.l2d q2)), (.double (FP.l2d x1))])) _
          refine XS.dcmpS X27.here hx rfl (v := (lcmpW x1 q2)) (hb hby d4_68) rfl (dcmpV_w (Bx1.b53 (by decide)) (Bq2.b53 (by decide)) _) ?_
          exact kt
        by_cases hc69 : (lcmpW x1 q2) < (0 : Int32)
        · obtain ⟨fs, hr, hrun, hended, hW, hsame⟩ := X27.leave (v := some (.int (1 : Int32))) (fun h => by rw [Bd.returns] at h; cases h)
          refine ⟨_, _, pre0 _ (c2 _ (c18 _ (c26 _ (c28 _ (?_))))), hrun, hended, _, _, rfl, ?_, ⟨_, rfl⟩, hW, hsame.mono (by decide) (by decide)⟩
          · show Steps p.tables e below (T27.setTop (mkF m 69 #[.val (.ref a1), .val (.double (FP.l2d x1)), .second, .val (.int (1 : Int32)), .unset] [(.int (lcmpW x1 q2))])) _
            refine XS.ifNo X27.here hx rfl (hb hby d4_69) rfl ((if0 _ _).trans (tlt hc69).2.1) ?_
            show Steps p.tables e below (T27.setTop (mkF m 72 #[.val (.ref a1), .val (.double (FP.l2d x1)), .second, .val (.int (1 : Int32)), .unset] [])) _
            refine XS.iconst X27.here hx rfl (hb hby d4_72) ?_
            show Steps p.tables e below (T27.setTop (mkF m 73 #[.val (.ref a1), .val (.double (FP.l2d x1)), .second, .val (.int (1 : Int32)), .unset] [(.int (1 : Int32))])) _
            refine XS.goto X27.here hx rfl (pc0 := 73) (pc' := 77) rfl (hb hby d4_73) (by decide) (by decide) ?_
            show Steps p.tables e below (T27.setTop (mkF m 77 #[.val (.ref a1), .val (.double (FP.l2d x1)), .second, .val (.int (1 : Int32)), .unset] [(.int (1 : Int32))])) _
            refine XS.istore X27.here hx rfl (hb hby d4_77) rfl (l' := #[.val (.ref a1), .val (.double (FP.l2d x1)), .second, .val (.int (1 : Int32)), .val (.int (1 : Int32))]) rfl ?_
            show Steps p.tables e below (T27.setTop (mkF m 79 #[.val (.ref a1), .val (.double (FP.l2d x1)), .second, .val (.int (1 : Int32)), .val (.int (1 : Int32))] [])) _
            refine XS.iloadN X27.here hx rfl (hb hby d4_79) rfl ?_
            show Steps p.tables e below (T27.setTop (mkF m 80 #[.val (.ref a1), .val (.double (FP.l2d x1)), .second, .val (.int (1 : Int32)), .val (.int (1 : Int32))] [(.int (1 : Int32))])) _
            refine XS.ifNo X27.here hx rfl (hb hby d4_80) rfl ((if0 _ _).trans (feq (by decide : ¬ ((1 : Int32) = (0 : Int32)))).1) ?_
            show Steps p.tables e below (T27.setTop (mkF m 83 #[.val (.ref a1), .val (.double (FP.l2d x1)), .second, .val (.int (1 : Int32)), .val (.int (1 : Int32))] [])) _
            refine XS.iload X27.here hx rfl (hb hby d4_83) rfl ?_
            show Steps p.tables e below (T27.setTop (mkF m 85 #[.val (.ref a1), .val (.double (FP.l2d x1)), .second, .val (.int (1 : Int32)), .val (.int (1 : Int32))] [(.int (1 : Int32))])) _
            refine XS.ifNo X27.here hx rfl (hb hby d4_85) rfl ((if0 _ _).trans (feq (by decide : ¬ ((1 : Int32) = (0 : Int32)))).1) ?_
            show Steps p.tables e below (T27.setTop (mkF m 88 #[.val (.ref a1), .val (.double (FP.l2d x1)), .second, .val (.int (1 : Int32)), .val (.int (1 : Int32))] [])) _
            refine XS.iconst X27.here hx rfl (hb hby d4_88) ?_
            show Steps p.tables e below (T27.setTop (mkF m 89 #[.val (.ref a1), .val (.double (FP.l2d x1)), .second, .val (.int (1 : Int32)), .val (.int (1 : Int32))] [(.int (1 : Int32))])) _
            refine XS.goto X27.here hx rfl (pc0 := 89) (pc' := 93) rfl (hb hby d4_89) (by decide) (by decide) ?_
            show Steps p.tables e below (T27.setTop (mkF m 93 #[.val (.ref a1), .val (.double (FP.l2d x1)), .second, .val (.int (1 : Int32)), .val (.int (1 : Int32))] [(.int (1 : Int32))])) _
            exact retN X27 hx (t := .boolean) Bd.returns (by simp) (hb hby d4_93) hr
          · show QrmC Z a1 x1 q1 q2 b1 b2 h0 n0 _ T27.heap _
            rw [e27]
            exact ⟨by simp only [own_cont, hc4, hc13, hc43, hc69, if_true, if_false], N0, rfl⟩
        · obtain ⟨fs, hr, hrun, hended, hW, hsame⟩ := X27.leave (v := some (.int (0 : Int32))) (fun h => by rw [Bd.returns] at h; cases h)
          refine ⟨_, _, pre0 _ (c2 _ (c18 _ (c26 _ (c28 _ (?_))))), hrun, hended, _, _, rfl, ?_, ⟨_, rfl⟩, hW, hsame.mono (by decide) (by decide)⟩
          · show Steps p.tables e below (T27.setTop (mkF m 69 #[.val (.ref a1), .val (.double (FP.l2d x1)), .second, .val (.int (1 : Int32)), .unset] [(.int (lcmpW x1 q2))])) _
            refine XS.ifYes X27.here hx rfl (pc0 := 69) (pc' := 76) rfl (hb hby d4_69) rfl ((if0 _ _).trans (flt hc69).2.1) (by decide) (by decide) ?_
            show Steps p.tables e below (T27.setTop (mkF m 76 #[.val (.ref a1), .val (.double (FP.l2d x1)), .second, .val (.int (1 : Int32)), .unset] [])) _
            refine XS.iconst X27.here hx rfl (hb hby d4_76) ?_
            show Steps p.tables e below (T27.setTop (mkF m 77 #[.val (.ref a1), .val (.double (FP.l2d x1)), .second, .val (.int (1 : Int32)), .unset] [(.int (0 : Int32))])) _
            refine XS.istore X27.here hx rfl (hb hby d4_77) rfl (l' := #[.val (.ref a1), .val (.double (FP.l2d x1)), .second, .val (.int (1 : Int32)), .val (.int (0 : Int32))]) rfl ?_
            show Steps p.tables e below (T27.setTop (mkF m 79 #[.val (.ref a1), .val (.double (FP.l2d x1)), .second, .val (.int (1 : Int32)), .val (.int (0 : Int32))] [])) _
            refine XS.iloadN X27.here hx rfl (hb hby d4_79) rfl ?_
            show Steps p.tables e below (T27.setTop (mkF m 80 #[.val (.ref a1), .val (.double (FP.l2d x1)), .second, .val (.int (1 : Int32)), .val (.int (0 : Int32))] [(.int (1 : Int32))])) _
            refine XS.ifNo X27.here hx rfl (hb hby d4_80) rfl ((if0 _ _).trans (feq (by decide : ¬ ((1 : Int32) = (0 : Int32)))).1) ?_
            show Steps p.tables e below (T27.setTop (mkF m 83 #[.val (.ref a1), .val (.double (FP.l2d x1)), .second, .val (.int (1 : Int32)), .val (.int (0 : Int32))] [])) _
            refine XS.iload X27.here hx rfl (hb hby d4_83) rfl ?_
            show Steps p.tables e below (T27.setTop (mkF m 85 #[.val (.ref a1), .val (.double (FP.l2d x1)), .second, .val (.int (1 : Int32)), .val (.int (0 : Int32))] [(.int (0 : Int32))])) _
            refine XS.ifYes X27.here hx rfl (pc0 := 85) (pc' := 92) rfl (hb hby d4_85) rfl ((if0 _ _).trans (teq (by decide : (0 : Int32) = (0 : Int32))).1) (by decide) (by decide) ?_
            show Steps p.tables e below (T27.setTop (mkF m 92 #[.val (.ref a1), .val (.double (FP.l2d x1)), .second, .val (.int (1 : Int32)), .val (.int (0 : Int32))] [])) _
            refine XS.iconst X27.here hx rfl (hb hby d4_92) ?_
            show Steps p.tables e below (T27.setTop (mkF m 93 #[.val (.ref a1), .val (.double (FP.l2d x1)), .second, .val (.int (1 : Int32)), .val (.int (0 : Int32))] [(.int (0 : Int32))])) _
            exact retN X27 hx (t := .boolean) Bd.returns (by simp) (hb hby d4_93) hr
          · show QrmC Z a1 x1 q1 q2 b1 b2 h0 n0 _ T27.heap _
            rw [e27]
            exact ⟨by simp only [own_cont, hc4, hc13, hc43, hc69, if_true, if_false], N0, rfl⟩
      · obtain ⟨T29, X29, e29, st29⟩ := getF X25 hx hZ hown (host := "") (Or.inl (hw _ (List.mem_of_getElem? (i := 18) rfl))) Via.refl e25 F2 (g := (mkF m 48 #[.val (.ref a1), .val (.double (FP.l2d x1)), .second, .val (.int (1 : Int32)), .unset] [(.ref a1), (.double (FP.l2d x1))])) rfl rfl (hb hby d4_48)
        have c30 : ∀ t, Steps p.tables e below (T29.setTop (mkF m 52 #[.val (.ref a1), .val (.double (FP.l2d x1)), .second, .val (.int (1 : Int32)), .unset] [(.int (lcmpW x1 q2))])) t → Steps p.tables e below (T25.setTop (mkF m 43 #[.val (.ref a1), .val (.double (FP.l2d x1)), .second, .val (.int (1 : Int32)), .unset] [(.int b2)])) t := by
          intro t kt
          show Steps p.tables e below (T25.setTop (mkF m 43 #[.val (.ref a1), .val (.double (FP.l2d x1)), .second, .val (.int (1 : Int32)), .unset] [(.int b2)])) _
          refine XS.ifNo X25.here hx rfl (hb hby d4_43) rfl ((if0 _ _).trans (feq hc43).1) ?_
          show Steps p.tables e below (T25.setTop (mkF m 46 #[.val (.ref a1), .val (.double (FP.l2d x1)), .second, .val (.int (1 : Int32)), .unset] [])) _
          refine XS.dloadN X25.here hx rfl (hb hby d4_46) rfl ?_
          show Steps p.tables e below (T25.setTop (mkF m 47 #[.val (.ref a1), .val (.double (FP.l2d x1)), .second, .val (.int (1 : Int32)), .unset] [(.double (FP.l2d x1))])) _
          refine XS.aloadN X25.here hx rfl (hb hby d4_47) rfl rfl ?_
          show Steps p.tables e below (T25.setTop (mkF m 48 #[.val (.ref a1), .val (.double (FP.l2d x1)), .second, .val (.int (1 : Int32)), .unset] [(.ref a1), (.double (FP.l2d x1))])) _
          refine st29 _ ?_
          show Steps p.tables e below (T29.setTop (mkF m 51 #[.val (.ref a1), .val (.double (FP.l2d x1)), .second, .val (.int (1 : Int32)), .unset] [(.double (FP.l2d q2)), (.double (FP.l2d x1))])) _
          refine XS.dcmpS X29.here hx rfl (v := (lcmpW x1 q2)) (hb hby d4_51) rfl (dcmpV_w (Bx1.b53 (by decide)) (Bq2.b53 (by decide)) _) ?_
          exact kt
        by_cases hc52 : (0 : Int32) < (lcmpW x1 q2)
        · obtain ⟨fs, hr, hrun, hended, hW, hsame⟩ := X29.leave (v := some (.int (0 : Int32))) (fun h => by rw [Bd.returns] at h; cases h)
          refine ⟨_, _, pre0 _ (c2 _ (c18 _ (c26 _ (c30 _ (?_))))), hrun, hended, _, _, rfl, ?_, ⟨_, rfl⟩, hW, hsame.mono (by decide) (by decide)⟩
          · show Steps p.tables e below (T29.setTop (mkF m 52 #[.val (.ref a1), .val (.double (FP.l2d x1)), .second, .val (.int (1 : Int32)), .unset] [(.int (lcmpW x1 q2))])) _
            refine XS.ifYes X29.here hx rfl (pc0 := 52) (pc' := 59) rfl (hb hby d4_52) rfl ((if0 _ _).trans (tlt hc52).2.2.1) (by decide) (by decide) ?_
            show Steps p.tables e below (T29.setTop (mkF m 59 #[.val (.ref a1), .val (.double (FP.l2d x1)), .second, .val (.int (1 : Int32)), .unset] [])) _
            refine XS.iconst X29.here hx rfl (hb hby d4_59) ?_
            show Steps p.tables e below (T29.setTop (mkF m 60 #[.val (.ref a1), .val (.double (FP.l2d x1)), .second, .val (.int (1 : Int32)), .unset] [(.int (0 : Int32))])) _
            refine XS.goto X29.here hx rfl (pc0 := 60) (pc' := 77) rfl (hb hby d4_60) (by decide) (by decide) ?_
            show Steps p.tables e below (T29.setTop (mkF m 77 #[.val (.ref a1), .val (.double (FP.l2d x1)), .second, .val (.int (1 : Int32)), .unset] [(.int (0 : Int32))])) _
            refine XS.istore X29.here hx rfl (hb hby d4_77) rfl (l' := #[.val (.ref a1), .val (.double (FP.l2d x1)), .second, .val (.int (1 : Int32)), .val (.int (0 : Int32))]) rfl ?_
            show Steps p.tables e below (T29.setTop (mkF m 79 #[.val (.ref a1), .val (.double (FP.l2d x1)), .second, .val (.int (1 : Int32)), .val (.int (0 : Int32))] [])) _
            refine XS.iloadN X29.here hx rfl (hb hby d4_79) rfl ?_
            show Steps p.tables e below (T29.setTop (mkF m 80 #[.val (.ref a1), .val (.double (FP.l2d x1)), .second, .val (.int (1 : Int32)), .val (.int (0 : Int32))] [(.int (1 : Int32))])) _
            refine XS.ifNo X29.here hx rfl (hb hby d4_80) rfl ((if0 _ _).trans (feq (by decide : ¬ ((1 : Int32) = (0 : Int32)))).1) ?_
            show Steps p.tables e below (T29.setTop (mkF m 83 #[.val (.ref a1), .val (.double (FP.l2d x1)), .second, .val (.int (1 : Int32)), .val (.int (0 : Int32))] [])) _
            refine XS.iload X29.here hx rfl (hb hby d4_83) rfl ?_
            show Steps p.tables e below (T29.setTop (mkF m 85 #[.val (.ref a1), .val (.double (FP.l2d x1)), .second, .val (.int (1 : Int32)), .val (.int (0 : Int32))] [(.int (0 : Int32))])) _
            refine XS.ifYes X29.here hx rfl (pc0 := 85) (pc' := 92) rfl (hb hby d4_85) rfl ((if0 _ _).trans (teq (by decide : (0 : Int32) = (0 : Int32))).1) (by decide) (by decide) ?_
            show Steps p.tables e below (T29.setTop (mkF m 92 #[.val (.ref a1), .val (.double (FP.l2d x1)), .second, .val (.int (1 : Int32)), .val (.int (0 : Int32))] [])) _
            refine XS.iconst X29.here hx rfl (hb hby d4_92) ?_
            show Steps p.tables e below (T29.setTop (mkF m 93 #[.val (.ref a1), .val (.double (FP.l2d x1)), .second, .val (.int (1 : Int32)), .val (.int (0 : Int32))] [(.int (0 : Int32))])) _
            exact retN X29 hx (t := .boolean) Bd.returns (by simp) (hb hby d4_93) hr
          · show QrmC Z a1 x1 q1 q2 b1 b2 h0 n0 _ T29.heap _
            rw [e29]
            exact ⟨by simp only [own_cont, hc4, hc13, hc43, hc52, if_true, if_false], N0, rfl⟩
        · obtain ⟨fs, hr, hrun, hended, hW, hsame⟩ := X29.leave (v := some (.int (1 : Int32))) (fun h => by rw [Bd.returns] at h; cases h)
          refine ⟨_, _, pre0 _ (c2 _ (c18 _ (c26 _ (c30 _ (?_))))), hrun, hended, _, _, rfl, ?_, ⟨_, rfl⟩, hW, hsame.mono (by decide) (by decide)⟩
          · show Steps p.tables e below (T29.setTop (mkF m 52 #[.val (.ref a1), .val (.double (FP.l2d x1)), .second, .val (.int (1 : Int32)), .unset] [(.int (lcmpW x1 q2))])) _
            refine XS.ifNo X29.here hx rfl (hb hby d4_52) rfl ((if0 _ _).trans (flt hc52).2.2.1) ?_
            show Steps p.tables e below (T29.setTop (mkF m 55 #[.val (.ref a1), .val (.double (FP.l2d x1)), .second, .val (.int (1 : Int32)), .unset] [])) _
            refine XS.iconst X29.here hx rfl (hb hby d4_55) ?_
            show Steps p.tables e below (T29.setTop (mkF m 56 #[.val (.ref a1), .val (.double (FP.l2d x1)), .second, .val (.int (1 : Int32)), .unset] [(.int (1 : Int32))])) _
            refine XS.goto X29.here hx rfl (pc0 := 56) (pc' := 77) rfl (hb hby d4_56) (by decide) (by decide) ?_
            show Steps p.tables e below (T29.setTop (mkF m 77 #[.val (.ref a1), .val (.double (FP.l2d x1)), .second, .val (.int (1 : Int32)), .unset] [(.int (1 : Int32))])) _
            refine XS.istore X29.here hx rfl (hb hby d4_77) rfl (l' := #[.val (.ref a1), .val (.double (FP.l2d x1)), .second, .val (.int (1 : Int32)), .val (.int (1 : Int32))]) rfl ?_
            show Steps p.tables e below (T29.setTop (mkF m 79 #[.val (.ref a1), .val (.double (FP.l2d x1)), .second, .val (.int (1 : Int32)), .val (.int (1 : Int32))] [])) _
            refine XS.iloadN X29.here hx rfl (hb hby d4_79) rfl ?_
            show Steps p.tables e below (T29.setTop (mkF m 80 #[.val (.ref a1), .val (.double (FP.l2d x1)), .second, .val (.int (1 : Int32)), .val (.int (1 : Int32))] [(.int (1 : Int32))])) _
            refine XS.ifNo X29.here hx rfl (hb hby d4_80) rfl ((if0 _ _).trans (feq (by decide : ¬ ((1 : Int32) = (0 : Int32)))).1) ?_
            show Steps p.tables e below (T29.setTop (mkF m 83 #[.val (.ref a1), .val (.double (FP.l2d x1)), .second, .val (.int (1 : Int32)), .val (.int (1 : Int32))] [])) _
            refine XS.iload X29.here hx rfl (hb hby d4_83) rfl ?_
            show Steps p.tables e below (T29.setTop (mkF m 85 #[.val (.ref a1), .val (.double (FP.l2d x1)), .second, .val (.int (1 : Int32)), .val (.int (1 : Int32))] [(.int (1 : Int32))])) _
            refine XS.ifNo X29.here hx rfl (hb hby d4_85) rfl ((if0 _ _).trans (feq (by decide : ¬ ((1 : Int32) = (0 : Int32)))).1) ?_
            show Steps p.tables e below (T29.setTop (mkF m 88 #[.val (.ref a1), .val (.double (FP.l2d x1)), .second, .val (.int (1 : Int32)), .val (.int (1 : Int32))] [])) _
            refine XS.iconst X29.here hx rfl (hb hby d4_88) ?_
            show Steps p.tables e below (T29.setTop (mkF m 89 #[.val (.ref a1), .val (.double (FP.l2d x1)), .second, .val (.int (1 : Int32)), .val (.int (1 : Int32))] [(.int (1 : Int32))])) _
            refine XS.goto X29.here hx rfl (pc0 := 89) (pc' := 93) rfl (hb hby d4_89) (by decide) (by decide) ?_
            show Steps p.tables e below (T29.setTop (mkF m 93 #[.val (.ref a1), .val (.double (FP.l2d x1)), .second, .val (.int (1 : Int32)), .val (.int (1 : Int32))] [(.int (1 : Int32))])) _
            exact retN X29 hx (t := .boolean) Bd.returns (by simp) (hb hby d4_93) hr
          · show QrmC Z a1 x1 q1 q2 b1 b2 h0 n0 _ T29.heap _
            rw [e29]
            exact ⟨by simp only [own_cont, hc4, hc13, hc43, hc52, if_true, if_false], N0, rfl⟩
theorem pn_com_example_weir3_weir3_core_RangeContainsPinLaw : plainName "com/example/weir3/weir3/core/RangeContainsPinLaw" = true := by first | (simp [plainName, overriddenIn]; done) | decide +kernel
theorem pd__28DZDZ_29V : parseMethodDescriptor "(DZDZ)V" = some ⟨[.double, .boolean, .double, .boolean], none⟩ := by decide +kernel
theorem pd__28D_29Z : parseMethodDescriptor "(D)Z" = some ⟨[.double], some .boolean⟩ := by decide +kernel
theorem ef_rm0 (m : MethodId) (x0 : Int32) (x1 : Int32) (x2 : Int32) (x3 : Int32) : entryFrame m #[(.int x0), (.int x1), (.int x2), (.int x3)] maxLocals = mkF m 0 #[.val (.int x0), .val (.int x1), .val (.int x2), .val (.int x3), .unset, .unset, .unset, .unset, .unset, .unset, .unset, .unset] [] := by first | (simp [entryFrame, mkF, argsToLocals, Value.category, maxLocals]; done) | rfl
def Qrm0 (Z : State) (p1 p2 p3 p4 : Int32) (h0 : Heap) (n0 : Nat) (v : Option Value) (h : Heap) (L : List Loc) : Prop := v = some (.int 1) ∧ Fr n0 L
set_option maxRecDepth 65536 in
set_option maxHeartbeats 40000000 in
theorem rm0 (l : Launch) (Z : State) (a0 : Array Value) (hw : ∀ d ∈ tables_1, d.before a0 Z = true) (ws : List Jvm.Cond) (p1 p2 p3 p4 : Int32) (h0 : Heap) (n0 : Nat) (Z0 : n0 ≤ h0.size) :
    MetFree l x (head1 (Jvm.Cond.code x code maxLocals ret :: ws) room_1) (fun a U => a = #[(.int p1), (.int p2), (.int p3), (.int p4)] ∧ Z.Warmed39 U.vm ∧ U.heap = h0) (fun _ _ _ _ _ => True) (fun _ U o U' => ∃ v L, o = .returned v ∧ Qrm0 Z p1 p2 p3 p4 h0 n0 v U'.heap L ∧ FrameEnd U o U' L room_1.cells room_1.slots) := by
  refine MetFree.of_bodySF (plainFor_of_name pn_com_example_weir3_weir3_core_RangeContainsPinLaw) hisR ?_
  intro p e s m args below meth c s₁ Bd hml0 hP hK
  obtain ⟨rfl, hZ, hh⟩ := hP
  have hx := Bd.exec
  have hby := Bd.bytes
  have hml : c.maxLocals = 12 := hml0
  have hown : s.vm.findClass "com/example/weir3/weir3/core/RangeContainsPinLaw" = some m.cls := findClass_of_methodNamed Bd.named
  have hnm := (name_of_methodNamed Bd.named Bd.method).1
  have X0 : Stand p l e room_1 s m #[(.int p1), (.int p2), (.int p3), (.int p4)] below meth c s₁ [] 0 0 := Stand.of_body Bd
  have e0 : s₁.heap = h0 := by rw [← hh, Bd.state]; rfl
  have N0 := Fr.nil n0
  have pre0 : ∀ t, Steps p.tables e below (s₁.setTop (mkF m 0 #[.val (.int p1), .val (.int p2), .val (.int p3), .val (.int p4), .unset, .unset, .unset, .unset, .unset, .unset, .unset, .unset] [])) t → Steps p.tables e below (s₁.setTop (entryFrame m #[(.int p1), (.int p2), (.int p3), (.int p4)] maxLocals)) t := fun t k => castTop (ef_rm0 m p1 p2 p3 p4) k
  have c1 : ∀ t, Steps p.tables e below (s₁.setTop (mkF m 3 #[.val (.int p1), .val (.int p2), .val (.int p3), .val (.int p4), .unset, .unset, .unset, .unset, .unset, .unset, .unset, .unset] [(.int (p4 &&& (1 : Int32)))])) t → Steps p.tables e below (s₁.setTop (mkF m 0 #[.val (.int p1), .val (.int p2), .val (.int p3), .val (.int p4), .unset, .unset, .unset, .unset, .unset, .unset, .unset, .unset] [])) t := by
    intro t kt
    show Steps p.tables e below (s₁.setTop (mkF m 0 #[.val (.int p1), .val (.int p2), .val (.int p3), .val (.int p4), .unset, .unset, .unset, .unset, .unset, .unset, .unset, .unset] [])) _
    refine XS.iloadN X0.here hx rfl (hb hby at_0) rfl ?_
    show Steps p.tables e below (s₁.setTop (mkF m 1 #[.val (.int p1), .val (.int p2), .val (.int p3), .val (.int p4), .unset, .unset, .unset, .unset, .unset, .unset, .unset, .unset] [(.int p4)])) _
    refine XS.iconst X0.here hx rfl (hb hby at_1) ?_
    show Steps p.tables e below (s₁.setTop (mkF m 2 #[.val (.int p1), .val (.int p2), .val (.int p3), .val (.int p4), .unset, .unset, .unset, .unset, .unset, .unset, .unset, .unset] [(.int (1 : Int32)), (.int p4)])) _
    refine XS.iand X0.here hx rfl (hb hby at_2) rfl ?_
    exact kt
  obtain ⟨v3, hv3⟩ : ∃ z, z = (if (p4 &&& (1 : Int32)) = (0 : Int32) then (0 : Int32) else (1 : Int32)) := ⟨_, rfl⟩
  have c4 : ∀ t, Steps p.tables e below (s₁.setTop (mkF m 11 #[.val (.int p1), .val (.int p2), .val (.int p3), .val (.int p4), .unset, .unset, .unset, .unset, .unset, .unset, .unset, .unset] [(.int v3)])) t → Steps p.tables e below (s₁.setTop (mkF m 3 #[.val (.int p1), .val (.int p2), .val (.int p3), .val (.int p4), .unset, .unset, .unset, .unset, .unset, .unset, .unset, .unset] [(.int (p4 &&& (1 : Int32)))])) t := by
    intro t kt
    by_cases j3_2 : (p4 &&& (1 : Int32)) = (0 : Int32)
    · show Steps p.tables e below (s₁.setTop (mkF m 3 #[.val (.int p1), .val (.int p2), .val (.int p3), .val (.int p4), .unset, .unset, .unset, .unset, .unset, .unset, .unset, .unset] [(.int (p4 &&& (1 : Int32)))])) _
      refine XS.ifYes X0.here hx rfl (pc0 := 3) (pc' := 10) rfl (hb hby at_3) rfl ((if0 _ _).trans (teq j3_2).1) (by decide) (by decide) ?_
      show Steps p.tables e below (s₁.setTop (mkF m 10 #[.val (.int p1), .val (.int p2), .val (.int p3), .val (.int p4), .unset, .unset, .unset, .unset, .unset, .unset, .unset, .unset] [])) _
      refine XS.iconst X0.here hx rfl (hb hby at_10) ?_
      obtain rfl : v3 = (0 : Int32) := by rw [hv3, if_pos j3_2]
      exact kt
    · show Steps p.tables e below (s₁.setTop (mkF m 3 #[.val (.int p1), .val (.int p2), .val (.int p3), .val (.int p4), .unset, .unset, .unset, .unset, .unset, .unset, .unset, .unset] [(.int (p4 &&& (1 : Int32)))])) _
      refine XS.ifNo X0.here hx rfl (hb hby at_3) rfl ((if0 _ _).trans (feq j3_2).1) ?_
      show Steps p.tables e below (s₁.setTop (mkF m 6 #[.val (.int p1), .val (.int p2), .val (.int p3), .val (.int p4), .unset, .unset, .unset, .unset, .unset, .unset, .unset, .unset] [])) _
      refine XS.iconst X0.here hx rfl (hb hby at_6) ?_
      show Steps p.tables e below (s₁.setTop (mkF m 7 #[.val (.int p1), .val (.int p2), .val (.int p3), .val (.int p4), .unset, .unset, .unset, .unset, .unset, .unset, .unset, .unset] [(.int (1 : Int32))])) _
      refine XS.goto X0.here hx rfl (pc0 := 7) (pc' := 11) rfl (hb hby at_7) (by decide) (by decide) ?_
      obtain rfl : v3 = (1 : Int32) := by rw [hv3, if_neg j3_2]
      exact kt
  have c5 : ∀ t, Steps p.tables e below (s₁.setTop (mkF m 16 #[.val (.int p1), .val (.int p2), .val (.int p3), .val (.int p4), .val (.int v3), .unset, .unset, .unset, .unset, .unset, .unset, .unset] [(.int (p4 &&& (2 : Int32)))])) t → Steps p.tables e below (s₁.setTop (mkF m 11 #[.val (.int p1), .val (.int p2), .val (.int p3), .val (.int p4), .unset, .unset, .unset, .unset, .unset, .unset, .unset, .unset] [(.int v3)])) t := by
    intro t kt
    show Steps p.tables e below (s₁.setTop (mkF m 11 #[.val (.int p1), .val (.int p2), .val (.int p3), .val (.int p4), .unset, .unset, .unset, .unset, .unset, .unset, .unset, .unset] [(.int v3)])) _
    refine XS.istore X0.here hx rfl (hb hby at_11) rfl (l' := #[.val (.int p1), .val (.int p2), .val (.int p3), .val (.int p4), .val (.int v3), .unset, .unset, .unset, .unset, .unset, .unset, .unset]) rfl ?_
    show Steps p.tables e below (s₁.setTop (mkF m 13 #[.val (.int p1), .val (.int p2), .val (.int p3), .val (.int p4), .val (.int v3), .unset, .unset, .unset, .unset, .unset, .unset, .unset] [])) _
    refine XS.iloadN X0.here hx rfl (hb hby at_13) rfl ?_
    show Steps p.tables e below (s₁.setTop (mkF m 14 #[.val (.int p1), .val (.int p2), .val (.int p3), .val (.int p4), .val (.int v3), .unset, .unset, .unset, .unset, .unset, .unset, .unset] [(.int p4)])) _
    refine XS.iconst X0.here hx rfl (hb hby at_14) ?_
    show Steps p.tables e below (s₁.setTop (mkF m 15 #[.val (.int p1), .val (.int p2), .val (.int p3), .val (.int p4), .val (.int v3), .unset, .unset, .unset, .unset, .unset, .unset, .unset] [(.int (2 : Int32)), (.int p4)])) _
    refine XS.iand X0.here hx rfl (hb hby at_15) rfl ?_
    exact kt
  obtain ⟨v7, hv7⟩ : ∃ z, z = (if (p4 &&& (2 : Int32)) = (0 : Int32) then (0 : Int32) else (1 : Int32)) := ⟨_, rfl⟩
  have c8 : ∀ t, Steps p.tables e below (s₁.setTop (mkF m 24 #[.val (.int p1), .val (.int p2), .val (.int p3), .val (.int p4), .val (.int v3), .unset, .unset, .unset, .unset, .unset, .unset, .unset] [(.int v7)])) t → Steps p.tables e below (s₁.setTop (mkF m 16 #[.val (.int p1), .val (.int p2), .val (.int p3), .val (.int p4), .val (.int v3), .unset, .unset, .unset, .unset, .unset, .unset, .unset] [(.int (p4 &&& (2 : Int32)))])) t := by
    intro t kt
    by_cases j16_6 : (p4 &&& (2 : Int32)) = (0 : Int32)
    · show Steps p.tables e below (s₁.setTop (mkF m 16 #[.val (.int p1), .val (.int p2), .val (.int p3), .val (.int p4), .val (.int v3), .unset, .unset, .unset, .unset, .unset, .unset, .unset] [(.int (p4 &&& (2 : Int32)))])) _
      refine XS.ifYes X0.here hx rfl (pc0 := 16) (pc' := 23) rfl (hb hby at_16) rfl ((if0 _ _).trans (teq j16_6).1) (by decide) (by decide) ?_
      show Steps p.tables e below (s₁.setTop (mkF m 23 #[.val (.int p1), .val (.int p2), .val (.int p3), .val (.int p4), .val (.int v3), .unset, .unset, .unset, .unset, .unset, .unset, .unset] [])) _
      refine XS.iconst X0.here hx rfl (hb hby at_23) ?_
      obtain rfl : v7 = (0 : Int32) := by rw [hv7, if_pos j16_6]
      exact kt
    · show Steps p.tables e below (s₁.setTop (mkF m 16 #[.val (.int p1), .val (.int p2), .val (.int p3), .val (.int p4), .val (.int v3), .unset, .unset, .unset, .unset, .unset, .unset, .unset] [(.int (p4 &&& (2 : Int32)))])) _
      refine XS.ifNo X0.here hx rfl (hb hby at_16) rfl ((if0 _ _).trans (feq j16_6).1) ?_
      show Steps p.tables e below (s₁.setTop (mkF m 19 #[.val (.int p1), .val (.int p2), .val (.int p3), .val (.int p4), .val (.int v3), .unset, .unset, .unset, .unset, .unset, .unset, .unset] [])) _
      refine XS.iconst X0.here hx rfl (hb hby at_19) ?_
      show Steps p.tables e below (s₁.setTop (mkF m 20 #[.val (.int p1), .val (.int p2), .val (.int p3), .val (.int p4), .val (.int v3), .unset, .unset, .unset, .unset, .unset, .unset, .unset] [(.int (1 : Int32))])) _
      refine XS.goto X0.here hx rfl (pc0 := 20) (pc' := 24) rfl (hb hby at_20) (by decide) (by decide) ?_
      obtain rfl : v7 = (1 : Int32) := by rw [hv7, if_neg j16_6]
      exact kt
  have c9 : ∀ t, Steps p.tables e below (s₁.setTop (mkF m 36 #[.val (.int p1), .val (.int p2), .val (.int p3), .val (.int p4), .val (.int v3), .val (.int v7), .val (.int (((p4.toUInt32 >>> ((2 : Int32) &&& 31).toUInt32).toInt32) &&& (3 : Int32))), .unset, .unset, .unset, .unset, .unset] [(.int (1 : Int32)), (.int (((p4.toUInt32 >>> ((2 : Int32) &&& 31).toUInt32).toInt32) &&& (3 : Int32)))])) t → Steps p.tables e below (s₁.setTop (mkF m 24 #[.val (.int p1), .val (.int p2), .val (.int p3), .val (.int p4), .val (.int v3), .unset, .unset, .unset, .unset, .unset, .unset, .unset] [(.int v7)])) t := by
    intro t kt
    show Steps p.tables e below (s₁.setTop (mkF m 24 #[.val (.int p1), .val (.int p2), .val (.int p3), .val (.int p4), .val (.int v3), .unset, .unset, .unset, .unset, .unset, .unset, .unset] [(.int v7)])) _
    refine XS.istore X0.here hx rfl (hb hby at_24) rfl (l' := #[.val (.int p1), .val (.int p2), .val (.int p3), .val (.int p4), .val (.int v3), .val (.int v7), .unset, .unset, .unset, .unset, .unset, .unset]) rfl ?_
    show Steps p.tables e below (s₁.setTop (mkF m 26 #[.val (.int p1), .val (.int p2), .val (.int p3), .val (.int p4), .val (.int v3), .val (.int v7), .unset, .unset, .unset, .unset, .unset, .unset] [])) _
    refine XS.iloadN X0.here hx rfl (hb hby at_26) rfl ?_
    show Steps p.tables e below (s₁.setTop (mkF m 27 #[.val (.int p1), .val (.int p2), .val (.int p3), .val (.int p4), .val (.int v3), .val (.int v7), .unset, .unset, .unset, .unset, .unset, .unset] [(.int p4)])) _
    refine XS.iconst X0.here hx rfl (hb hby at_27) ?_
    show Steps p.tables e below (s₁.setTop (mkF m 28 #[.val (.int p1), .val (.int p2), .val (.int p3), .val (.int p4), .val (.int v3), .val (.int v7), .unset, .unset, .unset, .unset, .unset, .unset] [(.int (2 : Int32)), (.int p4)])) _
    refine XS.iushr X0.here hx rfl (hb hby at_28) rfl ?_
    show Steps p.tables e below (s₁.setTop (mkF m 29 #[.val (.int p1), .val (.int p2), .val (.int p3), .val (.int p4), .val (.int v3), .val (.int v7), .unset, .unset, .unset, .unset, .unset, .unset] [(.int ((p4.toUInt32 >>> ((2 : Int32) &&& 31).toUInt32).toInt32))])) _
    refine XS.iconst X0.here hx rfl (hb hby at_29) ?_
    show Steps p.tables e below (s₁.setTop (mkF m 30 #[.val (.int p1), .val (.int p2), .val (.int p3), .val (.int p4), .val (.int v3), .val (.int v7), .unset, .unset, .unset, .unset, .unset, .unset] [(.int (3 : Int32)), (.int ((p4.toUInt32 >>> ((2 : Int32) &&& 31).toUInt32).toInt32))])) _
    refine XS.iand X0.here hx rfl (hb hby at_30) rfl ?_
    show Steps p.tables e below (s₁.setTop (mkF m 31 #[.val (.int p1), .val (.int p2), .val (.int p3), .val (.int p4), .val (.int v3), .val (.int v7), .unset, .unset, .unset, .unset, .unset, .unset] [(.int (((p4.toUInt32 >>> ((2 : Int32) &&& 31).toUInt32).toInt32) &&& (3 : Int32)))])) _
    refine XS.istore X0.here hx rfl (hb hby at_31) rfl (l' := #[.val (.int p1), .val (.int p2), .val (.int p3), .val (.int p4), .val (.int v3), .val (.int v7), .val (.int (((p4.toUInt32 >>> ((2 : Int32) &&& 31).toUInt32).toInt32) &&& (3 : Int32))), .unset, .unset, .unset, .unset, .unset]) rfl ?_
    show Steps p.tables e below (s₁.setTop (mkF m 33 #[.val (.int p1), .val (.int p2), .val (.int p3), .val (.int p4), .val (.int v3), .val (.int v7), .val (.int (((p4.toUInt32 >>> ((2 : Int32) &&& 31).toUInt32).toInt32) &&& (3 : Int32))), .unset, .unset, .unset, .unset, .unset] [])) _
    refine XS.iload X0.here hx rfl (hb hby at_33) rfl ?_
    show Steps p.tables e below (s₁.setTop (mkF m 35 #[.val (.int p1), .val (.int p2), .val (.int p3), .val (.int p4), .val (.int v3), .val (.int v7), .val (.int (((p4.toUInt32 >>> ((2 : Int32) &&& 31).toUInt32).toInt32) &&& (3 : Int32))), .unset, .unset, .unset, .unset, .unset] [(.int (((p4.toUInt32 >>> ((2 : Int32) &&& 31).toUInt32).toInt32) &&& (3 : Int32)))])) _
    refine XS.iconst X0.here hx rfl (hb hby at_35) ?_
    exact kt
  obtain ⟨v12, hv12⟩ : ∃ z, z = (if (((p4.toUInt32 >>> ((2 : Int32) &&& 31).toUInt32).toInt32) &&& (3 : Int32)) = (1 : Int32) then p1 else (if (((p4.toUInt32 >>> ((2 : Int32) &&& 31).toUInt32).toInt32) &&& (3 : Int32)) = (2 : Int32) then p2 else p3)) := ⟨_, rfl⟩
  have c13 : ∀ t, Steps p.tables e below (s₁.setTop (mkF m 54 #[.val (.int p1), .val (.int p2), .val (.int p3), .val (.int p4), .val (.int v3), .val (.int v7), .val (.int (((p4.toUInt32 >>> ((2 : Int32) &&& 31).toUInt32).toInt32) &&& (3 : Int32))), .unset, .unset, .unset, .unset, .unset] [(.int v12)])) t → Steps p.tables e below (s₁.setTop (mkF m 36 #[.val (.int p1), .val (.int p2), .val (.int p3), .val (.int p4), .val (.int v3), .val (.int v7), .val (.int (((p4.toUInt32 >>> ((2 : Int32) &&& 31).toUInt32).toInt32) &&& (3 : Int32))), .unset, .unset, .unset, .unset, .unset] [(.int (1 : Int32)), (.int (((p4.toUInt32 >>> ((2 : Int32) &&& 31).toUInt32).toInt32) &&& (3 : Int32)))])) t := by
    intro t kt
    by_cases j36_10 : (((p4.toUInt32 >>> ((2 : Int32) &&& 31).toUInt32).toInt32) &&& (3 : Int32)) = (1 : Int32)
    · show Steps p.tables e below (s₁.setTop (mkF m 36 #[.val (.int p1), .val (.int p2), .val (.int p3), .val (.int p4), .val (.int v3), .val (.int v7), .val (.int (((p4.toUInt32 >>> ((2 : Int32) &&& 31).toUInt32).toInt32) &&& (3 : Int32))), .unset, .unset, .unset, .unset, .unset] [(.int (1 : Int32)), (.int (((p4.toUInt32 >>> ((2 : Int32) &&& 31).toUInt32).toInt32) &&& (3 : Int32)))])) _
      refine XS.icmpNo X0.here hx rfl (hb hby at_36) rfl (teq j36_10).2 ?_
      show Steps p.tables e below (s₁.setTop (mkF m 39 #[.val (.int p1), .val (.int p2), .val (.int p3), .val (.int p4), .val (.int v3), .val (.int v7), .val (.int (((p4.toUInt32 >>> ((2 : Int32) &&& 31).toUInt32).toInt32) &&& (3 : Int32))), .unset, .unset, .unset, .unset, .unset] [])) _
      refine XS.iloadN X0.here hx rfl (hb hby at_39) rfl ?_
      show Steps p.tables e below (s₁.setTop (mkF m 40 #[.val (.int p1), .val (.int p2), .val (.int p3), .val (.int p4), .val (.int v3), .val (.int v7), .val (.int (((p4.toUInt32 >>> ((2 : Int32) &&& 31).toUInt32).toInt32) &&& (3 : Int32))), .unset, .unset, .unset, .unset, .unset] [(.int p1)])) _
      refine XS.goto X0.here hx rfl (pc0 := 40) (pc' := 54) rfl (hb hby at_40) (by decide) (by decide) ?_
      obtain rfl : v12 = p1 := by rw [hv12, if_pos j36_10]
      exact kt
    · show Steps p.tables e below (s₁.setTop (mkF m 36 #[.val (.int p1), .val (.int p2), .val (.int p3), .val (.int p4), .val (.int v3), .val (.int v7), .val (.int (((p4.toUInt32 >>> ((2 : Int32) &&& 31).toUInt32).toInt32) &&& (3 : Int32))), .unset, .unset, .unset, .unset, .unset] [(.int (1 : Int32)), (.int (((p4.toUInt32 >>> ((2 : Int32) &&& 31).toUInt32).toInt32) &&& (3 : Int32)))])) _
      refine XS.icmpYes X0.here hx rfl (pc0 := 36) (pc' := 43) rfl (hb hby at_36) rfl (feq j36_10).2 (by decide) (by decide) ?_
      show Steps p.tables e below (s₁.setTop (mkF m 43 #[.val (.int p1), .val (.int p2), .val (.int p3), .val (.int p4), .val (.int v3), .val (.int v7), .val (.int (((p4.toUInt32 >>> ((2 : Int32) &&& 31).toUInt32).toInt32) &&& (3 : Int32))), .unset, .unset, .unset, .unset, .unset] [])) _
      refine XS.iload X0.here hx rfl (hb hby at_43) rfl ?_
      show Steps p.tables e below (s₁.setTop (mkF m 45 #[.val (.int p1), .val (.int p2), .val (.int p3), .val (.int p4), .val (.int v3), .val (.int v7), .val (.int (((p4.toUInt32 >>> ((2 : Int32) &&& 31).toUInt32).toInt32) &&& (3 : Int32))), .unset, .unset, .unset, .unset, .unset] [(.int (((p4.toUInt32 >>> ((2 : Int32) &&& 31).toUInt32).toInt32) &&& (3 : Int32)))])) _
      refine XS.iconst X0.here hx rfl (hb hby at_45) ?_
      by_cases j46_11 : (((p4.toUInt32 >>> ((2 : Int32) &&& 31).toUInt32).toInt32) &&& (3 : Int32)) = (2 : Int32)
      · show Steps p.tables e below (s₁.setTop (mkF m 46 #[.val (.int p1), .val (.int p2), .val (.int p3), .val (.int p4), .val (.int v3), .val (.int v7), .val (.int (((p4.toUInt32 >>> ((2 : Int32) &&& 31).toUInt32).toInt32) &&& (3 : Int32))), .unset, .unset, .unset, .unset, .unset] [(.int (2 : Int32)), (.int (((p4.toUInt32 >>> ((2 : Int32) &&& 31).toUInt32).toInt32) &&& (3 : Int32)))])) _
        refine XS.icmpNo X0.here hx rfl (hb hby at_46) rfl (teq j46_11).2 ?_
        show Steps p.tables e below (s₁.setTop (mkF m 49 #[.val (.int p1), .val (.int p2), .val (.int p3), .val (.int p4), .val (.int v3), .val (.int v7), .val (.int (((p4.toUInt32 >>> ((2 : Int32) &&& 31).toUInt32).toInt32) &&& (3 : Int32))), .unset, .unset, .unset, .unset, .unset] [])) _
        refine XS.iloadN X0.here hx rfl (hb hby at_49) rfl ?_
        show Steps p.tables e below (s₁.setTop (mkF m 50 #[.val (.int p1), .val (.int p2), .val (.int p3), .val (.int p4), .val (.int v3), .val (.int v7), .val (.int (((p4.toUInt32 >>> ((2 : Int32) &&& 31).toUInt32).toInt32) &&& (3 : Int32))), .unset, .unset, .unset, .unset, .unset] [(.int p2)])) _
        refine XS.goto X0.here hx rfl (pc0 := 50) (pc' := 54) rfl (hb hby at_50) (by decide) (by decide) ?_
        obtain rfl : v12 = p2 := by rw [hv12, if_neg j36_10, if_pos j46_11]
        exact kt
      · show Steps p.tables e below (s₁.setTop (mkF m 46 #[.val (.int p1), .val (.int p2), .val (.int p3), .val (.int p4), .val (.int v3), .val (.int v7), .val (.int (((p4.toUInt32 >>> ((2 : Int32) &&& 31).toUInt32).toInt32) &&& (3 : Int32))), .unset, .unset, .unset, .unset, .unset] [(.int (2 : Int32)), (.int (((p4.toUInt32 >>> ((2 : Int32) &&& 31).toUInt32).toInt32) &&& (3 : Int32)))])) _
        refine XS.icmpYes X0.here hx rfl (pc0 := 46) (pc' := 53) rfl (hb hby at_46) rfl (feq j46_11).2 (by decide) (by decide) ?_
        show Steps p.tables e below (s₁.setTop (mkF m 53 #[.val (.int p1), .val (.int p2), .val (.int p3), .val (.int p4), .val (.int v3), .val (.int v7), .val (.int (((p4.toUInt32 >>> ((2 : Int32) &&& 31).toUInt32).toInt32) &&& (3 : Int32))), .unset, .unset, .unset, .unset, .unset] [])) _
        refine XS.iloadN X0.here hx rfl (hb hby at_53) rfl ?_
        obtain rfl : v12 = p3 := by rw [hv12, if_neg j36_10, if_neg j46_11]
        exact kt
  have h01_v3 : v3 = 0 ∨ v3 = 1 := by
    rw [hv3]; split
    · exact Or.inl rfl
    · exact Or.inr rfl
  have h01_v7 : v7 = 0 ∨ v7 = 1 := by
    rw [hv7]; split
    · exact Or.inl rfl
    · exact Or.inr rfl
  obtain ⟨T14, h14, X14, e14, E14, A14, D14, -, st14⟩ := newO X0 hx hZ hown (hw _ (List.mem_of_getElem? (i := 0) rfl)) (hw _ (List.mem_of_getElem? (i := 1) rfl)) (hw _ (List.mem_of_getElem? (i := 2) rfl)) e0 (g := (mkF m 56 #[.val (.int p1), .val (.int p2), .val (.int p3), .val (.int p4), .val (.int v3), .val (.int v7), .val (.int (((p4.toUInt32 >>> ((2 : Int32) &&& 31).toUInt32).toInt32) &&& (3 : Int32))), .val (.int v12), .unset, .unset, .unset, .unset] [])) rfl (hb hby at_56) (by decide) (by decide)
  obtain ⟨b14, g14⟩ : ∃ z, z = h0.size := ⟨_, rfl⟩
  rw [← g14] at A14 D14 st14
  have g_b14 : n0 ≤ b14 := Nat.le_trans Z0 (Nat.le_of_eq g14.symm)
  have sz_b14 : h0.size ≤ b14 := (Nat.le_trans (Keep.refl h0 []).1 (Nat.le_of_eq g14.symm))
  have F_lower_b14 : Fld Z h14 b14 "com/example/weir3/weir3/core/Range" "lower" "D" (.double (FP.l2d (0 : Int64))) := Fld.zeroD (D14 (Or.inr (hw _ (List.mem_of_getElem? (i := 15) rfl))) (ty := .double) (by decide))
  have F_lowerIncluded_b14 : Fld Z h14 b14 "com/example/weir3/weir3/core/Range" "lowerIncluded" "Z" (.int (0 : Int32)) := (D14 (Or.inr (hw _ (List.mem_of_getElem? (i := 17) rfl))) (ty := .boolean) (by decide))
  have F_upper_b14 : Fld Z h14 b14 "com/example/weir3/weir3/core/Range" "upper" "D" (.double (FP.l2d (0 : Int64))) := Fld.zeroD (D14 (Or.inr (hw _ (List.mem_of_getElem? (i := 19) rfl))) (ty := .double) (by decide))
  have F_upperIncluded_b14 : Fld Z h14 b14 "com/example/weir3/weir3/core/Range" "upperIncluded" "Z" (.int (0 : Int32)) := (D14 (Or.inr (hw _ (List.mem_of_getElem? (i := 21) rfl))) (ty := .boolean) (by decide))
  have K14 : Keep h0 h14 [] := (Keep.refl h0 []).ext E14
  have Z14 : n0 ≤ h14.size := Nat.le_trans Z0 E14.1
  obtain ⟨_, _, ⟨T15, L15, k15, n15⟩, -, X15, ⟨Lc15, hQ15, l15, y15, z15⟩, st15⟩ := X14.specialBack hx (y := (⟨"com/example/weir3/weir3/core/Range", "<init>", "(DZDZ)V"⟩ : MethodName)) rfl hown (mvT hZ (hw _ (List.mem_of_getElem? (i := 3) rfl))) (mvT hZ (hw _ (List.mem_of_getElem? (i := 4) rfl))) (mvT hZ (hw _ (List.mem_of_getElem? (i := 5) rfl))) (by decide) (backOf (W := 1) (rmI l Z a0 hw [] b14 (FP.l2d p1.toInt64) v3 (FP.l2d p2.toInt64) v7 (.double (FP.l2d (0 : Int64))) (.int (0 : Int32)) (.double (FP.l2d (0 : Int64))) (.int (0 : Int32)) h14 n0 Z14 A14 F_lower_b14 F_lowerIncluded_b14 F_upper_b14 F_upperIncluded_b14 g_b14) hZ (hw _ (List.mem_of_getElem? (i := 5) rfl)) (hw _ (List.mem_of_getElem? (i := 2) rfl)) (by decide) (by decide)) (g := (mkF m 68 #[.val (.int p1), .val (.int p2), .val (.int p3), .val (.int p4), .val (.int v3), .val (.int v7), .val (.int (((p4.toUInt32 >>> ((2 : Int32) &&& 31).toUInt32).toInt32) &&& (3 : Int32))), .val (.int v12), .unset, .unset, .unset, .unset] [(.int v7), (.double (FP.l2d p2.toInt64)), (.int v3), (.double (FP.l2d p1.toInt64)), (.ref b14), (.ref b14)])) rfl (by rw [hml]; rfl) (Steps.refl _) (a := b14) (argsL := [(.double (FP.l2d p1.toInt64)), (.int v3), (.double (FP.l2d p2.toInt64)), (.int v7)]) (rest := [(.ref b14)]) (lenOf pd__28DZDZ_29V rfl) rfl (by show 2 * 0 + _ ≤ _; exact Nat.le_of_eq rfl) (hb hby at_68) (fun _ _ => ⟨rfl, e14, (by decide : 1 + 0 ≤ _), (by decide : 4 + 0 ≤ _)⟩)
  dsimp only [Pt.U, Pt.locs, Pt.cells, Pt.slots] at X15 l15 y15 z15 st15 hQ15
  subst l15 y15 z15
  obtain ⟨h15, e15⟩ : ∃ h', T15.heap = h' := ⟨_, rfl⟩
  rw [e15] at hQ15
  obtain ⟨rfl, N15q, K15q, Eq15, Fq_lower_15, Fq_lowerIncluded_15, Fq_upper_15, Fq_upperIncluded_15⟩ := hQ15
  have K15 : Keep h0 h15 [] := K14.trans K15q (allS (Or.inr sz_b14) all0)
  have Z15 : n0 ≤ h15.size := Nat.le_trans Z14 K15q.1
  have N15 := Fr.app N0 N15q
  rw [own_nar h01_v3] at Fq_lowerIncluded_15
  rw [own_nar h01_v7] at Fq_upperIncluded_15
  have c16 : ∀ t, Steps p.tables e below (T15.setTop (mkF m 76 #[.val (.int p1), .val (.int p2), .val (.int p3), .val (.int p4), .val (.int v3), .val (.int v7), .val (.int (((p4.toUInt32 >>> ((2 : Int32) &&& 31).toUInt32).toInt32) &&& (3 : Int32))), .val (.int v12), .val (.ref b14), .unset, .unset, .unset] [(.int p1), (.int v12)])) t → Steps p.tables e below (s₁.setTop (mkF m 54 #[.val (.int p1), .val (.int p2), .val (.int p3), .val (.int p4), .val (.int v3), .val (.int v7), .val (.int (((p4.toUInt32 >>> ((2 : Int32) &&& 31).toUInt32).toInt32) &&& (3 : Int32))), .unset, .unset, .unset, .unset, .unset] [(.int v12)])) t := by
    intro t kt
    show Steps p.tables e below (s₁.setTop (mkF m 54 #[.val (.int p1), .val (.int p2), .val (.int p3), .val (.int p4), .val (.int v3), .val (.int v7), .val (.int (((p4.toUInt32 >>> ((2 : Int32) &&& 31).toUInt32).toInt32) &&& (3 : Int32))), .unset, .unset, .unset, .unset, .unset] [(.int v12)])) _
    refine XS.istore X0.here hx rfl (hb hby at_54) rfl (l' := #[.val (.int p1), .val (.int p2), .val (.int p3), .val (.int p4), .val (.int v3), .val (.int v7), .val (.int (((p4.toUInt32 >>> ((2 : Int32) &&& 31).toUInt32).toInt32) &&& (3 : Int32))), .val (.int v12), .unset, .unset, .unset, .unset]) rfl ?_
    show Steps p.tables e below (s₁.setTop (mkF m 56 #[.val (.int p1), .val (.int p2), .val (.int p3), .val (.int p4), .val (.int v3), .val (.int v7), .val (.int (((p4.toUInt32 >>> ((2 : Int32) &&& 31).toUInt32).toInt32) &&& (3 : Int32))), .val (.int v12), .unset, .unset, .unset, .unset] [])) _
    refine st14 _ ?_
    show Steps p.tables e below (T14.setTop (mkF m 59 #[.val (.int p1), .val (.int p2), .val (.int p3), .val (.int p4), .val (.int v3), .val (.int v7), .val (.int (((p4.toUInt32 >>> ((2 : Int32) &&& 31).toUInt32).toInt32) &&& (3 : Int32))), .val (.int v12), .unset, .unset, .unset, .unset] [(.ref b14)])) _
    refine XS.dup X14.here hx rfl (hb hby at_59) rfl rfl ?_
    show Steps p.tables e below (T14.setTop (mkF m 60 #[.val (.int p1), .val (.int p2), .val (.int p3), .val (.int p4), .val (.int v3), .val (.int v7), .val (.int (((p4.toUInt32 >>> ((2 : Int32) &&& 31).toUInt32).toInt32) &&& (3 : Int32))), .val (.int v12), .unset, .unset, .unset, .unset] [(.ref b14), (.ref b14)])) _
    refine XS.iloadN X14.here hx rfl (hb hby at_60) rfl ?_
    show Steps p.tables e below (T14.setTop (mkF m 61 #[.val (.int p1), .val (.int p2), .val (.int p3), .val (.int p4), .val (.int v3), .val (.int v7), .val (.int (((p4.toUInt32 >>> ((2 : Int32) &&& 31).toUInt32).toInt32) &&& (3 : Int32))), .val (.int v12), .unset, .unset, .unset, .unset] [(.int p1), (.ref b14), (.ref b14)])) _
    refine XS.i2dS X14.here hx rfl (v := (FP.l2d p1.toInt64)) (hb hby at_61) rfl (i2d_w _) ?_
    show Steps p.tables e below (T14.setTop (mkF m 62 #[.val (.int p1), .val (.int p2), .val (.int p3), .val (.int p4), .val (.int v3), .val (.int v7), .val (.int (((p4.toUInt32 >>> ((2 : Int32) &&& 31).toUInt32).toInt32) &&& (3 : Int32))), .val (.int v12), .unset, .unset, .unset, .unset] [(.double (FP.l2d p1.toInt64)), (.ref b14), (.ref b14)])) _
    refine XS.iload X14.here hx rfl (hb hby at_62) rfl ?_
    show Steps p.tables e below (T14.setTop (mkF m 64 #[.val (.int p1), .val (.int p2), .val (.int p3), .val (.int p4), .val (.int v3), .val (.int v7), .val (.int (((p4.toUInt32 >>> ((2 : Int32) &&& 31).toUInt32).toInt32) &&& (3 : Int32))), .val (.int v12), .unset, .unset, .unset, .unset] [(.int v3), (.double (FP.l2d p1.toInt64)), (.ref b14), (.ref b14)])) _
    refine XS.iloadN X14.here hx rfl (hb hby at_64) rfl ?_
    show Steps p.tables e below (T14.setTop (mkF m 65 #[.val (.int p1), .val (.int p2), .val (.int p3), .val (.int p4), .val (.int v3), .val (.int v7), .val (.int (((p4.toUInt32 >>> ((2 : Int32) &&& 31).toUInt32).toInt32) &&& (3 : Int32))), .val (.int v12), .unset, .unset, .unset, .unset] [(.int p2), (.int v3), (.double (FP.l2d p1.toInt64)), (.ref b14), (.ref b14)])) _
    refine XS.i2dS X14.here hx rfl (v := (FP.l2d p2.toInt64)) (hb hby at_65) rfl (i2d_w _) ?_
    show Steps p.tables e below (T14.setTop (mkF m 66 #[.val (.int p1), .val (.int p2), .val (.int p3), .val (.int p4), .val (.int v3), .val (.int v7), .val (.int (((p4.toUInt32 >>> ((2 : Int32) &&& 31).toUInt32).toInt32) &&& (3 : Int32))), .val (.int v12), .unset, .unset, .unset, .unset] [(.double (FP.l2d p2.toInt64)), (.int v3), (.double (FP.l2d p1.toInt64)), (.ref b14), (.ref b14)])) _
    refine XS.iload X14.here hx rfl (hb hby at_66) rfl ?_
    show Steps p.tables e below (T14.setTop (mkF m 68 #[.val (.int p1), .val (.int p2), .val (.int p3), .val (.int p4), .val (.int v3), .val (.int v7), .val (.int (((p4.toUInt32 >>> ((2 : Int32) &&& 31).toUInt32).toInt32) &&& (3 : Int32))), .val (.int v12), .unset, .unset, .unset, .unset] [(.int v7), (.double (FP.l2d p2.toInt64)), (.int v3), (.double (FP.l2d p1.toInt64)), (.ref b14), (.ref b14)])) _
    refine st15.trans ?_
    show Steps p.tables e below (T15.setTop (mkF m 71 #[.val (.int p1), .val (.int p2), .val (.int p3), .val (.int p4), .val (.int v3), .val (.int v7), .val (.int (((p4.toUInt32 >>> ((2 : Int32) &&& 31).toUInt32).toInt32) &&& (3 : Int32))), .val (.int v12), .unset, .unset, .unset, .unset] [(.ref b14)])) _
    refine XS.astore X15.here hx rfl (hb hby at_71) rfl rfl (l' := #[.val (.int p1), .val (.int p2), .val (.int p3), .val (.int p4), .val (.int v3), .val (.int v7), .val (.int (((p4.toUInt32 >>> ((2 : Int32) &&& 31).toUInt32).toInt32) &&& (3 : Int32))), .val (.int v12), .val (.ref b14), .unset, .unset, .unset]) rfl ?_
    show Steps p.tables e below (T15.setTop (mkF m 73 #[.val (.int p1), .val (.int p2), .val (.int p3), .val (.int p4), .val (.int v3), .val (.int v7), .val (.int (((p4.toUInt32 >>> ((2 : Int32) &&& 31).toUInt32).toInt32) &&& (3 : Int32))), .val (.int v12), .val (.ref b14), .unset, .unset, .unset] [])) _
    refine XS.iload X15.here hx rfl (hb hby at_73) rfl ?_
    show Steps p.tables e below (T15.setTop (mkF m 75 #[.val (.int p1), .val (.int p2), .val (.int p3), .val (.int p4), .val (.int v3), .val (.int v7), .val (.int (((p4.toUInt32 >>> ((2 : Int32) &&& 31).toUInt32).toInt32) &&& (3 : Int32))), .val (.int v12), .val (.ref b14), .unset, .unset, .unset] [(.int v12)])) _
    refine XS.iloadN X15.here hx rfl (hb hby at_75) rfl ?_
    exact kt
  obtain ⟨v20, hv20⟩ : ∃ z, z = (if p1 < v12 then (1 : Int32) else (if v3 = (0 : Int32) then (0 : Int32) else (if v12 = p1 then (1 : Int32) else (0 : Int32)))) := ⟨_, rfl⟩
  have c21 : ∀ t, Steps p.tables e below (T15.setTop (mkF m 95 #[.val (.int p1), .val (.int p2), .val (.int p3), .val (.int p4), .val (.int v3), .val (.int v7), .val (.int (((p4.toUInt32 >>> ((2 : Int32) &&& 31).toUInt32).toInt32) &&& (3 : Int32))), .val (.int v12), .val (.ref b14), .unset, .unset, .unset] [(.int v20)])) t → Steps p.tables e below (T15.setTop (mkF m 76 #[.val (.int p1), .val (.int p2), .val (.int p3), .val (.int p4), .val (.int v3), .val (.int v7), .val (.int (((p4.toUInt32 >>> ((2 : Int32) &&& 31).toUInt32).toInt32) &&& (3 : Int32))), .val (.int v12), .val (.ref b14), .unset, .unset, .unset] [(.int p1), (.int v12)])) t := by
    intro t kt
    by_cases j76_17 : p1 < v12
    · show Steps p.tables e below (T15.setTop (mkF m 76 #[.val (.int p1), .val (.int p2), .val (.int p3), .val (.int p4), .val (.int v3), .val (.int v7), .val (.int (((p4.toUInt32 >>> ((2 : Int32) &&& 31).toUInt32).toInt32) &&& (3 : Int32))), .val (.int v12), .val (.ref b14), .unset, .unset, .unset] [(.int p1), (.int v12)])) _
      refine XS.icmpYes X15.here hx rfl (pc0 := 76) (pc' := 90) rfl (hb hby at_76) rfl (tlt j76_17).2.2.1 (by decide) (by decide) ?_
      show Steps p.tables e below (T15.setTop (mkF m 90 #[.val (.int p1), .val (.int p2), .val (.int p3), .val (.int p4), .val (.int v3), .val (.int v7), .val (.int (((p4.toUInt32 >>> ((2 : Int32) &&& 31).toUInt32).toInt32) &&& (3 : Int32))), .val (.int v12), .val (.ref b14), .unset, .unset, .unset] [])) _
      refine XS.iconst X15.here hx rfl (hb hby at_90) ?_
      show Steps p.tables e below (T15.setTop (mkF m 91 #[.val (.int p1), .val (.int p2), .val (.int p3), .val (.int p4), .val (.int v3), .val (.int v7), .val (.int (((p4.toUInt32 >>> ((2 : Int32) &&& 31).toUInt32).toInt32) &&& (3 : Int32))), .val (.int v12), .val (.ref b14), .unset, .unset, .unset] [(.int (1 : Int32))])) _
      refine XS.goto X15.here hx rfl (pc0 := 91) (pc' := 95) rfl (hb hby at_91) (by decide) (by decide) ?_
      obtain rfl : v20 = (1 : Int32) := by rw [hv20, if_pos j76_17]
      exact kt
    · show Steps p.tables e below (T15.setTop (mkF m 76 #[.val (.int p1), .val (.int p2), .val (.int p3), .val (.int p4), .val (.int v3), .val (.int v7), .val (.int (((p4.toUInt32 >>> ((2 : Int32) &&& 31).toUInt32).toInt32) &&& (3 : Int32))), .val (.int v12), .val (.ref b14), .unset, .unset, .unset] [(.int p1), (.int v12)])) _
      refine XS.icmpNo X15.here hx rfl (hb hby at_76) rfl (flt j76_17).2.2.1 ?_
      show Steps p.tables e below (T15.setTop (mkF m 79 #[.val (.int p1), .val (.int p2), .val (.int p3), .val (.int p4), .val (.int v3), .val (.int v7), .val (.int (((p4.toUInt32 >>> ((2 : Int32) &&& 31).toUInt32).toInt32) &&& (3 : Int32))), .val (.int v12), .val (.ref b14), .unset, .unset, .unset] [])) _
      refine XS.iload X15.here hx rfl (hb hby at_79) rfl ?_
      by_cases j81_18 : v3 = (0 : Int32)
      · show Steps p.tables e below (T15.setTop (mkF m 81 #[.val (.int p1), .val (.int p2), .val (.int p3), .val (.int p4), .val (.int v3), .val (.int v7), .val (.int (((p4.toUInt32 >>> ((2 : Int32) &&& 31).toUInt32).toInt32) &&& (3 : Int32))), .val (.int v12), .val (.ref b14), .unset, .unset, .unset] [(.int v3)])) _
        refine XS.ifYes X15.here hx rfl (pc0 := 81) (pc' := 94) rfl (hb hby at_81) rfl ((if0 _ _).trans (teq j81_18).1) (by decide) (by decide) ?_
        show Steps p.tables e below (T15.setTop (mkF m 94 #[.val (.int p1), .val (.int p2), .val (.int p3), .val (.int p4), .val (.int v3), .val (.int v7), .val (.int (((p4.toUInt32 >>> ((2 : Int32) &&& 31).toUInt32).toInt32) &&& (3 : Int32))), .val (.int v12), .val (.ref b14), .unset, .unset, .unset] [])) _
        refine XS.iconst X15.here hx rfl (hb hby at_94) ?_
        obtain rfl : v20 = (0 : Int32) := by rw [hv20, if_neg j76_17, if_pos j81_18]
        exact kt
      · show Steps p.tables e below (T15.setTop (mkF m 81 #[.val (.int p1), .val (.int p2), .val (.int p3), .val (.int p4), .val (.int v3), .val (.int v7), .val (.int (((p4.toUInt32 >>> ((2 : Int32) &&& 31).toUInt32).toInt32) &&& (3 : Int32))), .val (.int v12), .val (.ref b14), .unset, .unset, .unset] [(.int v3)])) _
        refine XS.ifNo X15.here hx rfl (hb hby at_81) rfl ((if0 _ _).trans (feq j81_18).1) ?_
        show Steps p.tables e below (T15.setTop (mkF m 84 #[.val (.int p1), .val (.int p2), .val (.int p3), .val (.int p4), .val (.int v3), .val (.int v7), .val (.int (((p4.toUInt32 >>> ((2 : Int32) &&& 31).toUInt32).toInt32) &&& (3 : Int32))), .val (.int v12), .val (.ref b14), .unset, .unset, .unset] [])) _
        refine XS.iload X15.here hx rfl (hb hby at_84) rfl ?_
        show Steps p.tables e below (T15.setTop (mkF m 86 #[.val (.int p1), .val (.int p2), .val (.int p3), .val (.int p4), .val (.int v3), .val (.int v7), .val (.int (((p4.toUInt32 >>> ((2 : Int32) &&& 31).toUInt32).toInt32) &&& (3 : Int32))), .val (.int v12), .val (.ref b14), .unset, .unset, .unset] [(.int v12)])) _
        refine XS.iloadN X15.here hx rfl (hb hby at_86) rfl ?_
        by_cases j87_19 : v12 = p1
        · show Steps p.tables e below (T15.setTop (mkF m 87 #[.val (.int p1), .val (.int p2), .val (.int p3), .val (.int p4), .val (.int v3), .val (.int v7), .val (.int (((p4.toUInt32 >>> ((2 : Int32) &&& 31).toUInt32).toInt32) &&& (3 : Int32))), .val (.int v12), .val (.ref b14), .unset, .unset, .unset] [(.int p1), (.int v12)])) _
          refine XS.icmpNo X15.here hx rfl (hb hby at_87) rfl (teq j87_19).2 ?_
          show Steps p.tables e below (T15.setTop (mkF m 90 #[.val (.int p1), .val (.int p2), .val (.int p3), .val (.int p4), .val (.int v3), .val (.int v7), .val (.int (((p4.toUInt32 >>> ((2 : Int32) &&& 31).toUInt32).toInt32) &&& (3 : Int32))), .val (.int v12), .val (.ref b14), .unset, .unset, .unset] [])) _
          refine XS.iconst X15.here hx rfl (hb hby at_90) ?_
          show Steps p.tables e below (T15.setTop (mkF m 91 #[.val (.int p1), .val (.int p2), .val (.int p3), .val (.int p4), .val (.int v3), .val (.int v7), .val (.int (((p4.toUInt32 >>> ((2 : Int32) &&& 31).toUInt32).toInt32) &&& (3 : Int32))), .val (.int v12), .val (.ref b14), .unset, .unset, .unset] [(.int (1 : Int32))])) _
          refine XS.goto X15.here hx rfl (pc0 := 91) (pc' := 95) rfl (hb hby at_91) (by decide) (by decide) ?_
          obtain rfl : v20 = (1 : Int32) := by rw [hv20, if_neg j76_17, if_neg j81_18, if_pos j87_19]
          exact kt
        · show Steps p.tables e below (T15.setTop (mkF m 87 #[.val (.int p1), .val (.int p2), .val (.int p3), .val (.int p4), .val (.int v3), .val (.int v7), .val (.int (((p4.toUInt32 >>> ((2 : Int32) &&& 31).toUInt32).toInt32) &&& (3 : Int32))), .val (.int v12), .val (.ref b14), .unset, .unset, .unset] [(.int p1), (.int v12)])) _
          refine XS.icmpYes X15.here hx rfl (pc0 := 87) (pc' := 94) rfl (hb hby at_87) rfl (feq j87_19).2 (by decide) (by decide) ?_
          show Steps p.tables e below (T15.setTop (mkF m 94 #[.val (.int p1), .val (.int p2), .val (.int p3), .val (.int p4), .val (.int v3), .val (.int v7), .val (.int (((p4.toUInt32 >>> ((2 : Int32) &&& 31).toUInt32).toInt32) &&& (3 : Int32))), .val (.int v12), .val (.ref b14), .unset, .unset, .unset] [])) _
          refine XS.iconst X15.here hx rfl (hb hby at_94) ?_
          obtain rfl : v20 = (0 : Int32) := by rw [hv20, if_neg j76_17, if_neg j81_18, if_neg j87_19]
          exact kt
  have c22 : ∀ t, Steps p.tables e below (T15.setTop (mkF m 100 #[.val (.int p1), .val (.int p2), .val (.int p3), .val (.int p4), .val (.int v3), .val (.int v7), .val (.int (((p4.toUInt32 >>> ((2 : Int32) &&& 31).toUInt32).toInt32) &&& (3 : Int32))), .val (.int v12), .val (.ref b14), .val (.int v20), .unset, .unset] [(.int p2), (.int v12)])) t → Steps p.tables e below (T15.setTop (mkF m 95 #[.val (.int p1), .val (.int p2), .val (.int p3), .val (.int p4), .val (.int v3), .val (.int v7), .val (.int (((p4.toUInt32 >>> ((2 : Int32) &&& 31).toUInt32).toInt32) &&& (3 : Int32))), .val (.int v12), .val (.ref b14), .unset, .unset, .unset] [(.int v20)])) t := by
    intro t kt
    show Steps p.tables e below (T15.setTop (mkF m 95 #[.val (.int p1), .val (.int p2), .val (.int p3), .val (.int p4), .val (.int v3), .val (.int v7), .val (.int (((p4.toUInt32 >>> ((2 : Int32) &&& 31).toUInt32).toInt32) &&& (3 : Int32))), .val (.int v12), .val (.ref b14), .unset, .unset, .unset] [(.int v20)])) _
    refine XS.istore X15.here hx rfl (hb hby at_95) rfl (l' := #[.val (.int p1), .val (.int p2), .val (.int p3), .val (.int p4), .val (.int v3), .val (.int v7), .val (.int (((p4.toUInt32 >>> ((2 : Int32) &&& 31).toUInt32).toInt32) &&& (3 : Int32))), .val (.int v12), .val (.ref b14), .val (.int v20), .unset, .unset]) rfl ?_
    show Steps p.tables e below (T15.setTop (mkF m 97 #[.val (.int p1), .val (.int p2), .val (.int p3), .val (.int p4), .val (.int v3), .val (.int v7), .val (.int (((p4.toUInt32 >>> ((2 : Int32) &&& 31).toUInt32).toInt32) &&& (3 : Int32))), .val (.int v12), .val (.ref b14), .val (.int v20), .unset, .unset] [])) _
    refine XS.iload X15.here hx rfl (hb hby at_97) rfl ?_
    show Steps p.tables e below (T15.setTop (mkF m 99 #[.val (.int p1), .val (.int p2), .val (.int p3), .val (.int p4), .val (.int v3), .val (.int v7), .val (.int (((p4.toUInt32 >>> ((2 : Int32) &&& 31).toUInt32).toInt32) &&& (3 : Int32))), .val (.int v12), .val (.ref b14), .val (.int v20), .unset, .unset] [(.int v12)])) _
    refine XS.iloadN X15.here hx rfl (hb hby at_99) rfl ?_
    exact kt
  obtain ⟨v26, hv26⟩ : ∃ z, z = (if v12 < p2 then (1 : Int32) else (if v7 = (0 : Int32) then (0 : Int32) else (if v12 = p2 then (1 : Int32) else (0 : Int32)))) := ⟨_, rfl⟩
  have c27 : ∀ t, Steps p.tables e below (T15.setTop (mkF m 119 #[.val (.int p1), .val (.int p2), .val (.int p3), .val (.int p4), .val (.int v3), .val (.int v7), .val (.int (((p4.toUInt32 >>> ((2 : Int32) &&& 31).toUInt32).toInt32) &&& (3 : Int32))), .val (.int v12), .val (.ref b14), .val (.int v20), .unset, .unset] [(.int v26)])) t → Steps p.tables e below (T15.setTop (mkF m 100 #[.val (.int p1), .val (.int p2), .val (.int p3), .val (.int p4), .val (.int v3), .val (.int v7), .val (.int (((p4.toUInt32 >>> ((2 : Int32) &&& 31).toUInt32).toInt32) &&& (3 : Int32))), .val (.int v12), .val (.ref b14), .val (.int v20), .unset, .unset] [(.int p2), (.int v12)])) t := by
    intro t kt
    by_cases j100_23 : v12 < p2
    · show Steps p.tables e below (T15.setTop (mkF m 100 #[.val (.int p1), .val (.int p2), .val (.int p3), .val (.int p4), .val (.int v3), .val (.int v7), .val (.int (((p4.toUInt32 >>> ((2 : Int32) &&& 31).toUInt32).toInt32) &&& (3 : Int32))), .val (.int v12), .val (.ref b14), .val (.int v20), .unset, .unset] [(.int p2), (.int v12)])) _
      refine XS.icmpYes X15.here hx rfl (pc0 := 100) (pc' := 114) rfl (hb hby at_100) rfl (tlt j100_23).1 (by decide) (by decide) ?_
      show Steps p.tables e below (T15.setTop (mkF m 114 #[.val (.int p1), .val (.int p2), .val (.int p3), .val (.int p4), .val (.int v3), .val (.int v7), .val (.int (((p4.toUInt32 >>> ((2 : Int32) &&& 31).toUInt32).toInt32) &&& (3 : Int32))), .val (.int v12), .val (.ref b14), .val (.int v20), .unset, .unset] [])) _
      refine XS.iconst X15.here hx rfl (hb hby at_114) ?_
      show Steps p.tables e below (T15.setTop (mkF m 115 #[.val (.int p1), .val (.int p2), .val (.int p3), .val (.int p4), .val (.int v3), .val (.int v7), .val (.int (((p4.toUInt32 >>> ((2 : Int32) &&& 31).toUInt32).toInt32) &&& (3 : Int32))), .val (.int v12), .val (.ref b14), .val (.int v20), .unset, .unset] [(.int (1 : Int32))])) _
      refine XS.goto X15.here hx rfl (pc0 := 115) (pc' := 119) rfl (hb hby at_115) (by decide) (by decide) ?_
      obtain rfl : v26 = (1 : Int32) := by rw [hv26, if_pos j100_23]
      exact kt
    · show Steps p.tables e below (T15.setTop (mkF m 100 #[.val (.int p1), .val (.int p2), .val (.int p3), .val (.int p4), .val (.int v3), .val (.int v7), .val (.int (((p4.toUInt32 >>> ((2 : Int32) &&& 31).toUInt32).toInt32) &&& (3 : Int32))), .val (.int v12), .val (.ref b14), .val (.int v20), .unset, .unset] [(.int p2), (.int v12)])) _
      refine XS.icmpNo X15.here hx rfl (hb hby at_100) rfl (flt j100_23).1 ?_
      show Steps p.tables e below (T15.setTop (mkF m 103 #[.val (.int p1), .val (.int p2), .val (.int p3), .val (.int p4), .val (.int v3), .val (.int v7), .val (.int (((p4.toUInt32 >>> ((2 : Int32) &&& 31).toUInt32).toInt32) &&& (3 : Int32))), .val (.int v12), .val (.ref b14), .val (.int v20), .unset, .unset] [])) _
      refine XS.iload X15.here hx rfl (hb hby at_103) rfl ?_
      by_cases j105_24 : v7 = (0 : Int32)
      · show Steps p.tables e below (T15.setTop (mkF m 105 #[.val (.int p1), .val (.int p2), .val (.int p3), .val (.int p4), .val (.int v3), .val (.int v7), .val (.int (((p4.toUInt32 >>> ((2 : Int32) &&& 31).toUInt32).toInt32) &&& (3 : Int32))), .val (.int v12), .val (.ref b14), .val (.int v20), .unset, .unset] [(.int v7)])) _
        refine XS.ifYes X15.here hx rfl (pc0 := 105) (pc' := 118) rfl (hb hby at_105) rfl ((if0 _ _).trans (teq j105_24).1) (by decide) (by decide) ?_
        show Steps p.tables e below (T15.setTop (mkF m 118 #[.val (.int p1), .val (.int p2), .val (.int p3), .val (.int p4), .val (.int v3), .val (.int v7), .val (.int (((p4.toUInt32 >>> ((2 : Int32) &&& 31).toUInt32).toInt32) &&& (3 : Int32))), .val (.int v12), .val (.ref b14), .val (.int v20), .unset, .unset] [])) _
        refine XS.iconst X15.here hx rfl (hb hby at_118) ?_
        obtain rfl : v26 = (0 : Int32) := by rw [hv26, if_neg j100_23, if_pos j105_24]
        exact kt
      · show Steps p.tables e below (T15.setTop (mkF m 105 #[.val (.int p1), .val (.int p2), .val (.int p3), .val (.int p4), .val (.int v3), .val (.int v7), .val (.int (((p4.toUInt32 >>> ((2 : Int32) &&& 31).toUInt32).toInt32) &&& (3 : Int32))), .val (.int v12), .val (.ref b14), .val (.int v20), .unset, .unset] [(.int v7)])) _
        refine XS.ifNo X15.here hx rfl (hb hby at_105) rfl ((if0 _ _).trans (feq j105_24).1) ?_
        show Steps p.tables e below (T15.setTop (mkF m 108 #[.val (.int p1), .val (.int p2), .val (.int p3), .val (.int p4), .val (.int v3), .val (.int v7), .val (.int (((p4.toUInt32 >>> ((2 : Int32) &&& 31).toUInt32).toInt32) &&& (3 : Int32))), .val (.int v12), .val (.ref b14), .val (.int v20), .unset, .unset] [])) _
        refine XS.iload X15.here hx rfl (hb hby at_108) rfl ?_
        show Steps p.tables e below (T15.setTop (mkF m 110 #[.val (.int p1), .val (.int p2), .val (.int p3), .val (.int p4), .val (.int v3), .val (.int v7), .val (.int (((p4.toUInt32 >>> ((2 : Int32) &&& 31).toUInt32).toInt32) &&& (3 : Int32))), .val (.int v12), .val (.ref b14), .val (.int v20), .unset, .unset] [(.int v12)])) _
        refine XS.iloadN X15.here hx rfl (hb hby at_110) rfl ?_
        by_cases j111_25 : v12 = p2
        · show Steps p.tables e below (T15.setTop (mkF m 111 #[.val (.int p1), .val (.int p2), .val (.int p3), .val (.int p4), .val (.int v3), .val (.int v7), .val (.int (((p4.toUInt32 >>> ((2 : Int32) &&& 31).toUInt32).toInt32) &&& (3 : Int32))), .val (.int v12), .val (.ref b14), .val (.int v20), .unset, .unset] [(.int p2), (.int v12)])) _
          refine XS.icmpNo X15.here hx rfl (hb hby at_111) rfl (teq j111_25).2 ?_
          show Steps p.tables e below (T15.setTop (mkF m 114 #[.val (.int p1), .val (.int p2), .val (.int p3), .val (.int p4), .val (.int v3), .val (.int v7), .val (.int (((p4.toUInt32 >>> ((2 : Int32) &&& 31).toUInt32).toInt32) &&& (3 : Int32))), .val (.int v12), .val (.ref b14), .val (.int v20), .unset, .unset] [])) _
          refine XS.iconst X15.here hx rfl (hb hby at_114) ?_
          show Steps p.tables e below (T15.setTop (mkF m 115 #[.val (.int p1), .val (.int p2), .val (.int p3), .val (.int p4), .val (.int v3), .val (.int v7), .val (.int (((p4.toUInt32 >>> ((2 : Int32) &&& 31).toUInt32).toInt32) &&& (3 : Int32))), .val (.int v12), .val (.ref b14), .val (.int v20), .unset, .unset] [(.int (1 : Int32))])) _
          refine XS.goto X15.here hx rfl (pc0 := 115) (pc' := 119) rfl (hb hby at_115) (by decide) (by decide) ?_
          obtain rfl : v26 = (1 : Int32) := by rw [hv26, if_neg j100_23, if_neg j105_24, if_pos j111_25]
          exact kt
        · show Steps p.tables e below (T15.setTop (mkF m 111 #[.val (.int p1), .val (.int p2), .val (.int p3), .val (.int p4), .val (.int v3), .val (.int v7), .val (.int (((p4.toUInt32 >>> ((2 : Int32) &&& 31).toUInt32).toInt32) &&& (3 : Int32))), .val (.int v12), .val (.ref b14), .val (.int v20), .unset, .unset] [(.int p2), (.int v12)])) _
          refine XS.icmpYes X15.here hx rfl (pc0 := 111) (pc' := 118) rfl (hb hby at_111) rfl (feq j111_25).2 (by decide) (by decide) ?_
          show Steps p.tables e below (T15.setTop (mkF m 118 #[.val (.int p1), .val (.int p2), .val (.int p3), .val (.int p4), .val (.int v3), .val (.int v7), .val (.int (((p4.toUInt32 >>> ((2 : Int32) &&& 31).toUInt32).toInt32) &&& (3 : Int32))), .val (.int v12), .val (.ref b14), .val (.int v20), .unset, .unset] [])) _
          refine XS.iconst X15.here hx rfl (hb hby at_118) ?_
          obtain rfl : v26 = (0 : Int32) := by rw [hv26, if_neg j100_23, if_neg j105_24, if_neg j111_25]
          exact kt
  have c28 : ∀ t, Steps p.tables e below (T15.setTop (mkF m 123 #[.val (.int p1), .val (.int p2), .val (.int p3), .val (.int p4), .val (.int v3), .val (.int v7), .val (.int (((p4.toUInt32 >>> ((2 : Int32) &&& 31).toUInt32).toInt32) &&& (3 : Int32))), .val (.int v12), .val (.ref b14), .val (.int v20), .val (.int v26), .unset] [(.int v20)])) t → Steps p.tables e below (T15.setTop (mkF m 119 #[.val (.int p1), .val (.int p2), .val (.int p3), .val (.int p4), .val (.int v3), .val (.int v7), .val (.int (((p4.toUInt32 >>> ((2 : Int32) &&& 31).toUInt32).toInt32) &&& (3 : Int32))), .val (.int v12), .val (.ref b14), .val (.int v20), .unset, .unset] [(.int v26)])) t := by
    intro t kt
    show Steps p.tables e below (T15.setTop (mkF m 119 #[.val (.int p1), .val (.int p2), .val (.int p3), .val (.int p4), .val (.int v3), .val (.int v7), .val (.int (((p4.toUInt32 >>> ((2 : Int32) &&& 31).toUInt32).toInt32) &&& (3 : Int32))), .val (.int v12), .val (.ref b14), .val (.int v20), .unset, .unset] [(.int v26)])) _
    refine XS.istore X15.here hx rfl (hb hby at_119) rfl (l' := #[.val (.int p1), .val (.int p2), .val (.int p3), .val (.int p4), .val (.int v3), .val (.int v7), .val (.int (((p4.toUInt32 >>> ((2 : Int32) &&& 31).toUInt32).toInt32) &&& (3 : Int32))), .val (.int v12), .val (.ref b14), .val (.int v20), .val (.int v26), .unset]) rfl ?_
    show Steps p.tables e below (T15.setTop (mkF m 121 #[.val (.int p1), .val (.int p2), .val (.int p3), .val (.int p4), .val (.int v3), .val (.int v7), .val (.int (((p4.toUInt32 >>> ((2 : Int32) &&& 31).toUInt32).toInt32) &&& (3 : Int32))), .val (.int v12), .val (.ref b14), .val (.int v20), .val (.int v26), .unset] [])) _
    refine XS.iload X15.here hx rfl (hb hby at_121) rfl ?_
    exact kt
  obtain ⟨v31, hv31⟩ : ∃ z, z = (if v20 = (0 : Int32) then (0 : Int32) else (if v26 = (0 : Int32) then (0 : Int32) else (1 : Int32))) := ⟨_, rfl⟩
  have c32 : ∀ t, Steps p.tables e below (T15.setTop (mkF m 136 #[.val (.int p1), .val (.int p2), .val (.int p3), .val (.int p4), .val (.int v3), .val (.int v7), .val (.int (((p4.toUInt32 >>> ((2 : Int32) &&& 31).toUInt32).toInt32) &&& (3 : Int32))), .val (.int v12), .val (.ref b14), .val (.int v20), .val (.int v26), .unset] [(.int v31)])) t → Steps p.tables e below (T15.setTop (mkF m 123 #[.val (.int p1), .val (.int p2), .val (.int p3), .val (.int p4), .val (.int v3), .val (.int v7), .val (.int (((p4.toUInt32 >>> ((2 : Int32) &&& 31).toUInt32).toInt32) &&& (3 : Int32))), .val (.int v12), .val (.ref b14), .val (.int v20), .val (.int v26), .unset] [(.int v20)])) t := by
    intro t kt
    by_cases j123_29 : v20 = (0 : Int32)
    · show Steps p.tables e below (T15.setTop (mkF m 123 #[.val (.int p1), .val (.int p2), .val (.int p3), .val (.int p4), .val (.int v3), .val (.int v7), .val (.int (((p4.toUInt32 >>> ((2 : Int32) &&& 31).toUInt32).toInt32) &&& (3 : Int32))), .val (.int v12), .val (.ref b14), .val (.int v20), .val (.int v26), .unset] [(.int v20)])) _
      refine XS.ifYes X15.here hx rfl (pc0 := 123) (pc' := 135) rfl (hb hby at_123) rfl ((if0 _ _).trans (teq j123_29).1) (by decide) (by decide) ?_
      show Steps p.tables e below (T15.setTop (mkF m 135 #[.val (.int p1), .val (.int p2), .val (.int p3), .val (.int p4), .val (.int v3), .val (.int v7), .val (.int (((p4.toUInt32 >>> ((2 : Int32) &&& 31).toUInt32).toInt32) &&& (3 : Int32))), .val (.int v12), .val (.ref b14), .val (.int v20), .val (.int v26), .unset] [])) _
      refine XS.iconst X15.here hx rfl (hb hby at_135) ?_
      obtain rfl : v31 = (0 : Int32) := by rw [hv31, if_pos j123_29]
      exact kt
    · show Steps p.tables e below (T15.setTop (mkF m 123 #[.val (.int p1), .val (.int p2), .val (.int p3), .val (.int p4), .val (.int v3), .val (.int v7), .val (.int (((p4.toUInt32 >>> ((2 : Int32) &&& 31).toUInt32).toInt32) &&& (3 : Int32))), .val (.int v12), .val (.ref b14), .val (.int v20), .val (.int v26), .unset] [(.int v20)])) _
      refine XS.ifNo X15.here hx rfl (hb hby at_123) rfl ((if0 _ _).trans (feq j123_29).1) ?_
      show Steps p.tables e below (T15.setTop (mkF m 126 #[.val (.int p1), .val (.int p2), .val (.int p3), .val (.int p4), .val (.int v3), .val (.int v7), .val (.int (((p4.toUInt32 >>> ((2 : Int32) &&& 31).toUInt32).toInt32) &&& (3 : Int32))), .val (.int v12), .val (.ref b14), .val (.int v20), .val (.int v26), .unset] [])) _
      refine XS.iload X15.here hx rfl (hb hby at_126) rfl ?_
      by_cases j128_30 : v26 = (0 : Int32)
      · show Steps p.tables e below (T15.setTop (mkF m 128 #[.val (.int p1), .val (.int p2), .val (.int p3), .val (.int p4), .val (.int v3), .val (.int v7), .val (.int (((p4.toUInt32 >>> ((2 : Int32) &&& 31).toUInt32).toInt32) &&& (3 : Int32))), .val (.int v12), .val (.ref b14), .val (.int v20), .val (.int v26), .unset] [(.int v26)])) _
        refine XS.ifYes X15.here hx rfl (pc0 := 128) (pc' := 135) rfl (hb hby at_128) rfl ((if0 _ _).trans (teq j128_30).1) (by decide) (by decide) ?_
        show Steps p.tables e below (T15.setTop (mkF m 135 #[.val (.int p1), .val (.int p2), .val (.int p3), .val (.int p4), .val (.int v3), .val (.int v7), .val (.int (((p4.toUInt32 >>> ((2 : Int32) &&& 31).toUInt32).toInt32) &&& (3 : Int32))), .val (.int v12), .val (.ref b14), .val (.int v20), .val (.int v26), .unset] [])) _
        refine XS.iconst X15.here hx rfl (hb hby at_135) ?_
        obtain rfl : v31 = (0 : Int32) := by rw [hv31, if_neg j123_29, if_pos j128_30]
        exact kt
      · show Steps p.tables e below (T15.setTop (mkF m 128 #[.val (.int p1), .val (.int p2), .val (.int p3), .val (.int p4), .val (.int v3), .val (.int v7), .val (.int (((p4.toUInt32 >>> ((2 : Int32) &&& 31).toUInt32).toInt32) &&& (3 : Int32))), .val (.int v12), .val (.ref b14), .val (.int v20), .val (.int v26), .unset] [(.int v26)])) _
        refine XS.ifNo X15.here hx rfl (hb hby at_128) rfl ((if0 _ _).trans (feq j128_30).1) ?_
        show Steps p.tables e below (T15.setTop (mkF m 131 #[.val (.int p1), .val (.int p2), .val (.int p3), .val (.int p4), .val (.int v3), .val (.int v7), .val (.int (((p4.toUInt32 >>> ((2 : Int32) &&& 31).toUInt32).toInt32) &&& (3 : Int32))), .val (.int v12), .val (.ref b14), .val (.int v20), .val (.int v26), .unset] [])) _
        refine XS.iconst X15.here hx rfl (hb hby at_131) ?_
        show Steps p.tables e below (T15.setTop (mkF m 132 #[.val (.int p1), .val (.int p2), .val (.int p3), .val (.int p4), .val (.int v3), .val (.int v7), .val (.int (((p4.toUInt32 >>> ((2 : Int32) &&& 31).toUInt32).toInt32) &&& (3 : Int32))), .val (.int v12), .val (.ref b14), .val (.int v20), .val (.int v26), .unset] [(.int (1 : Int32))])) _
        refine XS.goto X15.here hx rfl (pc0 := 132) (pc' := 136) rfl (hb hby at_132) (by decide) (by decide) ?_
        obtain rfl : v31 = (1 : Int32) := by rw [hv31, if_neg j123_29, if_neg j128_30]
        exact kt
  obtain ⟨cq33, kq33, q33a, q33b, q33c⟩ := isOf hZ e15 Eq15
  obtain ⟨_, _, ⟨T33, L33, k33, n33⟩, -, X33, ⟨Lc33, hQ33, l33, y33, z33⟩, st33⟩ := X15.virtualBack hx (y := (⟨"com/example/weir3/weir3/core/Range", "contains", "(D)Z"⟩ : MethodName)) (z := (⟨"com/example/weir3/weir3/core/Range", "contains", "(D)Z"⟩ : MethodName)) hown (mvT hZ (hw _ (List.mem_of_getElem? (i := 22) rfl))) (mvT hZ (hw _ (List.mem_of_getElem? (i := 23) rfl))) (notFace_of_selects (args := #[]) (mvT hZ (hw _ (List.mem_of_getElem? (i := 25) rfl)))) (mvT hZ (hw _ (List.mem_of_getElem? (i := 25) rfl))) (mvT hZ (hw _ (List.mem_of_getElem? (i := 24) rfl))) (by decide) (backOf (W := 0) (rmC l Z a0 hw [] b14 v12.toInt64 p1.toInt64 p2.toInt64 v3 v7 h15 n0 Z15 (BB.i32 _) (BB.i32 _) (BB.i32 _) Fq_lower_15 Fq_lowerIncluded_15 Fq_upper_15 Fq_upperIncluded_15) hZ (hw _ (List.mem_of_getElem? (i := 26) rfl)) (hw _ (List.mem_of_getElem? (i := 2) rfl)) (by decide) (by decide)) q33a q33c (g := (mkF m 143 #[.val (.int p1), .val (.int p2), .val (.int p3), .val (.int p4), .val (.int v3), .val (.int v7), .val (.int (((p4.toUInt32 >>> ((2 : Int32) &&& 31).toUInt32).toInt32) &&& (3 : Int32))), .val (.int v12), .val (.ref b14), .val (.int v20), .val (.int v26), .val (.int v31)] [(.double (FP.l2d v12.toInt64)), (.ref b14)])) rfl (by rw [hml]; rfl) (Steps.refl _) (argsL := [(.double (FP.l2d v12.toInt64))]) (rest := []) (lenOf pd__28D_29Z rfl) rfl (by show 2 * 0 + _ ≤ _; exact Nat.le_of_eq rfl) (hb hby at_143) (fun _ _ => ⟨rfl, e15, (by decide : 1 + 0 ≤ _), (by decide : 4 + 0 ≤ _)⟩)
  dsimp only [Pt.U, Pt.locs, Pt.cells, Pt.slots] at X33 l33 y33 z33 st33 hQ33
  subst l33 y33 z33
  obtain ⟨rfl, N33q, e33⟩ := hQ33
  have N33 := Fr.app N15 N33q
  obtain ⟨fs, hr, hrun, hended, hW, hsame⟩ := X33.leave (v := some (.int (1 : Int32))) (fun h => by rw [Bd.returns] at h; cases h)
  refine ⟨_, _, pre0 _ (c1 _ (c4 _ (c5 _ (c8 _ (c9 _ (c13 _ (c16 _ (c21 _ (c22 _ (c27 _ (c28 _ (c32 _ (?_))))))))))))), hrun, hended, _, _, rfl, ?_, ⟨_, rfl⟩, hW, hsame.mono (by decide) (by decide)⟩
  · show Steps p.tables e below (T15.setTop (mkF m 136 #[.val (.int p1), .val (.int p2), .val (.int p3), .val (.int p4), .val (.int v3), .val (.int v7), .val (.int (((p4.toUInt32 >>> ((2 : Int32) &&& 31).toUInt32).toInt32) &&& (3 : Int32))), .val (.int v12), .val (.ref b14), .val (.int v20), .val (.int v26), .unset] [(.int v31)])) _
    refine XS.istore X15.here hx rfl (hb hby at_136) rfl (l' := #[.val (.int p1), .val (.int p2), .val (.int p3), .val (.int p4), .val (.int v3), .val (.int v7), .val (.int (((p4.toUInt32 >>> ((2 : Int32) &&& 31).toUInt32).toInt32) &&& (3 : Int32))), .val (.int v12), .val (.ref b14), .val (.int v20), .val (.int v26), .val (.int v31)]) rfl ?_
    show Steps p.tables e below (T15.setTop (mkF m 138 #[.val (.int p1), .val (.int p2), .val (.int p3), .val (.int p4), .val (.int v3), .val (.int v7), .val (.int (((p4.toUInt32 >>> ((2 : Int32) &&& 31).toUInt32).toInt32) &&& (3 : Int32))), .val (.int v12), .val (.ref b14), .val (.int v20), .val (.int v26), .val (.int v31)] [])) _
    refine XS.aload X15.here hx rfl (hb hby at_138) rfl rfl ?_
    show Steps p.tables e below (T15.setTop (mkF m 140 #[.val (.int p1), .val (.int p2), .val (.int p3), .val (.int p4), .val (.int v3), .val (.int v7), .val (.int (((p4.toUInt32 >>> ((2 : Int32) &&& 31).toUInt32).toInt32) &&& (3 : Int32))), .val (.int v12), .val (.ref b14), .val (.int v20), .val (.int v26), .val (.int v31)] [(.ref b14)])) _
    refine XS.iload X15.here hx rfl (hb hby at_140) rfl ?_
    show Steps p.tables e below (T15.setTop (mkF m 142 #[.val (.int p1), .val (.int p2), .val (.int p3), .val (.int p4), .val (.int v3), .val (.int v7), .val (.int (((p4.toUInt32 >>> ((2 : Int32) &&& 31).toUInt32).toInt32) &&& (3 : Int32))), .val (.int v12), .val (.ref b14), .val (.int v20), .val (.int v26), .val (.int v31)] [(.int v12), (.ref b14)])) _
    refine XS.i2dS X15.here hx rfl (v := (FP.l2d v12.toInt64)) (hb hby at_142) rfl (i2d_w _) ?_
    show Steps p.tables e below (T15.setTop (mkF m 143 #[.val (.int p1), .val (.int p2), .val (.int p3), .val (.int p4), .val (.int v3), .val (.int v7), .val (.int (((p4.toUInt32 >>> ((2 : Int32) &&& 31).toUInt32).toInt32) &&& (3 : Int32))), .val (.int v12), .val (.ref b14), .val (.int v20), .val (.int v26), .val (.int v31)] [(.double (FP.l2d v12.toInt64)), (.ref b14)])) _
    refine st33.trans ?_
    show Steps p.tables e below (T33.setTop (mkF m 146 #[.val (.int p1), .val (.int p2), .val (.int p3), .val (.int p4), .val (.int v3), .val (.int v7), .val (.int (((p4.toUInt32 >>> ((2 : Int32) &&& 31).toUInt32).toInt32) &&& (3 : Int32))), .val (.int v12), .val (.ref b14), .val (.int v20), .val (.int v26), .val (.int v31)] [(.int (own_cont v12.toInt64 p1.toInt64 p2.toInt64 v3 v7))])) _
    refine XS.iload X33.here hx rfl (hb hby at_146) rfl ?_
    show Steps p.tables e below (T33.setTop (mkF m 148 #[.val (.int p1), .val (.int p2), .val (.int p3), .val (.int p4), .val (.int v3), .val (.int v7), .val (.int (((p4.toUInt32 >>> ((2 : Int32) &&& 31).toUInt32).toInt32) &&& (3 : Int32))), .val (.int v12), .val (.ref b14), .val (.int v20), .val (.int v26), .val (.int v31)] [(.int v31), (.int (own_cont v12.toInt64 p1.toInt64 p2.toInt64 v3 v7))])) _
    refine XS.icmpNo X33.here hx rfl (hb hby at_148) rfl (teq (own_cont_eq v12 p1 p2 v3 v7 v20 v26 v31 h01_v3 h01_v7 hv20 hv26 hv31)).2 ?_
    show Steps p.tables e below (T33.setTop (mkF m 151 #[.val (.int p1), .val (.int p2), .val (.int p3), .val (.int p4), .val (.int v3), .val (.int v7), .val (.int (((p4.toUInt32 >>> ((2 : Int32) &&& 31).toUInt32).toInt32) &&& (3 : Int32))), .val (.int v12), .val (.ref b14), .val (.int v20), .val (.int v26), .val (.int v31)] [])) _
    refine XS.iconst X33.here hx rfl (hb hby at_151) ?_
    show Steps p.tables e below (T33.setTop (mkF m 152 #[.val (.int p1), .val (.int p2), .val (.int p3), .val (.int p4), .val (.int v3), .val (.int v7), .val (.int (((p4.toUInt32 >>> ((2 : Int32) &&& 31).toUInt32).toInt32) &&& (3 : Int32))), .val (.int v12), .val (.ref b14), .val (.int v20), .val (.int v26), .val (.int v31)] [(.int (1 : Int32))])) _
    refine XS.goto X33.here hx rfl (pc0 := 152) (pc' := 156) rfl (hb hby at_152) (by decide) (by decide) ?_
    show Steps p.tables e below (T33.setTop (mkF m 156 #[.val (.int p1), .val (.int p2), .val (.int p3), .val (.int p4), .val (.int v3), .val (.int v7), .val (.int (((p4.toUInt32 >>> ((2 : Int32) &&& 31).toUInt32).toInt32) &&& (3 : Int32))), .val (.int v12), .val (.ref b14), .val (.int v20), .val (.int v26), .val (.int v31)] [(.int (1 : Int32))])) _
    exact retN X33 hx (t := .boolean) Bd.returns (by simp) (hb hby at_156) hr
  · show Qrm0 Z p1 p2 p3 p4 h0 n0 _ T33.heap _
    rw [e33]
    exact ⟨rfl, N33⟩
set_option maxRecDepth 65536 in
set_option maxHeartbeats 40000000 in
theorem comes_1 {Post : Tables → Env → Array Value → State → Outcome → State → Prop} (hpost : ∀ tb e args s v u, (limb_1_1.after args s (.returned v) u = true ∧ limb_1_2.after args s (.returned v) u = true ∧ True) → FrameEnd s (.returned v) u (Jvm.fieldLocs frame_1_writes args s ++ Jvm.arrayLocs frame_1_arrays args s ++ Jvm.staticLocs frame_1_statics s) 16 128 → Post tb e args s (.returned v) u) :
    ArmFor flags0 classFile x code maxLocals ret World_1 tables_1 room_1 Calls_1 rest_1 Pre_1 Post := by
  intro l hfl _ _ p e ha hc hk s m args below hf hA hF happ hP
  obtain ⟨hcalls, hrest, hpre⟩ := hP
  obtain ⟨-, -, -, hnamed, -, -, -, hat⟩ := (Spec.applies_iff hf).mp happ
  obtain ⟨hg, hn⟩ := and_e (Cond.before_iff.mp (show (Jvm.Cond.and given_1 narrow_1).before args s = true from hpre))
  obtain ⟨gc, r0⟩ := and_e hg
  obtain ⟨g0, r1⟩ := and_e r0
  obtain ⟨g1, r2⟩ := and_e r1
  obtain ⟨g2, r3⟩ := and_e r2
  have g3 := r3
  obtain ⟨w0, w1, w2, w3, rfl⟩ : ∃ w0 w1 w2 w3 : Value, args = #[w0, w1, w2, w3] := by
    have hs : args.size = 4 := by simpa [Cond.value, given_1] using gc
    obtain ⟨L⟩ := args
    match L, hs with
    | [w0, w1, w2, w3], _ => exact ⟨w0, w1, w2, w3, rfl⟩
  have hw := fun d (hd : d ∈ tables_1) => atoms_spec (ws := Jvm.Cond.code x code maxLocals ret :: tables_1) hat d (List.mem_cons_of_mem _ hd)
  have hfit : Fit s := fun {y c} hc i hi => by
    obtain ⟨ha, rfl⟩ := Array.getElem?_eq_some_iff.mp hc
    have q := List.all_eq_true.mp ((Array.all_eq_true_iff_forall_mem.mp hF) _ (Array.getElem_mem ha)) i (List.mem_range.mpr hi)
    simpa [Array.getElem?_eq_getElem hi] using q
  obtain ⟨i0, ei0⟩ := is_v g0
  obtain rfl : w0 = (.int i0) := Option.some.inj ei0
  obtain ⟨i1, ei1⟩ := is_v g1
  obtain rfl : w1 = (.int i1) := Option.some.inj ei1
  obtain ⟨i2, ei2⟩ := is_v g2
  obtain rfl : w2 = (.int i2) := Option.some.inj ei2
  obtain ⟨i3, ei3⟩ := is_v g3
  obtain rfl : w3 = (.int i3) := Option.some.inj ei3
  obtain ⟨n, o, h1, h2, h3, _, L, rfl, ⟨rfl, N⟩, hq⟩ := rm0 l s _ hw tables_1 i0 i1 i2 i3 s.heap s.heap.size (Nat.le_refl _) p e ha hc hk s m _ below hf ((Spec.applies_iff_loose hf).mp happ).1 ⟨rfl, State.Warmed39.refl s, rfl⟩ trivial
  refine ⟨n, _, h1, h2, h3, hpost _ _ _ _ _ _ ⟨Cond.after_iff.mpr rfl, Cond.after_iff.mpr (eq_i res_at (Term.int_eval (1)) rfl), trivial⟩ ⟨hq.1, hq.2.1, (hq.2.2.sift fun y hy => Or.inr (N y hy)).mono (by decide) (by decide)⟩⟩
theorem main_1_1 : Claimed_1_1 := comes_1 fun _ _ _ _ _ _ h hF => ⟨h.1, hF⟩
theorem main_1_2 : Claimed_1_2 := comes_1 fun _ _ _ _ _ _ h hF => ⟨h.2.1, hF⟩
end Jvm.Pilot.@@N@@
namespace Jvm.Pilot.@@N@@
open Jvm Jvm.ClassFile Sem Op Lib Jvm.Free Jvm.Stand Jvm.Pilot.@@N@@.Jvm.D
/-! MADE BY PROGRAM (witnessworld.py) out of the Statement's table words and the real class files: 10 classes; the members and pool entries that the words name. The judged class is class 1, her method 1. -/
namespace start1
open Jvm.ClassFile
def u (s : String) : CpInfo := .utf8 (stringToUtf16 s)
/-- a pool by its gaps: so many unusable entries, then the entry; so many at the end -/
def gap : Nat → List CpInfo → List CpInfo
  | 0, r => r
  | n + 1, r => .unusable :: gap n r
def poolList (es : List (Nat × CpInfo)) (last : Nat) : List CpInfo := es.foldr (fun e r => gap e.1 (e.2 :: r)) (gap last [])
def pool (es : List (Nat × CpInfo)) (last : Nat) : Array CpInfo := ⟨poolList es last⟩
def fileOf (pool : Array CpInfo) (this : Nat) (attrs : Array Attribute := #[]) (ms : Array MethodInfo := #[]) (fl : Nat := 33) (sup : Nat := 0) (ifs : Array Nat := #[]) (fds : Array FieldInfo := #[]) : ClassFile where
  minorVersion := 0
  majorVersion := 65
  constantPool := pool
  accessFlags := fl
  thisClass := this
  superClass := sup
  interfaces := ifs
  fields := fds
  methods := ms
  attributes := attrs
def plain (name : String) (sup : Option ClassId) : Class where
  name := name
  kind := .ordinary
  loader := none
  accessFlags := 33
  super := sup
  interfaces := #[]
  cf := none
  fields := #[]
  methods := #[]
  instanceTypes := #[]
  staticTypes := #[]
  resolved := #[]
  callSites := []
  init := .initialized
  statics := none
  mirror := none

def pool0 : Array CpInfo := pool [(5, u "<init>"), (0, u "()V"), (1, .class_ 10), (1, u "java/lang/Object")] 113

def k0c0 : Code := { maxStack := 0, maxLocals := 1, code := object_method_1_code, exceptionTable := #[], attributes := #[] }
def k0m0 : Method := { name := "<init>", desc := "()V", sig := { parameters := [], returnType := none }, accessFlags := 1, code := some k0c0 }
/-- java/lang/Object -/
def k0 : Class := { plain "java/lang/Object" none with
  accessFlags := 33
  interfaces := #[]
  cf := some (fileOf pool0 8 #[] #[{ accessFlags := 1, nameIndex := 5, descriptorIndex := 6, attributes := #[] }] 33 0 #[] #[])
  fields := #[]
  methods := #[k0m0]
  instanceTypes := #[]
  staticTypes := #[]
  resolved := Array.replicate 124 none
  statics := none }

def pool1 : Array CpInfo := pool [(2, .class_ 4), (1, u "java/lang/Object"), (0, u "<init>"), (0, u "()V"), (0, .class_ 8), (0, u "com/example/weir3/weir3/core/Range"), (0, .methodref 7 10), (0, .nameAndType 5 11), (0, u "(DZDZ)V"), (0, .methodref 7 13), (0, .nameAndType 14 15), (0, u "contains"), (0, u "(D)Z"), (0, .class_ 17), (0, u "com/example/weir3/weir3/core/RangeContainsPinLaw"), (2, u "law"), (0, u "(IIII)Z")] 3

def k1m0 : Method := { name := "<init>", desc := "()V", sig := { parameters := [], returnType := none }, accessFlags := 2, code := none }
def k1c1 : Code := { maxStack := 8, maxLocals := 12, code := code, exceptionTable := #[], attributes := #[] }
def k1m1 : Method := { name := "law", desc := "(IIII)Z", sig := { parameters := [.int, .int, .int, .int], returnType := some .boolean }, accessFlags := 9, code := some k1c1 }
/-- com/example/weir3/weir3/core/RangeContainsPinLaw -/
def k1 : Class := { plain "com/example/weir3/weir3/core/RangeContainsPinLaw" (some 0) with
  accessFlags := 49
  interfaces := #[]
  cf := some (fileOf pool1 16 #[] #[{ accessFlags := 2, nameIndex := 5, descriptorIndex := 6, attributes := #[] }, { accessFlags := 9, nameIndex := 20, descriptorIndex := 21, attributes := #[] }] 49 2 #[] #[])
  fields := #[]
  methods := #[k1m0, k1m1]
  instanceTypes := #[]
  staticTypes := #[]
  resolved := Array.replicate 25 none
  statics := none }

def pool2 : Array CpInfo := pool [(1, .methodref 2 3), (0, .class_ 4), (0, .nameAndType 5 6), (0, u "java/lang/Object"), (0, u "<init>"), (0, u "()V"), (0, .class_ 8), (0, u "java/lang/Record")] 13

def k2c0 : Code := { maxStack := 1, maxLocals := 1, code := jdk_30_method_1_code, exceptionTable := #[], attributes := #[] }
def k2m0 : Method := { name := "<init>", desc := "()V", sig := { parameters := [], returnType := none }, accessFlags := 4, code := some k2c0 }
/-- java/lang/Record -/
def k2 : Class := { plain "java/lang/Record" (some 0) with
  accessFlags := 1057
  interfaces := #[]
  cf := some (fileOf pool2 7 #[] #[{ accessFlags := 4, nameIndex := 5, descriptorIndex := 6, attributes := #[] }] 1057 2 #[] #[])
  fields := #[]
  methods := #[k2m0]
  instanceTypes := #[]
  staticTypes := #[]
  resolved := Array.replicate 22 none
  statics := none }

def pool3 : Array CpInfo := pool [(1, .methodref 2 3), (0, .class_ 4), (0, .nameAndType 5 6), (0, u "java/lang/Record"), (0, u "<init>"), (0, u "()V"), (0, .fieldref 8 9), (0, .class_ 10), (0, .nameAndType 11 12), (0, u "com/example/weir3/weir3/core/Range"), (0, u "lower"), (0, u "D"), (0, .fieldref 8 14), (0, .nameAndType 15 16), (0, u "lowerIncluded"), (0, u "Z"), (0, .fieldref 8 18), (0, .nameAndType 19 12), (0, u "upper"), (0, .fieldref 8 21), (0, .nameAndType 22 16), (0, u "upperIncluded"), (8, u "(DZDZ)V"), (2, u "contains"), (0, u "(D)Z"), (85, u "PLAIN_DIGITS"), (0, u "I")] 50

def k3c0 : Code := { maxStack := 3, maxLocals := 7, code := prog_30_method_1_code, exceptionTable := #[], attributes := #[] }
def k3m0 : Method := { name := "<init>", desc := "(DZDZ)V", sig := { parameters := [.double, .boolean, .double, .boolean], returnType := none }, accessFlags := 1, code := some k3c0 }
def k3c1 : Code := { maxStack := 4, maxLocals := 5, code := prog_30_method_7_code, exceptionTable := #[], attributes := #[] }
def k3m1 : Method := { name := "contains", desc := "(D)Z", sig := { parameters := [.double], returnType := some .boolean }, accessFlags := 1, code := some k3c1 }
/-- com/example/weir3/weir3/core/Range -/
def k3 : Class := { plain "com/example/weir3/weir3/core/Range" (some 2) with
  accessFlags := 49
  interfaces := #[]
  cf := some (fileOf pool3 8 #[] #[{ accessFlags := 1, nameIndex := 5, descriptorIndex := 31, attributes := #[] }, { accessFlags := 1, nameIndex := 34, descriptorIndex := 35, attributes := #[] }] 49 2 #[] #[{ accessFlags := 18, nameIndex := 11, descriptorIndex := 12, attributes := #[] }, { accessFlags := 18, nameIndex := 15, descriptorIndex := 16, attributes := #[] }, { accessFlags := 18, nameIndex := 19, descriptorIndex := 12, attributes := #[] }, { accessFlags := 18, nameIndex := 22, descriptorIndex := 16, attributes := #[] }, { accessFlags := 26, nameIndex := 121, descriptorIndex := 122, attributes := #[] }])
  fields := #[{ name := "lower", type := .double, accessFlags := 18, slot := 0, constantValue := 0 }, { name := "lowerIncluded", type := .boolean, accessFlags := 18, slot := 1, constantValue := 0 }, { name := "upper", type := .double, accessFlags := 18, slot := 2, constantValue := 0 }, { name := "upperIncluded", type := .boolean, accessFlags := 18, slot := 3, constantValue := 0 }, { name := "PLAIN_DIGITS", type := .int, accessFlags := 26, slot := 0, constantValue := 0 }]
  methods := #[k3m0, k3m1]
  instanceTypes := #[.double, .boolean, .double, .boolean]
  staticTypes := #[.int]
  resolved := Array.replicate 173 none
  statics := none }

def pool4 : Array CpInfo := pool [(1, u "java/lang/Cloneable"), (0, .class_ 1), (0, u "java/lang/Object"), (0, .class_ 3)] 3

/-- java/lang/Cloneable -/
def k4 : Class := { plain "java/lang/Cloneable" (some 0) with
  accessFlags := 1537
  interfaces := #[]
  cf := some (fileOf pool4 2 #[] #[] 1537 4 #[] #[])
  fields := #[]
  methods := #[]
  instanceTypes := #[]
  staticTypes := #[]
  resolved := Array.replicate 8 none
  statics := none }

def pool5 : Array CpInfo := pool [(1, u "java/io/Serializable"), (0, .class_ 1), (0, u "java/lang/Object"), (0, .class_ 3)] 3

/-- java/io/Serializable -/
def k5 : Class := { plain "java/io/Serializable" (some 0) with
  accessFlags := 1537
  interfaces := #[]
  cf := some (fileOf pool5 2 #[] #[] 1537 4 #[] #[])
  fields := #[]
  methods := #[]
  instanceTypes := #[]
  staticTypes := #[]
  resolved := Array.replicate 8 none
  statics := none }

/-- the primitive byte -/
def k6 : Class := { plain "byte" none with kind := .primitive 'B', accessFlags := 0x411 }
/-- [B -/
def k7 : Class := { plain "[B" (some 0) with kind := .array 6 .byte, interfaces := #[4, 5], accessFlags := 1041 }

/-- the primitive int -/
def k8 : Class := { plain "int" none with kind := .primitive 'I', accessFlags := 0x411 }
/-- [I -/
def k9 : Class := { plain "[I" (some 0) with kind := .array 8 .int, interfaces := #[4, 5], accessFlags := 1041 }

def heap : Heap := #[]
def classes : Array Class := #[k0, k1, k2, k3, k4, k5, k6, k7, k8, k9]
def interned : List (Array UInt16 × Addr) := []
def slotsUsed : Nat := 0
def theMethod : MethodId := ⟨1, 1⟩
def args0 : Array Value := #[.int 5, .int 5, .int 5, .int 5]
def aboutOver (below : List Frame) : State where
  vm := { classes := classes, interned := interned.toArray }
  heap := heap
  slotsUsed := slotsUsed
  threads := #[{ frames := .invoking theMethod args0 :: below }]
def below0 : List Frame := [.native { method := ⟨0, 0⟩, args := #[] }]
def about1 : State := aboutOver below0
def p0 : Program := .bare "" "" ""
def e0 : Env := launch0.env 0 0 0
theorem w_frames : about1.frames = Frame.invoking theMethod args0 :: below0 := rfl
set_option maxRecDepth 65536 in
theorem w_args : argsFit about1.vm theMethod args0 = true := by decide +kernel
set_option maxRecDepth 65536 in
theorem w_heap : heapFits about1 = true := by decide +kernel
set_option maxRecDepth 65536 in
theorem w_runnable : about1.curStatus? = some .runnable := by decide +kernel
set_option maxRecDepth 65536 in
theorem w_alone : about1.alone = true := by decide +kernel
set_option maxRecDepth 65536 in
theorem w_named : about1.methodNamed? x = some theMethod := by decide +kernel
set_option maxRecDepth 65536 in
theorem w_hears : about1.hears theMethod below0 = true := by decide +kernel
set_option maxRecDepth 65536 in
theorem w_ripe : about1.ripe theMethod args0 below0 = true := by decide +kernel
theorem w_running : about1.status = .running := rfl
set_option maxRecDepth 65536 in
theorem w_room : about1.hasRoom e0.platform room_1 = true :=
  launch0.hasRoom_least _ room_1 (by decide +kernel) (by decide +kernel) (by decide +kernel) (by decide +kernel) (by decide +kernel) (by decide +kernel)
theorem allAtoms_all (ts : List Jvm.Cond) (a : Array Jvm.Value) (st : Jvm.State) : (allAtoms ts).before a st = ts.all (fun c => c.before a st) := by
  induction ts with
  | nil => rfl
  | cons c t ih =>
    show (Jvm.Cond.and c (allAtoms t)).before a st = _
    rw [Jvm.Cond.before_and, ih, List.all_cons]
def words1 : List Jvm.Cond := Jvm.Cond.code x code maxLocals ret :: tables_1
/-- a 'code' word, met by the world's own term for the bytes: nothing is compared byte by byte -/
theorem code_word {y : MethodName} {bytes : ByteArray} {mx : Nat} {rt : Option FieldType} {a : Array Value} {s : State} {m : MethodId} {meth : Method} {c : Code} (h1 : s.methodNamed? y = some m) (h2 : s.vm.method? m = some meth) (h3 : meth.code = some c) (h4 : c.code = bytes)
    (h5 : (c.maxLocals == mx && c.exceptionTable.isEmpty && decide (c.maxStack ≤ mostOperands) && decide (meth.sig.returnType = rt) && !meth.locks && decide (parseMethodDescriptor y.desc = some meth.sig)) = true) : (Jvm.Cond.code y bytes mx rt).before a s = true := by
  simp only [Bool.and_eq_true, beq_iff_eq, Bool.not_eq_true', decide_eq_true_eq] at h5
  obtain ⟨⟨⟨⟨⟨g1, g2⟩, g3⟩, g4⟩, g5⟩, g6⟩ := h5
  simp [Cond.before, Cond.holds, Cond.value, h1, h2, h3, h4, g1, g2, g3, g4, g5, g6]
def isCode : Jvm.Cond → Bool
  | .code _ _ _ _ => true
  | _ => false
theorem all_split {L : List Jvm.Cond} {P : Jvm.Cond → Bool} (h1 : L.all (fun c => isCode c || P c) = true) (h2 : ∀ c ∈ L.filter isCode, P c = true) : L.all P = true := by
  refine List.all_eq_true.mpr fun c hc => ?_
  have h := List.all_eq_true.mp h1 c hc
  rcases Bool.eq_false_or_eq_true (isCode c) with hi | hi
  · exact h2 c (List.mem_filter.mpr ⟨hc, hi⟩)
  · simpa [hi] using h
set_option maxRecDepth 65536 in
theorem w_c0 : (Jvm.Cond.code x code maxLocals ret).before args0 about1 = true := code_word (m := ⟨1, 1⟩) (meth := k1m1) (c := k1c1) (by decide +kernel) rfl rfl rfl (by decide +kernel)
set_option maxRecDepth 65536 in
theorem w_c1 : (Jvm.Cond.code ({ cls := "com/example/weir3/weir3/core/Range", name := "<init>", desc := "(DZDZ)V" } : Jvm.MethodName) prog_30_method_1_code (7 : Nat) (Option.none : Option Jvm.ClassFile.FieldType)).before args0 about1 = true := code_word (m := ⟨3, 0⟩) (meth := k3m0) (c := k3c0) (by decide +kernel) rfl rfl rfl (by decide +kernel)
set_option maxRecDepth 65536 in
theorem w_c2 : (Jvm.Cond.code ({ cls := "java/lang/Record", name := "<init>", desc := "()V" } : Jvm.MethodName) jdk_30_method_1_code (1 : Nat) (Option.none : Option Jvm.ClassFile.FieldType)).before args0 about1 = true := code_word (m := ⟨2, 0⟩) (meth := k2m0) (c := k2c0) (by decide +kernel) rfl rfl rfl (by decide +kernel)
set_option maxRecDepth 65536 in
theorem w_c3 : (Jvm.Cond.code ({ cls := "java/lang/Object", name := "<init>", desc := "()V" } : Jvm.MethodName) object_method_1_code (1 : Nat) (Option.none : Option Jvm.ClassFile.FieldType)).before args0 about1 = true := code_word (m := ⟨0, 0⟩) (meth := k0m0) (c := k0c0) (by decide +kernel) rfl rfl rfl (by decide +kernel)
set_option maxRecDepth 65536 in
theorem w_c4 : (Jvm.Cond.code ({ cls := "com/example/weir3/weir3/core/Range", name := "contains", desc := "(D)Z" } : Jvm.MethodName) prog_30_method_7_code (5 : Nat) (Option.some Jvm.ClassFile.FieldType.boolean)).before args0 about1 = true := code_word (m := ⟨3, 1⟩) (meth := k3m1) (c := k3c1) (by decide +kernel) rfl rfl rfl (by decide +kernel)
def codes1 : List Jvm.Cond := [Jvm.Cond.code x code maxLocals ret, Jvm.Cond.code ({ cls := "com/example/weir3/weir3/core/Range", name := "<init>", desc := "(DZDZ)V" } : Jvm.MethodName) prog_30_method_1_code (7 : Nat) (Option.none : Option Jvm.ClassFile.FieldType), Jvm.Cond.code ({ cls := "java/lang/Record", name := "<init>", desc := "()V" } : Jvm.MethodName) jdk_30_method_1_code (1 : Nat) (Option.none : Option Jvm.ClassFile.FieldType), Jvm.Cond.code ({ cls := "java/lang/Object", name := "<init>", desc := "()V" } : Jvm.MethodName) object_method_1_code (1 : Nat) (Option.none : Option Jvm.ClassFile.FieldType), Jvm.Cond.code ({ cls := "com/example/weir3/weir3/core/Range", name := "contains", desc := "(D)Z" } : Jvm.MethodName) prog_30_method_7_code (5 : Nat) (Option.some Jvm.ClassFile.FieldType.boolean)]
set_option maxRecDepth 65536 in
theorem codes_eq : words1.filter isCode = codes1 := rfl
theorem w_codes : ∀ c ∈ words1.filter isCode, c.before args0 about1 = true := by
  rw [codes_eq]
  intro c hc
  simp only [codes1, List.mem_cons, List.not_mem_nil, or_false] at hc
  rcases hc with rfl | rfl | rfl | rfl | rfl
  · exact w_c0
  · exact w_c1
  · exact w_c2
  · exact w_c3
  · exact w_c4
set_option maxRecDepth 65536 in
theorem w_t1 : (words1.take 24).all (fun c => isCode c || c.before args0 about1) = true := by decide +kernel
set_option maxRecDepth 65536 in
theorem w_t2 : (words1.drop 24).all (fun c => isCode c || c.before args0 about1) = true := by decide +kernel
theorem w_tables : (allAtoms (Jvm.Cond.code x code maxLocals ret :: tables_1)).before args0 about1 = true := by
  rw [allAtoms_all]
  show words1.all (fun c => c.before args0 about1) = true
  refine all_split ?_ w_codes
  rw [← List.take_append_drop 24 words1, List.all_append, w_t1, w_t2]
  rfl
set_option maxRecDepth 65536 in
theorem w_case : (Jvm.Cond.and given_1 narrow_1).before args0 about1 = true := by decide +kernel
theorem w_applies : (headSpec (Jvm.Cond.code x code maxLocals ret :: tables_1) room_1).applies x e0.platform about1 = true :=
  (Spec.applies_iff w_frames).mpr ⟨w_running, w_runnable, w_alone, w_named, w_hears, w_ripe, w_room, w_tables⟩
theorem atStart : AtStart classFile x code maxLocals ret World_1 tables_1 room_1 Calls_1 rest_1 Pre_1 launch0 p0 e0 about1 theMethod args0 below0 :=
  ⟨lists_1, trivial, launch0.admits_env _ _ _, launch0.least_env, fairChoices_fair.cas, fairChoices_fair.clock, w_frames, w_args, w_heap, w_applies, trivial, trivial, w_case⟩
end start1
theorem witness_1 : WitnessClaimed_1 := ⟨start1.p0, start1.e0, start1.about1, start1.theMethod, start1.args0, start1.below0, start1.atStart⟩
end Jvm.Pilot.@@N@@
