import JvmDerived
import JvmDerived.Pilot.@@N@@Statement
import JvmDerived.Pilot.@@N@@Code
set_option linter.unusedVariables false
set_option linter.unusedSimpArgs false
@@BLOCK:NumsL.lean.txt@@
namespace Jvm.RoadKit
open Sem ClassFile Op Lib Jvm.Stand Jvm.Free Jvm.LawKit
section New
variable {p : Program} {l : Launch} {e : Env} {R : Room} {s : State} {m : MethodId} {args : Array Value} {below : List Frame} {meth : Method} {c : Code} {T : State} {locs : List Loc} {cells slots : Nat}
theorem retI (X : Stand p l e R s m args below meth c T locs cells slots) (hx : p.tables.exec = Jvm.exec) {pc : Nat} {Ls : Array Slot} {z : Int32} {rest : List Value} (hret : meth.sig.returnType = some .int) (hd : decode c.code pc = .ok (.ireturn, 1)) {fs : List Frame}
    (hl : ∀ (f : JFrame) (acts : List Action), f.method = m → f.locked = none → f.entered = [] → (doReturn e (T.setTop f) acts (some (.int z))).1 = T.setFrames fs) : Steps p.tables e below (T.setTop (mkF m pc Ls (.int z :: rest))) (T.setFrames fs) := by
  have hm' : T.vm.method? m = some meth := X.method'
  have hn : narrow .int (.int z) = .int z := rfl
  show Steps p.tables e below (T.setTop { method := m, pc := pc, locals := Ls, stack := _ :: rest, locked := none }) _
  jvm_step X.here [X.here.top, hx, hd, hm', hret, hn]
  first | (intro acts; rw [hl _ acts rfl rfl rfl]) | rw [hl _ _ rfl rfl rfl]
  exact Steps.refl _
end New
end Jvm.RoadKit
namespace Jvm.Pilot.@@N@@
open Jvm Jvm.ClassFile Sem Op Lib Jvm.Free Jvm.Stand Jvm.LawKit Jvm.RoadKit Bundle Jvm.Pilot.@@N@@.Jvm.D
def own_len (p : Int32) : Int32 := if p < 1 then 0 else if 32 < p then 0 else 1
theorem own_mask (y : Int32) : (y &&& (-32 : Int32) = 0) ↔ (0 ≤ y ∧ y ≤ 31) := by
  have h1 : y = (y &&& 31) ||| (y &&& (-32 : Int32)) := by
    apply Int32.toBitVec_inj.mp
    simp only [Int32.toBitVec_or, Int32.toBitVec_and]
    have e : (31 : Int32).toBitVec ||| (-32 : Int32).toBitVec = BitVec.allOnes 32 := by decide
    rw [← BitVec.and_or_distrib_left, e, BitVec.and_allOnes]
  have h2 : (y &&& 31).toInt = y.toInt % 2 ^ 5 := Jvm.Kit.i32_mask y 31 (k := 5) (by decide) (by decide)
  have h4 : ∀ z : Int32, (z &&& 31) &&& (-32 : Int32) = 0 := by
    intro z
    apply Int32.toBitVec_inj.mp
    simp only [Int32.toBitVec_and, BitVec.and_assoc]
    have e : (31 : Int32).toBitVec &&& (-32 : Int32).toBitVec = 0#32 := by decide
    rw [e]; simp
  constructor
  · intro h
    rw [h, Int32.or_zero] at h1
    rw [h1, Int32.le_iff_toInt_le, Int32.le_iff_toInt_le, h2]
    constructor
    · show (0 : Int) ≤ _; omega
    · show _ ≤ (31 : Int); omega
  · rintro ⟨ha, hb⟩
    rw [Int32.le_iff_toInt_le] at ha hb
    have ha' : (0 : Int) ≤ y.toInt := ha
    have hb' : y.toInt ≤ 31 := hb
    have e : y &&& 31 = y := Int32.toInt_inj.mp (by rw [h2]; omega)
    rw [← e]; exact h4 y
theorem own_len_eq (p : Int32) : own_len p = if (p - 1) &&& (-32 : Int32) = 0 then 1 else 0 := by
  have h1 : (1 : Int32).toInt = 1 := rfl
  have h32 : (32 : Int32).toInt = 32 := rfl
  have h31 : (31 : Int32).toInt = 31 := rfl
  have h0 : (0 : Int32).toInt = 0 := rfl
  have hl := p.le_toInt
  have hu := p.toInt_lt
  have hs : (p - 1).toInt = (p.toInt - 1).bmod (2 ^ 32) := by rw [Int32.toInt_sub, h1]
  have hm := own_mask (p - 1)
  rw [Int32.le_iff_toInt_le, Int32.le_iff_toInt_le, h0, h31, hs, Int.bmod_def] at hm
  unfold own_len
  simp only [Int32.lt_iff_toInt_lt, h1, h32]
  by_cases a : p.toInt < 1
  · rw [if_pos a, if_neg]
    rw [hm]; split <;> omega
  · rw [if_neg a]
    by_cases b : 32 < p.toInt
    · rw [if_pos b, if_neg]
      rw [hm]; split <;> omega
    · rw [if_neg b, if_pos]
      rw [hm]; split <;> omega
theorem d1_0 : decode prog_3_method_6_code 0 = .ok (.iload_n 0, 1) := by decide +kernel
theorem d1_1 : decode prog_3_method_6_code 1 = .ok (.iconst 1, 1) := by decide +kernel
theorem d1_2 : decode prog_3_method_6_code 2 = .ok (.if_icmp .lt 13, 3) := by decide +kernel
theorem d1_5 : decode prog_3_method_6_code 5 = .ok (.iload_n 0, 1) := by decide +kernel
theorem d1_6 : decode prog_3_method_6_code 6 = .ok (.bipush 32, 2) := by decide +kernel
theorem d1_8 : decode prog_3_method_6_code 8 = .ok (.if_icmp .gt 7, 3) := by decide +kernel
theorem d1_11 : decode prog_3_method_6_code 11 = .ok (.iconst 1, 1) := by decide +kernel
theorem d1_12 : decode prog_3_method_6_code 12 = .ok (.goto 4, 3) := by decide +kernel
theorem d1_15 : decode prog_3_method_6_code 15 = .ok (.iconst 0, 1) := by decide +kernel
theorem d1_16 : decode prog_3_method_6_code 16 = .ok (.ireturn, 1) := by decide +kernel
theorem pn_com_example_cliffline_cliffline_ColumnType : plainName "com/example/cliffline/cliffline/ColumnType" = true := by first | (simp [plainName, overriddenIn]; done) | decide +kernel
theorem ef_rm1 (m : MethodId) (x0 : Int32) : entryFrame m #[(.int x0)] 1 = mkF m 0 #[.val (.int x0)] [] := by first | (simp [entryFrame, mkF, argsToLocals, Value.category]; done) | rfl
def Qrm1 (Z : State) (p1 : Int32) (h0 : Heap) (n0 : Nat) (v : Option Value) (h : Heap) (L : List Loc) : Prop := v = some (.int (own_len p1)) ∧ Fr n0 L ∧ h = h0
set_option maxRecDepth 65536 in
set_option maxHeartbeats 40000000 in
theorem rm1 (l : Launch) (Z : State) (a0 : Array Value) (hw : ∀ d ∈ tables_1, d.before a0 Z = true) (ws : List Jvm.Cond) (p1 : Int32) (h0 : Heap) (n0 : Nat) (Z0 : n0 ≤ h0.size) :
    MetFree l (⟨"com/example/cliffline/cliffline/ColumnType", "isLength", "(I)Z"⟩ : MethodName) (head1 (Jvm.Cond.code (⟨"com/example/cliffline/cliffline/ColumnType", "isLength", "(I)Z"⟩ : MethodName) prog_3_method_6_code 1 (some .boolean) :: ws) ({ frames := 0, cells := 0, slots := 0, locals := 0 } : Room)) (fun a U => a = #[(.int p1)] ∧ Z.Warmed39 U.vm ∧ U.heap = h0) (fun _ _ _ _ _ => True) (fun _ U o U' => ∃ v L, o = .returned v ∧ Qrm1 Z p1 h0 n0 v U'.heap L ∧ FrameEnd U o U' L ({ frames := 0, cells := 0, slots := 0, locals := 0 } : Room).cells ({ frames := 0, cells := 0, slots := 0, locals := 0 } : Room).slots) := by
  refine MetFree.of_bodySF (plainFor_of_name pn_com_example_cliffline_cliffline_ColumnType) hisR ?_
  intro p e s m args below meth c s₁ Bd hml0 hP hK
  obtain ⟨rfl, hZ, hh⟩ := hP
  have hx := Bd.exec
  have hby := Bd.bytes
  have hml : c.maxLocals = 1 := hml0
  have hown : s.vm.findClass "com/example/cliffline/cliffline/ColumnType" = some m.cls := findClass_of_methodNamed Bd.named
  have hnm := (name_of_methodNamed Bd.named Bd.method).1
  have X0 : Stand p l e ({ frames := 0, cells := 0, slots := 0, locals := 0 } : Room) s m #[(.int p1)] below meth c s₁ [] 0 0 := Stand.of_body Bd
  have e0 : s₁.heap = h0 := by rw [← hh, Bd.state]; rfl
  have N0 := Fr.nil n0
  have pre0 : ∀ t, Steps p.tables e below (s₁.setTop (mkF m 0 #[.val (.int p1)] [])) t → Steps p.tables e below (s₁.setTop (entryFrame m #[(.int p1)] 1)) t := fun t k => castTop (ef_rm1 m p1) k
  have c1 : ∀ t, Steps p.tables e below (s₁.setTop (mkF m 2 #[.val (.int p1)] [(.int (1 : Int32)), (.int p1)])) t → Steps p.tables e below (s₁.setTop (mkF m 0 #[.val (.int p1)] [])) t := by
    intro t kt
    show Steps p.tables e below (s₁.setTop (mkF m 0 #[.val (.int p1)] [])) _
    refine XS.iloadN X0.here hx rfl (hb hby d1_0) rfl ?_
    show Steps p.tables e below (s₁.setTop (mkF m 1 #[.val (.int p1)] [(.int p1)])) _
    refine XS.iconst X0.here hx rfl (hb hby d1_1) ?_
    exact kt
  by_cases hc2 : p1 < (1 : Int32)
  · obtain ⟨fs, hr, hrun, hended, hW, hsame⟩ := X0.leave (v := some (.int (0 : Int32))) (fun h => by rw [Bd.returns] at h; cases h)
    refine ⟨_, _, pre0 _ (c1 _ (?_)), hrun, hended, _, _, rfl, ?_, ⟨_, rfl⟩, hW, hsame.mono (by decide) (by decide)⟩
    · show Steps p.tables e below (s₁.setTop (mkF m 2 #[.val (.int p1)] [(.int (1 : Int32)), (.int p1)])) _
      refine XS.icmpYes X0.here hx rfl (pc0 := 2) (pc' := 15) rfl (hb hby d1_2) rfl (tlt hc2).1 (by decide) (by decide) ?_
      show Steps p.tables e below (s₁.setTop (mkF m 15 #[.val (.int p1)] [])) _
      refine XS.iconst X0.here hx rfl (hb hby d1_15) ?_
      show Steps p.tables e below (s₁.setTop (mkF m 16 #[.val (.int p1)] [(.int (0 : Int32))])) _
      exact retN X0 hx (t := .boolean) Bd.returns (by simp) (hb hby d1_16) hr
    · show Qrm1 Z p1 h0 n0 _ s₁.heap _
      rw [e0]
      exact ⟨by simp [own_len, hc2], N0, rfl⟩
  · have c2 : ∀ t, Steps p.tables e below (s₁.setTop (mkF m 8 #[.val (.int p1)] [(.int (32 : Int32)), (.int p1)])) t → Steps p.tables e below (s₁.setTop (mkF m 2 #[.val (.int p1)] [(.int (1 : Int32)), (.int p1)])) t := by
      intro t kt
      show Steps p.tables e below (s₁.setTop (mkF m 2 #[.val (.int p1)] [(.int (1 : Int32)), (.int p1)])) _
      refine XS.icmpNo X0.here hx rfl (hb hby d1_2) rfl (flt hc2).1 ?_
      show Steps p.tables e below (s₁.setTop (mkF m 5 #[.val (.int p1)] [])) _
      refine XS.iloadN X0.here hx rfl (hb hby d1_5) rfl ?_
      show Steps p.tables e below (s₁.setTop (mkF m 6 #[.val (.int p1)] [(.int p1)])) _
      refine XS.bipush X0.here hx rfl (hb hby d1_6) ?_
      exact kt
    by_cases hc8 : (32 : Int32) < p1
    · obtain ⟨fs, hr, hrun, hended, hW, hsame⟩ := X0.leave (v := some (.int (0 : Int32))) (fun h => by rw [Bd.returns] at h; cases h)
      refine ⟨_, _, pre0 _ (c1 _ (c2 _ (?_))), hrun, hended, _, _, rfl, ?_, ⟨_, rfl⟩, hW, hsame.mono (by decide) (by decide)⟩
      · show Steps p.tables e below (s₁.setTop (mkF m 8 #[.val (.int p1)] [(.int (32 : Int32)), (.int p1)])) _
        refine XS.icmpYes X0.here hx rfl (pc0 := 8) (pc' := 15) rfl (hb hby d1_8) rfl (tlt hc8).2.2.1 (by decide) (by decide) ?_
        show Steps p.tables e below (s₁.setTop (mkF m 15 #[.val (.int p1)] [])) _
        refine XS.iconst X0.here hx rfl (hb hby d1_15) ?_
        show Steps p.tables e below (s₁.setTop (mkF m 16 #[.val (.int p1)] [(.int (0 : Int32))])) _
        exact retN X0 hx (t := .boolean) Bd.returns (by simp) (hb hby d1_16) hr
      · show Qrm1 Z p1 h0 n0 _ s₁.heap _
        rw [e0]
        exact ⟨by simp [own_len, hc2, hc8], N0, rfl⟩
    · obtain ⟨fs, hr, hrun, hended, hW, hsame⟩ := X0.leave (v := some (.int (1 : Int32))) (fun h => by rw [Bd.returns] at h; cases h)
      refine ⟨_, _, pre0 _ (c1 _ (c2 _ (?_))), hrun, hended, _, _, rfl, ?_, ⟨_, rfl⟩, hW, hsame.mono (by decide) (by decide)⟩
      · show Steps p.tables e below (s₁.setTop (mkF m 8 #[.val (.int p1)] [(.int (32 : Int32)), (.int p1)])) _
        refine XS.icmpNo X0.here hx rfl (hb hby d1_8) rfl (flt hc8).2.2.1 ?_
        show Steps p.tables e below (s₁.setTop (mkF m 11 #[.val (.int p1)] [])) _
        refine XS.iconst X0.here hx rfl (hb hby d1_11) ?_
        show Steps p.tables e below (s₁.setTop (mkF m 12 #[.val (.int p1)] [(.int (1 : Int32))])) _
        refine XS.goto X0.here hx rfl (pc0 := 12) (pc' := 16) rfl (hb hby d1_12) (by decide) (by decide) ?_
        show Steps p.tables e below (s₁.setTop (mkF m 16 #[.val (.int p1)] [(.int (1 : Int32))])) _
        exact retN X0 hx (t := .boolean) Bd.returns (by simp) (hb hby d1_16) hr
      · show Qrm1 Z p1 h0 n0 _ s₁.heap _
        rw [e0]
        exact ⟨by simp [own_len, hc2, hc8], N0, rfl⟩
theorem pn_com_example_cliffline_cliffline_ColumnTypeIsLengthPinLaw : plainName "com/example/cliffline/cliffline/ColumnTypeIsLengthPinLaw" = true := by first | (simp [plainName, overriddenIn]; done) | decide +kernel
theorem pd__28I_29Z : parseMethodDescriptor "(I)Z" = some ⟨[.int], some .boolean⟩ := by decide +kernel
theorem ef_rm0 (m : MethodId) (x0 : Int32) : entryFrame m #[(.int x0)] maxLocals = mkF m 0 #[.val (.int x0), .unset, .unset] [] := by first | (simp [entryFrame, mkF, argsToLocals, Value.category, maxLocals]; done) | rfl
def Qrm0 (Z : State) (p1 : Int32) (h0 : Heap) (n0 : Nat) (v : Option Value) (h : Heap) (L : List Loc) : Prop := v = some (.int 1) ∧ Fr n0 L
set_option maxRecDepth 65536 in
set_option maxHeartbeats 40000000 in
theorem rm0 (l : Launch) (Z : State) (a0 : Array Value) (hw : ∀ d ∈ tables_1, d.before a0 Z = true) (ws : List Jvm.Cond) (p1 : Int32) (h0 : Heap) (n0 : Nat) (Z0 : n0 ≤ h0.size) :
    MetFree l x (head1 (Jvm.Cond.code x code maxLocals ret :: ws) room_1) (fun a U => a = #[(.int p1)] ∧ Z.Warmed39 U.vm ∧ U.heap = h0) (fun _ _ _ _ _ => True) (fun _ U o U' => ∃ v L, o = .returned v ∧ Qrm0 Z p1 h0 n0 v U'.heap L ∧ FrameEnd U o U' L room_1.cells room_1.slots) := by
  refine MetFree.of_bodySF (plainFor_of_name pn_com_example_cliffline_cliffline_ColumnTypeIsLengthPinLaw) hisR ?_
  intro p e s m args below meth c s₁ Bd hml0 hP hK
  obtain ⟨rfl, hZ, hh⟩ := hP
  have hx := Bd.exec
  have hby := Bd.bytes
  have hml : c.maxLocals = 3 := hml0
  have hown : s.vm.findClass "com/example/cliffline/cliffline/ColumnTypeIsLengthPinLaw" = some m.cls := findClass_of_methodNamed Bd.named
  have hnm := (name_of_methodNamed Bd.named Bd.method).1
  have X0 : Stand p l e room_1 s m #[(.int p1)] below meth c s₁ [] 0 0 := Stand.of_body Bd
  have e0 : s₁.heap = h0 := by rw [← hh, Bd.state]; rfl
  have N0 := Fr.nil n0
  have pre0 : ∀ t, Steps p.tables e below (s₁.setTop (mkF m 0 #[.val (.int p1), .unset, .unset] [])) t → Steps p.tables e below (s₁.setTop (entryFrame m #[(.int p1)] maxLocals)) t := fun t k => castTop (ef_rm0 m p1) k
  have c1 : ∀ t, Steps p.tables e below (s₁.setTop (mkF m 6 #[.val (.int p1), .unset, .unset] [(.int ((p1 - (1 : Int32)) &&& (-32 : Int32)))])) t → Steps p.tables e below (s₁.setTop (mkF m 0 #[.val (.int p1), .unset, .unset] [])) t := by
    intro t kt
    show Steps p.tables e below (s₁.setTop (mkF m 0 #[.val (.int p1), .unset, .unset] [])) _
    refine XS.iloadN X0.here hx rfl (hb hby at_0) rfl ?_
    show Steps p.tables e below (s₁.setTop (mkF m 1 #[.val (.int p1), .unset, .unset] [(.int p1)])) _
    refine XS.iconst X0.here hx rfl (hb hby at_1) ?_
    show Steps p.tables e below (s₁.setTop (mkF m 2 #[.val (.int p1), .unset, .unset] [(.int (1 : Int32)), (.int p1)])) _
    refine XS.isub X0.here hx rfl (hb hby at_2) rfl ?_
    show Steps p.tables e below (s₁.setTop (mkF m 3 #[.val (.int p1), .unset, .unset] [(.int (p1 - (1 : Int32)))])) _
    refine XS.bipush X0.here hx rfl (hb hby at_3) ?_
    show Steps p.tables e below (s₁.setTop (mkF m 5 #[.val (.int p1), .unset, .unset] [(.int (-32 : Int32)), (.int (p1 - (1 : Int32)))])) _
    refine XS.iand X0.here hx rfl (hb hby at_5) rfl ?_
    exact kt
  by_cases hc6 : ((p1 - (1 : Int32)) &&& (-32 : Int32)) = (0 : Int32)
  · obtain ⟨_, _, ⟨T2, L2, k2, n2⟩, -, X2, ⟨Lc2, hQ2, l2, y2, z2⟩, st2⟩ := Jvm.LawKit.callS X0 hx (y := (⟨"com/example/cliffline/cliffline/ColumnType", "isLength", "(I)Z"⟩ : MethodName)) hown (mvT hZ (hw _ (List.mem_of_getElem? (i := 0) rfl))) (mvT hZ (hw _ (List.mem_of_getElem? (i := 1) rfl))) (mvT hZ (hw _ (List.mem_of_getElem? (i := 2) rfl))) (mvT hZ (hw _ (List.mem_of_getElem? (i := 3) rfl))) (by decide) (backOf (W := 0) (rm1 l Z a0 hw [] (1 : Int32) h0 n0 Z0) hZ (hw _ (List.mem_of_getElem? (i := 3) rfl)) (hw _ (List.mem_of_getElem? (i := 2) rfl)) (by decide) (by decide)) (g := (mkF m 16 #[.val (.int p1), .val (.int (1 : Int32)), .unset] [(.int (1 : Int32))])) rfl (by rw [hml]; rfl) (argsL := [(.int (1 : Int32))]) (rest := []) (lenOf pd__28I_29Z rfl) rfl (by show 2 * 0 + _ ≤ _; exact Nat.le_of_eq rfl) (hb hby at_16) (fun _ _ => ⟨rfl, e0, (by decide : 0 + 0 ≤ _), (by decide : 0 + 0 ≤ _)⟩)
    dsimp only [Pt.U, Pt.locs, Pt.cells, Pt.slots] at X2 l2 y2 z2 st2 hQ2
    subst l2 y2 z2
    obtain ⟨rfl, N2q, e2⟩ := hQ2
    have N2 := Fr.app N0 N2q
    obtain ⟨_, _, ⟨T3, L3, k3, n3⟩, -, X3, ⟨Lc3, hQ3, l3, y3, z3⟩, st3⟩ := Jvm.LawKit.callS X2 hx (y := (⟨"com/example/cliffline/cliffline/ColumnType", "isLength", "(I)Z"⟩ : MethodName)) hown (mvT hZ (hw _ (List.mem_of_getElem? (i := 0) rfl))) (mvT hZ (hw _ (List.mem_of_getElem? (i := 1) rfl))) (mvT hZ (hw _ (List.mem_of_getElem? (i := 2) rfl))) (mvT hZ (hw _ (List.mem_of_getElem? (i := 3) rfl))) (by decide) (backOf (W := 0) (rm1 l Z a0 hw [] (32 : Int32) h0 n0 Z0) hZ (hw _ (List.mem_of_getElem? (i := 3) rfl)) (hw _ (List.mem_of_getElem? (i := 2) rfl)) (by decide) (by decide)) (g := (mkF m 24 #[.val (.int p1), .val (.int (1 : Int32)), .unset] [(.int (32 : Int32))])) rfl (by rw [hml]; rfl) (argsL := [(.int (32 : Int32))]) (rest := []) (lenOf pd__28I_29Z rfl) rfl (by show 2 * 0 + _ ≤ _; exact Nat.le_of_eq rfl) (hb hby at_24) (fun _ _ => ⟨rfl, e2, (by decide : 0 + 0 ≤ _), (by decide : 0 + 0 ≤ _)⟩)
    dsimp only [Pt.U, Pt.locs, Pt.cells, Pt.slots] at X3 l3 y3 z3 st3 hQ3
    subst l3 y3 z3
    obtain ⟨rfl, N3q, e3⟩ := hQ3
    have N3 := Fr.app N2 N3q
    obtain ⟨_, _, ⟨T4, L4, k4, n4⟩, -, X4, ⟨Lc4, hQ4, l4, y4, z4⟩, st4⟩ := Jvm.LawKit.callS X3 hx (y := (⟨"com/example/cliffline/cliffline/ColumnType", "isLength", "(I)Z"⟩ : MethodName)) hown (mvT hZ (hw _ (List.mem_of_getElem? (i := 0) rfl))) (mvT hZ (hw _ (List.mem_of_getElem? (i := 1) rfl))) (mvT hZ (hw _ (List.mem_of_getElem? (i := 2) rfl))) (mvT hZ (hw _ (List.mem_of_getElem? (i := 3) rfl))) (by decide) (backOf (W := 0) (rm1 l Z a0 hw [] (0 : Int32) h0 n0 Z0) hZ (hw _ (List.mem_of_getElem? (i := 3) rfl)) (hw _ (List.mem_of_getElem? (i := 2) rfl)) (by decide) (by decide)) (g := (mkF m 31 #[.val (.int p1), .val (.int (1 : Int32)), .unset] [(.int (0 : Int32))])) rfl (by rw [hml]; rfl) (argsL := [(.int (0 : Int32))]) (rest := []) (lenOf pd__28I_29Z rfl) rfl (by show 2 * 0 + _ ≤ _; exact Nat.le_of_eq rfl) (hb hby at_31) (fun _ _ => ⟨rfl, e3, (by decide : 0 + 0 ≤ _), (by decide : 0 + 0 ≤ _)⟩)
    dsimp only [Pt.U, Pt.locs, Pt.cells, Pt.slots] at X4 l4 y4 z4 st4 hQ4
    subst l4 y4 z4
    obtain ⟨rfl, N4q, e4⟩ := hQ4
    have N4 := Fr.app N3 N4q
    obtain ⟨_, _, ⟨T5, L5, k5, n5⟩, -, X5, ⟨Lc5, hQ5, l5, y5, z5⟩, st5⟩ := Jvm.LawKit.callS X4 hx (y := (⟨"com/example/cliffline/cliffline/ColumnType", "isLength", "(I)Z"⟩ : MethodName)) hown (mvT hZ (hw _ (List.mem_of_getElem? (i := 0) rfl))) (mvT hZ (hw _ (List.mem_of_getElem? (i := 1) rfl))) (mvT hZ (hw _ (List.mem_of_getElem? (i := 2) rfl))) (mvT hZ (hw _ (List.mem_of_getElem? (i := 3) rfl))) (by decide) (backOf (W := 0) (rm1 l Z a0 hw [] (33 : Int32) h0 n0 Z0) hZ (hw _ (List.mem_of_getElem? (i := 3) rfl)) (hw _ (List.mem_of_getElem? (i := 2) rfl)) (by decide) (by decide)) (g := (mkF m 39 #[.val (.int p1), .val (.int (1 : Int32)), .unset] [(.int (33 : Int32))])) rfl (by rw [hml]; rfl) (argsL := [(.int (33 : Int32))]) (rest := []) (lenOf pd__28I_29Z rfl) rfl (by show 2 * 0 + _ ≤ _; exact Nat.le_of_eq rfl) (hb hby at_39) (fun _ _ => ⟨rfl, e4, (by decide : 0 + 0 ≤ _), (by decide : 0 + 0 ≤ _)⟩)
    dsimp only [Pt.U, Pt.locs, Pt.cells, Pt.slots] at X5 l5 y5 z5 st5 hQ5
    subst l5 y5 z5
    obtain ⟨rfl, N5q, e5⟩ := hQ5
    have N5 := Fr.app N4 N5q
    obtain ⟨_, _, ⟨T6, L6, k6, n6⟩, -, X6, ⟨Lc6, hQ6, l6, y6, z6⟩, st6⟩ := Jvm.LawKit.callS X5 hx (y := (⟨"com/example/cliffline/cliffline/ColumnType", "isLength", "(I)Z"⟩ : MethodName)) hown (mvT hZ (hw _ (List.mem_of_getElem? (i := 0) rfl))) (mvT hZ (hw _ (List.mem_of_getElem? (i := 1) rfl))) (mvT hZ (hw _ (List.mem_of_getElem? (i := 2) rfl))) (mvT hZ (hw _ (List.mem_of_getElem? (i := 3) rfl))) (by decide) (backOf (W := 0) (rm1 l Z a0 hw [] p1 h0 n0 Z0) hZ (hw _ (List.mem_of_getElem? (i := 3) rfl)) (hw _ (List.mem_of_getElem? (i := 2) rfl)) (by decide) (by decide)) (g := (mkF m 52 #[.val (.int p1), .val (.int (1 : Int32)), .val (.int (1 : Int32))] [(.int p1)])) rfl (by rw [hml]; rfl) (argsL := [(.int p1)]) (rest := []) (lenOf pd__28I_29Z rfl) rfl (by show 2 * 0 + _ ≤ _; exact Nat.le_of_eq rfl) (hb hby at_52) (fun _ _ => ⟨rfl, e5, (by decide : 0 + 0 ≤ _), (by decide : 0 + 0 ≤ _)⟩)
    dsimp only [Pt.U, Pt.locs, Pt.cells, Pt.slots] at X6 l6 y6 z6 st6 hQ6
    subst l6 y6 z6
    obtain ⟨rfl, N6q, e6⟩ := hQ6
    have N6 := Fr.app N5 N6q
    obtain ⟨fs, hr, hrun, hended, hW, hsame⟩ := X6.leave (v := some (.int (1 : Int32))) (fun h => by rw [Bd.returns] at h; cases h)
    refine ⟨_, _, pre0 _ (c1 _ (?_)), hrun, hended, _, _, rfl, ?_, ⟨_, rfl⟩, hW, hsame.mono (by decide) (by decide)⟩
    · show Steps p.tables e below (s₁.setTop (mkF m 6 #[.val (.int p1), .unset, .unset] [(.int ((p1 - (1 : Int32)) &&& (-32 : Int32)))])) _
      refine XS.ifNo X0.here hx rfl (hb hby at_6) rfl ((if0 _ _).trans (teq hc6).2) ?_
      show Steps p.tables e below (s₁.setTop (mkF m 9 #[.val (.int p1), .unset, .unset] [])) _
      refine XS.iconst X0.here hx rfl (hb hby at_9) ?_
      show Steps p.tables e below (s₁.setTop (mkF m 10 #[.val (.int p1), .unset, .unset] [(.int (1 : Int32))])) _
      refine XS.goto X0.here hx rfl (pc0 := 10) (pc' := 14) rfl (hb hby at_10) (by decide) (by decide) ?_
      show Steps p.tables e below (s₁.setTop (mkF m 14 #[.val (.int p1), .unset, .unset] [(.int (1 : Int32))])) _
      refine XS.istoreN X0.here hx rfl (hb hby at_14) rfl (l' := #[.val (.int p1), .val (.int (1 : Int32)), .unset]) rfl ?_
      show Steps p.tables e below (s₁.setTop (mkF m 15 #[.val (.int p1), .val (.int (1 : Int32)), .unset] [])) _
      refine XS.iconst X0.here hx rfl (hb hby at_15) ?_
      show Steps p.tables e below (s₁.setTop (mkF m 16 #[.val (.int p1), .val (.int (1 : Int32)), .unset] [(.int (1 : Int32))])) _
      refine st2 _ ?_
      show Steps p.tables e below (T2.setTop (mkF m 19 #[.val (.int p1), .val (.int (1 : Int32)), .unset] [(.int (own_len (1 : Int32)))])) _
      refine XS.ifNo X2.here hx rfl (hb hby at_19) rfl ((if0 _ _).trans (feq (by decide : ¬ ((own_len (1 : Int32)) = (0 : Int32)))).1) ?_
      show Steps p.tables e below (T2.setTop (mkF m 22 #[.val (.int p1), .val (.int (1 : Int32)), .unset] [])) _
      refine XS.bipush X2.here hx rfl (hb hby at_22) ?_
      show Steps p.tables e below (T2.setTop (mkF m 24 #[.val (.int p1), .val (.int (1 : Int32)), .unset] [(.int (32 : Int32))])) _
      refine st3 _ ?_
      show Steps p.tables e below (T3.setTop (mkF m 27 #[.val (.int p1), .val (.int (1 : Int32)), .unset] [(.int (own_len (32 : Int32)))])) _
      refine XS.ifNo X3.here hx rfl (hb hby at_27) rfl ((if0 _ _).trans (feq (by decide : ¬ ((own_len (32 : Int32)) = (0 : Int32)))).1) ?_
      show Steps p.tables e below (T3.setTop (mkF m 30 #[.val (.int p1), .val (.int (1 : Int32)), .unset] [])) _
      refine XS.iconst X3.here hx rfl (hb hby at_30) ?_
      show Steps p.tables e below (T3.setTop (mkF m 31 #[.val (.int p1), .val (.int (1 : Int32)), .unset] [(.int (0 : Int32))])) _
      refine st4 _ ?_
      show Steps p.tables e below (T4.setTop (mkF m 34 #[.val (.int p1), .val (.int (1 : Int32)), .unset] [(.int (own_len (0 : Int32)))])) _
      refine XS.ifNo X4.here hx rfl (hb hby at_34) rfl ((if0 _ _).trans (teq (by decide : (own_len (0 : Int32)) = (0 : Int32))).2) ?_
      show Steps p.tables e below (T4.setTop (mkF m 37 #[.val (.int p1), .val (.int (1 : Int32)), .unset] [])) _
      refine XS.bipush X4.here hx rfl (hb hby at_37) ?_
      show Steps p.tables e below (T4.setTop (mkF m 39 #[.val (.int p1), .val (.int (1 : Int32)), .unset] [(.int (33 : Int32))])) _
      refine st5 _ ?_
      show Steps p.tables e below (T5.setTop (mkF m 42 #[.val (.int p1), .val (.int (1 : Int32)), .unset] [(.int (own_len (33 : Int32)))])) _
      refine XS.ifNo X5.here hx rfl (hb hby at_42) rfl ((if0 _ _).trans (teq (by decide : (own_len (33 : Int32)) = (0 : Int32))).2) ?_
      show Steps p.tables e below (T5.setTop (mkF m 45 #[.val (.int p1), .val (.int (1 : Int32)), .unset] [])) _
      refine XS.iconst X5.here hx rfl (hb hby at_45) ?_
      show Steps p.tables e below (T5.setTop (mkF m 46 #[.val (.int p1), .val (.int (1 : Int32)), .unset] [(.int (1 : Int32))])) _
      refine XS.goto X5.here hx rfl (pc0 := 46) (pc' := 50) rfl (hb hby at_46) (by decide) (by decide) ?_
      show Steps p.tables e below (T5.setTop (mkF m 50 #[.val (.int p1), .val (.int (1 : Int32)), .unset] [(.int (1 : Int32))])) _
      refine XS.istoreN X5.here hx rfl (hb hby at_50) rfl (l' := #[.val (.int p1), .val (.int (1 : Int32)), .val (.int (1 : Int32))]) rfl ?_
      show Steps p.tables e below (T5.setTop (mkF m 51 #[.val (.int p1), .val (.int (1 : Int32)), .val (.int (1 : Int32))] [])) _
      refine XS.iloadN X5.here hx rfl (hb hby at_51) rfl ?_
      show Steps p.tables e below (T5.setTop (mkF m 52 #[.val (.int p1), .val (.int (1 : Int32)), .val (.int (1 : Int32))] [(.int p1)])) _
      refine st6 _ ?_
      show Steps p.tables e below (T6.setTop (mkF m 55 #[.val (.int p1), .val (.int (1 : Int32)), .val (.int (1 : Int32))] [(.int (own_len p1))])) _
      refine XS.iloadN X6.here hx rfl (hb hby at_55) rfl ?_
      show Steps p.tables e below (T6.setTop (mkF m 56 #[.val (.int p1), .val (.int (1 : Int32)), .val (.int (1 : Int32))] [(.int (1 : Int32)), (.int (own_len p1))])) _
      refine XS.icmpNo X6.here hx rfl (hb hby at_56) rfl (teq (by rw [own_len_eq, if_pos hc6] : (own_len p1) = (1 : Int32))).2 ?_
      show Steps p.tables e below (T6.setTop (mkF m 59 #[.val (.int p1), .val (.int (1 : Int32)), .val (.int (1 : Int32))] [])) _
      refine XS.iloadN X6.here hx rfl (hb hby at_59) rfl ?_
      show Steps p.tables e below (T6.setTop (mkF m 60 #[.val (.int p1), .val (.int (1 : Int32)), .val (.int (1 : Int32))] [(.int (1 : Int32))])) _
      refine XS.ifNo X6.here hx rfl (hb hby at_60) rfl ((if0 _ _).trans (feq (by decide : ¬ ((1 : Int32) = (0 : Int32)))).1) ?_
      show Steps p.tables e below (T6.setTop (mkF m 63 #[.val (.int p1), .val (.int (1 : Int32)), .val (.int (1 : Int32))] [])) _
      refine XS.iconst X6.here hx rfl (hb hby at_63) ?_
      show Steps p.tables e below (T6.setTop (mkF m 64 #[.val (.int p1), .val (.int (1 : Int32)), .val (.int (1 : Int32))] [(.int (1 : Int32))])) _
      refine XS.goto X6.here hx rfl (pc0 := 64) (pc' := 68) rfl (hb hby at_64) (by decide) (by decide) ?_
      show Steps p.tables e below (T6.setTop (mkF m 68 #[.val (.int p1), .val (.int (1 : Int32)), .val (.int (1 : Int32))] [(.int (1 : Int32))])) _
      exact retN X6 hx (t := .boolean) Bd.returns (by simp) (hb hby at_68) hr
    · show Qrm0 Z p1 h0 n0 _ T6.heap _
      rw [e6]
      exact ⟨rfl, N6⟩
  · obtain ⟨_, _, ⟨T7, L7, k7, n7⟩, -, X7, ⟨Lc7, hQ7, l7, y7, z7⟩, st7⟩ := Jvm.LawKit.callS X0 hx (y := (⟨"com/example/cliffline/cliffline/ColumnType", "isLength", "(I)Z"⟩ : MethodName)) hown (mvT hZ (hw _ (List.mem_of_getElem? (i := 0) rfl))) (mvT hZ (hw _ (List.mem_of_getElem? (i := 1) rfl))) (mvT hZ (hw _ (List.mem_of_getElem? (i := 2) rfl))) (mvT hZ (hw _ (List.mem_of_getElem? (i := 3) rfl))) (by decide) (backOf (W := 0) (rm1 l Z a0 hw [] (1 : Int32) h0 n0 Z0) hZ (hw _ (List.mem_of_getElem? (i := 3) rfl)) (hw _ (List.mem_of_getElem? (i := 2) rfl)) (by decide) (by decide)) (g := (mkF m 16 #[.val (.int p1), .val (.int (0 : Int32)), .unset] [(.int (1 : Int32))])) rfl (by rw [hml]; rfl) (argsL := [(.int (1 : Int32))]) (rest := []) (lenOf pd__28I_29Z rfl) rfl (by show 2 * 0 + _ ≤ _; exact Nat.le_of_eq rfl) (hb hby at_16) (fun _ _ => ⟨rfl, e0, (by decide : 0 + 0 ≤ _), (by decide : 0 + 0 ≤ _)⟩)
    dsimp only [Pt.U, Pt.locs, Pt.cells, Pt.slots] at X7 l7 y7 z7 st7 hQ7
    subst l7 y7 z7
    obtain ⟨rfl, N7q, e7⟩ := hQ7
    have N7 := Fr.app N0 N7q
    obtain ⟨_, _, ⟨T8, L8, k8, n8⟩, -, X8, ⟨Lc8, hQ8, l8, y8, z8⟩, st8⟩ := Jvm.LawKit.callS X7 hx (y := (⟨"com/example/cliffline/cliffline/ColumnType", "isLength", "(I)Z"⟩ : MethodName)) hown (mvT hZ (hw _ (List.mem_of_getElem? (i := 0) rfl))) (mvT hZ (hw _ (List.mem_of_getElem? (i := 1) rfl))) (mvT hZ (hw _ (List.mem_of_getElem? (i := 2) rfl))) (mvT hZ (hw _ (List.mem_of_getElem? (i := 3) rfl))) (by decide) (backOf (W := 0) (rm1 l Z a0 hw [] (32 : Int32) h0 n0 Z0) hZ (hw _ (List.mem_of_getElem? (i := 3) rfl)) (hw _ (List.mem_of_getElem? (i := 2) rfl)) (by decide) (by decide)) (g := (mkF m 24 #[.val (.int p1), .val (.int (0 : Int32)), .unset] [(.int (32 : Int32))])) rfl (by rw [hml]; rfl) (argsL := [(.int (32 : Int32))]) (rest := []) (lenOf pd__28I_29Z rfl) rfl (by show 2 * 0 + _ ≤ _; exact Nat.le_of_eq rfl) (hb hby at_24) (fun _ _ => ⟨rfl, e7, (by decide : 0 + 0 ≤ _), (by decide : 0 + 0 ≤ _)⟩)
    dsimp only [Pt.U, Pt.locs, Pt.cells, Pt.slots] at X8 l8 y8 z8 st8 hQ8
    subst l8 y8 z8
    obtain ⟨rfl, N8q, e8⟩ := hQ8
    have N8 := Fr.app N7 N8q
    obtain ⟨_, _, ⟨T9, L9, k9, n9⟩, -, X9, ⟨Lc9, hQ9, l9, y9, z9⟩, st9⟩ := Jvm.LawKit.callS X8 hx (y := (⟨"com/example/cliffline/cliffline/ColumnType", "isLength", "(I)Z"⟩ : MethodName)) hown (mvT hZ (hw _ (List.mem_of_getElem? (i := 0) rfl))) (mvT hZ (hw _ (List.mem_of_getElem? (i := 1) rfl))) (mvT hZ (hw _ (List.mem_of_getElem? (i := 2) rfl))) (mvT hZ (hw _ (List.mem_of_getElem? (i := 3) rfl))) (by decide) (backOf (W := 0) (rm1 l Z a0 hw [] (0 : Int32) h0 n0 Z0) hZ (hw _ (List.mem_of_getElem? (i := 3) rfl)) (hw _ (List.mem_of_getElem? (i := 2) rfl)) (by decide) (by decide)) (g := (mkF m 31 #[.val (.int p1), .val (.int (0 : Int32)), .unset] [(.int (0 : Int32))])) rfl (by rw [hml]; rfl) (argsL := [(.int (0 : Int32))]) (rest := []) (lenOf pd__28I_29Z rfl) rfl (by show 2 * 0 + _ ≤ _; exact Nat.le_of_eq rfl) (hb hby at_31) (fun _ _ => ⟨rfl, e8, (by decide : 0 + 0 ≤ _), (by decide : 0 + 0 ≤ _)⟩)
    dsimp only [Pt.U, Pt.locs, Pt.cells, Pt.slots] at X9 l9 y9 z9 st9 hQ9
    subst l9 y9 z9
    obtain ⟨rfl, N9q, e9⟩ := hQ9
    have N9 := Fr.app N8 N9q
    obtain ⟨_, _, ⟨T10, L10, k10, n10⟩, -, X10, ⟨Lc10, hQ10, l10, y10, z10⟩, st10⟩ := Jvm.LawKit.callS X9 hx (y := (⟨"com/example/cliffline/cliffline/ColumnType", "isLength", "(I)Z"⟩ : MethodName)) hown (mvT hZ (hw _ (List.mem_of_getElem? (i := 0) rfl))) (mvT hZ (hw _ (List.mem_of_getElem? (i := 1) rfl))) (mvT hZ (hw _ (List.mem_of_getElem? (i := 2) rfl))) (mvT hZ (hw _ (List.mem_of_getElem? (i := 3) rfl))) (by decide) (backOf (W := 0) (rm1 l Z a0 hw [] (33 : Int32) h0 n0 Z0) hZ (hw _ (List.mem_of_getElem? (i := 3) rfl)) (hw _ (List.mem_of_getElem? (i := 2) rfl)) (by decide) (by decide)) (g := (mkF m 39 #[.val (.int p1), .val (.int (0 : Int32)), .unset] [(.int (33 : Int32))])) rfl (by rw [hml]; rfl) (argsL := [(.int (33 : Int32))]) (rest := []) (lenOf pd__28I_29Z rfl) rfl (by show 2 * 0 + _ ≤ _; exact Nat.le_of_eq rfl) (hb hby at_39) (fun _ _ => ⟨rfl, e9, (by decide : 0 + 0 ≤ _), (by decide : 0 + 0 ≤ _)⟩)
    dsimp only [Pt.U, Pt.locs, Pt.cells, Pt.slots] at X10 l10 y10 z10 st10 hQ10
    subst l10 y10 z10
    obtain ⟨rfl, N10q, e10⟩ := hQ10
    have N10 := Fr.app N9 N10q
    obtain ⟨_, _, ⟨T11, L11, k11, n11⟩, -, X11, ⟨Lc11, hQ11, l11, y11, z11⟩, st11⟩ := Jvm.LawKit.callS X10 hx (y := (⟨"com/example/cliffline/cliffline/ColumnType", "isLength", "(I)Z"⟩ : MethodName)) hown (mvT hZ (hw _ (List.mem_of_getElem? (i := 0) rfl))) (mvT hZ (hw _ (List.mem_of_getElem? (i := 1) rfl))) (mvT hZ (hw _ (List.mem_of_getElem? (i := 2) rfl))) (mvT hZ (hw _ (List.mem_of_getElem? (i := 3) rfl))) (by decide) (backOf (W := 0) (rm1 l Z a0 hw [] p1 h0 n0 Z0) hZ (hw _ (List.mem_of_getElem? (i := 3) rfl)) (hw _ (List.mem_of_getElem? (i := 2) rfl)) (by decide) (by decide)) (g := (mkF m 52 #[.val (.int p1), .val (.int (0 : Int32)), .val (.int (1 : Int32))] [(.int p1)])) rfl (by rw [hml]; rfl) (argsL := [(.int p1)]) (rest := []) (lenOf pd__28I_29Z rfl) rfl (by show 2 * 0 + _ ≤ _; exact Nat.le_of_eq rfl) (hb hby at_52) (fun _ _ => ⟨rfl, e10, (by decide : 0 + 0 ≤ _), (by decide : 0 + 0 ≤ _)⟩)
    dsimp only [Pt.U, Pt.locs, Pt.cells, Pt.slots] at X11 l11 y11 z11 st11 hQ11
    subst l11 y11 z11
    obtain ⟨rfl, N11q, e11⟩ := hQ11
    have N11 := Fr.app N10 N11q
    obtain ⟨fs, hr, hrun, hended, hW, hsame⟩ := X11.leave (v := some (.int (1 : Int32))) (fun h => by rw [Bd.returns] at h; cases h)
    refine ⟨_, _, pre0 _ (c1 _ (?_)), hrun, hended, _, _, rfl, ?_, ⟨_, rfl⟩, hW, hsame.mono (by decide) (by decide)⟩
    · show Steps p.tables e below (s₁.setTop (mkF m 6 #[.val (.int p1), .unset, .unset] [(.int ((p1 - (1 : Int32)) &&& (-32 : Int32)))])) _
      refine XS.ifYes X0.here hx rfl (pc0 := 6) (pc' := 13) rfl (hb hby at_6) rfl ((if0 _ _).trans (feq hc6).2) (by decide) (by decide) ?_
      show Steps p.tables e below (s₁.setTop (mkF m 13 #[.val (.int p1), .unset, .unset] [])) _
      refine XS.iconst X0.here hx rfl (hb hby at_13) ?_
      show Steps p.tables e below (s₁.setTop (mkF m 14 #[.val (.int p1), .unset, .unset] [(.int (0 : Int32))])) _
      refine XS.istoreN X0.here hx rfl (hb hby at_14) rfl (l' := #[.val (.int p1), .val (.int (0 : Int32)), .unset]) rfl ?_
      show Steps p.tables e below (s₁.setTop (mkF m 15 #[.val (.int p1), .val (.int (0 : Int32)), .unset] [])) _
      refine XS.iconst X0.here hx rfl (hb hby at_15) ?_
      show Steps p.tables e below (s₁.setTop (mkF m 16 #[.val (.int p1), .val (.int (0 : Int32)), .unset] [(.int (1 : Int32))])) _
      refine st7 _ ?_
      show Steps p.tables e below (T7.setTop (mkF m 19 #[.val (.int p1), .val (.int (0 : Int32)), .unset] [(.int (own_len (1 : Int32)))])) _
      refine XS.ifNo X7.here hx rfl (hb hby at_19) rfl ((if0 _ _).trans (feq (by decide : ¬ ((own_len (1 : Int32)) = (0 : Int32)))).1) ?_
      show Steps p.tables e below (T7.setTop (mkF m 22 #[.val (.int p1), .val (.int (0 : Int32)), .unset] [])) _
      refine XS.bipush X7.here hx rfl (hb hby at_22) ?_
      show Steps p.tables e below (T7.setTop (mkF m 24 #[.val (.int p1), .val (.int (0 : Int32)), .unset] [(.int (32 : Int32))])) _
      refine st8 _ ?_
      show Steps p.tables e below (T8.setTop (mkF m 27 #[.val (.int p1), .val (.int (0 : Int32)), .unset] [(.int (own_len (32 : Int32)))])) _
      refine XS.ifNo X8.here hx rfl (hb hby at_27) rfl ((if0 _ _).trans (feq (by decide : ¬ ((own_len (32 : Int32)) = (0 : Int32)))).1) ?_
      show Steps p.tables e below (T8.setTop (mkF m 30 #[.val (.int p1), .val (.int (0 : Int32)), .unset] [])) _
      refine XS.iconst X8.here hx rfl (hb hby at_30) ?_
      show Steps p.tables e below (T8.setTop (mkF m 31 #[.val (.int p1), .val (.int (0 : Int32)), .unset] [(.int (0 : Int32))])) _
      refine st9 _ ?_
      show Steps p.tables e below (T9.setTop (mkF m 34 #[.val (.int p1), .val (.int (0 : Int32)), .unset] [(.int (own_len (0 : Int32)))])) _
      refine XS.ifNo X9.here hx rfl (hb hby at_34) rfl ((if0 _ _).trans (teq (by decide : (own_len (0 : Int32)) = (0 : Int32))).2) ?_
      show Steps p.tables e below (T9.setTop (mkF m 37 #[.val (.int p1), .val (.int (0 : Int32)), .unset] [])) _
      refine XS.bipush X9.here hx rfl (hb hby at_37) ?_
      show Steps p.tables e below (T9.setTop (mkF m 39 #[.val (.int p1), .val (.int (0 : Int32)), .unset] [(.int (33 : Int32))])) _
      refine st10 _ ?_
      show Steps p.tables e below (T10.setTop (mkF m 42 #[.val (.int p1), .val (.int (0 : Int32)), .unset] [(.int (own_len (33 : Int32)))])) _
      refine XS.ifNo X10.here hx rfl (hb hby at_42) rfl ((if0 _ _).trans (teq (by decide : (own_len (33 : Int32)) = (0 : Int32))).2) ?_
      show Steps p.tables e below (T10.setTop (mkF m 45 #[.val (.int p1), .val (.int (0 : Int32)), .unset] [])) _
      refine XS.iconst X10.here hx rfl (hb hby at_45) ?_
      show Steps p.tables e below (T10.setTop (mkF m 46 #[.val (.int p1), .val (.int (0 : Int32)), .unset] [(.int (1 : Int32))])) _
      refine XS.goto X10.here hx rfl (pc0 := 46) (pc' := 50) rfl (hb hby at_46) (by decide) (by decide) ?_
      show Steps p.tables e below (T10.setTop (mkF m 50 #[.val (.int p1), .val (.int (0 : Int32)), .unset] [(.int (1 : Int32))])) _
      refine XS.istoreN X10.here hx rfl (hb hby at_50) rfl (l' := #[.val (.int p1), .val (.int (0 : Int32)), .val (.int (1 : Int32))]) rfl ?_
      show Steps p.tables e below (T10.setTop (mkF m 51 #[.val (.int p1), .val (.int (0 : Int32)), .val (.int (1 : Int32))] [])) _
      refine XS.iloadN X10.here hx rfl (hb hby at_51) rfl ?_
      show Steps p.tables e below (T10.setTop (mkF m 52 #[.val (.int p1), .val (.int (0 : Int32)), .val (.int (1 : Int32))] [(.int p1)])) _
      refine st11 _ ?_
      show Steps p.tables e below (T11.setTop (mkF m 55 #[.val (.int p1), .val (.int (0 : Int32)), .val (.int (1 : Int32))] [(.int (own_len p1))])) _
      refine XS.iloadN X11.here hx rfl (hb hby at_55) rfl ?_
      show Steps p.tables e below (T11.setTop (mkF m 56 #[.val (.int p1), .val (.int (0 : Int32)), .val (.int (1 : Int32))] [(.int (0 : Int32)), (.int (own_len p1))])) _
      refine XS.icmpNo X11.here hx rfl (hb hby at_56) rfl (teq (by rw [own_len_eq, if_neg hc6] : (own_len p1) = (0 : Int32))).2 ?_
      show Steps p.tables e below (T11.setTop (mkF m 59 #[.val (.int p1), .val (.int (0 : Int32)), .val (.int (1 : Int32))] [])) _
      refine XS.iloadN X11.here hx rfl (hb hby at_59) rfl ?_
      show Steps p.tables e below (T11.setTop (mkF m 60 #[.val (.int p1), .val (.int (0 : Int32)), .val (.int (1 : Int32))] [(.int (1 : Int32))])) _
      refine XS.ifNo X11.here hx rfl (hb hby at_60) rfl ((if0 _ _).trans (feq (by decide : ¬ ((1 : Int32) = (0 : Int32)))).1) ?_
      show Steps p.tables e below (T11.setTop (mkF m 63 #[.val (.int p1), .val (.int (0 : Int32)), .val (.int (1 : Int32))] [])) _
      refine XS.iconst X11.here hx rfl (hb hby at_63) ?_
      show Steps p.tables e below (T11.setTop (mkF m 64 #[.val (.int p1), .val (.int (0 : Int32)), .val (.int (1 : Int32))] [(.int (1 : Int32))])) _
      refine XS.goto X11.here hx rfl (pc0 := 64) (pc' := 68) rfl (hb hby at_64) (by decide) (by decide) ?_
      show Steps p.tables e below (T11.setTop (mkF m 68 #[.val (.int p1), .val (.int (0 : Int32)), .val (.int (1 : Int32))] [(.int (1 : Int32))])) _
      exact retN X11 hx (t := .boolean) Bd.returns (by simp) (hb hby at_68) hr
    · show Qrm0 Z p1 h0 n0 _ T11.heap _
      rw [e11]
      exact ⟨rfl, N11⟩
set_option maxRecDepth 65536 in
set_option maxHeartbeats 40000000 in
theorem comes_1 {Post : Tables → Env → Array Value → State → Outcome → State → Prop} (hpost : ∀ tb e args s v u, (limb_1_1.after args s (.returned v) u = true ∧ limb_1_2.after args s (.returned v) u = true ∧ True) → FrameEnd s (.returned v) u (Jvm.fieldLocs frame_1_writes args s ++ Jvm.arrayLocs frame_1_arrays args s ++ Jvm.staticLocs frame_1_statics s) 0 0 → Post tb e args s (.returned v) u) :
    ArmFor flags0 classFile x code maxLocals ret World_1 tables_1 room_1 Calls_1 rest_1 Pre_1 Post := by
  intro l hfl _ _ p e ha hc hk s m args below hf hA hF happ hP
  obtain ⟨hcalls, hrest, hpre⟩ := hP
  obtain ⟨-, -, -, hnamed, -, -, -, hat⟩ := (Spec.applies_iff hf).mp happ
  obtain ⟨hg, hn⟩ := and_e (Cond.before_iff.mp (show (Jvm.Cond.and given_1 narrow_1).before args s = true from hpre))
  obtain ⟨gc, r0⟩ := and_e hg
  have g0 := r0
  obtain ⟨w0, rfl⟩ : ∃ w0 : Value, args = #[w0] := by
    have hs : args.size = 1 := by simpa [Cond.value, given_1] using gc
    obtain ⟨L⟩ := args
    match L, hs with
    | [w0], _ => exact ⟨w0, rfl⟩
  have hw := fun d (hd : d ∈ tables_1) => atoms_spec (ws := Jvm.Cond.code x code maxLocals ret :: tables_1) hat d (List.mem_cons_of_mem _ hd)
  have hfit : Fit s := fun {y c} hc i hi => by
    obtain ⟨ha, rfl⟩ := Array.getElem?_eq_some_iff.mp hc
    have q := List.all_eq_true.mp ((Array.all_eq_true_iff_forall_mem.mp hF) _ (Array.getElem_mem ha)) i (List.mem_range.mpr hi)
    simpa [Array.getElem?_eq_getElem hi] using q
  obtain ⟨i0, ei0⟩ := is_v g0
  obtain rfl : w0 = (.int i0) := Option.some.inj ei0
  obtain ⟨n, o, h1, h2, h3, _, L, rfl, ⟨rfl, N⟩, hq⟩ := rm0 l s _ hw tables_1 i0 s.heap s.heap.size (Nat.le_refl _) p e ha hc hk s m _ below hf ((Spec.applies_iff_loose hf).mp happ).1 ⟨rfl, State.Warmed39.refl s, rfl⟩ trivial
  refine ⟨n, _, h1, h2, h3, hpost _ _ _ _ _ _ ⟨Cond.after_iff.mpr rfl, Cond.after_iff.mpr (eq_i res_at (Term.int_eval (1)) rfl), trivial⟩ ⟨hq.1, hq.2.1, (hq.2.2.sift fun y hy => Or.inr (N y hy)).mono (by decide) (by decide)⟩⟩
theorem main_1_1 : Claimed_1_1 := comes_1 fun _ _ _ _ _ _ h hF => ⟨h.1, hF⟩
theorem main_1_2 : Claimed_1_2 := comes_1 fun _ _ _ _ _ _ h hF => ⟨h.2.1, hF⟩
end Jvm.Pilot.@@N@@
namespace Jvm.Pilot.@@N@@
open Jvm Jvm.ClassFile Sem Op Lib Jvm.Free Jvm.Stand Jvm.Pilot.@@N@@.Jvm.D
/-! MADE BY PROGRAM (witnessworld.py) out of the Statement's table words and the real class files: 10 classes; the members and pool entries that the words name. The judged class is class 1, her method 1. -/
namespace start1
open Jvm.ClassFile
def u (s : String) : CpInfo := .utf8 (stringToUtf16 s)
/-- a pool by its gaps: so many unusable entries, then the entry; so many at the end -/
def gap : Nat → List CpInfo → List CpInfo
  | 0, r => r
  | n + 1, r => .unusable :: gap n r
def poolList (es : List (Nat × CpInfo)) (last : Nat) : List CpInfo := es.foldr (fun e r => gap e.1 (e.2 :: r)) (gap last [])
def pool (es : List (Nat × CpInfo)) (last : Nat) : Array CpInfo := ⟨poolList es last⟩
def fileOf (pool : Array CpInfo) (this : Nat) (attrs : Array Attribute := #[]) (ms : Array MethodInfo := #[]) (fl : Nat := 33) (sup : Nat := 0) (ifs : Array Nat := #[]) (fds : Array FieldInfo := #[]) : ClassFile where
  minorVersion := 0
  majorVersion := 65
  constantPool := pool
  accessFlags := fl
  thisClass := this
  superClass := sup
  interfaces := ifs
  fields := fds
  methods := ms
  attributes := attrs
def plain (name : String) (sup : Option ClassId) : Class where
  name := name
  kind := .ordinary
  loader := none
  accessFlags := 33
  super := sup
  interfaces := #[]
  cf := none
  fields := #[]
  methods := #[]
  instanceTypes := #[]
  staticTypes := #[]
  resolved := #[]
  callSites := []
  init := .initialized
  statics := none
  mirror := none

def pool0 : Array CpInfo := pool [(5, u "<init>"), (0, u "()V"), (1, .class_ 10), (1, u "java/lang/Object")] 113

def k0m0 : Method := { name := "<init>", desc := "()V", sig := { parameters := [], returnType := none }, accessFlags := 1, code := none }
/-- java/lang/Object -/
def k0 : Class := { plain "java/lang/Object" none with
  accessFlags := 33
  interfaces := #[]
  cf := some (fileOf pool0 8 #[] #[{ accessFlags := 1, nameIndex := 5, descriptorIndex := 6, attributes := #[] }] 33 0 #[] #[])
  fields := #[]
  methods := #[k0m0]
  instanceTypes := #[]
  staticTypes := #[]
  resolved := Array.replicate 124 none
  statics := none }

def pool1 : Array CpInfo := pool [(2, .class_ 4), (1, u "java/lang/Object"), (0, u "<init>"), (0, u "()V"), (0, .methodref 8 9), (0, .class_ 10), (0, .nameAndType 11 12), (0, u "com/example/cliffline/cliffline/ColumnType"), (0, u "isLength"), (0, u "(I)Z"), (0, .class_ 14), (0, u "com/example/cliffline/cliffline/ColumnTypeIsLengthPinLaw"), (2, u "law")] 3

def k1m0 : Method := { name := "<init>", desc := "()V", sig := { parameters := [], returnType := none }, accessFlags := 2, code := none }
def k1c1 : Code := { maxStack := 2, maxLocals := 3, code := code, exceptionTable := #[], attributes := #[] }
def k1m1 : Method := { name := "law", desc := "(I)Z", sig := { parameters := [.int], returnType := some .boolean }, accessFlags := 9, code := some k1c1 }
/-- com/example/cliffline/cliffline/ColumnTypeIsLengthPinLaw -/
def k1 : Class := { plain "com/example/cliffline/cliffline/ColumnTypeIsLengthPinLaw" (some 0) with
  accessFlags := 49
  interfaces := #[]
  cf := some (fileOf pool1 13 #[] #[{ accessFlags := 2, nameIndex := 5, descriptorIndex := 6, attributes := #[] }, { accessFlags := 9, nameIndex := 17, descriptorIndex := 12, attributes := #[] }] 49 2 #[] #[])
  fields := #[]
  methods := #[k1m0, k1m1]
  instanceTypes := #[]
  staticTypes := #[]
  resolved := Array.replicate 21 none
  statics := none }

def pool2 : Array CpInfo := pool [(1, .class_ 2), (0, u "java/lang/constant/Constable"), (0, .class_ 4), (0, u "java/lang/Object")] 6

/-- java/lang/constant/Constable -/
def k2 : Class := { plain "java/lang/constant/Constable" (some 0) with
  accessFlags := 1537
  interfaces := #[]
  cf := some (fileOf pool2 1 #[] #[] 1537 3 #[] #[])
  fields := #[]
  methods := #[]
  instanceTypes := #[]
  staticTypes := #[]
  resolved := Array.replicate 11 none
  statics := none }

def pool3 : Array CpInfo := pool [(1, .class_ 2), (0, u "java/lang/Comparable"), (0, .class_ 4), (0, u "java/lang/Object")] 7

/-- java/lang/Comparable -/
def k3 : Class := { plain "java/lang/Comparable" (some 0) with
  accessFlags := 1537
  interfaces := #[]
  cf := some (fileOf pool3 1 #[] #[] 1537 3 #[] #[])
  fields := #[]
  methods := #[]
  instanceTypes := #[]
  staticTypes := #[]
  resolved := Array.replicate 12 none
  statics := none }

def pool4 : Array CpInfo := pool [(1, .class_ 2), (0, u "java/io/Serializable"), (0, .class_ 4), (0, u "java/lang/Object")] 2

/-- java/io/Serializable -/
def k4 : Class := { plain "java/io/Serializable" (some 0) with
  accessFlags := 1537
  interfaces := #[]
  cf := some (fileOf pool4 1 #[] #[] 1537 3 #[] #[])
  fields := #[]
  methods := #[]
  instanceTypes := #[]
  staticTypes := #[]
  resolved := Array.replicate 7 none
  statics := none }

def pool5 : Array CpInfo := pool [(2, .class_ 4), (1, u "java/lang/Enum"), (0, u "name"), (0, u "Ljava/lang/String;"), (2, u "ordinal"), (0, u "I"), (1, .class_ 14), (1, u "java/lang/Object"), (4, u "hash"), (86, .class_ 108), (1, u "java/lang/Enum$EnumDesc"), (2, .class_ 112), (0, u "java/lang/constant/Constable"), (0, .class_ 114), (0, u "java/lang/Comparable"), (0, .class_ 116), (0, u "java/io/Serializable")] 87

/-- java/lang/Enum -/
def k5 : Class := { plain "java/lang/Enum" (some 0) with
  accessFlags := 1057
  interfaces := #[2, 3, 4]
  cf := some (fileOf pool5 2 #[.nestMembers #[106]] #[] 1057 12 #[111, 113, 115] #[{ accessFlags := 18, nameIndex := 5, descriptorIndex := 6, attributes := #[] }, { accessFlags := 18, nameIndex := 9, descriptorIndex := 10, attributes := #[] }, { accessFlags := 2, nameIndex := 19, descriptorIndex := 10, attributes := #[] }])
  fields := #[{ name := "name", type := (.object "java/lang/String"), accessFlags := 18, slot := 0, constantValue := 0 }, { name := "ordinal", type := .int, accessFlags := 18, slot := 1, constantValue := 0 }, { name := "hash", type := .int, accessFlags := 2, slot := 2, constantValue := 0 }]
  methods := #[]
  instanceTypes := #[(.object "java/lang/String"), .int, .int]
  staticTypes := #[]
  resolved := Array.replicate 204 none
  statics := none }

def pool6 : Array CpInfo := pool [(1, .class_ 2), (0, u "com/example/cliffline/cliffline/ColumnType"), (2, u "INT"), (0, u "Lcom/example/cliffline/cliffline/ColumnType;"), (2, u "VARCHAR"), (2, u "DATE"), (2, u "TIMESTAMP"), (2, u "TIME"), (2, u "DOUBLE"), (2, u "CHAR"), (2, u "DECIMAL"), (2, u "TIMESTAMPTZ"), (2, u "BOOLEAN"), (2, u "$VALUES"), (0, u "[Lcom/example/cliffline/cliffline/ColumnType;"), (6, .class_ 46), (1, u "java/lang/Enum"), (63, u "MAX_LENGTH"), (0, u "I"), (14, u "isLength"), (0, u "(I)Z")] 6

def k6c0 : Code := { maxStack := 2, maxLocals := 1, code := prog_3_method_6_code, exceptionTable := #[], attributes := #[] }
def k6m0 : Method := { name := "isLength", desc := "(I)Z", sig := { parameters := [.int], returnType := some .boolean }, accessFlags := 8, code := some k6c0 }
/-- com/example/cliffline/cliffline/ColumnType -/
def k6 : Class := { plain "com/example/cliffline/cliffline/ColumnType" (some 5) with
  accessFlags := 16432
  interfaces := #[]
  cf := some (fileOf pool6 1 #[] #[{ accessFlags := 8, nameIndex := 126, descriptorIndex := 127, attributes := #[] }] 16432 44 #[] #[{ accessFlags := 16409, nameIndex := 5, descriptorIndex := 6, attributes := #[] }, { accessFlags := 16409, nameIndex := 9, descriptorIndex := 6, attributes := #[] }, { accessFlags := 16409, nameIndex := 12, descriptorIndex := 6, attributes := #[] }, { accessFlags := 16409, nameIndex := 15, descriptorIndex := 6, attributes := #[] }, { accessFlags := 16409, nameIndex := 18, descriptorIndex := 6, attributes := #[] }, { accessFlags := 16409, nameIndex := 21, descriptorIndex := 6, attributes := #[] }, { accessFlags := 16409, nameIndex := 24, descriptorIndex := 6, attributes := #[] }, { accessFlags := 16409, nameIndex := 27, descriptorIndex := 6, attributes := #[] }, { accessFlags := 16409, nameIndex := 30, descriptorIndex := 6, attributes := #[] }, { accessFlags := 16409, nameIndex := 33, descriptorIndex := 6, attributes := #[] }, { accessFlags := 24, nameIndex := 110, descriptorIndex := 111, attributes := #[] }, { accessFlags := 4122, nameIndex := 36, descriptorIndex := 37, attributes := #[] }])
  fields := #[{ name := "INT", type := (.object "com/example/cliffline/cliffline/ColumnType"), accessFlags := 16409, slot := 0, constantValue := 0 }, { name := "VARCHAR", type := (.object "com/example/cliffline/cliffline/ColumnType"), accessFlags := 16409, slot := 1, constantValue := 0 }, { name := "DATE", type := (.object "com/example/cliffline/cliffline/ColumnType"), accessFlags := 16409, slot := 2, constantValue := 0 }, { name := "TIMESTAMP", type := (.object "com/example/cliffline/cliffline/ColumnType"), accessFlags := 16409, slot := 3, constantValue := 0 }, { name := "TIME", type := (.object "com/example/cliffline/cliffline/ColumnType"), accessFlags := 16409, slot := 4, constantValue := 0 }, { name := "DOUBLE", type := (.object "com/example/cliffline/cliffline/ColumnType"), accessFlags := 16409, slot := 5, constantValue := 0 }, { name := "CHAR", type := (.object "com/example/cliffline/cliffline/ColumnType"), accessFlags := 16409, slot := 6, constantValue := 0 }, { name := "DECIMAL", type := (.object "com/example/cliffline/cliffline/ColumnType"), accessFlags := 16409, slot := 7, constantValue := 0 }, { name := "TIMESTAMPTZ", type := (.object "com/example/cliffline/cliffline/ColumnType"), accessFlags := 16409, slot := 8, constantValue := 0 }, { name := "BOOLEAN", type := (.object "com/example/cliffline/cliffline/ColumnType"), accessFlags := 16409, slot := 9, constantValue := 0 }, { name := "MAX_LENGTH", type := .int, accessFlags := 24, slot := 10, constantValue := 0 }, { name := "$VALUES", type := (.array (.object "com/example/cliffline/cliffline/ColumnType")), accessFlags := 4122, slot := 11, constantValue := 0 }]
  methods := #[k6m0]
  instanceTypes := #[(.object "java/lang/String"), .int, .int]
  staticTypes := #[(.object "com/example/cliffline/cliffline/ColumnType"), (.object "com/example/cliffline/cliffline/ColumnType"), (.object "com/example/cliffline/cliffline/ColumnType"), (.object "com/example/cliffline/cliffline/ColumnType"), (.object "com/example/cliffline/cliffline/ColumnType"), (.object "com/example/cliffline/cliffline/ColumnType"), (.object "com/example/cliffline/cliffline/ColumnType"), (.object "com/example/cliffline/cliffline/ColumnType"), (.object "com/example/cliffline/cliffline/ColumnType"), (.object "com/example/cliffline/cliffline/ColumnType"), .int, (.array (.object "com/example/cliffline/cliffline/ColumnType"))]
  resolved := Array.replicate 134 none
  statics := none }

def pool7 : Array CpInfo := pool [(1, u "java/lang/Cloneable"), (0, .class_ 1), (0, u "java/lang/Object"), (0, .class_ 3)] 3

/-- java/lang/Cloneable -/
def k7 : Class := { plain "java/lang/Cloneable" (some 0) with
  accessFlags := 1537
  interfaces := #[]
  cf := some (fileOf pool7 2 #[] #[] 1537 4 #[] #[])
  fields := #[]
  methods := #[]
  instanceTypes := #[]
  staticTypes := #[]
  resolved := Array.replicate 8 none
  statics := none }

/-- the primitive byte -/
def k8 : Class := { plain "byte" none with kind := .primitive 'B', accessFlags := 0x411 }
/-- [B -/
def k9 : Class := { plain "[B" (some 0) with kind := .array 8 .byte, interfaces := #[7, 4], accessFlags := 1041 }

def heap : Heap := #[]
def classes : Array Class := #[k0, k1, k2, k3, k4, k5, k6, k7, k8, k9]
def interned : List (Array UInt16 × Addr) := []
def slotsUsed : Nat := 0
def theMethod : MethodId := ⟨1, 1⟩
def args0 : Array Value := #[.int 5]
def aboutOver (below : List Frame) : State where
  vm := { classes := classes, interned := interned.toArray }
  heap := heap
  slotsUsed := slotsUsed
  threads := #[{ frames := .invoking theMethod args0 :: below }]
def below0 : List Frame := [.native { method := ⟨0, 0⟩, args := #[] }]
def about1 : State := aboutOver below0
def p0 : Program := .bare "" "" ""
def e0 : Env := launch0.env 0 0 0
theorem w_frames : about1.frames = Frame.invoking theMethod args0 :: below0 := rfl
set_option maxRecDepth 65536 in
theorem w_args : argsFit about1.vm theMethod args0 = true := by decide +kernel
set_option maxRecDepth 65536 in
theorem w_heap : heapFits about1 = true := by decide +kernel
set_option maxRecDepth 65536 in
theorem w_runnable : about1.curStatus? = some .runnable := by decide +kernel
set_option maxRecDepth 65536 in
theorem w_alone : about1.alone = true := by decide +kernel
set_option maxRecDepth 65536 in
theorem w_named : about1.methodNamed? x = some theMethod := by decide +kernel
set_option maxRecDepth 65536 in
theorem w_hears : about1.hears theMethod below0 = true := by decide +kernel
set_option maxRecDepth 65536 in
theorem w_ripe : about1.ripe theMethod args0 below0 = true := by decide +kernel
theorem w_running : about1.status = .running := rfl
set_option maxRecDepth 65536 in
theorem w_room : about1.hasRoom e0.platform room_1 = true :=
  launch0.hasRoom_least _ room_1 (by decide +kernel) (by decide +kernel) (by decide +kernel) (by decide +kernel) (by decide +kernel) (by decide +kernel)
theorem allAtoms_all (ts : List Jvm.Cond) (a : Array Jvm.Value) (st : Jvm.State) : (allAtoms ts).before a st = ts.all (fun c => c.before a st) := by
  induction ts with
  | nil => rfl
  | cons c t ih =>
    show (Jvm.Cond.and c (allAtoms t)).before a st = _
    rw [Jvm.Cond.before_and, ih, List.all_cons]
def words1 : List Jvm.Cond := Jvm.Cond.code x code maxLocals ret :: tables_1
/-- a 'code' word, met by the world's own term for the bytes: nothing is compared byte by byte -/
theorem code_word {y : MethodName} {bytes : ByteArray} {mx : Nat} {rt : Option FieldType} {a : Array Value} {s : State} {m : MethodId} {meth : Method} {c : Code} (h1 : s.methodNamed? y = some m) (h2 : s.vm.method? m = some meth) (h3 : meth.code = some c) (h4 : c.code = bytes)
    (h5 : (c.maxLocals == mx && c.exceptionTable.isEmpty && decide (c.maxStack ≤ mostOperands) && decide (meth.sig.returnType = rt) && !meth.locks && decide (parseMethodDescriptor y.desc = some meth.sig)) = true) : (Jvm.Cond.code y bytes mx rt).before a s = true := by
  simp only [Bool.and_eq_true, beq_iff_eq, Bool.not_eq_true', decide_eq_true_eq] at h5
  obtain ⟨⟨⟨⟨⟨g1, g2⟩, g3⟩, g4⟩, g5⟩, g6⟩ := h5
  simp [Cond.before, Cond.holds, Cond.value, h1, h2, h3, h4, g1, g2, g3, g4, g5, g6]
def isCode : Jvm.Cond → Bool
  | .code _ _ _ _ => true
  | _ => false
theorem all_split {L : List Jvm.Cond} {P : Jvm.Cond → Bool} (h1 : L.all (fun c => isCode c || P c) = true) (h2 : ∀ c ∈ L.filter isCode, P c = true) : L.all P = true := by
  refine List.all_eq_true.mpr fun c hc => ?_
  have h := List.all_eq_true.mp h1 c hc
  rcases Bool.eq_false_or_eq_true (isCode c) with hi | hi
  · exact h2 c (List.mem_filter.mpr ⟨hc, hi⟩)
  · simpa [hi] using h
set_option maxRecDepth 65536 in
theorem w_c0 : (Jvm.Cond.code x code maxLocals ret).before args0 about1 = true := code_word (m := ⟨1, 1⟩) (meth := k1m1) (c := k1c1) (by decide +kernel) rfl rfl rfl (by decide +kernel)
set_option maxRecDepth 65536 in
theorem w_c1 : (Jvm.Cond.code ({ cls := "com/example/cliffline/cliffline/ColumnType", name := "isLength", desc := "(I)Z" } : Jvm.MethodName) prog_3_method_6_code (1 : Nat) (Option.some Jvm.ClassFile.FieldType.boolean)).before args0 about1 = true := code_word (m := ⟨6, 0⟩) (meth := k6m0) (c := k6c0) (by decide +kernel) rfl rfl rfl (by decide +kernel)
def codes1 : List Jvm.Cond := [Jvm.Cond.code x code maxLocals ret, Jvm.Cond.code ({ cls := "com/example/cliffline/cliffline/ColumnType", name := "isLength", desc := "(I)Z" } : Jvm.MethodName) prog_3_method_6_code (1 : Nat) (Option.some Jvm.ClassFile.FieldType.boolean)]
set_option maxRecDepth 65536 in
theorem codes_eq : words1.filter isCode = codes1 := rfl
theorem w_codes : ∀ c ∈ words1.filter isCode, c.before args0 about1 = true := by
  rw [codes_eq]
  intro c hc
  simp only [codes1, List.mem_cons, List.not_mem_nil, or_false] at hc
  rcases hc with rfl | rfl
  · exact w_c0
  · exact w_c1
set_option maxRecDepth 65536 in
theorem w_t1 : words1.all (fun c => isCode c || c.before args0 about1) = true := by decide +kernel
theorem w_tables : (allAtoms (Jvm.Cond.code x code maxLocals ret :: tables_1)).before args0 about1 = true := by
  rw [allAtoms_all]
  show words1.all (fun c => c.before args0 about1) = true
  refine all_split ?_ w_codes
  rw [w_t1]
set_option maxRecDepth 65536 in
theorem w_case : (Jvm.Cond.and given_1 narrow_1).before args0 about1 = true := by decide +kernel
theorem w_applies : (headSpec (Jvm.Cond.code x code maxLocals ret :: tables_1) room_1).applies x e0.platform about1 = true :=
  (Spec.applies_iff w_frames).mpr ⟨w_running, w_runnable, w_alone, w_named, w_hears, w_ripe, w_room, w_tables⟩
theorem atStart : AtStart classFile x code maxLocals ret World_1 tables_1 room_1 Calls_1 rest_1 Pre_1 launch0 p0 e0 about1 theMethod args0 below0 :=
  ⟨lists_1, trivial, launch0.admits_env _ _ _, launch0.least_env, fairChoices_fair.cas, fairChoices_fair.clock, w_frames, w_args, w_heap, w_applies, trivial, trivial, w_case⟩
end start1
theorem witness_1 : WitnessClaimed_1 := ⟨start1.p0, start1.e0, start1.about1, start1.theMethod, start1.args0, start1.below0, start1.atStart⟩
end Jvm.Pilot.@@N@@
