import JvmDerived
import JvmDerived.Pilot.@@N@@Statement
import JvmDerived.Pilot.@@N@@Code
set_option linter.unusedVariables false
set_option linter.unusedSimpArgs false
@@BLOCK:NumsL.lean.txt@@
namespace Jvm.RoadKit
open Sem ClassFile Op Lib Jvm.Stand Jvm.Free Jvm.LawKit
section New
variable {p : Program} {l : Launch} {e : Env} {R : Room} {s : State} {m : MethodId} {args : Array Value} {below : List Frame} {meth : Method} {c : Code} {T : State} {locs : List Loc} {cells slots : Nat}
theorem retI (X : Stand p l e R s m args below meth c T locs cells slots) (hx : p.tables.exec = Jvm.exec) {pc : Nat} {Ls : Array Slot} {z : Int32} {rest : List Value} (hret : meth.sig.returnType = some .int) (hd : decode c.code pc = .ok (.ireturn, 1)) {fs : List Frame}
    (hl : ∀ (f : JFrame) (acts : List Action), f.method = m → f.locked = none → f.entered = [] → (doReturn e (T.setTop f) acts (some (.int z))).1 = T.setFrames fs) : Steps p.tables e below (T.setTop (mkF m pc Ls (.int z :: rest))) (T.setFrames fs) := by
  have hm' : T.vm.method? m = some meth := X.method'
  have hn : narrow .int (.int z) = .int z := rfl
  show Steps p.tables e below (T.setTop { method := m, pc := pc, locals := Ls, stack := _ :: rest, locked := none }) _
  jvm_step X.here [X.here.top, hx, hd, hm', hret, hn]
  first | (intro acts; rw [hl _ acts rfl rfl rfl]) | rw [hl _ _ rfl rfl rfl]
  exact Steps.refl _
end New
end Jvm.RoadKit
namespace Jvm.RoadKit
open Jvm.FP Jvm.FP.Core
def up16 : Datum → Datum
  | .fin s c q => .fin s c (q + 16)
  | d => d
def Dy (i : Int) (d : Datum) : Prop := Whole i (up16 d)
theorem own_whole_at {i : Int} {s : Bool} {c : Nat} {q : Int} (k : Nat) (hk : 0 ≤ q + k) : Whole i (.fin s c q) ↔ signed s (c * 2 ^ (q + k).toNat) = i * ((2 ^ k : Nat) : Int) := by
  show signed s (c * 2 ^ q.toNat) = i * ((2 ^ (-q).toNat : Nat) : Int) ↔ _
  by_cases h : 0 ≤ q
  · have e1 : (-q).toNat = 0 := by omega
    have e2 : (q + k).toNat = q.toNat + k := by omega
    rw [e1, e2, Nat.pow_add, ← Nat.mul_assoc, signed_mul s (c * 2 ^ q.toNat)]
    have p2 : ((2 ^ k : Nat) : Int) ≠ 0 := by have := Nat.two_pow_pos k; omega
    constructor
    · intro g; rw [g]; simp
    · intro g; have := Int.eq_of_mul_eq_mul_right p2 g; rw [this]; simp
  · have e1 : q.toNat = 0 := by omega
    obtain ⟨m, hm⟩ : ∃ m, m = (q + k).toNat := ⟨_, rfl⟩
    have e2 : k = (-q).toNat + m := by omega
    rw [e1, ← hm, e2, Nat.pow_add, signed_mul s c (2 ^ m), Nat.pow_zero, Nat.mul_one]
    have p2 : ((2 ^ m : Nat) : Int) ≠ 0 := by have := Nat.two_pow_pos m; omega
    rw [Int.natCast_mul, ← Int.mul_assoc]
    constructor
    · intro g; rw [g]
    · intro g; exact Int.eq_of_mul_eq_mul_right p2 g
theorem own_dy_whole {i : Int} {d : Datum} (h : Whole i d) : Dy (i * 65536) d := by
  cases d with
  | nan => exact h.elim
  | inf => exact h.elim
  | fin s c q =>
    have hk : 0 ≤ q + ((-q).toNat : Int) := by omega
    have h1 := (own_whole_at (-q).toNat hk).mp h
    show Whole _ (.fin s c (q + 16))
    refine (own_whole_at (-q).toNat (by omega)).mpr ?_
    have e : (q + 16 + ((-q).toNat : Int)).toNat = (q + ((-q).toNat : Int)).toNat + 16 := by omega
    rw [e, Nat.pow_add, ← Nat.mul_assoc, signed_mul s _ (2 ^ 16), h1]
    have : ((2 ^ 16 : Nat) : Int) = 65536 := by decide
    rw [this, Int.mul_right_comm]
theorem own_dy_sum {i j : Int} {x y : Datum} (hx : Dy i x) (hy : Dy j y) : Dy (i + j) (exactSum x y) := by
  cases x with
  | nan => exact hx.elim
  | inf => exact hx.elim
  | fin s c q =>
  cases y with
  | nan => exact hy.elim
  | inf => exact hy.elim
  | fin t d r =>
    have h := whole_sum hx hy
    have e : exactSum (up16 (.fin s c q)) (up16 (.fin t d r)) = up16 (exactSum (.fin s c q) (.fin t d r)) := by
      show Datum.fin (sumSign s t (sumUnits s c (q + 16) t d (r + 16) (min (q + 16) (r + 16)))) (sumUnits s c (q + 16) t d (r + 16) (min (q + 16) (r + 16))).natAbs (min (q + 16) (r + 16)) = Datum.fin (sumSign s t (sumUnits s c q t d r (min q r))) (sumUnits s c q t d r (min q r)).natAbs (min q r + 16)
      have em : min (q + 16) (r + 16) = min q r + 16 := by omega
      have eu : sumUnits s c (q + 16) t d (r + 16) (min q r + 16) = sumUnits s c q t d r (min q r) := by
        unfold sumUnits inUnits
        rw [show q + 16 - (min q r + 16) = q - min q r by omega, show r + 16 - (min q r + 16) = r - min q r by omega]
      rw [em, eu]
    show Whole (i + j) (up16 _)
    rw [← e]; exact h
theorem own_dy_neg {i : Int} {x : Datum} (hx : Dy i x) : Dy (-i) (negate x) := by
  cases x with
  | nan => exact hx.elim
  | inf => exact hx.elim
  | fin s c q => exact whole_negate (x := .fin s c (q + 16)) hx
theorem own_pow_cut {c c' a b : Nat} {D : Int} (h : c * 2 ^ a = c' * 2 ^ b) (hD : (a : Int) - b = D) : c * 2 ^ D.toNat = c' * 2 ^ (-D).toNat := by
  by_cases g : b ≤ a
  · obtain ⟨m, rfl⟩ : ∃ m, a = b + m := ⟨a - b, by omega⟩
    have e1 : D.toNat = m := by omega
    have e2 : (-D).toNat = 0 := by omega
    rw [e1, e2, Nat.pow_zero, Nat.mul_one]
    rw [Nat.pow_add, Nat.mul_comm (2 ^ b), ← Nat.mul_assoc] at h
    exact Nat.eq_of_mul_eq_mul_right (Nat.two_pow_pos b) h
  · obtain ⟨m, rfl⟩ : ∃ m, b = a + m := ⟨b - a, by omega⟩
    have e1 : D.toNat = 0 := by omega
    have e2 : (-D).toNat = m := by omega
    rw [e1, e2, Nat.pow_zero, Nat.mul_one]
    rw [Nat.pow_add, Nat.mul_comm (2 ^ a), ← Nat.mul_assoc] at h
    exact Nat.eq_of_mul_eq_mul_right (Nat.two_pow_pos a) h
theorem own_b64 : b64.qmin = -1074 ∧ b64.qmax = 971 ∧ b64.p = 53 := by decide
theorem own_low {n c : Nat} {q : Int} (hn : 0 < n) (hc : c < 2 ^ b64.p) (h : c * 2 ^ q.toNat = n * 2 ^ (-q).toNat) : -100 ≤ q := by
  rw [own_b64.2.2] at hc
  refine Int.not_lt.mp fun g => ?_
  have e1 : q.toNat = 0 := by omega
  rw [e1, Nat.pow_zero, Nat.mul_one] at h
  have h2 : 2 ^ 100 ≤ 2 ^ (-q).toNat := Nat.pow_le_pow_right (by decide) (by omega)
  have h3 : 2 ^ (-q).toNat ≤ n * 2 ^ (-q).toNat := Nat.le_mul_of_pos_left _ hn
  have h4 : (2 : Nat) ^ 53 < 2 ^ 100 := by decide
  omega
theorem own_dy_round {i : Int} {d : Datum} (hi : i.natAbs ≤ 2 ^ b64.p) (h : Dy i d) : Dy i (round b64 d) := by
  cases d with
  | nan => exact h.elim
  | inf => exact h.elim
  | fin s c q =>
    have hw : Whole i (.fin s c (q + 16)) := h
    by_cases h0 : i = 0
    · have hc : c = 0 := (whole_zero hw).mpr h0
      subst hc
      show Whole i (up16 (roundRatio b64 s 0 1 q))
      unfold roundRatio
      rw [if_pos rfl, h0]
      show signed s (0 * _) = 0 * _
      rw [Nat.zero_mul, signed_zero, Int.zero_mul]
    · obtain ⟨c', q', hfit, hv⟩ := natFit good_b64 wide_b64 s hi
      have hn : 0 < i.natAbs := by omega
      rw [show (0 - q').toNat = (-q').toNat by omega, show (q' - 0).toNat = q'.toNat by omega, Nat.mul_one] at hv
      obtain ⟨f1, f2, f3, f4⟩ := hfit
      have hlo := own_low hn f1 hv.symm
      have hb := own_b64
      have hfit2 : Core.fits b64 (.fin s c' (q' - 16)) := ⟨f1, by omega, by omega, Or.inr (f4.resolve_left (fun e => by omega))⟩
      have w := whole_natAbs hw
      have hcut : c * 2 ^ ((q + 16) - q').toNat = c' * 2 ^ (-((q + 16) - q')).toNat := by
        refine own_pow_cut (a := (q + 16).toNat + (-q').toNat) (b := q'.toNat + (-(q + 16)).toNat) ?_ (by omega)
        rw [Nat.pow_add, ← Nat.mul_assoc, w, Nat.mul_right_comm, hv, Nat.pow_add, ← Nat.mul_assoc]
      have hr : roundRatio b64 s c 1 q = .fin s c' (q' - 16) := by
        refine roundRatio_exact good_b64 (by decide) hfit2 ?_
        rw [Nat.mul_one, show (q - (q' - 16)).toNat = ((q + 16) - q').toNat by omega, show (q' - 16 - q).toNat = (-((q + 16) - q')).toNat by omega]
        exact hcut
      show Whole i (up16 (roundRatio b64 s c 1 q))
      rw [hr]
      show signed s (c' * 2 ^ (q' - 16 + 16).toNat) = i * ((2 ^ (-(q' - 16 + 16)).toNat : Nat) : Int)
      rw [show q' - 16 + 16 = q' by omega, ← hv, signed_mul]
      congr 1
      rw [whole_sign hw h0]
      unfold signed
      by_cases g : i < 0 <;> simp [g] <;> omega
theorem own_dadd {i j : Int} {x y : UInt64} (hx : Dy i (val64 x)) (hy : Dy j (val64 y)) (h : (i + j).natAbs ≤ 2 ^ b64.p) : Dy (i + j) (val64 (Core.dadd x y)) := by
  rw [val64_dadd]; exact own_dy_round h (own_dy_sum hx hy)
theorem own_dsub {i j : Int} {x y : UInt64} (hx : Dy i (val64 x)) (hy : Dy j (val64 y)) (h : (i - j).natAbs ≤ 2 ^ b64.p) : Dy (i - j) (val64 (Core.dsub x y)) := by
  rw [val64_dsub]; exact own_dy_round h (own_dy_sum hx (own_dy_neg hy))
theorem own_K : val64 4679240012837945344 = .fin false (2 ^ 52) (-36) := by decide +kernel
theorem own_ddiv {i : Int} {x : UInt64} (hx : Whole i (val64 x)) : Dy i (val64 (Core.ddiv x 4679240012837945344)) := by
  rw [val64_ddiv, own_K]
  have hf := val64_fits x
  cases hv : val64 x with
  | nan => rw [hv] at hx; exact hx.elim
  | inf => rw [hv] at hx; exact hx.elim
  | fin s c q =>
    rw [hv] at hx hf
    show Dy i (if 2 ^ 52 = 0 then (if c = 0 then .nan else .inf (s != false)) else roundRatio b64 (s != false) c (2 ^ 52) (q - (-36)))
    rw [if_neg (by decide), show (s != false) = s by cases s <;> rfl]
    by_cases h0 : i = 0
    · have hc : c = 0 := (whole_zero hx).mpr h0
      subst hc
      show Whole i (up16 (roundRatio b64 s 0 _ _))
      unfold roundRatio
      rw [if_pos rfl, h0]
      show signed s (0 * _) = 0 * _
      rw [Nat.zero_mul, signed_zero, Int.zero_mul]
    · obtain ⟨f1, f2, f3, f4⟩ := hf
      have hn : 0 < i.natAbs := by omega
      have hlo := own_low hn f1 (whole_natAbs hx)
      have hb := own_b64
      have hfit2 : Core.fits b64 (.fin s c (q - 16)) := ⟨f1, by omega, by omega, Or.inr (f4.resolve_left (fun e => by omega))⟩
      have hr : roundRatio b64 s c (2 ^ 52) (q - (-36)) = .fin s c (q - 16) := by
        refine roundRatio_exact good_b64 (Nat.two_pow_pos _) hfit2 ?_
        rw [show (q - -36 - (q - 16)).toNat = 52 by omega, show (q - 16 - (q - -36)).toNat = 0 by omega, Nat.pow_zero, Nat.mul_one]
      rw [hr]
      show Whole i (.fin s c (q - 16 + 16))
      rw [show q - 16 + 16 = q by omega]
      exact hx
theorem own_dmul {i : Int} {x : UInt64} (hx : Dy i (val64 x)) (hi : i.natAbs ≤ 2 ^ b64.p) : Whole i (val64 (Core.dmul x 4679240012837945344)) := by
  rw [val64_dmul, own_K]
  refine whole_round good_b64 wide_b64 hi ?_
  cases hv : val64 x with
  | nan => rw [hv] at hx; exact hx.elim
  | inf => rw [hv] at hx; exact hx.elim
  | fin s c q =>
    rw [hv] at hx
    have hw : Whole i (.fin s c (q + 16)) := hx
    have hk : 0 ≤ q + 16 + ((-(q + 16)).toNat : Int) := by omega
    have h1 := (own_whole_at (-(q + 16)).toNat hk).mp hw
    show Whole i (.fin (s != false) (c * 2 ^ 52) (q + -36))
    rw [show (s != false) = s by cases s <;> rfl]
    refine (own_whole_at ((-(q + 16)).toNat + 52) (by omega)).mpr ?_
    rw [show (q + -36 + (((-(q + 16)).toNat + 52 : Nat) : Int)).toNat = (q + 16 + ((-(q + 16)).toNat : Int)).toNat by omega, Nat.mul_right_comm, signed_mul, h1, Nat.pow_add, Int.natCast_mul, Int.mul_assoc]
theorem own_dy_nn {i : Int} {x : UInt64} (h : Dy i (val64 x)) : val64 x ≠ .nan := by
  intro q; rw [q] at h; exact h
end Jvm.RoadKit
namespace Jvm.Pilot.@@N@@
open Jvm Jvm.ClassFile Sem Op Lib Jvm.Free Jvm.Stand Jvm.LawKit Jvm.RoadKit Bundle Jvm.Pilot.@@N@@.Jvm.D
open Jvm.FP.Core (val64 Whole) in
theorem own_nn {i : Int} {x : UInt64} (h : Dy i (val64 x)) : Jvm.Free.Fl.NoNaN64 x := Jvm.Free.Fl.noNaN64_no.mpr ((Jvm.FP.Core.notNaN_iff x).mpr (own_dy_nn h))
open Jvm.FP.Core (val64 Whole) in
theorem own_i2d (x : Int32) : Whole x.toInt (val64 (FP.l2d x.toInt64)) := by
  have h := x.le_toInt; have h' := x.toInt_lt
  have e := Int32.toInt_toInt64 x
  have := Jvm.FP.Core.l2d_whole (a := x.toInt64) (by unfold Jvm.FP.Core.Small53; rw [e]; constructor <;> omega)
  rw [e] at this; exact this
open Jvm.FP.Core (val64 Whole) in
theorem own_nnW {i : Int} {x : UInt64} (h : Whole i (val64 x)) : Jvm.Free.Fl.NoNaN64 x := Jvm.Free.Fl.noNaN64_no.mpr ((Jvm.FP.Core.notNaN_iff x).mpr h.ne_nan)
open Jvm.FP.Core (val64 Whole) in
theorem own_dcmp {i j : Int} {x y : UInt64} (hx : Whole i (val64 x)) (hy : Whole j (val64 y)) (e : i = j) (o : CmpOp) : cmpValue (FP.dcmp x y) o = 0 := by
  have : FP.dcmp x y = some (compare i j) := Jvm.FP.Core.dcmp_int hx hy
  rw [this, e, show compare j j = Ordering.eq by simp]; rfl
theorem own_53 {i : Int} (h : i.natAbs ≤ 9007199254740992) : i.natAbs ≤ 2 ^ Jvm.FP.Core.b64.p := h
theorem d4_0 : decode jdk_30_method_1_code 0 = .ok (.aload_n 0, 1) := by decide +kernel
theorem d4_1 : decode jdk_30_method_1_code 1 = .ok (.invokespecial 1, 3) := by decide +kernel
theorem d4_4 : decode jdk_30_method_1_code 4 = .ok (.return_, 1) := by decide +kernel
theorem pn_java_lang_Record : plainName "java/lang/Record" = true := by first | (simp [plainName, overriddenIn]; done) | decide +kernel
theorem ef_rmRec (m : MethodId) (x0 : Addr) : entryFrame m #[(.ref x0)] 1 = mkF m 0 #[.val (.ref x0)] [] := by first | (simp [entryFrame, mkF, argsToLocals, Value.category]; done) | rfl
def QrmRec (Z : State) (a1 : Addr) (h0 : Heap) (n0 : Nat) (v : Option Value) (h : Heap) (L : List Loc) : Prop := v = none ∧ Fr n0 L ∧ h = h0
set_option maxRecDepth 65536 in
set_option maxHeartbeats 40000000 in
theorem rmRec (l : Launch) (Z : State) (a0 : Array Value) (hw : ∀ d ∈ tables_1, d.before a0 Z = true) (ws : List Jvm.Cond) (a1 : Addr) (h0 : Heap) (n0 : Nat) (Z0 : n0 ≤ h0.size) :
    MetFree l (⟨"java/lang/Record", "<init>", "()V"⟩ : MethodName) (head1 (Jvm.Cond.code (⟨"java/lang/Record", "<init>", "()V"⟩ : MethodName) jdk_30_method_1_code 1 none :: ws) ({ frames := 1, cells := 0, slots := 0, locals := 12 } : Room)) (fun a U => a = #[(.ref a1)] ∧ Z.Warmed39 U.vm ∧ U.heap = h0) (fun _ _ _ _ _ => True) (fun _ U o U' => ∃ v L, o = .returned v ∧ QrmRec Z a1 h0 n0 v U'.heap L ∧ FrameEnd U o U' L ({ frames := 1, cells := 0, slots := 0, locals := 12 } : Room).cells ({ frames := 1, cells := 0, slots := 0, locals := 12 } : Room).slots) := by
  refine MetFree.of_bodySF (plainFor_of_name pn_java_lang_Record) hisR ?_
  intro p e s m args below meth c s₁ Bd hml0 hP hK
  obtain ⟨rfl, hZ, hh⟩ := hP
  have hx := Bd.exec
  have hby := Bd.bytes
  have hml : c.maxLocals = 1 := hml0
  have hown : s.vm.findClass "java/lang/Record" = some m.cls := findClass_of_methodNamed Bd.named
  have hnm := (name_of_methodNamed Bd.named Bd.method).1
  have X0 : Stand p l e ({ frames := 1, cells := 0, slots := 0, locals := 12 } : Room) s m #[(.ref a1)] below meth c s₁ [] 0 0 := Stand.of_body Bd
  have e0 : s₁.heap = h0 := by rw [← hh, Bd.state]; rfl
  have N0 := Fr.nil n0
  have pre0 : ∀ t, Steps p.tables e below (s₁.setTop (mkF m 0 #[.val (.ref a1)] [])) t → Steps p.tables e below (s₁.setTop (entryFrame m #[(.ref a1)] 1)) t := fun t k => castTop (ef_rmRec m a1) k
  obtain ⟨T1, X1, e1, st1⟩ := initO X0 hx hZ hown (hw _ (List.mem_of_getElem? (i := 21) rfl)) (hw _ (List.mem_of_getElem? (i := 8) rfl)) (hw _ (List.mem_of_getElem? (i := 9) rfl)) e0 (g := (mkF m 1 #[.val (.ref a1)] [(.ref a1)])) rfl (by rw [hml]; rfl) rfl (hb hby d4_1) (by decide) (W := 0) (by show 2 * 0 + _ ≤ _; exact Nat.le_of_eq rfl) (by decide)
  obtain ⟨fs, hr, hrun, hended, hW, hsame⟩ := X1.leave (v := none) (fun _ => rfl)
  refine ⟨_, _, pre0 _ (?_), hrun, hended, _, _, rfl, ?_, ⟨_, rfl⟩, hW, hsame.mono (by decide) (by decide)⟩
  · show Steps p.tables e below (s₁.setTop (mkF m 0 #[.val (.ref a1)] [])) _
    refine XS.aloadN X0.here hx rfl (hb hby d4_0) rfl rfl ?_
    show Steps p.tables e below (s₁.setTop (mkF m 1 #[.val (.ref a1)] [(.ref a1)])) _
    refine st1 _ ?_
    show Steps p.tables e below (T1.setTop (mkF m 4 #[.val (.ref a1)] [])) _
    exact X1.returnOut hx Bd.returns (hb hby d4_4) hr
  · show QrmRec Z a1 h0 n0 _ T1.heap _
    rw [e1]
    exact ⟨rfl, N0, rfl⟩
theorem d1_0 : decode prog_1_method_1_code 0 = .ok (.aload_n 0, 1) := by decide +kernel
theorem d1_1 : decode prog_1_method_1_code 1 = .ok (.invokespecial 1, 3) := by decide +kernel
theorem d1_4 : decode prog_1_method_1_code 4 = .ok (.return_, 1) := by decide +kernel
theorem pn_com_example_phaseweave_phaseweave_clock_EventClock : plainName "com/example/phaseweave/phaseweave/clock/EventClock" = true := by first | (simp [plainName, overriddenIn]; done) | decide +kernel
theorem ef_rmEC (m : MethodId) (x0 : Addr) : entryFrame m #[(.ref x0)] 1 = mkF m 0 #[.val (.ref x0)] [] := by first | (simp [entryFrame, mkF, argsToLocals, Value.category]; done) | rfl
def QrmEC (Z : State) (a1 : Addr) (h0 : Heap) (n0 : Nat) (v : Option Value) (h : Heap) (L : List Loc) : Prop := v = none ∧ Fr n0 L ∧ h = h0
set_option maxRecDepth 65536 in
set_option maxHeartbeats 40000000 in
theorem rmEC (l : Launch) (Z : State) (a0 : Array Value) (hw : ∀ d ∈ tables_1, d.before a0 Z = true) (ws : List Jvm.Cond) (a1 : Addr) (h0 : Heap) (n0 : Nat) (Z0 : n0 ≤ h0.size) :
    MetFree l (⟨"com/example/phaseweave/phaseweave/clock/EventClock", "<init>", "()V"⟩ : MethodName) (head1 (Jvm.Cond.code (⟨"com/example/phaseweave/phaseweave/clock/EventClock", "<init>", "()V"⟩ : MethodName) prog_1_method_1_code 1 none :: ws) ({ frames := 1, cells := 0, slots := 0, locals := 12 } : Room)) (fun a U => a = #[(.ref a1)] ∧ Z.Warmed39 U.vm ∧ U.heap = h0) (fun _ _ _ _ _ => True) (fun _ U o U' => ∃ v L, o = .returned v ∧ QrmEC Z a1 h0 n0 v U'.heap L ∧ FrameEnd U o U' L ({ frames := 1, cells := 0, slots := 0, locals := 12 } : Room).cells ({ frames := 1, cells := 0, slots := 0, locals := 12 } : Room).slots) := by
  refine MetFree.of_bodySF (plainFor_of_name pn_com_example_phaseweave_phaseweave_clock_EventClock) hisR ?_
  intro p e s m args below meth c s₁ Bd hml0 hP hK
  obtain ⟨rfl, hZ, hh⟩ := hP
  have hx := Bd.exec
  have hby := Bd.bytes
  have hml : c.maxLocals = 1 := hml0
  have hown : s.vm.findClass "com/example/phaseweave/phaseweave/clock/EventClock" = some m.cls := findClass_of_methodNamed Bd.named
  have hnm := (name_of_methodNamed Bd.named Bd.method).1
  have X0 : Stand p l e ({ frames := 1, cells := 0, slots := 0, locals := 12 } : Room) s m #[(.ref a1)] below meth c s₁ [] 0 0 := Stand.of_body Bd
  have e0 : s₁.heap = h0 := by rw [← hh, Bd.state]; rfl
  have N0 := Fr.nil n0
  have pre0 : ∀ t, Steps p.tables e below (s₁.setTop (mkF m 0 #[.val (.ref a1)] [])) t → Steps p.tables e below (s₁.setTop (entryFrame m #[(.ref a1)] 1)) t := fun t k => castTop (ef_rmEC m a1) k
  obtain ⟨T1, X1, e1, st1⟩ := initO X0 hx hZ hown (hw _ (List.mem_of_getElem? (i := 7) rfl)) (hw _ (List.mem_of_getElem? (i := 8) rfl)) (hw _ (List.mem_of_getElem? (i := 9) rfl)) e0 (g := (mkF m 1 #[.val (.ref a1)] [(.ref a1)])) rfl (by rw [hml]; rfl) rfl (hb hby d1_1) (by decide) (W := 0) (by show 2 * 0 + _ ≤ _; exact Nat.le_of_eq rfl) (by decide)
  obtain ⟨fs, hr, hrun, hended, hW, hsame⟩ := X1.leave (v := none) (fun _ => rfl)
  refine ⟨_, _, pre0 _ (?_), hrun, hended, _, _, rfl, ?_, ⟨_, rfl⟩, hW, hsame.mono (by decide) (by decide)⟩
  · show Steps p.tables e below (s₁.setTop (mkF m 0 #[.val (.ref a1)] [])) _
    refine XS.aloadN X0.here hx rfl (hb hby d1_0) rfl rfl ?_
    show Steps p.tables e below (s₁.setTop (mkF m 1 #[.val (.ref a1)] [(.ref a1)])) _
    refine st1 _ ?_
    show Steps p.tables e below (T1.setTop (mkF m 4 #[.val (.ref a1)] [])) _
    exact X1.returnOut hx Bd.returns (hb hby d1_4) hr
  · show QrmEC Z a1 h0 n0 _ T1.heap _
    rw [e1]
    exact ⟨rfl, N0, rfl⟩
theorem d3_0 : decode prog_2_method_1_code 0 = .ok (.aload_n 0, 1) := by decide +kernel
theorem d3_1 : decode prog_2_method_1_code 1 = .ok (.invokespecial 1, 3) := by decide +kernel
theorem d3_4 : decode prog_2_method_1_code 4 = .ok (.aload_n 0, 1) := by decide +kernel
theorem d3_5 : decode prog_2_method_1_code 5 = .ok (.dload_n 1, 1) := by decide +kernel
theorem d3_6 : decode prog_2_method_1_code 6 = .ok (.putfield 7, 3) := by decide +kernel
theorem d3_9 : decode prog_2_method_1_code 9 = .ok (.aload_n 0, 1) := by decide +kernel
theorem d3_10 : decode prog_2_method_1_code 10 = .ok (.dload_n 3, 1) := by decide +kernel
theorem d3_11 : decode prog_2_method_1_code 11 = .ok (.putfield 13, 3) := by decide +kernel
theorem d3_14 : decode prog_2_method_1_code 14 = .ok (.aload_n 0, 1) := by decide +kernel
theorem d3_15 : decode prog_2_method_1_code 15 = .ok (.dload 5, 2) := by decide +kernel
theorem d3_17 : decode prog_2_method_1_code 17 = .ok (.putfield 16, 3) := by decide +kernel
theorem d3_20 : decode prog_2_method_1_code 20 = .ok (.aload_n 0, 1) := by decide +kernel
theorem d3_21 : decode prog_2_method_1_code 21 = .ok (.dload 7, 2) := by decide +kernel
theorem d3_23 : decode prog_2_method_1_code 23 = .ok (.putfield 19, 3) := by decide +kernel
theorem d3_26 : decode prog_2_method_1_code 26 = .ok (.return_, 1) := by decide +kernel
theorem pn_com_example_phaseweave_phaseweave_clock_EventClock_Mark : plainName "com/example/phaseweave/phaseweave/clock/EventClock$Mark" = true := by first | (simp [plainName, overriddenIn]; done) | decide +kernel
theorem pd__28_29V : parseMethodDescriptor "()V" = some ⟨[], none⟩ := by decide +kernel
theorem ef_rmMk (m : MethodId) (x0 : Addr) (x1 : UInt64) (x2 : UInt64) (x3 : UInt64) (x4 : UInt64) : entryFrame m #[(.ref x0), (.double x1), (.double x2), (.double x3), (.double x4)] 9 = mkF m 0 #[.val (.ref x0), .val (.double x1), .second, .val (.double x2), .second, .val (.double x3), .second, .val (.double x4), .second] [] := by first | (simp [entryFrame, mkF, argsToLocals, Value.category]; done) | rfl
def QrmMk (Z : State) (a1 : Addr) (d1 d2 d3 d4 : UInt64) (u1 u2 u3 u4 : Value) (h0 : Heap) (n0 : Nat) (v : Option Value) (h : Heap) (L : List Loc) : Prop := v = none ∧ Fr n0 L ∧ Keep h0 h [a1] ∧ Exa Z h a1 "com/example/phaseweave/phaseweave/clock/EventClock$Mark" ∧ Fld Z h a1 "com/example/phaseweave/phaseweave/clock/EventClock$Mark" "release" "D" (.double d1) ∧ Fld Z h a1 "com/example/phaseweave/phaseweave/clock/EventClock$Mark" "releaseOffset" "D" (.double d2) ∧ Fld Z h a1 "com/example/phaseweave/phaseweave/clock/EventClock$Mark" "since" "D" (.double d3) ∧ Fld Z h a1 "com/example/phaseweave/phaseweave/clock/EventClock$Mark" "sinceError" "D" (.double d4)
set_option maxRecDepth 65536 in
set_option maxHeartbeats 40000000 in
theorem rmMk (l : Launch) (Z : State) (a0 : Array Value) (hw : ∀ d ∈ tables_1, d.before a0 Z = true) (ws : List Jvm.Cond) (a1 : Addr) (d1 d2 d3 d4 : UInt64) (u1 u2 u3 u4 : Value) (h0 : Heap) (n0 : Nat) (Z0 : n0 ≤ h0.size) (E1 : Exa Z h0 a1 "com/example/phaseweave/phaseweave/clock/EventClock$Mark") (F0 : Fld Z h0 a1 "com/example/phaseweave/phaseweave/clock/EventClock$Mark" "release" "D" u1) (F1 : Fld Z h0 a1 "com/example/phaseweave/phaseweave/clock/EventClock$Mark" "releaseOffset" "D" u2) (F2 : Fld Z h0 a1 "com/example/phaseweave/phaseweave/clock/EventClock$Mark" "since" "D" u3) (F3 : Fld Z h0 a1 "com/example/phaseweave/phaseweave/clock/EventClock$Mark" "sinceError" "D" u4) (g_a1 : n0 ≤ a1) :
    MetFree l (⟨"com/example/phaseweave/phaseweave/clock/EventClock$Mark", "<init>", "(DDDD)V"⟩ : MethodName) (head1 (Jvm.Cond.code (⟨"com/example/phaseweave/phaseweave/clock/EventClock$Mark", "<init>", "(DDDD)V"⟩ : MethodName) prog_2_method_1_code 9 none :: ws) ({ frames := 2, cells := 0, slots := 0, locals := 24 } : Room)) (fun a U => a = #[(.ref a1), (.double d1), (.double d2), (.double d3), (.double d4)] ∧ Z.Warmed39 U.vm ∧ U.heap = h0) (fun _ _ _ _ _ => True) (fun _ U o U' => ∃ v L, o = .returned v ∧ QrmMk Z a1 d1 d2 d3 d4 u1 u2 u3 u4 h0 n0 v U'.heap L ∧ FrameEnd U o U' L ({ frames := 2, cells := 0, slots := 0, locals := 24 } : Room).cells ({ frames := 2, cells := 0, slots := 0, locals := 24 } : Room).slots) := by
  refine MetFree.of_bodySF (plainFor_of_name pn_com_example_phaseweave_phaseweave_clock_EventClock_Mark) hisR ?_
  intro p e s m args below meth c s₁ Bd hml0 hP hK
  obtain ⟨rfl, hZ, hh⟩ := hP
  have hx := Bd.exec
  have hby := Bd.bytes
  have hml : c.maxLocals = 9 := hml0
  have hown : s.vm.findClass "com/example/phaseweave/phaseweave/clock/EventClock$Mark" = some m.cls := findClass_of_methodNamed Bd.named
  have hnm := (name_of_methodNamed Bd.named Bd.method).1
  have X0 : Stand p l e ({ frames := 2, cells := 0, slots := 0, locals := 24 } : Room) s m #[(.ref a1), (.double d1), (.double d2), (.double d3), (.double d4)] below meth c s₁ [] 0 0 := Stand.of_body Bd
  have e0 : s₁.heap = h0 := by rw [← hh, Bd.state]; rfl
  have N0 := Fr.nil n0
  have pre0 : ∀ t, Steps p.tables e below (s₁.setTop (mkF m 0 #[.val (.ref a1), .val (.double d1), .second, .val (.double d2), .second, .val (.double d3), .second, .val (.double d4), .second] [])) t → Steps p.tables e below (s₁.setTop (entryFrame m #[(.ref a1), (.double d1), (.double d2), (.double d3), (.double d4)] 9)) t := fun t k => castTop (ef_rmMk m a1 d1 d2 d3 d4) k
  obtain ⟨_, _, ⟨T1, L1, k1, n1⟩, -, X1, ⟨Lc1, hQ1, l1, y1, z1⟩, st1⟩ := X0.specialBack hx (y := (⟨"java/lang/Record", "<init>", "()V"⟩ : MethodName)) rfl hown (mvT hZ (hw _ (List.mem_of_getElem? (i := 16) rfl))) (mvT hZ (hw _ (List.mem_of_getElem? (i := 17) rfl))) (mvT hZ (hw _ (List.mem_of_getElem? (i := 20) rfl))) (by decide) (backOf (W := 0) (rmRec l Z a0 hw [] a1 h0 n0 Z0) hZ (hw _ (List.mem_of_getElem? (i := 20) rfl)) (hw _ (List.mem_of_getElem? (i := 19) rfl)) (by decide) (by decide)) (g := (mkF m 1 #[.val (.ref a1), .val (.double d1), .second, .val (.double d2), .second, .val (.double d3), .second, .val (.double d4), .second] [(.ref a1)])) rfl (by rw [hml]; rfl) (Steps.refl _) (a := a1) (argsL := []) (rest := []) (lenOf pd__28_29V rfl) rfl (by show 2 * 0 + _ ≤ _; exact Nat.le_of_eq rfl) (hb hby d3_1) (fun _ _ => ⟨rfl, e0, (by decide : 0 + 0 ≤ _), (by decide : 0 + 0 ≤ _)⟩)
  dsimp only [Pt.U, Pt.locs, Pt.cells, Pt.slots] at X1 l1 y1 z1 st1 hQ1
  subst l1 y1 z1
  obtain ⟨rfl, N1q, e1⟩ := hQ1
  have N1 := Fr.app N0 N1q
  obtain ⟨T2, h2, X2, e2, W2, st2⟩ := putF X1 hx hZ hown (host := "") (Or.inl (hw _ (List.mem_of_getElem? (i := 22) rfl))) Via.refl e1 F0 E1 (Or.inr ⟨(hw _ (List.mem_of_getElem? (i := 23) rfl)), rfl, hnm⟩) (hw _ (List.mem_of_getElem? (i := 11) rfl)) (ty := .double) (by decide) rfl rfl (g := (mkF m 6 #[.val (.ref a1), .val (.double d1), .second, .val (.double d2), .second, .val (.double d3), .second, .val (.double d4), .second] [(.double d1), (.ref a1)])) rfl rfl (hb hby d3_6)
  have Fw2 := F0.same W2
  have K2 : Keep h0 h2 [a1] := (Keep.refl h0 [a1]).wr W2 (Or.inl (List.mem_of_getElem? (i := 0) rfl))
  have N2 := Fr.snoc X2 N1 g_a1
  have Z2 : n0 ≤ h2.size := Nat.le_trans Z0 (Keep.of_wr W2).1
  have f3 := (F1.other W2 (Or.inr (slot_ne (Or.inr (hw _ (List.mem_of_getElem? (i := 25) rfl))) (Or.inr (hw _ (List.mem_of_getElem? (i := 23) rfl))) (by decide) (t := .double) (t' := .double) (by decide) (by decide))))
  have f4 := (E1.wr W2)
  obtain ⟨T5, h5, X5, e5, W5, st5⟩ := putF X2 hx hZ hown (host := "") (Or.inl (hw _ (List.mem_of_getElem? (i := 24) rfl))) Via.refl e2 f3 f4 (Or.inr ⟨(hw _ (List.mem_of_getElem? (i := 25) rfl)), rfl, hnm⟩) (hw _ (List.mem_of_getElem? (i := 11) rfl)) (ty := .double) (by decide) rfl rfl (g := (mkF m 11 #[.val (.ref a1), .val (.double d1), .second, .val (.double d2), .second, .val (.double d3), .second, .val (.double d4), .second] [(.double d2), (.ref a1)])) rfl rfl (hb hby d3_11)
  have Fw5 := f3.same W5
  have K5 : Keep h0 h5 [a1] := K2.wr W5 (Or.inl (List.mem_of_getElem? (i := 0) rfl))
  have N5 := Fr.snoc X5 N2 g_a1
  have Z5 : n0 ≤ h5.size := Nat.le_trans Z2 (Keep.of_wr W5).1
  have f6 := ((F2.other W2 (Or.inr (slot_ne (Or.inr (hw _ (List.mem_of_getElem? (i := 27) rfl))) (Or.inr (hw _ (List.mem_of_getElem? (i := 23) rfl))) (by decide) (t := .double) (t' := .double) (by decide) (by decide)))).other W5 (Or.inr (slot_ne (Or.inr (hw _ (List.mem_of_getElem? (i := 27) rfl))) (Or.inr (hw _ (List.mem_of_getElem? (i := 25) rfl))) (by decide) (t := .double) (t' := .double) (by decide) (by decide))))
  have f7 := (f4.wr W5)
  obtain ⟨T8, h8, X8, e8, W8, st8⟩ := putF X5 hx hZ hown (host := "") (Or.inl (hw _ (List.mem_of_getElem? (i := 26) rfl))) Via.refl e5 f6 f7 (Or.inr ⟨(hw _ (List.mem_of_getElem? (i := 27) rfl)), rfl, hnm⟩) (hw _ (List.mem_of_getElem? (i := 11) rfl)) (ty := .double) (by decide) rfl rfl (g := (mkF m 17 #[.val (.ref a1), .val (.double d1), .second, .val (.double d2), .second, .val (.double d3), .second, .val (.double d4), .second] [(.double d3), (.ref a1)])) rfl rfl (hb hby d3_17)
  have Fw8 := f6.same W8
  have K8 : Keep h0 h8 [a1] := K5.wr W8 (Or.inl (List.mem_of_getElem? (i := 0) rfl))
  have N8 := Fr.snoc X8 N5 g_a1
  have Z8 : n0 ≤ h8.size := Nat.le_trans Z5 (Keep.of_wr W8).1
  have f9 := (((F3.other W2 (Or.inr (slot_ne (Or.inr (hw _ (List.mem_of_getElem? (i := 29) rfl))) (Or.inr (hw _ (List.mem_of_getElem? (i := 23) rfl))) (by decide) (t := .double) (t' := .double) (by decide) (by decide)))).other W5 (Or.inr (slot_ne (Or.inr (hw _ (List.mem_of_getElem? (i := 29) rfl))) (Or.inr (hw _ (List.mem_of_getElem? (i := 25) rfl))) (by decide) (t := .double) (t' := .double) (by decide) (by decide)))).other W8 (Or.inr (slot_ne (Or.inr (hw _ (List.mem_of_getElem? (i := 29) rfl))) (Or.inr (hw _ (List.mem_of_getElem? (i := 27) rfl))) (by decide) (t := .double) (t' := .double) (by decide) (by decide))))
  have f10 := (f7.wr W8)
  obtain ⟨T11, h11, X11, e11, W11, st11⟩ := putF X8 hx hZ hown (host := "") (Or.inl (hw _ (List.mem_of_getElem? (i := 28) rfl))) Via.refl e8 f9 f10 (Or.inr ⟨(hw _ (List.mem_of_getElem? (i := 29) rfl)), rfl, hnm⟩) (hw _ (List.mem_of_getElem? (i := 11) rfl)) (ty := .double) (by decide) rfl rfl (g := (mkF m 23 #[.val (.ref a1), .val (.double d1), .second, .val (.double d2), .second, .val (.double d3), .second, .val (.double d4), .second] [(.double d4), (.ref a1)])) rfl rfl (hb hby d3_23)
  have Fw11 := f9.same W11
  have K11 : Keep h0 h11 [a1] := K8.wr W11 (Or.inl (List.mem_of_getElem? (i := 0) rfl))
  have N11 := Fr.snoc X11 N8 g_a1
  have Z11 : n0 ≤ h11.size := Nat.le_trans Z8 (Keep.of_wr W11).1
  obtain ⟨fs, hr, hrun, hended, hW, hsame⟩ := X11.leave (v := none) (fun _ => rfl)
  refine ⟨_, _, pre0 _ (?_), hrun, hended, _, _, rfl, ?_, ⟨_, rfl⟩, hW, hsame.mono (by decide) (by decide)⟩
  · show Steps p.tables e below (s₁.setTop (mkF m 0 #[.val (.ref a1), .val (.double d1), .second, .val (.double d2), .second, .val (.double d3), .second, .val (.double d4), .second] [])) _
    refine XS.aloadN X0.here hx rfl (hb hby d3_0) rfl rfl ?_
    show Steps p.tables e below (s₁.setTop (mkF m 1 #[.val (.ref a1), .val (.double d1), .second, .val (.double d2), .second, .val (.double d3), .second, .val (.double d4), .second] [(.ref a1)])) _
    refine st1.trans ?_
    show Steps p.tables e below (T1.setTop (mkF m 4 #[.val (.ref a1), .val (.double d1), .second, .val (.double d2), .second, .val (.double d3), .second, .val (.double d4), .second] [])) _
    refine XS.aloadN X1.here hx rfl (hb hby d3_4) rfl rfl ?_
    show Steps p.tables e below (T1.setTop (mkF m 5 #[.val (.ref a1), .val (.double d1), .second, .val (.double d2), .second, .val (.double d3), .second, .val (.double d4), .second] [(.ref a1)])) _
    refine XS.dloadN X1.here hx rfl (hb hby d3_5) rfl ?_
    show Steps p.tables e below (T1.setTop (mkF m 6 #[.val (.ref a1), .val (.double d1), .second, .val (.double d2), .second, .val (.double d3), .second, .val (.double d4), .second] [(.double d1), (.ref a1)])) _
    refine st2 _ ?_
    show Steps p.tables e below (T2.setTop (mkF m 9 #[.val (.ref a1), .val (.double d1), .second, .val (.double d2), .second, .val (.double d3), .second, .val (.double d4), .second] [])) _
    refine XS.aloadN X2.here hx rfl (hb hby d3_9) rfl rfl ?_
    show Steps p.tables e below (T2.setTop (mkF m 10 #[.val (.ref a1), .val (.double d1), .second, .val (.double d2), .second, .val (.double d3), .second, .val (.double d4), .second] [(.ref a1)])) _
    refine XS.dloadN X2.here hx rfl (hb hby d3_10) rfl ?_
    show Steps p.tables e below (T2.setTop (mkF m 11 #[.val (.ref a1), .val (.double d1), .second, .val (.double d2), .second, .val (.double d3), .second, .val (.double d4), .second] [(.double d2), (.ref a1)])) _
    refine st5 _ ?_
    show Steps p.tables e below (T5.setTop (mkF m 14 #[.val (.ref a1), .val (.double d1), .second, .val (.double d2), .second, .val (.double d3), .second, .val (.double d4), .second] [])) _
    refine XS.aloadN X5.here hx rfl (hb hby d3_14) rfl rfl ?_
    show Steps p.tables e below (T5.setTop (mkF m 15 #[.val (.ref a1), .val (.double d1), .second, .val (.double d2), .second, .val (.double d3), .second, .val (.double d4), .second] [(.ref a1)])) _
    refine XS.dload X5.here hx rfl (hb hby d3_15) rfl ?_
    show Steps p.tables e below (T5.setTop (mkF m 17 #[.val (.ref a1), .val (.double d1), .second, .val (.double d2), .second, .val (.double d3), .second, .val (.double d4), .second] [(.double d3), (.ref a1)])) _
    refine st8 _ ?_
    show Steps p.tables e below (T8.setTop (mkF m 20 #[.val (.ref a1), .val (.double d1), .second, .val (.double d2), .second, .val (.double d3), .second, .val (.double d4), .second] [])) _
    refine XS.aloadN X8.here hx rfl (hb hby d3_20) rfl rfl ?_
    show Steps p.tables e below (T8.setTop (mkF m 21 #[.val (.ref a1), .val (.double d1), .second, .val (.double d2), .second, .val (.double d3), .second, .val (.double d4), .second] [(.ref a1)])) _
    refine XS.dload X8.here hx rfl (hb hby d3_21) rfl ?_
    show Steps p.tables e below (T8.setTop (mkF m 23 #[.val (.ref a1), .val (.double d1), .second, .val (.double d2), .second, .val (.double d3), .second, .val (.double d4), .second] [(.double d4), (.ref a1)])) _
    refine st11 _ ?_
    show Steps p.tables e below (T11.setTop (mkF m 26 #[.val (.ref a1), .val (.double d1), .second, .val (.double d2), .second, .val (.double d3), .second, .val (.double d4), .second] [])) _
    exact X11.returnOut hx Bd.returns (hb hby d3_26) hr
  have f12 := (((Fw2.other W5 (Or.inr (slot_ne (Or.inr (hw _ (List.mem_of_getElem? (i := 23) rfl))) (Or.inr (hw _ (List.mem_of_getElem? (i := 25) rfl))) (by decide) (t := .double) (t' := .double) (by decide) (by decide)))).other W8 (Or.inr (slot_ne (Or.inr (hw _ (List.mem_of_getElem? (i := 23) rfl))) (Or.inr (hw _ (List.mem_of_getElem? (i := 27) rfl))) (by decide) (t := .double) (t' := .double) (by decide) (by decide)))).other W11 (Or.inr (slot_ne (Or.inr (hw _ (List.mem_of_getElem? (i := 23) rfl))) (Or.inr (hw _ (List.mem_of_getElem? (i := 29) rfl))) (by decide) (t := .double) (t' := .double) (by decide) (by decide))))
  have f13 := ((Fw5.other W8 (Or.inr (slot_ne (Or.inr (hw _ (List.mem_of_getElem? (i := 25) rfl))) (Or.inr (hw _ (List.mem_of_getElem? (i := 27) rfl))) (by decide) (t := .double) (t' := .double) (by decide) (by decide)))).other W11 (Or.inr (slot_ne (Or.inr (hw _ (List.mem_of_getElem? (i := 25) rfl))) (Or.inr (hw _ (List.mem_of_getElem? (i := 29) rfl))) (by decide) (t := .double) (t' := .double) (by decide) (by decide))))
  have f14 := (Fw8.other W11 (Or.inr (slot_ne (Or.inr (hw _ (List.mem_of_getElem? (i := 27) rfl))) (Or.inr (hw _ (List.mem_of_getElem? (i := 29) rfl))) (by decide) (t := .double) (t' := .double) (by decide) (by decide))))
  have f15 := (f10.wr W11)
  · show QrmMk Z a1 d1 d2 d3 d4 u1 u2 u3 u4 h0 n0 _ T11.heap _
    rw [e11]
    exact ⟨rfl, N11, K11, f15, f12, f13, f14, Fw11⟩
theorem d6_0 : decode prog_2_method_5_code 0 = .ok (.aload_n 0, 1) := by decide +kernel
theorem d6_1 : decode prog_2_method_5_code 1 = .ok (.getfield 7, 3) := by decide +kernel
theorem d6_4 : decode prog_2_method_5_code 4 = .ok (.dreturn, 1) := by decide +kernel
theorem ef_rmG_release (m : MethodId) (x0 : Addr) : entryFrame m #[(.ref x0)] 1 = mkF m 0 #[.val (.ref x0)] [] := by first | (simp [entryFrame, mkF, argsToLocals, Value.category]; done) | rfl
def QrmG_release (Z : State) (a1 : Addr) (d1 : UInt64) (h0 : Heap) (n0 : Nat) (v : Option Value) (h : Heap) (L : List Loc) : Prop := v = some (.double d1) ∧ Fr n0 L ∧ h = h0
set_option maxRecDepth 65536 in
set_option maxHeartbeats 40000000 in
theorem rmG_release (l : Launch) (Z : State) (a0 : Array Value) (hw : ∀ d ∈ tables_1, d.before a0 Z = true) (ws : List Jvm.Cond) (a1 : Addr) (d1 : UInt64) (h0 : Heap) (n0 : Nat) (Z0 : n0 ≤ h0.size) (F1 : Fld Z h0 a1 "com/example/phaseweave/phaseweave/clock/EventClock$Mark" "release" "D" (.double d1)) :
    MetFree l (⟨"com/example/phaseweave/phaseweave/clock/EventClock$Mark", "release", "()D"⟩ : MethodName) (head1 (Jvm.Cond.code (⟨"com/example/phaseweave/phaseweave/clock/EventClock$Mark", "release", "()D"⟩ : MethodName) prog_2_method_5_code 1 (some .double) :: ws) ({ frames := 0, cells := 0, slots := 0, locals := 0 } : Room)) (fun a U => a = #[(.ref a1)] ∧ Z.Warmed39 U.vm ∧ U.heap = h0) (fun _ _ _ _ _ => True) (fun _ U o U' => ∃ v L, o = .returned v ∧ QrmG_release Z a1 d1 h0 n0 v U'.heap L ∧ FrameEnd U o U' L ({ frames := 0, cells := 0, slots := 0, locals := 0 } : Room).cells ({ frames := 0, cells := 0, slots := 0, locals := 0 } : Room).slots) := by
  refine MetFree.of_bodySF (plainFor_of_name pn_com_example_phaseweave_phaseweave_clock_EventClock_Mark) hisR ?_
  intro p e s m args below meth c s₁ Bd hml0 hP hK
  obtain ⟨rfl, hZ, hh⟩ := hP
  have hx := Bd.exec
  have hby := Bd.bytes
  have hml : c.maxLocals = 1 := hml0
  have hown : s.vm.findClass "com/example/phaseweave/phaseweave/clock/EventClock$Mark" = some m.cls := findClass_of_methodNamed Bd.named
  have hnm := (name_of_methodNamed Bd.named Bd.method).1
  have X0 : Stand p l e ({ frames := 0, cells := 0, slots := 0, locals := 0 } : Room) s m #[(.ref a1)] below meth c s₁ [] 0 0 := Stand.of_body Bd
  have e0 : s₁.heap = h0 := by rw [← hh, Bd.state]; rfl
  have N0 := Fr.nil n0
  have pre0 : ∀ t, Steps p.tables e below (s₁.setTop (mkF m 0 #[.val (.ref a1)] [])) t → Steps p.tables e below (s₁.setTop (entryFrame m #[(.ref a1)] 1)) t := fun t k => castTop (ef_rmG_release m a1) k
  obtain ⟨T1, X1, e1, st1⟩ := getF X0 hx hZ hown (host := "") (Or.inl (hw _ (List.mem_of_getElem? (i := 22) rfl))) Via.refl e0 F1 (g := (mkF m 1 #[.val (.ref a1)] [(.ref a1)])) rfl rfl (hb hby d6_1)
  obtain ⟨fs, hr, hrun, hended, hW, hsame⟩ := X1.leave (v := some (.double d1)) (fun h => by rw [Bd.returns] at h; cases h)
  refine ⟨_, _, pre0 _ (?_), hrun, hended, _, _, rfl, ?_, ⟨_, rfl⟩, hW, hsame.mono (by decide) (by decide)⟩
  · show Steps p.tables e below (s₁.setTop (mkF m 0 #[.val (.ref a1)] [])) _
    refine XS.aloadN X0.here hx rfl (hb hby d6_0) rfl rfl ?_
    show Steps p.tables e below (s₁.setTop (mkF m 1 #[.val (.ref a1)] [(.ref a1)])) _
    refine st1 _ ?_
    show Steps p.tables e below (T1.setTop (mkF m 4 #[.val (.ref a1)] [(.double d1)])) _
    jvm_step X1.here [X1.here.top, hx, (hb hby d6_4), X1.method', Bd.returns, narrow]
    first | (intro acts; rw [hr _ acts rfl rfl rfl]) | rw [hr _ _ rfl rfl rfl]
    exact Steps.refl _
  · show QrmG_release Z a1 d1 h0 n0 _ T1.heap _
    rw [e1]
    exact ⟨rfl, N0, rfl⟩
theorem d7_0 : decode prog_2_method_6_code 0 = .ok (.aload_n 0, 1) := by decide +kernel
theorem d7_1 : decode prog_2_method_6_code 1 = .ok (.getfield 13, 3) := by decide +kernel
theorem d7_4 : decode prog_2_method_6_code 4 = .ok (.dreturn, 1) := by decide +kernel
theorem ef_rmG_releaseOffset (m : MethodId) (x0 : Addr) : entryFrame m #[(.ref x0)] 1 = mkF m 0 #[.val (.ref x0)] [] := by first | (simp [entryFrame, mkF, argsToLocals, Value.category]; done) | rfl
def QrmG_releaseOffset (Z : State) (a1 : Addr) (d1 : UInt64) (h0 : Heap) (n0 : Nat) (v : Option Value) (h : Heap) (L : List Loc) : Prop := v = some (.double d1) ∧ Fr n0 L ∧ h = h0
set_option maxRecDepth 65536 in
set_option maxHeartbeats 40000000 in
theorem rmG_releaseOffset (l : Launch) (Z : State) (a0 : Array Value) (hw : ∀ d ∈ tables_1, d.before a0 Z = true) (ws : List Jvm.Cond) (a1 : Addr) (d1 : UInt64) (h0 : Heap) (n0 : Nat) (Z0 : n0 ≤ h0.size) (F1 : Fld Z h0 a1 "com/example/phaseweave/phaseweave/clock/EventClock$Mark" "releaseOffset" "D" (.double d1)) :
    MetFree l (⟨"com/example/phaseweave/phaseweave/clock/EventClock$Mark", "releaseOffset", "()D"⟩ : MethodName) (head1 (Jvm.Cond.code (⟨"com/example/phaseweave/phaseweave/clock/EventClock$Mark", "releaseOffset", "()D"⟩ : MethodName) prog_2_method_6_code 1 (some .double) :: ws) ({ frames := 0, cells := 0, slots := 0, locals := 0 } : Room)) (fun a U => a = #[(.ref a1)] ∧ Z.Warmed39 U.vm ∧ U.heap = h0) (fun _ _ _ _ _ => True) (fun _ U o U' => ∃ v L, o = .returned v ∧ QrmG_releaseOffset Z a1 d1 h0 n0 v U'.heap L ∧ FrameEnd U o U' L ({ frames := 0, cells := 0, slots := 0, locals := 0 } : Room).cells ({ frames := 0, cells := 0, slots := 0, locals := 0 } : Room).slots) := by
  refine MetFree.of_bodySF (plainFor_of_name pn_com_example_phaseweave_phaseweave_clock_EventClock_Mark) hisR ?_
  intro p e s m args below meth c s₁ Bd hml0 hP hK
  obtain ⟨rfl, hZ, hh⟩ := hP
  have hx := Bd.exec
  have hby := Bd.bytes
  have hml : c.maxLocals = 1 := hml0
  have hown : s.vm.findClass "com/example/phaseweave/phaseweave/clock/EventClock$Mark" = some m.cls := findClass_of_methodNamed Bd.named
  have hnm := (name_of_methodNamed Bd.named Bd.method).1
  have X0 : Stand p l e ({ frames := 0, cells := 0, slots := 0, locals := 0 } : Room) s m #[(.ref a1)] below meth c s₁ [] 0 0 := Stand.of_body Bd
  have e0 : s₁.heap = h0 := by rw [← hh, Bd.state]; rfl
  have N0 := Fr.nil n0
  have pre0 : ∀ t, Steps p.tables e below (s₁.setTop (mkF m 0 #[.val (.ref a1)] [])) t → Steps p.tables e below (s₁.setTop (entryFrame m #[(.ref a1)] 1)) t := fun t k => castTop (ef_rmG_releaseOffset m a1) k
  obtain ⟨T1, X1, e1, st1⟩ := getF X0 hx hZ hown (host := "") (Or.inl (hw _ (List.mem_of_getElem? (i := 24) rfl))) Via.refl e0 F1 (g := (mkF m 1 #[.val (.ref a1)] [(.ref a1)])) rfl rfl (hb hby d7_1)
  obtain ⟨fs, hr, hrun, hended, hW, hsame⟩ := X1.leave (v := some (.double d1)) (fun h => by rw [Bd.returns] at h; cases h)
  refine ⟨_, _, pre0 _ (?_), hrun, hended, _, _, rfl, ?_, ⟨_, rfl⟩, hW, hsame.mono (by decide) (by decide)⟩
  · show Steps p.tables e below (s₁.setTop (mkF m 0 #[.val (.ref a1)] [])) _
    refine XS.aloadN X0.here hx rfl (hb hby d7_0) rfl rfl ?_
    show Steps p.tables e below (s₁.setTop (mkF m 1 #[.val (.ref a1)] [(.ref a1)])) _
    refine st1 _ ?_
    show Steps p.tables e below (T1.setTop (mkF m 4 #[.val (.ref a1)] [(.double d1)])) _
    jvm_step X1.here [X1.here.top, hx, (hb hby d7_4), X1.method', Bd.returns, narrow]
    first | (intro acts; rw [hr _ acts rfl rfl rfl]) | rw [hr _ _ rfl rfl rfl]
    exact Steps.refl _
  · show QrmG_releaseOffset Z a1 d1 h0 n0 _ T1.heap _
    rw [e1]
    exact ⟨rfl, N0, rfl⟩
theorem d8_0 : decode prog_2_method_7_code 0 = .ok (.aload_n 0, 1) := by decide +kernel
theorem d8_1 : decode prog_2_method_7_code 1 = .ok (.getfield 16, 3) := by decide +kernel
theorem d8_4 : decode prog_2_method_7_code 4 = .ok (.dreturn, 1) := by decide +kernel
theorem ef_rmG_since (m : MethodId) (x0 : Addr) : entryFrame m #[(.ref x0)] 1 = mkF m 0 #[.val (.ref x0)] [] := by first | (simp [entryFrame, mkF, argsToLocals, Value.category]; done) | rfl
def QrmG_since (Z : State) (a1 : Addr) (d1 : UInt64) (h0 : Heap) (n0 : Nat) (v : Option Value) (h : Heap) (L : List Loc) : Prop := v = some (.double d1) ∧ Fr n0 L ∧ h = h0
set_option maxRecDepth 65536 in
set_option maxHeartbeats 40000000 in
theorem rmG_since (l : Launch) (Z : State) (a0 : Array Value) (hw : ∀ d ∈ tables_1, d.before a0 Z = true) (ws : List Jvm.Cond) (a1 : Addr) (d1 : UInt64) (h0 : Heap) (n0 : Nat) (Z0 : n0 ≤ h0.size) (F1 : Fld Z h0 a1 "com/example/phaseweave/phaseweave/clock/EventClock$Mark" "since" "D" (.double d1)) :
    MetFree l (⟨"com/example/phaseweave/phaseweave/clock/EventClock$Mark", "since", "()D"⟩ : MethodName) (head1 (Jvm.Cond.code (⟨"com/example/phaseweave/phaseweave/clock/EventClock$Mark", "since", "()D"⟩ : MethodName) prog_2_method_7_code 1 (some .double) :: ws) ({ frames := 0, cells := 0, slots := 0, locals := 0 } : Room)) (fun a U => a = #[(.ref a1)] ∧ Z.Warmed39 U.vm ∧ U.heap = h0) (fun _ _ _ _ _ => True) (fun _ U o U' => ∃ v L, o = .returned v ∧ QrmG_since Z a1 d1 h0 n0 v U'.heap L ∧ FrameEnd U o U' L ({ frames := 0, cells := 0, slots := 0, locals := 0 } : Room).cells ({ frames := 0, cells := 0, slots := 0, locals := 0 } : Room).slots) := by
  refine MetFree.of_bodySF (plainFor_of_name pn_com_example_phaseweave_phaseweave_clock_EventClock_Mark) hisR ?_
  intro p e s m args below meth c s₁ Bd hml0 hP hK
  obtain ⟨rfl, hZ, hh⟩ := hP
  have hx := Bd.exec
  have hby := Bd.bytes
  have hml : c.maxLocals = 1 := hml0
  have hown : s.vm.findClass "com/example/phaseweave/phaseweave/clock/EventClock$Mark" = some m.cls := findClass_of_methodNamed Bd.named
  have hnm := (name_of_methodNamed Bd.named Bd.method).1
  have X0 : Stand p l e ({ frames := 0, cells := 0, slots := 0, locals := 0 } : Room) s m #[(.ref a1)] below meth c s₁ [] 0 0 := Stand.of_body Bd
  have e0 : s₁.heap = h0 := by rw [← hh, Bd.state]; rfl
  have N0 := Fr.nil n0
  have pre0 : ∀ t, Steps p.tables e below (s₁.setTop (mkF m 0 #[.val (.ref a1)] [])) t → Steps p.tables e below (s₁.setTop (entryFrame m #[(.ref a1)] 1)) t := fun t k => castTop (ef_rmG_since m a1) k
  obtain ⟨T1, X1, e1, st1⟩ := getF X0 hx hZ hown (host := "") (Or.inl (hw _ (List.mem_of_getElem? (i := 26) rfl))) Via.refl e0 F1 (g := (mkF m 1 #[.val (.ref a1)] [(.ref a1)])) rfl rfl (hb hby d8_1)
  obtain ⟨fs, hr, hrun, hended, hW, hsame⟩ := X1.leave (v := some (.double d1)) (fun h => by rw [Bd.returns] at h; cases h)
  refine ⟨_, _, pre0 _ (?_), hrun, hended, _, _, rfl, ?_, ⟨_, rfl⟩, hW, hsame.mono (by decide) (by decide)⟩
  · show Steps p.tables e below (s₁.setTop (mkF m 0 #[.val (.ref a1)] [])) _
    refine XS.aloadN X0.here hx rfl (hb hby d8_0) rfl rfl ?_
    show Steps p.tables e below (s₁.setTop (mkF m 1 #[.val (.ref a1)] [(.ref a1)])) _
    refine st1 _ ?_
    show Steps p.tables e below (T1.setTop (mkF m 4 #[.val (.ref a1)] [(.double d1)])) _
    jvm_step X1.here [X1.here.top, hx, (hb hby d8_4), X1.method', Bd.returns, narrow]
    first | (intro acts; rw [hr _ acts rfl rfl rfl]) | rw [hr _ _ rfl rfl rfl]
    exact Steps.refl _
  · show QrmG_since Z a1 d1 h0 n0 _ T1.heap _
    rw [e1]
    exact ⟨rfl, N0, rfl⟩
theorem d9_0 : decode prog_2_method_8_code 0 = .ok (.aload_n 0, 1) := by decide +kernel
theorem d9_1 : decode prog_2_method_8_code 1 = .ok (.getfield 19, 3) := by decide +kernel
theorem d9_4 : decode prog_2_method_8_code 4 = .ok (.dreturn, 1) := by decide +kernel
theorem ef_rmG_sinceError (m : MethodId) (x0 : Addr) : entryFrame m #[(.ref x0)] 1 = mkF m 0 #[.val (.ref x0)] [] := by first | (simp [entryFrame, mkF, argsToLocals, Value.category]; done) | rfl
def QrmG_sinceError (Z : State) (a1 : Addr) (d1 : UInt64) (h0 : Heap) (n0 : Nat) (v : Option Value) (h : Heap) (L : List Loc) : Prop := v = some (.double d1) ∧ Fr n0 L ∧ h = h0
set_option maxRecDepth 65536 in
set_option maxHeartbeats 40000000 in
theorem rmG_sinceError (l : Launch) (Z : State) (a0 : Array Value) (hw : ∀ d ∈ tables_1, d.before a0 Z = true) (ws : List Jvm.Cond) (a1 : Addr) (d1 : UInt64) (h0 : Heap) (n0 : Nat) (Z0 : n0 ≤ h0.size) (F1 : Fld Z h0 a1 "com/example/phaseweave/phaseweave/clock/EventClock$Mark" "sinceError" "D" (.double d1)) :
    MetFree l (⟨"com/example/phaseweave/phaseweave/clock/EventClock$Mark", "sinceError", "()D"⟩ : MethodName) (head1 (Jvm.Cond.code (⟨"com/example/phaseweave/phaseweave/clock/EventClock$Mark", "sinceError", "()D"⟩ : MethodName) prog_2_method_8_code 1 (some .double) :: ws) ({ frames := 0, cells := 0, slots := 0, locals := 0 } : Room)) (fun a U => a = #[(.ref a1)] ∧ Z.Warmed39 U.vm ∧ U.heap = h0) (fun _ _ _ _ _ => True) (fun _ U o U' => ∃ v L, o = .returned v ∧ QrmG_sinceError Z a1 d1 h0 n0 v U'.heap L ∧ FrameEnd U o U' L ({ frames := 0, cells := 0, slots := 0, locals := 0 } : Room).cells ({ frames := 0, cells := 0, slots := 0, locals := 0 } : Room).slots) := by
  refine MetFree.of_bodySF (plainFor_of_name pn_com_example_phaseweave_phaseweave_clock_EventClock_Mark) hisR ?_
  intro p e s m args below meth c s₁ Bd hml0 hP hK
  obtain ⟨rfl, hZ, hh⟩ := hP
  have hx := Bd.exec
  have hby := Bd.bytes
  have hml : c.maxLocals = 1 := hml0
  have hown : s.vm.findClass "com/example/phaseweave/phaseweave/clock/EventClock$Mark" = some m.cls := findClass_of_methodNamed Bd.named
  have hnm := (name_of_methodNamed Bd.named Bd.method).1
  have X0 : Stand p l e ({ frames := 0, cells := 0, slots := 0, locals := 0 } : Room) s m #[(.ref a1)] below meth c s₁ [] 0 0 := Stand.of_body Bd
  have e0 : s₁.heap = h0 := by rw [← hh, Bd.state]; rfl
  have N0 := Fr.nil n0
  have pre0 : ∀ t, Steps p.tables e below (s₁.setTop (mkF m 0 #[.val (.ref a1)] [])) t → Steps p.tables e below (s₁.setTop (entryFrame m #[(.ref a1)] 1)) t := fun t k => castTop (ef_rmG_sinceError m a1) k
  obtain ⟨T1, X1, e1, st1⟩ := getF X0 hx hZ hown (host := "") (Or.inl (hw _ (List.mem_of_getElem? (i := 28) rfl))) Via.refl e0 F1 (g := (mkF m 1 #[.val (.ref a1)] [(.ref a1)])) rfl rfl (hb hby d9_1)
  obtain ⟨fs, hr, hrun, hended, hW, hsame⟩ := X1.leave (v := some (.double d1)) (fun h => by rw [Bd.returns] at h; cases h)
  refine ⟨_, _, pre0 _ (?_), hrun, hended, _, _, rfl, ?_, ⟨_, rfl⟩, hW, hsame.mono (by decide) (by decide)⟩
  · show Steps p.tables e below (s₁.setTop (mkF m 0 #[.val (.ref a1)] [])) _
    refine XS.aloadN X0.here hx rfl (hb hby d9_0) rfl rfl ?_
    show Steps p.tables e below (s₁.setTop (mkF m 1 #[.val (.ref a1)] [(.ref a1)])) _
    refine st1 _ ?_
    show Steps p.tables e below (T1.setTop (mkF m 4 #[.val (.ref a1)] [(.double d1)])) _
    jvm_step X1.here [X1.here.top, hx, (hb hby d9_4), X1.method', Bd.returns, narrow]
    first | (intro acts; rw [hr _ acts rfl rfl rfl]) | rw [hr _ _ rfl rfl rfl]
    exact Steps.refl _
  · show QrmG_sinceError Z a1 d1 h0 n0 _ T1.heap _
    rw [e1]
    exact ⟨rfl, N0, rfl⟩
theorem d5_0 : decode prog_1_method_10_code 0 = .ok (.aload_n 0, 1) := by decide +kernel
theorem d5_1 : decode prog_1_method_10_code 1 = .ok (.aload_n 1, 1) := by decide +kernel
theorem d5_2 : decode prog_1_method_10_code 2 = .ok (.invokevirtual 38, 3) := by decide +kernel
theorem d5_5 : decode prog_1_method_10_code 5 = .ok (.putfield 20, 3) := by decide +kernel
theorem d5_8 : decode prog_1_method_10_code 8 = .ok (.aload_n 0, 1) := by decide +kernel
theorem d5_9 : decode prog_1_method_10_code 9 = .ok (.aload_n 1, 1) := by decide +kernel
theorem d5_10 : decode prog_1_method_10_code 10 = .ok (.invokevirtual 41, 3) := by decide +kernel
theorem d5_13 : decode prog_1_method_10_code 13 = .ok (.putfield 23, 3) := by decide +kernel
theorem d5_16 : decode prog_1_method_10_code 16 = .ok (.aload_n 0, 1) := by decide +kernel
theorem d5_17 : decode prog_1_method_10_code 17 = .ok (.aload_n 1, 1) := by decide +kernel
theorem d5_18 : decode prog_1_method_10_code 18 = .ok (.invokevirtual 43, 3) := by decide +kernel
theorem d5_21 : decode prog_1_method_10_code 21 = .ok (.putfield 7, 3) := by decide +kernel
theorem d5_24 : decode prog_1_method_10_code 24 = .ok (.aload_n 0, 1) := by decide +kernel
theorem d5_25 : decode prog_1_method_10_code 25 = .ok (.aload_n 1, 1) := by decide +kernel
theorem d5_26 : decode prog_1_method_10_code 26 = .ok (.invokevirtual 45, 3) := by decide +kernel
theorem d5_29 : decode prog_1_method_10_code 29 = .ok (.putfield 13, 3) := by decide +kernel
theorem d5_32 : decode prog_1_method_10_code 32 = .ok (.return_, 1) := by decide +kernel
theorem pd__28_29D : parseMethodDescriptor "()D" = some ⟨[], some .double⟩ := by decide +kernel
theorem ef_rmRe (m : MethodId) (x0 : Addr) (x1 : Addr) : entryFrame m #[(.ref x0), (.ref x1)] 2 = mkF m 0 #[.val (.ref x0), .val (.ref x1)] [] := by first | (simp [entryFrame, mkF, argsToLocals, Value.category]; done) | rfl
def QrmRe (Z : State) (a1 a2 : Addr) (d1 d2 d3 d4 : UInt64) (u1 u2 u3 u4 : Value) (h0 : Heap) (n0 : Nat) (v : Option Value) (h : Heap) (L : List Loc) : Prop := v = none ∧ Fr n0 L ∧ Keep h0 h [a1] ∧ Exa Z h a1 "com/example/phaseweave/phaseweave/clock/EventClock" ∧ Fld Z h a1 "com/example/phaseweave/phaseweave/clock/EventClock" "release" "D" (.double d1) ∧ Fld Z h a1 "com/example/phaseweave/phaseweave/clock/EventClock" "releaseOffset" "D" (.double d2) ∧ Fld Z h a1 "com/example/phaseweave/phaseweave/clock/EventClock" "since" "D" (.double d3) ∧ Fld Z h a1 "com/example/phaseweave/phaseweave/clock/EventClock" "sinceError" "D" (.double d4)
set_option maxRecDepth 65536 in
set_option maxHeartbeats 40000000 in
theorem rmRe (l : Launch) (Z : State) (a0 : Array Value) (hw : ∀ d ∈ tables_1, d.before a0 Z = true) (ws : List Jvm.Cond) (a1 a2 : Addr) (d1 d2 d3 d4 : UInt64) (u1 u2 u3 u4 : Value) (h0 : Heap) (n0 : Nat) (Z0 : n0 ≤ h0.size) (E1 : Exa Z h0 a1 "com/example/phaseweave/phaseweave/clock/EventClock") (E2 : Exa Z h0 a2 "com/example/phaseweave/phaseweave/clock/EventClock$Mark") (F0 : Fld Z h0 a1 "com/example/phaseweave/phaseweave/clock/EventClock" "release" "D" u1) (F1 : Fld Z h0 a1 "com/example/phaseweave/phaseweave/clock/EventClock" "releaseOffset" "D" u2) (F2 : Fld Z h0 a1 "com/example/phaseweave/phaseweave/clock/EventClock" "since" "D" u3) (F3 : Fld Z h0 a1 "com/example/phaseweave/phaseweave/clock/EventClock" "sinceError" "D" u4) (G0 : Fld Z h0 a2 "com/example/phaseweave/phaseweave/clock/EventClock$Mark" "release" "D" (.double d1)) (G1 : Fld Z h0 a2 "com/example/phaseweave/phaseweave/clock/EventClock$Mark" "releaseOffset" "D" (.double d2)) (G2 : Fld Z h0 a2 "com/example/phaseweave/phaseweave/clock/EventClock$Mark" "since" "D" (.double d3)) (G3 : Fld Z h0 a2 "com/example/phaseweave/phaseweave/clock/EventClock$Mark" "sinceError" "D" (.double d4)) (g_a1 : n0 ≤ a1) (ne21 : a2 ≠ a1) :
    MetFree l (⟨"com/example/phaseweave/phaseweave/clock/EventClock", "reach", "(Lcom/example/phaseweave/phaseweave/clock/EventClock$Mark;)V"⟩ : MethodName) (head1 (Jvm.Cond.code (⟨"com/example/phaseweave/phaseweave/clock/EventClock", "reach", "(Lcom/example/phaseweave/phaseweave/clock/EventClock$Mark;)V"⟩ : MethodName) prog_1_method_10_code 2 none :: ws) ({ frames := 1, cells := 0, slots := 0, locals := 13 } : Room)) (fun a U => a = #[(.ref a1), (.ref a2)] ∧ Z.Warmed39 U.vm ∧ U.heap = h0) (fun _ _ _ _ _ => True) (fun _ U o U' => ∃ v L, o = .returned v ∧ QrmRe Z a1 a2 d1 d2 d3 d4 u1 u2 u3 u4 h0 n0 v U'.heap L ∧ FrameEnd U o U' L ({ frames := 1, cells := 0, slots := 0, locals := 13 } : Room).cells ({ frames := 1, cells := 0, slots := 0, locals := 13 } : Room).slots) := by
  refine MetFree.of_bodySF (plainFor_of_name pn_com_example_phaseweave_phaseweave_clock_EventClock) hisR ?_
  intro p e s m args below meth c s₁ Bd hml0 hP hK
  obtain ⟨rfl, hZ, hh⟩ := hP
  have hx := Bd.exec
  have hby := Bd.bytes
  have hml : c.maxLocals = 2 := hml0
  have hown : s.vm.findClass "com/example/phaseweave/phaseweave/clock/EventClock" = some m.cls := findClass_of_methodNamed Bd.named
  have hnm := (name_of_methodNamed Bd.named Bd.method).1
  have X0 : Stand p l e ({ frames := 1, cells := 0, slots := 0, locals := 13 } : Room) s m #[(.ref a1), (.ref a2)] below meth c s₁ [] 0 0 := Stand.of_body Bd
  have e0 : s₁.heap = h0 := by rw [← hh, Bd.state]; rfl
  have N0 := Fr.nil n0
  have pre0 : ∀ t, Steps p.tables e below (s₁.setTop (mkF m 0 #[.val (.ref a1), .val (.ref a2)] [])) t → Steps p.tables e below (s₁.setTop (entryFrame m #[(.ref a1), (.ref a2)] 2)) t := fun t k => castTop (ef_rmRe m a1 a2) k
  obtain ⟨cq1, kq1, q1a, q1b, q1c⟩ := isOf hZ e0 E2
  obtain ⟨_, _, ⟨T1, L1, k1, n1⟩, -, X1, ⟨Lc1, hQ1, l1, y1, z1⟩, st1⟩ := X0.virtualBack hx (y := (⟨"com/example/phaseweave/phaseweave/clock/EventClock$Mark", "release", "()D"⟩ : MethodName)) (z := (⟨"com/example/phaseweave/phaseweave/clock/EventClock$Mark", "release", "()D"⟩ : MethodName)) hown (mvT hZ (hw _ (List.mem_of_getElem? (i := 35) rfl))) (mvT hZ (hw _ (List.mem_of_getElem? (i := 36) rfl))) (notFace_of_selects (args := #[]) (mvT hZ (hw _ (List.mem_of_getElem? (i := 38) rfl)))) (mvT hZ (hw _ (List.mem_of_getElem? (i := 38) rfl))) (mvT hZ (hw _ (List.mem_of_getElem? (i := 37) rfl))) (by decide) (backOf (W := 1) (rmG_release l Z a0 hw [] a2 d1 h0 n0 Z0 G0) hZ (hw _ (List.mem_of_getElem? (i := 39) rfl)) (hw _ (List.mem_of_getElem? (i := 12) rfl)) (by decide) (by decide)) q1a q1c (g := (mkF m 2 #[.val (.ref a1), .val (.ref a2)] [(.ref a2), (.ref a1)])) rfl (by rw [hml]; rfl) (Steps.refl _) (argsL := []) (rest := [(.ref a1)]) (lenOf pd__28_29D rfl) rfl (by show 2 * 0 + _ ≤ _; exact Nat.le_of_eq rfl) (hb hby d5_2) (fun _ _ => ⟨rfl, e0, (by decide : 0 + 0 ≤ _), (by decide : 0 + 0 ≤ _)⟩)
  dsimp only [Pt.U, Pt.locs, Pt.cells, Pt.slots] at X1 l1 y1 z1 st1 hQ1
  subst l1 y1 z1
  obtain ⟨rfl, N1q, e1⟩ := hQ1
  have N1 := Fr.app N0 N1q
  obtain ⟨T2, h2, X2, e2, W2, st2⟩ := putF X1 hx hZ hown (host := "") (Or.inl (hw _ (List.mem_of_getElem? (i := 40) rfl))) Via.refl e1 F0 E1 (Or.inl (hw _ (List.mem_of_getElem? (i := 41) rfl))) (hw _ (List.mem_of_getElem? (i := 2) rfl)) (ty := .double) (by decide) rfl rfl (g := (mkF m 5 #[.val (.ref a1), .val (.ref a2)] [(.double d1), (.ref a1)])) rfl rfl (hb hby d5_5)
  have Fw2 := F0.same W2
  have K2 : Keep h0 h2 [a1] := (Keep.refl h0 [a1]).wr W2 (Or.inl (List.mem_of_getElem? (i := 0) rfl))
  have N2 := Fr.snoc X2 N1 g_a1
  have Z2 : n0 ≤ h2.size := Nat.le_trans Z0 (Keep.of_wr W2).1
  have f4 := (G1.other W2 (Or.inl ne21))
  have f5 := (E2.wr W2)
  obtain ⟨cq3, kq3, q3a, q3b, q3c⟩ := isOf hZ e2 f5
  obtain ⟨_, _, ⟨T3, L3, k3, n3⟩, -, X3, ⟨Lc3, hQ3, l3, y3, z3⟩, st3⟩ := X2.virtualBack hx (y := (⟨"com/example/phaseweave/phaseweave/clock/EventClock$Mark", "releaseOffset", "()D"⟩ : MethodName)) (z := (⟨"com/example/phaseweave/phaseweave/clock/EventClock$Mark", "releaseOffset", "()D"⟩ : MethodName)) hown (mvT hZ (hw _ (List.mem_of_getElem? (i := 42) rfl))) (mvT hZ (hw _ (List.mem_of_getElem? (i := 43) rfl))) (notFace_of_selects (args := #[]) (mvT hZ (hw _ (List.mem_of_getElem? (i := 45) rfl)))) (mvT hZ (hw _ (List.mem_of_getElem? (i := 45) rfl))) (mvT hZ (hw _ (List.mem_of_getElem? (i := 44) rfl))) (by decide) (backOf (W := 1) (rmG_releaseOffset l Z a0 hw [] a2 d2 h2 n0 Z2 f4) hZ (hw _ (List.mem_of_getElem? (i := 46) rfl)) (hw _ (List.mem_of_getElem? (i := 12) rfl)) (by decide) (by decide)) q3a q3c (g := (mkF m 10 #[.val (.ref a1), .val (.ref a2)] [(.ref a2), (.ref a1)])) rfl (by rw [hml]; rfl) (Steps.refl _) (argsL := []) (rest := [(.ref a1)]) (lenOf pd__28_29D rfl) rfl (by show 2 * 0 + _ ≤ _; exact Nat.le_of_eq rfl) (hb hby d5_10) (fun _ _ => ⟨rfl, e2, (by decide : 0 + 0 ≤ _), (by decide : 0 + 0 ≤ _)⟩)
  dsimp only [Pt.U, Pt.locs, Pt.cells, Pt.slots] at X3 l3 y3 z3 st3 hQ3
  subst l3 y3 z3
  obtain ⟨rfl, N3q, e3⟩ := hQ3
  have N3 := Fr.app N2 N3q
  have f6 := (F1.other W2 (Or.inr (slot_ne (Or.inl (hw _ (List.mem_of_getElem? (i := 48) rfl))) (Or.inl (hw _ (List.mem_of_getElem? (i := 41) rfl))) (by decide) (t := .double) (t' := .double) (by decide) (by decide))))
  have f7 := (E1.wr W2)
  obtain ⟨T8, h8, X8, e8, W8, st8⟩ := putF X3 hx hZ hown (host := "") (Or.inl (hw _ (List.mem_of_getElem? (i := 47) rfl))) Via.refl e3 f6 f7 (Or.inl (hw _ (List.mem_of_getElem? (i := 48) rfl))) (hw _ (List.mem_of_getElem? (i := 2) rfl)) (ty := .double) (by decide) rfl rfl (g := (mkF m 13 #[.val (.ref a1), .val (.ref a2)] [(.double d2), (.ref a1)])) rfl rfl (hb hby d5_13)
  have Fw8 := f6.same W8
  have K8 : Keep h0 h8 [a1] := K2.wr W8 (Or.inl (List.mem_of_getElem? (i := 0) rfl))
  have N8 := Fr.snoc X8 N3 g_a1
  have Z8 : n0 ≤ h8.size := Nat.le_trans Z2 (Keep.of_wr W8).1
  have f10 := ((G2.other W2 (Or.inl ne21)).other W8 (Or.inl ne21))
  have f11 := (f5.wr W8)
  obtain ⟨cq9, kq9, q9a, q9b, q9c⟩ := isOf hZ e8 f11
  obtain ⟨_, _, ⟨T9, L9, k9, n9⟩, -, X9, ⟨Lc9, hQ9, l9, y9, z9⟩, st9⟩ := X8.virtualBack hx (y := (⟨"com/example/phaseweave/phaseweave/clock/EventClock$Mark", "since", "()D"⟩ : MethodName)) (z := (⟨"com/example/phaseweave/phaseweave/clock/EventClock$Mark", "since", "()D"⟩ : MethodName)) hown (mvT hZ (hw _ (List.mem_of_getElem? (i := 49) rfl))) (mvT hZ (hw _ (List.mem_of_getElem? (i := 50) rfl))) (notFace_of_selects (args := #[]) (mvT hZ (hw _ (List.mem_of_getElem? (i := 52) rfl)))) (mvT hZ (hw _ (List.mem_of_getElem? (i := 52) rfl))) (mvT hZ (hw _ (List.mem_of_getElem? (i := 51) rfl))) (by decide) (backOf (W := 1) (rmG_since l Z a0 hw [] a2 d3 h8 n0 Z8 f10) hZ (hw _ (List.mem_of_getElem? (i := 53) rfl)) (hw _ (List.mem_of_getElem? (i := 12) rfl)) (by decide) (by decide)) q9a q9c (g := (mkF m 18 #[.val (.ref a1), .val (.ref a2)] [(.ref a2), (.ref a1)])) rfl (by rw [hml]; rfl) (Steps.refl _) (argsL := []) (rest := [(.ref a1)]) (lenOf pd__28_29D rfl) rfl (by show 2 * 0 + _ ≤ _; exact Nat.le_of_eq rfl) (hb hby d5_18) (fun _ _ => ⟨rfl, e8, (by decide : 0 + 0 ≤ _), (by decide : 0 + 0 ≤ _)⟩)
  dsimp only [Pt.U, Pt.locs, Pt.cells, Pt.slots] at X9 l9 y9 z9 st9 hQ9
  subst l9 y9 z9
  obtain ⟨rfl, N9q, e9⟩ := hQ9
  have N9 := Fr.app N8 N9q
  have f12 := ((F2.other W2 (Or.inr (slot_ne (Or.inl (hw _ (List.mem_of_getElem? (i := 55) rfl))) (Or.inl (hw _ (List.mem_of_getElem? (i := 41) rfl))) (by decide) (t := .double) (t' := .double) (by decide) (by decide)))).other W8 (Or.inr (slot_ne (Or.inl (hw _ (List.mem_of_getElem? (i := 55) rfl))) (Or.inl (hw _ (List.mem_of_getElem? (i := 48) rfl))) (by decide) (t := .double) (t' := .double) (by decide) (by decide))))
  have f13 := (f7.wr W8)
  obtain ⟨T14, h14, X14, e14, W14, st14⟩ := putF X9 hx hZ hown (host := "") (Or.inl (hw _ (List.mem_of_getElem? (i := 54) rfl))) Via.refl e9 f12 f13 (Or.inl (hw _ (List.mem_of_getElem? (i := 55) rfl))) (hw _ (List.mem_of_getElem? (i := 2) rfl)) (ty := .double) (by decide) rfl rfl (g := (mkF m 21 #[.val (.ref a1), .val (.ref a2)] [(.double d3), (.ref a1)])) rfl rfl (hb hby d5_21)
  have Fw14 := f12.same W14
  have K14 : Keep h0 h14 [a1] := K8.wr W14 (Or.inl (List.mem_of_getElem? (i := 0) rfl))
  have N14 := Fr.snoc X14 N9 g_a1
  have Z14 : n0 ≤ h14.size := Nat.le_trans Z8 (Keep.of_wr W14).1
  have f16 := (((G3.other W2 (Or.inl ne21)).other W8 (Or.inl ne21)).other W14 (Or.inl ne21))
  have f17 := (f11.wr W14)
  obtain ⟨cq15, kq15, q15a, q15b, q15c⟩ := isOf hZ e14 f17
  obtain ⟨_, _, ⟨T15, L15, k15, n15⟩, -, X15, ⟨Lc15, hQ15, l15, y15, z15⟩, st15⟩ := X14.virtualBack hx (y := (⟨"com/example/phaseweave/phaseweave/clock/EventClock$Mark", "sinceError", "()D"⟩ : MethodName)) (z := (⟨"com/example/phaseweave/phaseweave/clock/EventClock$Mark", "sinceError", "()D"⟩ : MethodName)) hown (mvT hZ (hw _ (List.mem_of_getElem? (i := 56) rfl))) (mvT hZ (hw _ (List.mem_of_getElem? (i := 57) rfl))) (notFace_of_selects (args := #[]) (mvT hZ (hw _ (List.mem_of_getElem? (i := 59) rfl)))) (mvT hZ (hw _ (List.mem_of_getElem? (i := 59) rfl))) (mvT hZ (hw _ (List.mem_of_getElem? (i := 58) rfl))) (by decide) (backOf (W := 1) (rmG_sinceError l Z a0 hw [] a2 d4 h14 n0 Z14 f16) hZ (hw _ (List.mem_of_getElem? (i := 60) rfl)) (hw _ (List.mem_of_getElem? (i := 12) rfl)) (by decide) (by decide)) q15a q15c (g := (mkF m 26 #[.val (.ref a1), .val (.ref a2)] [(.ref a2), (.ref a1)])) rfl (by rw [hml]; rfl) (Steps.refl _) (argsL := []) (rest := [(.ref a1)]) (lenOf pd__28_29D rfl) rfl (by show 2 * 0 + _ ≤ _; exact Nat.le_of_eq rfl) (hb hby d5_26) (fun _ _ => ⟨rfl, e14, (by decide : 0 + 0 ≤ _), (by decide : 0 + 0 ≤ _)⟩)
  dsimp only [Pt.U, Pt.locs, Pt.cells, Pt.slots] at X15 l15 y15 z15 st15 hQ15
  subst l15 y15 z15
  obtain ⟨rfl, N15q, e15⟩ := hQ15
  have N15 := Fr.app N14 N15q
  have f18 := (((F3.other W2 (Or.inr (slot_ne (Or.inl (hw _ (List.mem_of_getElem? (i := 62) rfl))) (Or.inl (hw _ (List.mem_of_getElem? (i := 41) rfl))) (by decide) (t := .double) (t' := .double) (by decide) (by decide)))).other W8 (Or.inr (slot_ne (Or.inl (hw _ (List.mem_of_getElem? (i := 62) rfl))) (Or.inl (hw _ (List.mem_of_getElem? (i := 48) rfl))) (by decide) (t := .double) (t' := .double) (by decide) (by decide)))).other W14 (Or.inr (slot_ne (Or.inl (hw _ (List.mem_of_getElem? (i := 62) rfl))) (Or.inl (hw _ (List.mem_of_getElem? (i := 55) rfl))) (by decide) (t := .double) (t' := .double) (by decide) (by decide))))
  have f19 := (f13.wr W14)
  obtain ⟨T20, h20, X20, e20, W20, st20⟩ := putF X15 hx hZ hown (host := "") (Or.inl (hw _ (List.mem_of_getElem? (i := 61) rfl))) Via.refl e15 f18 f19 (Or.inl (hw _ (List.mem_of_getElem? (i := 62) rfl))) (hw _ (List.mem_of_getElem? (i := 2) rfl)) (ty := .double) (by decide) rfl rfl (g := (mkF m 29 #[.val (.ref a1), .val (.ref a2)] [(.double d4), (.ref a1)])) rfl rfl (hb hby d5_29)
  have Fw20 := f18.same W20
  have K20 : Keep h0 h20 [a1] := K14.wr W20 (Or.inl (List.mem_of_getElem? (i := 0) rfl))
  have N20 := Fr.snoc X20 N15 g_a1
  have Z20 : n0 ≤ h20.size := Nat.le_trans Z14 (Keep.of_wr W20).1
  obtain ⟨fs, hr, hrun, hended, hW, hsame⟩ := X20.leave (v := none) (fun _ => rfl)
  refine ⟨_, _, pre0 _ (?_), hrun, hended, _, _, rfl, ?_, ⟨_, rfl⟩, hW, hsame.mono (by decide) (by decide)⟩
  · show Steps p.tables e below (s₁.setTop (mkF m 0 #[.val (.ref a1), .val (.ref a2)] [])) _
    refine XS.aloadN X0.here hx rfl (hb hby d5_0) rfl rfl ?_
    show Steps p.tables e below (s₁.setTop (mkF m 1 #[.val (.ref a1), .val (.ref a2)] [(.ref a1)])) _
    refine XS.aloadN X0.here hx rfl (hb hby d5_1) rfl rfl ?_
    show Steps p.tables e below (s₁.setTop (mkF m 2 #[.val (.ref a1), .val (.ref a2)] [(.ref a2), (.ref a1)])) _
    refine st1.trans ?_
    show Steps p.tables e below (T1.setTop (mkF m 5 #[.val (.ref a1), .val (.ref a2)] [(.double d1), (.ref a1)])) _
    refine st2 _ ?_
    show Steps p.tables e below (T2.setTop (mkF m 8 #[.val (.ref a1), .val (.ref a2)] [])) _
    refine XS.aloadN X2.here hx rfl (hb hby d5_8) rfl rfl ?_
    show Steps p.tables e below (T2.setTop (mkF m 9 #[.val (.ref a1), .val (.ref a2)] [(.ref a1)])) _
    refine XS.aloadN X2.here hx rfl (hb hby d5_9) rfl rfl ?_
    show Steps p.tables e below (T2.setTop (mkF m 10 #[.val (.ref a1), .val (.ref a2)] [(.ref a2), (.ref a1)])) _
    refine st3.trans ?_
    show Steps p.tables e below (T3.setTop (mkF m 13 #[.val (.ref a1), .val (.ref a2)] [(.double d2), (.ref a1)])) _
    refine st8 _ ?_
    show Steps p.tables e below (T8.setTop (mkF m 16 #[.val (.ref a1), .val (.ref a2)] [])) _
    refine XS.aloadN X8.here hx rfl (hb hby d5_16) rfl rfl ?_
    show Steps p.tables e below (T8.setTop (mkF m 17 #[.val (.ref a1), .val (.ref a2)] [(.ref a1)])) _
    refine XS.aloadN X8.here hx rfl (hb hby d5_17) rfl rfl ?_
    show Steps p.tables e below (T8.setTop (mkF m 18 #[.val (.ref a1), .val (.ref a2)] [(.ref a2), (.ref a1)])) _
    refine st9.trans ?_
    show Steps p.tables e below (T9.setTop (mkF m 21 #[.val (.ref a1), .val (.ref a2)] [(.double d3), (.ref a1)])) _
    refine st14 _ ?_
    show Steps p.tables e below (T14.setTop (mkF m 24 #[.val (.ref a1), .val (.ref a2)] [])) _
    refine XS.aloadN X14.here hx rfl (hb hby d5_24) rfl rfl ?_
    show Steps p.tables e below (T14.setTop (mkF m 25 #[.val (.ref a1), .val (.ref a2)] [(.ref a1)])) _
    refine XS.aloadN X14.here hx rfl (hb hby d5_25) rfl rfl ?_
    show Steps p.tables e below (T14.setTop (mkF m 26 #[.val (.ref a1), .val (.ref a2)] [(.ref a2), (.ref a1)])) _
    refine st15.trans ?_
    show Steps p.tables e below (T15.setTop (mkF m 29 #[.val (.ref a1), .val (.ref a2)] [(.double d4), (.ref a1)])) _
    refine st20 _ ?_
    show Steps p.tables e below (T20.setTop (mkF m 32 #[.val (.ref a1), .val (.ref a2)] [])) _
    exact X20.returnOut hx Bd.returns (hb hby d5_32) hr
  have f21 := (((Fw2.other W8 (Or.inr (slot_ne (Or.inl (hw _ (List.mem_of_getElem? (i := 41) rfl))) (Or.inl (hw _ (List.mem_of_getElem? (i := 48) rfl))) (by decide) (t := .double) (t' := .double) (by decide) (by decide)))).other W14 (Or.inr (slot_ne (Or.inl (hw _ (List.mem_of_getElem? (i := 41) rfl))) (Or.inl (hw _ (List.mem_of_getElem? (i := 55) rfl))) (by decide) (t := .double) (t' := .double) (by decide) (by decide)))).other W20 (Or.inr (slot_ne (Or.inl (hw _ (List.mem_of_getElem? (i := 41) rfl))) (Or.inl (hw _ (List.mem_of_getElem? (i := 62) rfl))) (by decide) (t := .double) (t' := .double) (by decide) (by decide))))
  have f22 := ((Fw8.other W14 (Or.inr (slot_ne (Or.inl (hw _ (List.mem_of_getElem? (i := 48) rfl))) (Or.inl (hw _ (List.mem_of_getElem? (i := 55) rfl))) (by decide) (t := .double) (t' := .double) (by decide) (by decide)))).other W20 (Or.inr (slot_ne (Or.inl (hw _ (List.mem_of_getElem? (i := 48) rfl))) (Or.inl (hw _ (List.mem_of_getElem? (i := 62) rfl))) (by decide) (t := .double) (t' := .double) (by decide) (by decide))))
  have f23 := (Fw14.other W20 (Or.inr (slot_ne (Or.inl (hw _ (List.mem_of_getElem? (i := 55) rfl))) (Or.inl (hw _ (List.mem_of_getElem? (i := 62) rfl))) (by decide) (t := .double) (t' := .double) (by decide) (by decide))))
  have f24 := (f19.wr W20)
  · show QrmRe Z a1 a2 d1 d2 d3 d4 u1 u2 u3 u4 h0 n0 _ T20.heap _
    rw [e20]
    exact ⟨rfl, N20, K20, f24, f21, f22, f23, Fw20⟩
theorem d10_0 : decode prog_1_method_3_code 0 = .ok (.dload_n 1, 1) := by decide +kernel
theorem d10_1 : decode prog_1_method_3_code 1 = .ok (.aload_n 0, 1) := by decide +kernel
theorem d10_2 : decode prog_1_method_3_code 2 = .ok (.getfield 20, 3) := by decide +kernel
theorem d10_5 : decode prog_1_method_3_code 5 = .ok (.dsub, 1) := by decide +kernel
theorem d10_6 : decode prog_1_method_3_code 6 = .ok (.dload_n 3, 1) := by decide +kernel
theorem d10_7 : decode prog_1_method_3_code 7 = .ok (.aload_n 0, 1) := by decide +kernel
theorem d10_8 : decode prog_1_method_3_code 8 = .ok (.getfield 23, 3) := by decide +kernel
theorem d10_11 : decode prog_1_method_3_code 11 = .ok (.dsub, 1) := by decide +kernel
theorem d10_12 : decode prog_1_method_3_code 12 = .ok (.dadd, 1) := by decide +kernel
theorem d10_13 : decode prog_1_method_3_code 13 = .ok (.aload_n 0, 1) := by decide +kernel
theorem d10_14 : decode prog_1_method_3_code 14 = .ok (.getfield 7, 3) := by decide +kernel
theorem d10_17 : decode prog_1_method_3_code 17 = .ok (.dsub, 1) := by decide +kernel
theorem d10_18 : decode prog_1_method_3_code 18 = .ok (.aload_n 0, 1) := by decide +kernel
theorem d10_19 : decode prog_1_method_3_code 19 = .ok (.getfield 13, 3) := by decide +kernel
theorem d10_22 : decode prog_1_method_3_code 22 = .ok (.dsub, 1) := by decide +kernel
theorem d10_23 : decode prog_1_method_3_code 23 = .ok (.dreturn, 1) := by decide +kernel
theorem ef_rmTU (m : MethodId) (x0 : Addr) (x1 : UInt64) (x2 : UInt64) : entryFrame m #[(.ref x0), (.double x1), (.double x2)] 5 = mkF m 0 #[.val (.ref x0), .val (.double x1), .second, .val (.double x2), .second] [] := by first | (simp [entryFrame, mkF, argsToLocals, Value.category]; done) | rfl
def QrmTU (Z : State) (a1 : Addr) (x1 x2 f1 f2 f3 f4 : UInt64) (ix1 ix2 if1 if2 if3 if4 : Int) (h0 : Heap) (n0 : Nat) (v : Option Value) (h : Heap) (L : List Loc) : Prop := ∃ y, v = some (.double y) ∧ Fr n0 L ∧ h = h0 ∧ Dy ((((ix1 - if1) + (ix2 - if2)) - if3) - if4) (Jvm.FP.Core.val64 y)
set_option maxRecDepth 65536 in
set_option maxHeartbeats 40000000 in
theorem rmTU (l : Launch) (Z : State) (a0 : Array Value) (hw : ∀ d ∈ tables_1, d.before a0 Z = true) (ws : List Jvm.Cond) (a1 : Addr) (x1 x2 f1 f2 f3 f4 : UInt64) (ix1 ix2 if1 if2 if3 if4 : Int) (h0 : Heap) (n0 : Nat) (Z0 : n0 ≤ h0.size) (Dx1 : Dy ix1 (Jvm.FP.Core.val64 x1)) (Bx1 : -140737488355328 ≤ ix1 ∧ ix1 ≤ 140737488355328) (Dx2 : Dy ix2 (Jvm.FP.Core.val64 x2)) (Bx2 : -2147483648 ≤ ix2 ∧ ix2 ≤ 2147483648) (Df1 : Dy if1 (Jvm.FP.Core.val64 f1)) (Bf1 : -140737488355328 ≤ if1 ∧ if1 ≤ 140737488355328) (Df2 : Dy if2 (Jvm.FP.Core.val64 f2)) (Bf2 : -2147483648 ≤ if2 ∧ if2 ≤ 2147483648) (Df3 : Dy if3 (Jvm.FP.Core.val64 f3)) (Bf3 : -140737488355328 ≤ if3 ∧ if3 ≤ 140737488355328) (Df4 : Dy if4 (Jvm.FP.Core.val64 f4)) (Bf4 : -2147483648 ≤ if4 ∧ if4 ≤ 2147483648) (F0 : Fld Z h0 a1 "com/example/phaseweave/phaseweave/clock/EventClock" "release" "D" (.double f1)) (F1 : Fld Z h0 a1 "com/example/phaseweave/phaseweave/clock/EventClock" "releaseOffset" "D" (.double f2)) (F2 : Fld Z h0 a1 "com/example/phaseweave/phaseweave/clock/EventClock" "since" "D" (.double f3)) (F3 : Fld Z h0 a1 "com/example/phaseweave/phaseweave/clock/EventClock" "sinceError" "D" (.double f4)) :
    MetFree l (⟨"com/example/phaseweave/phaseweave/clock/EventClock", "timeUntil", "(DD)D"⟩ : MethodName) (head1 (Jvm.Cond.code (⟨"com/example/phaseweave/phaseweave/clock/EventClock", "timeUntil", "(DD)D"⟩ : MethodName) prog_1_method_3_code 5 (some .double) :: ws) ({ frames := 0, cells := 0, slots := 0, locals := 0 } : Room)) (fun a U => a = #[(.ref a1), (.double x1), (.double x2)] ∧ Z.Warmed39 U.vm ∧ U.heap = h0) (fun _ _ _ _ _ => True) (fun _ U o U' => ∃ v L, o = .returned v ∧ QrmTU Z a1 x1 x2 f1 f2 f3 f4 ix1 ix2 if1 if2 if3 if4 h0 n0 v U'.heap L ∧ FrameEnd U o U' L ({ frames := 0, cells := 0, slots := 0, locals := 0 } : Room).cells ({ frames := 0, cells := 0, slots := 0, locals := 0 } : Room).slots) := by
  refine MetFree.of_bodySF (plainFor_of_name pn_com_example_phaseweave_phaseweave_clock_EventClock) hisR ?_
  intro p e s m args below meth c s₁ Bd hml0 hP hK
  obtain ⟨rfl, hZ, hh⟩ := hP
  have hx := Bd.exec
  have hby := Bd.bytes
  have hml : c.maxLocals = 5 := hml0
  have hown : s.vm.findClass "com/example/phaseweave/phaseweave/clock/EventClock" = some m.cls := findClass_of_methodNamed Bd.named
  have hnm := (name_of_methodNamed Bd.named Bd.method).1
  have X0 : Stand p l e ({ frames := 0, cells := 0, slots := 0, locals := 0 } : Room) s m #[(.ref a1), (.double x1), (.double x2)] below meth c s₁ [] 0 0 := Stand.of_body Bd
  have e0 : s₁.heap = h0 := by rw [← hh, Bd.state]; rfl
  have N0 := Fr.nil n0
  have pre0 : ∀ t, Steps p.tables e below (s₁.setTop (mkF m 0 #[.val (.ref a1), .val (.double x1), .second, .val (.double x2), .second] [])) t → Steps p.tables e below (s₁.setTop (entryFrame m #[(.ref a1), (.double x1), (.double x2)] 5)) t := fun t k => castTop (ef_rmTU m a1 x1 x2) k
  obtain ⟨T1, X1, e1, st1⟩ := getF X0 hx hZ hown (host := "") (Or.inl (hw _ (List.mem_of_getElem? (i := 40) rfl))) Via.refl e0 F0 (g := (mkF m 2 #[.val (.ref a1), .val (.double x1), .second, .val (.double x2), .second] [(.ref a1), (.double x1)])) rfl rfl (hb hby d10_2)
  have dy2 : Dy (ix1 - if1) (Jvm.FP.Core.val64 (FP.dsub x1 f1)) := own_dsub Dx1 Df1 (own_53 (by omega))
  obtain ⟨T3, X3, e3, st3⟩ := getF X1 hx hZ hown (host := "") (Or.inl (hw _ (List.mem_of_getElem? (i := 47) rfl))) Via.refl e1 F1 (g := (mkF m 8 #[.val (.ref a1), .val (.double x1), .second, .val (.double x2), .second] [(.ref a1), (.double x2), (.double (FP.dsub x1 f1))])) rfl rfl (hb hby d10_8)
  have dy4 : Dy (ix2 - if2) (Jvm.FP.Core.val64 (FP.dsub x2 f2)) := own_dsub Dx2 Df2 (own_53 (by omega))
  have dy5 : Dy ((ix1 - if1) + (ix2 - if2)) (Jvm.FP.Core.val64 (FP.dadd (FP.dsub x1 f1) (FP.dsub x2 f2))) := own_dadd dy2 dy4 (own_53 (by omega))
  obtain ⟨T6, X6, e6, st6⟩ := getF X3 hx hZ hown (host := "") (Or.inl (hw _ (List.mem_of_getElem? (i := 54) rfl))) Via.refl e3 F2 (g := (mkF m 14 #[.val (.ref a1), .val (.double x1), .second, .val (.double x2), .second] [(.ref a1), (.double (FP.dadd (FP.dsub x1 f1) (FP.dsub x2 f2)))])) rfl rfl (hb hby d10_14)
  have dy7 : Dy (((ix1 - if1) + (ix2 - if2)) - if3) (Jvm.FP.Core.val64 (FP.dsub (FP.dadd (FP.dsub x1 f1) (FP.dsub x2 f2)) f3)) := own_dsub dy5 Df3 (own_53 (by omega))
  obtain ⟨T8, X8, e8, st8⟩ := getF X6 hx hZ hown (host := "") (Or.inl (hw _ (List.mem_of_getElem? (i := 61) rfl))) Via.refl e6 F3 (g := (mkF m 19 #[.val (.ref a1), .val (.double x1), .second, .val (.double x2), .second] [(.ref a1), (.double (FP.dsub (FP.dadd (FP.dsub x1 f1) (FP.dsub x2 f2)) f3))])) rfl rfl (hb hby d10_19)
  have dy9 : Dy ((((ix1 - if1) + (ix2 - if2)) - if3) - if4) (Jvm.FP.Core.val64 (FP.dsub (FP.dsub (FP.dadd (FP.dsub x1 f1) (FP.dsub x2 f2)) f3) f4)) := own_dsub dy7 Df4 (own_53 (by omega))
  obtain ⟨zr, hzr⟩ : ∃ z : UInt64, z = (FP.dsub (FP.dsub (FP.dadd (FP.dsub x1 f1) (FP.dsub x2 f2)) f3) f4) := ⟨_, rfl⟩
  obtain ⟨fs, hr, hrun, hended, hW, hsame⟩ := X8.leave (v := some (.double zr)) (fun h => by rw [Bd.returns] at h; cases h)
  refine ⟨_, _, pre0 _ (?_), hrun, hended, _, _, rfl, ?_, ⟨_, rfl⟩, hW, hsame.mono (by decide) (by decide)⟩
  · show Steps p.tables e below (s₁.setTop (mkF m 0 #[.val (.ref a1), .val (.double x1), .second, .val (.double x2), .second] [])) _
    refine XS.dloadN X0.here hx rfl (hb hby d10_0) rfl ?_
    show Steps p.tables e below (s₁.setTop (mkF m 1 #[.val (.ref a1), .val (.double x1), .second, .val (.double x2), .second] [(.double x1)])) _
    refine XS.aloadN X0.here hx rfl (hb hby d10_1) rfl rfl ?_
    show Steps p.tables e below (s₁.setTop (mkF m 2 #[.val (.ref a1), .val (.double x1), .second, .val (.double x2), .second] [(.ref a1), (.double x1)])) _
    refine st1 _ ?_
    show Steps p.tables e below (T1.setTop (mkF m 5 #[.val (.ref a1), .val (.double x1), .second, .val (.double x2), .second] [(.double f1), (.double x1)])) _
    refine XS.dsubS X1.here hx rfl (v := (FP.dsub x1 f1)) (hb hby d10_5) rfl (own_nn dy2) rfl ?_
    show Steps p.tables e below (T1.setTop (mkF m 6 #[.val (.ref a1), .val (.double x1), .second, .val (.double x2), .second] [(.double (FP.dsub x1 f1))])) _
    refine XS.dloadN X1.here hx rfl (hb hby d10_6) rfl ?_
    show Steps p.tables e below (T1.setTop (mkF m 7 #[.val (.ref a1), .val (.double x1), .second, .val (.double x2), .second] [(.double x2), (.double (FP.dsub x1 f1))])) _
    refine XS.aloadN X1.here hx rfl (hb hby d10_7) rfl rfl ?_
    show Steps p.tables e below (T1.setTop (mkF m 8 #[.val (.ref a1), .val (.double x1), .second, .val (.double x2), .second] [(.ref a1), (.double x2), (.double (FP.dsub x1 f1))])) _
    refine st3 _ ?_
    show Steps p.tables e below (T3.setTop (mkF m 11 #[.val (.ref a1), .val (.double x1), .second, .val (.double x2), .second] [(.double f2), (.double x2), (.double (FP.dsub x1 f1))])) _
    refine XS.dsubS X3.here hx rfl (v := (FP.dsub x2 f2)) (hb hby d10_11) rfl (own_nn dy4) rfl ?_
    show Steps p.tables e below (T3.setTop (mkF m 12 #[.val (.ref a1), .val (.double x1), .second, .val (.double x2), .second] [(.double (FP.dsub x2 f2)), (.double (FP.dsub x1 f1))])) _
    refine XS.daddS X3.here hx rfl (v := (FP.dadd (FP.dsub x1 f1) (FP.dsub x2 f2))) (hb hby d10_12) rfl (own_nn dy5) rfl ?_
    show Steps p.tables e below (T3.setTop (mkF m 13 #[.val (.ref a1), .val (.double x1), .second, .val (.double x2), .second] [(.double (FP.dadd (FP.dsub x1 f1) (FP.dsub x2 f2)))])) _
    refine XS.aloadN X3.here hx rfl (hb hby d10_13) rfl rfl ?_
    show Steps p.tables e below (T3.setTop (mkF m 14 #[.val (.ref a1), .val (.double x1), .second, .val (.double x2), .second] [(.ref a1), (.double (FP.dadd (FP.dsub x1 f1) (FP.dsub x2 f2)))])) _
    refine st6 _ ?_
    show Steps p.tables e below (T6.setTop (mkF m 17 #[.val (.ref a1), .val (.double x1), .second, .val (.double x2), .second] [(.double f3), (.double (FP.dadd (FP.dsub x1 f1) (FP.dsub x2 f2)))])) _
    refine XS.dsubS X6.here hx rfl (v := (FP.dsub (FP.dadd (FP.dsub x1 f1) (FP.dsub x2 f2)) f3)) (hb hby d10_17) rfl (own_nn dy7) rfl ?_
    show Steps p.tables e below (T6.setTop (mkF m 18 #[.val (.ref a1), .val (.double x1), .second, .val (.double x2), .second] [(.double (FP.dsub (FP.dadd (FP.dsub x1 f1) (FP.dsub x2 f2)) f3))])) _
    refine XS.aloadN X6.here hx rfl (hb hby d10_18) rfl rfl ?_
    show Steps p.tables e below (T6.setTop (mkF m 19 #[.val (.ref a1), .val (.double x1), .second, .val (.double x2), .second] [(.ref a1), (.double (FP.dsub (FP.dadd (FP.dsub x1 f1) (FP.dsub x2 f2)) f3))])) _
    refine st8 _ ?_
    show Steps p.tables e below (T8.setTop (mkF m 22 #[.val (.ref a1), .val (.double x1), .second, .val (.double x2), .second] [(.double f4), (.double (FP.dsub (FP.dadd (FP.dsub x1 f1) (FP.dsub x2 f2)) f3))])) _
    refine XS.dsubS X8.here hx rfl (v := (FP.dsub (FP.dsub (FP.dadd (FP.dsub x1 f1) (FP.dsub x2 f2)) f3) f4)) (hb hby d10_22) rfl (own_nn dy9) rfl ?_
    show Steps p.tables e below (T8.setTop (mkF m 23 #[.val (.ref a1), .val (.double x1), .second, .val (.double x2), .second] [(.double (FP.dsub (FP.dsub (FP.dadd (FP.dsub x1 f1) (FP.dsub x2 f2)) f3) f4))])) _
    rw [← hzr]
    jvm_step X8.here [X8.here.top, hx, (hb hby d10_23), X8.method', Bd.returns, narrow]
    first | (intro acts; rw [hr _ acts rfl rfl rfl]) | rw [hr _ _ rfl rfl rfl]
    exact Steps.refl _
  · show QrmTU Z a1 x1 x2 f1 f2 f3 f4 ix1 ix2 if1 if2 if3 if4 h0 n0 _ T8.heap _
    rw [e8]; subst hzr
    exact ⟨_, rfl, N0, rfl, dy9⟩
theorem pn_com_example_phaseweave_phaseweave_clock_EventClockTimeUntilPinLaw : plainName "com/example/phaseweave/phaseweave/clock/EventClockTimeUntilPinLaw" = true := by first | (simp [plainName, overriddenIn]; done) | decide +kernel
theorem pd__28DDDD_29V : parseMethodDescriptor "(DDDD)V" = some ⟨[.double, .double, .double, .double], none⟩ := by decide +kernel
theorem pd__28Lcom_2fexample_2fphaseweave_2fphaseweave_2fclock_2fEventClock_24Mark_3b_29V : parseMethodDescriptor "(Lcom/example/phaseweave/phaseweave/clock/EventClock$Mark;)V" = some ⟨[(.object "com/example/phaseweave/phaseweave/clock/EventClock$Mark")], none⟩ := by decide +kernel
theorem pd__28DD_29D : parseMethodDescriptor "(DD)D" = some ⟨[.double, .double], some .double⟩ := by decide +kernel
theorem ef_rm0 (m : MethodId) (x0 : Int32) (x1 : Int32) (x2 : Int32) (x3 : Int32) (x4 : Int32) (x5 : Int32) : entryFrame m #[(.int x0), (.int x1), (.int x2), (.int x3), (.int x4), (.int x5)] maxLocals = mkF m 0 #[.val (.int x0), .val (.int x1), .val (.int x2), .val (.int x3), .val (.int x4), .val (.int x5), .unset, .unset, .unset, .unset, .unset, .unset, .unset, .unset, .unset, .unset, .unset, .unset, .unset, .unset, .unset] [] := by first | (simp [entryFrame, mkF, argsToLocals, Value.category, maxLocals]; done) | rfl
def Qrm0 (Z : State) (p1 p2 p3 p4 p5 p6 : Int32) (h0 : Heap) (n0 : Nat) (v : Option Value) (h : Heap) (L : List Loc) : Prop := v = some (.int 1) ∧ Fr n0 L
set_option maxRecDepth 65536 in
set_option maxHeartbeats 40000000 in
theorem rm0 (l : Launch) (Z : State) (a0 : Array Value) (hw : ∀ d ∈ tables_1, d.before a0 Z = true) (ws : List Jvm.Cond) (p1 p2 p3 p4 p5 p6 : Int32) (h0 : Heap) (n0 : Nat) (Z0 : n0 ≤ h0.size) :
    MetFree l x (head1 (Jvm.Cond.code x code maxLocals ret :: ws) room_1) (fun a U => a = #[(.int p1), (.int p2), (.int p3), (.int p4), (.int p5), (.int p6)] ∧ Z.Warmed39 U.vm ∧ U.heap = h0) (fun _ _ _ _ _ => True) (fun _ U o U' => ∃ v L, o = .returned v ∧ Qrm0 Z p1 p2 p3 p4 p5 p6 h0 n0 v U'.heap L ∧ FrameEnd U o U' L room_1.cells room_1.slots) := by
  refine MetFree.of_bodySF (plainFor_of_name pn_com_example_phaseweave_phaseweave_clock_EventClockTimeUntilPinLaw) hisR ?_
  intro p e s m args below meth c s₁ Bd hml0 hP hK
  obtain ⟨rfl, hZ, hh⟩ := hP
  have hx := Bd.exec
  have hby := Bd.bytes
  have hml : c.maxLocals = 21 := hml0
  have hown : s.vm.findClass "com/example/phaseweave/phaseweave/clock/EventClockTimeUntilPinLaw" = some m.cls := findClass_of_methodNamed Bd.named
  have hnm := (name_of_methodNamed Bd.named Bd.method).1
  have X0 : Stand p l e room_1 s m #[(.int p1), (.int p2), (.int p3), (.int p4), (.int p5), (.int p6)] below meth c s₁ [] 0 0 := Stand.of_body Bd
  have e0 : s₁.heap = h0 := by rw [← hh, Bd.state]; rfl
  have N0 := Fr.nil n0
  have pre0 : ∀ t, Steps p.tables e below (s₁.setTop (mkF m 0 #[.val (.int p1), .val (.int p2), .val (.int p3), .val (.int p4), .val (.int p5), .val (.int p6), .unset, .unset, .unset, .unset, .unset, .unset, .unset, .unset, .unset, .unset, .unset, .unset, .unset, .unset, .unset] [])) t → Steps p.tables e below (s₁.setTop (entryFrame m #[(.int p1), (.int p2), (.int p3), (.int p4), (.int p5), (.int p6)] maxLocals)) t := fun t k => castTop (ef_rm0 m p1 p2 p3 p4 p5 p6) k
  have lp1 := p1.le_toInt
  have up1 := p1.toInt_lt
  have lp2 := p2.le_toInt
  have up2 := p2.toInt_lt
  have lp3 := p3.le_toInt
  have up3 := p3.toInt_lt
  have lp4 := p4.le_toInt
  have up4 := p4.toInt_lt
  have lp5 := p5.le_toInt
  have up5 := p5.toInt_lt
  have lp6 := p6.le_toInt
  have up6 := p6.toInt_lt
  have dy1 : Dy p2.toInt (Jvm.FP.Core.val64 (FP.ddiv (FP.l2d p2.toInt64) (4679240012837945344 : UInt64))) := own_ddiv (own_i2d p2)
  have dy2 : Dy p4.toInt (Jvm.FP.Core.val64 (FP.ddiv (FP.l2d p4.toInt64) (4679240012837945344 : UInt64))) := own_ddiv (own_i2d p4)
  have dy3 : Dy p6.toInt (Jvm.FP.Core.val64 (FP.ddiv (FP.l2d p6.toInt64) (4679240012837945344 : UInt64))) := own_ddiv (own_i2d p6)
  obtain ⟨T4, h4, X4, e4, E4, A4, D4, -, st4⟩ := newO X0 hx hZ hown (hw _ (List.mem_of_getElem? (i := 1) rfl)) (hw _ (List.mem_of_getElem? (i := 2) rfl)) (hw _ (List.mem_of_getElem? (i := 3) rfl)) e0 (g := (mkF m 25 #[.val (.int p1), .val (.int p2), .val (.int p3), .val (.int p4), .val (.int p5), .val (.int p6), .val (.double (FP.ddiv (FP.l2d p2.toInt64) (4679240012837945344 : UInt64))), .second, .val (.double (FP.ddiv (FP.l2d p4.toInt64) (4679240012837945344 : UInt64))), .second, .val (.double (FP.ddiv (FP.l2d p6.toInt64) (4679240012837945344 : UInt64))), .second, .unset, .unset, .unset, .unset, .unset, .unset, .unset, .unset, .unset] [])) rfl (hb hby at_25) (by decide) (by decide)
  obtain ⟨b4, g4⟩ : ∃ z, z = h0.size := ⟨_, rfl⟩
  rw [← g4] at A4 D4 st4
  have g_b4 : n0 ≤ b4 := Nat.le_trans Z0 (Nat.le_of_eq g4.symm)
  have sz_b4 : h0.size ≤ b4 := (Nat.le_trans (Keep.refl h0 []).1 (Nat.le_of_eq g4.symm))
  have F_release_b4 : Fld Z h4 b4 "com/example/phaseweave/phaseweave/clock/EventClock" "release" "D" (.double (FP.l2d (0 : Int64))) := Fld.zeroD (D4 (Or.inl (hw _ (List.mem_of_getElem? (i := 41) rfl))) (ty := .double) (by decide))
  have F_releaseOffset_b4 : Fld Z h4 b4 "com/example/phaseweave/phaseweave/clock/EventClock" "releaseOffset" "D" (.double (FP.l2d (0 : Int64))) := Fld.zeroD (D4 (Or.inl (hw _ (List.mem_of_getElem? (i := 48) rfl))) (ty := .double) (by decide))
  have F_since_b4 : Fld Z h4 b4 "com/example/phaseweave/phaseweave/clock/EventClock" "since" "D" (.double (FP.l2d (0 : Int64))) := Fld.zeroD (D4 (Or.inl (hw _ (List.mem_of_getElem? (i := 55) rfl))) (ty := .double) (by decide))
  have F_sinceError_b4 : Fld Z h4 b4 "com/example/phaseweave/phaseweave/clock/EventClock" "sinceError" "D" (.double (FP.l2d (0 : Int64))) := Fld.zeroD (D4 (Or.inl (hw _ (List.mem_of_getElem? (i := 62) rfl))) (ty := .double) (by decide))
  have K4 : Keep h0 h4 [] := (Keep.refl h0 []).ext E4
  have Z4 : n0 ≤ h4.size := Nat.le_trans Z0 E4.1
  obtain ⟨_, _, ⟨T5, L5, k5, n5⟩, -, X5, ⟨Lc5, hQ5, l5, y5, z5⟩, st5⟩ := X4.specialBack hx (y := (⟨"com/example/phaseweave/phaseweave/clock/EventClock", "<init>", "()V"⟩ : MethodName)) rfl hown (mvT hZ (hw _ (List.mem_of_getElem? (i := 4) rfl))) (mvT hZ (hw _ (List.mem_of_getElem? (i := 5) rfl))) (mvT hZ (hw _ (List.mem_of_getElem? (i := 6) rfl))) (by decide) (backOf (W := 1) (rmEC l Z a0 hw [] b4 h4 n0 Z4) hZ (hw _ (List.mem_of_getElem? (i := 6) rfl)) (hw _ (List.mem_of_getElem? (i := 3) rfl)) (by decide) (by decide)) (g := (mkF m 29 #[.val (.int p1), .val (.int p2), .val (.int p3), .val (.int p4), .val (.int p5), .val (.int p6), .val (.double (FP.ddiv (FP.l2d p2.toInt64) (4679240012837945344 : UInt64))), .second, .val (.double (FP.ddiv (FP.l2d p4.toInt64) (4679240012837945344 : UInt64))), .second, .val (.double (FP.ddiv (FP.l2d p6.toInt64) (4679240012837945344 : UInt64))), .second, .unset, .unset, .unset, .unset, .unset, .unset, .unset, .unset, .unset] [(.ref b4), (.ref b4)])) rfl (by rw [hml]; rfl) (Steps.refl _) (a := b4) (argsL := []) (rest := [(.ref b4)]) (lenOf pd__28_29V rfl) rfl (by show 2 * 0 + _ ≤ _; exact Nat.le_of_eq rfl) (hb hby at_29) (fun _ _ => ⟨rfl, e4, (by decide : 1 + 0 ≤ _), (by decide : 4 + 0 ≤ _)⟩)
  dsimp only [Pt.U, Pt.locs, Pt.cells, Pt.slots] at X5 l5 y5 z5 st5 hQ5
  subst l5 y5 z5
  obtain ⟨rfl, N5q, e5⟩ := hQ5
  have N5 := Fr.app N0 N5q
  obtain ⟨T6, h6, X6, e6, E6, A6, D6, -, st6⟩ := newO X5 hx hZ hown (hw _ (List.mem_of_getElem? (i := 10) rfl)) (hw _ (List.mem_of_getElem? (i := 11) rfl)) (hw _ (List.mem_of_getElem? (i := 12) rfl)) e5 (g := (mkF m 36 #[.val (.int p1), .val (.int p2), .val (.int p3), .val (.int p4), .val (.int p5), .val (.int p6), .val (.double (FP.ddiv (FP.l2d p2.toInt64) (4679240012837945344 : UInt64))), .second, .val (.double (FP.ddiv (FP.l2d p4.toInt64) (4679240012837945344 : UInt64))), .second, .val (.double (FP.ddiv (FP.l2d p6.toInt64) (4679240012837945344 : UInt64))), .second, .val (.ref b4), .unset, .unset, .unset, .unset, .unset, .unset, .unset, .unset] [(.ref b4)])) rfl (hb hby at_36) (by decide) (by decide)
  obtain ⟨b6, g6⟩ : ∃ z, z = h4.size := ⟨_, rfl⟩
  rw [← g6] at A6 D6 st6
  have g_b6 : n0 ≤ b6 := Nat.le_trans Z4 (Nat.le_of_eq g6.symm)
  have sz_b6 : h0.size ≤ b6 := (Nat.le_trans K4.1 (Nat.le_of_eq g6.symm))
  have F_release_b6 : Fld Z h6 b6 "com/example/phaseweave/phaseweave/clock/EventClock$Mark" "release" "D" (.double (FP.l2d (0 : Int64))) := Fld.zeroD (D6 (Or.inr (hw _ (List.mem_of_getElem? (i := 23) rfl))) (ty := .double) (by decide))
  have F_releaseOffset_b6 : Fld Z h6 b6 "com/example/phaseweave/phaseweave/clock/EventClock$Mark" "releaseOffset" "D" (.double (FP.l2d (0 : Int64))) := Fld.zeroD (D6 (Or.inr (hw _ (List.mem_of_getElem? (i := 25) rfl))) (ty := .double) (by decide))
  have F_since_b6 : Fld Z h6 b6 "com/example/phaseweave/phaseweave/clock/EventClock$Mark" "since" "D" (.double (FP.l2d (0 : Int64))) := Fld.zeroD (D6 (Or.inr (hw _ (List.mem_of_getElem? (i := 27) rfl))) (ty := .double) (by decide))
  have F_sinceError_b6 : Fld Z h6 b6 "com/example/phaseweave/phaseweave/clock/EventClock$Mark" "sinceError" "D" (.double (FP.l2d (0 : Int64))) := Fld.zeroD (D6 (Or.inr (hw _ (List.mem_of_getElem? (i := 29) rfl))) (ty := .double) (by decide))
  have K6 : Keep h0 h6 [] := K4.ext E6
  have Z6 : n0 ≤ h6.size := Nat.le_trans Z4 E6.1
  obtain ⟨_, _, ⟨T7, L7, k7, n7⟩, -, X7, ⟨Lc7, hQ7, l7, y7, z7⟩, st7⟩ := X6.specialBack hx (y := (⟨"com/example/phaseweave/phaseweave/clock/EventClock$Mark", "<init>", "(DDDD)V"⟩ : MethodName)) rfl hown (mvT hZ (hw _ (List.mem_of_getElem? (i := 13) rfl))) (mvT hZ (hw _ (List.mem_of_getElem? (i := 14) rfl))) (mvT hZ (hw _ (List.mem_of_getElem? (i := 15) rfl))) (by decide) (backOf (W := 2) (rmMk l Z a0 hw [] b6 (FP.l2d p3.toInt64) (FP.ddiv (FP.l2d p4.toInt64) (4679240012837945344 : UInt64)) (FP.l2d p5.toInt64) (FP.ddiv (FP.l2d p6.toInt64) (4679240012837945344 : UInt64)) (.double (FP.l2d (0 : Int64))) (.double (FP.l2d (0 : Int64))) (.double (FP.l2d (0 : Int64))) (.double (FP.l2d (0 : Int64))) h6 n0 Z6 A6 F_release_b6 F_releaseOffset_b6 F_since_b6 F_sinceError_b6 g_b6) hZ (hw _ (List.mem_of_getElem? (i := 15) rfl)) (hw _ (List.mem_of_getElem? (i := 12) rfl)) (by decide) (by decide)) (g := (mkF m 49 #[.val (.int p1), .val (.int p2), .val (.int p3), .val (.int p4), .val (.int p5), .val (.int p6), .val (.double (FP.ddiv (FP.l2d p2.toInt64) (4679240012837945344 : UInt64))), .second, .val (.double (FP.ddiv (FP.l2d p4.toInt64) (4679240012837945344 : UInt64))), .second, .val (.double (FP.ddiv (FP.l2d p6.toInt64) (4679240012837945344 : UInt64))), .second, .val (.ref b4), .unset, .unset, .unset, .unset, .unset, .unset, .unset, .unset] [(.double (FP.ddiv (FP.l2d p6.toInt64) (4679240012837945344 : UInt64))), (.double (FP.l2d p5.toInt64)), (.double (FP.ddiv (FP.l2d p4.toInt64) (4679240012837945344 : UInt64))), (.double (FP.l2d p3.toInt64)), (.ref b6), (.ref b6), (.ref b4)])) rfl (by rw [hml]; rfl) (Steps.refl _) (a := b6) (argsL := [(.double (FP.l2d p3.toInt64)), (.double (FP.ddiv (FP.l2d p4.toInt64) (4679240012837945344 : UInt64))), (.double (FP.l2d p5.toInt64)), (.double (FP.ddiv (FP.l2d p6.toInt64) (4679240012837945344 : UInt64)))]) (rest := [(.ref b6), (.ref b4)]) (lenOf pd__28DDDD_29V rfl) rfl (by show 2 * 0 + _ ≤ _; exact Nat.le_of_eq rfl) (hb hby at_49) (fun _ _ => ⟨rfl, e6, (by decide : 2 + 0 ≤ _), (by decide : 8 + 0 ≤ _)⟩)
  dsimp only [Pt.U, Pt.locs, Pt.cells, Pt.slots] at X7 l7 y7 z7 st7 hQ7
  subst l7 y7 z7
  obtain ⟨h7, e7⟩ : ∃ h', T7.heap = h' := ⟨_, rfl⟩
  rw [e7] at hQ7
  obtain ⟨rfl, N7q, K7q, Eq7, Fq_release_7, Fq_releaseOffset_7, Fq_since_7, Fq_sinceError_7⟩ := hQ7
  have K7 : Keep h0 h7 [] := K6.trans K7q (allS (Or.inr sz_b6) all0)
  have Z7 : n0 ≤ h7.size := Nat.le_trans Z6 K7q.1
  have N7 := Fr.app N5 N7q
  have f9 := ((A4.ext E6).keep K7q)
  have ne10 : b4 ≠ b6 := (Nat.ne_of_lt (Nat.lt_of_lt_of_le F_release_b4.lt (Nat.le_of_eq g6.symm)))
  have f11 := ((F_release_b4.ext E6).keep K7q (ninS ne10 nin0))
  have f12 := ((F_releaseOffset_b4.ext E6).keep K7q (ninS ne10 nin0))
  have f13 := ((F_since_b4.ext E6).keep K7q (ninS ne10 nin0))
  have f14 := ((F_sinceError_b4.ext E6).keep K7q (ninS ne10 nin0))
  obtain ⟨cq8, kq8, q8a, q8b, q8c⟩ := isOf hZ e7 f9
  obtain ⟨_, _, ⟨T8, L8, k8, n8⟩, -, X8, ⟨Lc8, hQ8, l8, y8, z8⟩, st8⟩ := X7.virtualBack hx (y := (⟨"com/example/phaseweave/phaseweave/clock/EventClock", "reach", "(Lcom/example/phaseweave/phaseweave/clock/EventClock$Mark;)V"⟩ : MethodName)) (z := (⟨"com/example/phaseweave/phaseweave/clock/EventClock", "reach", "(Lcom/example/phaseweave/phaseweave/clock/EventClock$Mark;)V"⟩ : MethodName)) hown (mvT hZ (hw _ (List.mem_of_getElem? (i := 30) rfl))) (mvT hZ (hw _ (List.mem_of_getElem? (i := 31) rfl))) (notFace_of_selects (args := #[]) (mvT hZ (hw _ (List.mem_of_getElem? (i := 33) rfl)))) (mvT hZ (hw _ (List.mem_of_getElem? (i := 33) rfl))) (mvT hZ (hw _ (List.mem_of_getElem? (i := 32) rfl))) (by decide) (backOf (W := 0) (rmRe l Z a0 hw [] b4 b6 (FP.l2d p3.toInt64) (FP.ddiv (FP.l2d p4.toInt64) (4679240012837945344 : UInt64)) (FP.l2d p5.toInt64) (FP.ddiv (FP.l2d p6.toInt64) (4679240012837945344 : UInt64)) (.double (FP.l2d (0 : Int64))) (.double (FP.l2d (0 : Int64))) (.double (FP.l2d (0 : Int64))) (.double (FP.l2d (0 : Int64))) h7 n0 Z7 f9 Eq7 f11 f12 f13 f14 Fq_release_7 Fq_releaseOffset_7 Fq_since_7 Fq_sinceError_7 g_b4 (Ne.symm ne10)) hZ (hw _ (List.mem_of_getElem? (i := 34) rfl)) (hw _ (List.mem_of_getElem? (i := 3) rfl)) (by decide) (by decide)) q8a q8c (g := (mkF m 52 #[.val (.int p1), .val (.int p2), .val (.int p3), .val (.int p4), .val (.int p5), .val (.int p6), .val (.double (FP.ddiv (FP.l2d p2.toInt64) (4679240012837945344 : UInt64))), .second, .val (.double (FP.ddiv (FP.l2d p4.toInt64) (4679240012837945344 : UInt64))), .second, .val (.double (FP.ddiv (FP.l2d p6.toInt64) (4679240012837945344 : UInt64))), .second, .val (.ref b4), .unset, .unset, .unset, .unset, .unset, .unset, .unset, .unset] [(.ref b6), (.ref b4)])) rfl (by rw [hml]; rfl) (Steps.refl _) (argsL := [(.ref b6)]) (rest := []) (lenOf pd__28Lcom_2fexample_2fphaseweave_2fphaseweave_2fclock_2fEventClock_24Mark_3b_29V rfl) rfl (by show 2 * 0 + _ ≤ _; exact Nat.le_of_eq rfl) (hb hby at_52) (fun _ _ => ⟨rfl, e7, (by decide : 2 + 0 ≤ _), (by decide : 8 + 0 ≤ _)⟩)
  dsimp only [Pt.U, Pt.locs, Pt.cells, Pt.slots] at X8 l8 y8 z8 st8 hQ8
  subst l8 y8 z8
  obtain ⟨h8, e8⟩ : ∃ h', T8.heap = h' := ⟨_, rfl⟩
  rw [e8] at hQ8
  obtain ⟨rfl, N8q, K8q, Eq8, Fq_release_8, Fq_releaseOffset_8, Fq_since_8, Fq_sinceError_8⟩ := hQ8
  have K8 : Keep h0 h8 [] := K7.trans K8q (allS (Or.inr sz_b4) all0)
  have Z8 : n0 ≤ h8.size := Nat.le_trans Z7 K8q.1
  have N8 := Fr.app N7 N8q
  obtain ⟨cq15, kq15, q15a, q15b, q15c⟩ := isOf hZ e8 Eq8
  obtain ⟨_, _, ⟨T15, L15, k15, n15⟩, -, X15, ⟨Lc15, hQ15, l15, y15, z15⟩, st15⟩ := X8.virtualBack hx (y := (⟨"com/example/phaseweave/phaseweave/clock/EventClock", "timeUntil", "(DD)D"⟩ : MethodName)) (z := (⟨"com/example/phaseweave/phaseweave/clock/EventClock", "timeUntil", "(DD)D"⟩ : MethodName)) hown (mvT hZ (hw _ (List.mem_of_getElem? (i := 63) rfl))) (mvT hZ (hw _ (List.mem_of_getElem? (i := 64) rfl))) (notFace_of_selects (args := #[]) (mvT hZ (hw _ (List.mem_of_getElem? (i := 66) rfl)))) (mvT hZ (hw _ (List.mem_of_getElem? (i := 66) rfl))) (mvT hZ (hw _ (List.mem_of_getElem? (i := 65) rfl))) (by decide) (backOf (W := 0) (rmTU l Z a0 hw [] b4 (FP.l2d p1.toInt64) (FP.ddiv (FP.l2d p2.toInt64) (4679240012837945344 : UInt64)) (FP.l2d p3.toInt64) (FP.ddiv (FP.l2d p4.toInt64) (4679240012837945344 : UInt64)) (FP.l2d p5.toInt64) (FP.ddiv (FP.l2d p6.toInt64) (4679240012837945344 : UInt64)) ((p1.toInt * 65536)) (p2.toInt) ((p3.toInt * 65536)) (p4.toInt) ((p5.toInt * 65536)) (p6.toInt) h8 n0 Z8 (own_dy_whole (own_i2d p1)) (by omega) dy1 (by omega) (own_dy_whole (own_i2d p3)) (by omega) dy2 (by omega) (own_dy_whole (own_i2d p5)) (by omega) dy3 (by omega) Fq_release_8 Fq_releaseOffset_8 Fq_since_8 Fq_sinceError_8) hZ (hw _ (List.mem_of_getElem? (i := 67) rfl)) (hw _ (List.mem_of_getElem? (i := 3) rfl)) (by decide) (by decide)) q15a q15c (g := (mkF m 61 #[.val (.int p1), .val (.int p2), .val (.int p3), .val (.int p4), .val (.int p5), .val (.int p6), .val (.double (FP.ddiv (FP.l2d p2.toInt64) (4679240012837945344 : UInt64))), .second, .val (.double (FP.ddiv (FP.l2d p4.toInt64) (4679240012837945344 : UInt64))), .second, .val (.double (FP.ddiv (FP.l2d p6.toInt64) (4679240012837945344 : UInt64))), .second, .val (.ref b4), .unset, .unset, .unset, .unset, .unset, .unset, .unset, .unset] [(.double (FP.ddiv (FP.l2d p2.toInt64) (4679240012837945344 : UInt64))), (.double (FP.l2d p1.toInt64)), (.ref b4)])) rfl (by rw [hml]; rfl) (Steps.refl _) (argsL := [(.double (FP.l2d p1.toInt64)), (.double (FP.ddiv (FP.l2d p2.toInt64) (4679240012837945344 : UInt64)))]) (rest := []) (lenOf pd__28DD_29D rfl) rfl (by show 2 * 0 + _ ≤ _; exact Nat.le_of_eq rfl) (hb hby at_61) (fun _ _ => ⟨rfl, e8, (by decide : 2 + 0 ≤ _), (by decide : 8 + 0 ≤ _)⟩)
  dsimp only [Pt.U, Pt.locs, Pt.cells, Pt.slots] at X15 l15 y15 z15 st15 hQ15
  subst l15 y15 z15
  obtain ⟨y15, rfl, N15q, e15, I15⟩ := hQ15
  have N15 := Fr.app N8 N15q
  have wh16 : Jvm.FP.Core.Whole (((((p1.toInt * 65536) - (p3.toInt * 65536)) + (p2.toInt - p4.toInt)) - (p5.toInt * 65536)) - p6.toInt) (Jvm.FP.Core.val64 (FP.dmul y15 (4679240012837945344 : UInt64))) := own_dmul I15 (own_53 (by omega))
  have wl17 : Jvm.FP.Core.Whole ((p1.toInt - p3.toInt - p5.toInt) * 65536 + (p2.toInt - p4.toInt - p6.toInt)) (Jvm.FP.Core.val64 (FP.l2d (((((p1.toInt64) - (p3.toInt64)) - (p5.toInt64)) * (65536 : Int64)) + (((p2.toInt64) - (p4.toInt64)) - (p6.toInt64))))) := by
    have e1 : (((p1.toInt64) - (p3.toInt64)) - (p5.toInt64)).toInt = p1.toInt - p3.toInt - p5.toInt := by
      rw [Jvm.Kit.i64_sub, Jvm.Kit.i64_sub] <;> (try rw [Jvm.Kit.i64_sub]) <;> simp only [Int32.toInt_toInt64] <;> omega
    have e2 : (((p2.toInt64) - (p4.toInt64)) - (p6.toInt64)).toInt = p2.toInt - p4.toInt - p6.toInt := by
      rw [Jvm.Kit.i64_sub, Jvm.Kit.i64_sub] <;> (try rw [Jvm.Kit.i64_sub]) <;> simp only [Int32.toInt_toInt64] <;> omega
    have k : (65536 : Int64).toInt = 65536 := rfl
    have e3 : ((((p1.toInt64) - (p3.toInt64)) - (p5.toInt64)) * (65536 : Int64)).toInt = (p1.toInt - p3.toInt - p5.toInt) * 65536 := by
      rw [Jvm.Kit.i64_mul (by rw [e1, k]; omega) (by rw [e1, k]; omega), e1, k]
    have e4 : (((((p1.toInt64) - (p3.toInt64)) - (p5.toInt64)) * (65536 : Int64)) + (((p2.toInt64) - (p4.toInt64)) - (p6.toInt64))).toInt = (p1.toInt - p3.toInt - p5.toInt) * 65536 + (p2.toInt - p4.toInt - p6.toInt) := by
      rw [Jvm.Kit.i64_add (by rw [e3, e2]; omega) (by rw [e3, e2]; omega), e3, e2]
    have w := Jvm.FP.Core.l2d_whole (a := (((((p1.toInt64) - (p3.toInt64)) - (p5.toInt64)) * (65536 : Int64)) + (((p2.toInt64) - (p4.toInt64)) - (p6.toInt64)))) (by unfold Jvm.FP.Core.Small53; rw [e4]; constructor <;> omega)
    rw [e4] at w; exact w
  obtain ⟨fs, hr, hrun, hended, hW, hsame⟩ := X15.leave (v := some (.int (1 : Int32))) (fun h => by rw [Bd.returns] at h; cases h)
  refine ⟨_, _, pre0 _ (?_), hrun, hended, _, _, rfl, ?_, ⟨_, rfl⟩, hW, hsame.mono (by decide) (by decide)⟩
  · show Steps p.tables e below (s₁.setTop (mkF m 0 #[.val (.int p1), .val (.int p2), .val (.int p3), .val (.int p4), .val (.int p5), .val (.int p6), .unset, .unset, .unset, .unset, .unset, .unset, .unset, .unset, .unset, .unset, .unset, .unset, .unset, .unset, .unset] [])) _
    refine XS.iloadN X0.here hx rfl (hb hby at_0) rfl ?_
    show Steps p.tables e below (s₁.setTop (mkF m 1 #[.val (.int p1), .val (.int p2), .val (.int p3), .val (.int p4), .val (.int p5), .val (.int p6), .unset, .unset, .unset, .unset, .unset, .unset, .unset, .unset, .unset, .unset, .unset, .unset, .unset, .unset, .unset] [(.int p2)])) _
    refine XS.i2dS X0.here hx rfl (v := (FP.l2d p2.toInt64)) (hb hby at_1) rfl (i2d_w _) ?_
    show Steps p.tables e below (s₁.setTop (mkF m 2 #[.val (.int p1), .val (.int p2), .val (.int p3), .val (.int p4), .val (.int p5), .val (.int p6), .unset, .unset, .unset, .unset, .unset, .unset, .unset, .unset, .unset, .unset, .unset, .unset, .unset, .unset, .unset] [(.double (FP.l2d p2.toInt64))])) _
    refine X0.ldc2DoubleC hx hown (mvT hZ (hw _ (List.mem_of_getElem? (i := 0) rfl))) (g := (mkF m 2 #[.val (.int p1), .val (.int p2), .val (.int p3), .val (.int p4), .val (.int p5), .val (.int p6), .unset, .unset, .unset, .unset, .unset, .unset, .unset, .unset, .unset, .unset, .unset, .unset, .unset, .unset, .unset] [(.double (FP.l2d p2.toInt64))])) rfl (hb hby at_2) _ ?_
    show Steps p.tables e below (s₁.setTop (mkF m 5 #[.val (.int p1), .val (.int p2), .val (.int p3), .val (.int p4), .val (.int p5), .val (.int p6), .unset, .unset, .unset, .unset, .unset, .unset, .unset, .unset, .unset, .unset, .unset, .unset, .unset, .unset, .unset] [(.double (4679240012837945344 : UInt64)), (.double (FP.l2d p2.toInt64))])) _
    refine XS.ddivS X0.here hx rfl (v := (FP.ddiv (FP.l2d p2.toInt64) (4679240012837945344 : UInt64))) (hb hby at_5) rfl (own_nn dy1) rfl ?_
    show Steps p.tables e below (s₁.setTop (mkF m 6 #[.val (.int p1), .val (.int p2), .val (.int p3), .val (.int p4), .val (.int p5), .val (.int p6), .unset, .unset, .unset, .unset, .unset, .unset, .unset, .unset, .unset, .unset, .unset, .unset, .unset, .unset, .unset] [(.double (FP.ddiv (FP.l2d p2.toInt64) (4679240012837945344 : UInt64)))])) _
    refine XS.dstore X0.here hx rfl (hb hby at_6) rfl (l' := #[.val (.int p1), .val (.int p2), .val (.int p3), .val (.int p4), .val (.int p5), .val (.int p6), .val (.double (FP.ddiv (FP.l2d p2.toInt64) (4679240012837945344 : UInt64))), .second, .unset, .unset, .unset, .unset, .unset, .unset, .unset, .unset, .unset, .unset, .unset, .unset, .unset]) rfl ?_
    show Steps p.tables e below (s₁.setTop (mkF m 8 #[.val (.int p1), .val (.int p2), .val (.int p3), .val (.int p4), .val (.int p5), .val (.int p6), .val (.double (FP.ddiv (FP.l2d p2.toInt64) (4679240012837945344 : UInt64))), .second, .unset, .unset, .unset, .unset, .unset, .unset, .unset, .unset, .unset, .unset, .unset, .unset, .unset] [])) _
    refine XS.iloadN X0.here hx rfl (hb hby at_8) rfl ?_
    show Steps p.tables e below (s₁.setTop (mkF m 9 #[.val (.int p1), .val (.int p2), .val (.int p3), .val (.int p4), .val (.int p5), .val (.int p6), .val (.double (FP.ddiv (FP.l2d p2.toInt64) (4679240012837945344 : UInt64))), .second, .unset, .unset, .unset, .unset, .unset, .unset, .unset, .unset, .unset, .unset, .unset, .unset, .unset] [(.int p4)])) _
    refine XS.i2dS X0.here hx rfl (v := (FP.l2d p4.toInt64)) (hb hby at_9) rfl (i2d_w _) ?_
    show Steps p.tables e below (s₁.setTop (mkF m 10 #[.val (.int p1), .val (.int p2), .val (.int p3), .val (.int p4), .val (.int p5), .val (.int p6), .val (.double (FP.ddiv (FP.l2d p2.toInt64) (4679240012837945344 : UInt64))), .second, .unset, .unset, .unset, .unset, .unset, .unset, .unset, .unset, .unset, .unset, .unset, .unset, .unset] [(.double (FP.l2d p4.toInt64))])) _
    refine X0.ldc2DoubleC hx hown (mvT hZ (hw _ (List.mem_of_getElem? (i := 0) rfl))) (g := (mkF m 10 #[.val (.int p1), .val (.int p2), .val (.int p3), .val (.int p4), .val (.int p5), .val (.int p6), .val (.double (FP.ddiv (FP.l2d p2.toInt64) (4679240012837945344 : UInt64))), .second, .unset, .unset, .unset, .unset, .unset, .unset, .unset, .unset, .unset, .unset, .unset, .unset, .unset] [(.double (FP.l2d p4.toInt64))])) rfl (hb hby at_10) _ ?_
    show Steps p.tables e below (s₁.setTop (mkF m 13 #[.val (.int p1), .val (.int p2), .val (.int p3), .val (.int p4), .val (.int p5), .val (.int p6), .val (.double (FP.ddiv (FP.l2d p2.toInt64) (4679240012837945344 : UInt64))), .second, .unset, .unset, .unset, .unset, .unset, .unset, .unset, .unset, .unset, .unset, .unset, .unset, .unset] [(.double (4679240012837945344 : UInt64)), (.double (FP.l2d p4.toInt64))])) _
    refine XS.ddivS X0.here hx rfl (v := (FP.ddiv (FP.l2d p4.toInt64) (4679240012837945344 : UInt64))) (hb hby at_13) rfl (own_nn dy2) rfl ?_
    show Steps p.tables e below (s₁.setTop (mkF m 14 #[.val (.int p1), .val (.int p2), .val (.int p3), .val (.int p4), .val (.int p5), .val (.int p6), .val (.double (FP.ddiv (FP.l2d p2.toInt64) (4679240012837945344 : UInt64))), .second, .unset, .unset, .unset, .unset, .unset, .unset, .unset, .unset, .unset, .unset, .unset, .unset, .unset] [(.double (FP.ddiv (FP.l2d p4.toInt64) (4679240012837945344 : UInt64)))])) _
    refine XS.dstore X0.here hx rfl (hb hby at_14) rfl (l' := #[.val (.int p1), .val (.int p2), .val (.int p3), .val (.int p4), .val (.int p5), .val (.int p6), .val (.double (FP.ddiv (FP.l2d p2.toInt64) (4679240012837945344 : UInt64))), .second, .val (.double (FP.ddiv (FP.l2d p4.toInt64) (4679240012837945344 : UInt64))), .second, .unset, .unset, .unset, .unset, .unset, .unset, .unset, .unset, .unset, .unset, .unset]) rfl ?_
    show Steps p.tables e below (s₁.setTop (mkF m 16 #[.val (.int p1), .val (.int p2), .val (.int p3), .val (.int p4), .val (.int p5), .val (.int p6), .val (.double (FP.ddiv (FP.l2d p2.toInt64) (4679240012837945344 : UInt64))), .second, .val (.double (FP.ddiv (FP.l2d p4.toInt64) (4679240012837945344 : UInt64))), .second, .unset, .unset, .unset, .unset, .unset, .unset, .unset, .unset, .unset, .unset, .unset] [])) _
    refine XS.iload X0.here hx rfl (hb hby at_16) rfl ?_
    show Steps p.tables e below (s₁.setTop (mkF m 18 #[.val (.int p1), .val (.int p2), .val (.int p3), .val (.int p4), .val (.int p5), .val (.int p6), .val (.double (FP.ddiv (FP.l2d p2.toInt64) (4679240012837945344 : UInt64))), .second, .val (.double (FP.ddiv (FP.l2d p4.toInt64) (4679240012837945344 : UInt64))), .second, .unset, .unset, .unset, .unset, .unset, .unset, .unset, .unset, .unset, .unset, .unset] [(.int p6)])) _
    refine XS.i2dS X0.here hx rfl (v := (FP.l2d p6.toInt64)) (hb hby at_18) rfl (i2d_w _) ?_
    show Steps p.tables e below (s₁.setTop (mkF m 19 #[.val (.int p1), .val (.int p2), .val (.int p3), .val (.int p4), .val (.int p5), .val (.int p6), .val (.double (FP.ddiv (FP.l2d p2.toInt64) (4679240012837945344 : UInt64))), .second, .val (.double (FP.ddiv (FP.l2d p4.toInt64) (4679240012837945344 : UInt64))), .second, .unset, .unset, .unset, .unset, .unset, .unset, .unset, .unset, .unset, .unset, .unset] [(.double (FP.l2d p6.toInt64))])) _
    refine X0.ldc2DoubleC hx hown (mvT hZ (hw _ (List.mem_of_getElem? (i := 0) rfl))) (g := (mkF m 19 #[.val (.int p1), .val (.int p2), .val (.int p3), .val (.int p4), .val (.int p5), .val (.int p6), .val (.double (FP.ddiv (FP.l2d p2.toInt64) (4679240012837945344 : UInt64))), .second, .val (.double (FP.ddiv (FP.l2d p4.toInt64) (4679240012837945344 : UInt64))), .second, .unset, .unset, .unset, .unset, .unset, .unset, .unset, .unset, .unset, .unset, .unset] [(.double (FP.l2d p6.toInt64))])) rfl (hb hby at_19) _ ?_
    show Steps p.tables e below (s₁.setTop (mkF m 22 #[.val (.int p1), .val (.int p2), .val (.int p3), .val (.int p4), .val (.int p5), .val (.int p6), .val (.double (FP.ddiv (FP.l2d p2.toInt64) (4679240012837945344 : UInt64))), .second, .val (.double (FP.ddiv (FP.l2d p4.toInt64) (4679240012837945344 : UInt64))), .second, .unset, .unset, .unset, .unset, .unset, .unset, .unset, .unset, .unset, .unset, .unset] [(.double (4679240012837945344 : UInt64)), (.double (FP.l2d p6.toInt64))])) _
    refine XS.ddivS X0.here hx rfl (v := (FP.ddiv (FP.l2d p6.toInt64) (4679240012837945344 : UInt64))) (hb hby at_22) rfl (own_nn dy3) rfl ?_
    show Steps p.tables e below (s₁.setTop (mkF m 23 #[.val (.int p1), .val (.int p2), .val (.int p3), .val (.int p4), .val (.int p5), .val (.int p6), .val (.double (FP.ddiv (FP.l2d p2.toInt64) (4679240012837945344 : UInt64))), .second, .val (.double (FP.ddiv (FP.l2d p4.toInt64) (4679240012837945344 : UInt64))), .second, .unset, .unset, .unset, .unset, .unset, .unset, .unset, .unset, .unset, .unset, .unset] [(.double (FP.ddiv (FP.l2d p6.toInt64) (4679240012837945344 : UInt64)))])) _
    refine XS.dstore X0.here hx rfl (hb hby at_23) rfl (l' := #[.val (.int p1), .val (.int p2), .val (.int p3), .val (.int p4), .val (.int p5), .val (.int p6), .val (.double (FP.ddiv (FP.l2d p2.toInt64) (4679240012837945344 : UInt64))), .second, .val (.double (FP.ddiv (FP.l2d p4.toInt64) (4679240012837945344 : UInt64))), .second, .val (.double (FP.ddiv (FP.l2d p6.toInt64) (4679240012837945344 : UInt64))), .second, .unset, .unset, .unset, .unset, .unset, .unset, .unset, .unset, .unset]) rfl ?_
    show Steps p.tables e below (s₁.setTop (mkF m 25 #[.val (.int p1), .val (.int p2), .val (.int p3), .val (.int p4), .val (.int p5), .val (.int p6), .val (.double (FP.ddiv (FP.l2d p2.toInt64) (4679240012837945344 : UInt64))), .second, .val (.double (FP.ddiv (FP.l2d p4.toInt64) (4679240012837945344 : UInt64))), .second, .val (.double (FP.ddiv (FP.l2d p6.toInt64) (4679240012837945344 : UInt64))), .second, .unset, .unset, .unset, .unset, .unset, .unset, .unset, .unset, .unset] [])) _
    refine st4 _ ?_
    show Steps p.tables e below (T4.setTop (mkF m 28 #[.val (.int p1), .val (.int p2), .val (.int p3), .val (.int p4), .val (.int p5), .val (.int p6), .val (.double (FP.ddiv (FP.l2d p2.toInt64) (4679240012837945344 : UInt64))), .second, .val (.double (FP.ddiv (FP.l2d p4.toInt64) (4679240012837945344 : UInt64))), .second, .val (.double (FP.ddiv (FP.l2d p6.toInt64) (4679240012837945344 : UInt64))), .second, .unset, .unset, .unset, .unset, .unset, .unset, .unset, .unset, .unset] [(.ref b4)])) _
    refine XS.dup X4.here hx rfl (hb hby at_28) rfl rfl ?_
    show Steps p.tables e below (T4.setTop (mkF m 29 #[.val (.int p1), .val (.int p2), .val (.int p3), .val (.int p4), .val (.int p5), .val (.int p6), .val (.double (FP.ddiv (FP.l2d p2.toInt64) (4679240012837945344 : UInt64))), .second, .val (.double (FP.ddiv (FP.l2d p4.toInt64) (4679240012837945344 : UInt64))), .second, .val (.double (FP.ddiv (FP.l2d p6.toInt64) (4679240012837945344 : UInt64))), .second, .unset, .unset, .unset, .unset, .unset, .unset, .unset, .unset, .unset] [(.ref b4), (.ref b4)])) _
    refine st5.trans ?_
    show Steps p.tables e below (T5.setTop (mkF m 32 #[.val (.int p1), .val (.int p2), .val (.int p3), .val (.int p4), .val (.int p5), .val (.int p6), .val (.double (FP.ddiv (FP.l2d p2.toInt64) (4679240012837945344 : UInt64))), .second, .val (.double (FP.ddiv (FP.l2d p4.toInt64) (4679240012837945344 : UInt64))), .second, .val (.double (FP.ddiv (FP.l2d p6.toInt64) (4679240012837945344 : UInt64))), .second, .unset, .unset, .unset, .unset, .unset, .unset, .unset, .unset, .unset] [(.ref b4)])) _
    refine XS.astore X5.here hx rfl (hb hby at_32) rfl rfl (l' := #[.val (.int p1), .val (.int p2), .val (.int p3), .val (.int p4), .val (.int p5), .val (.int p6), .val (.double (FP.ddiv (FP.l2d p2.toInt64) (4679240012837945344 : UInt64))), .second, .val (.double (FP.ddiv (FP.l2d p4.toInt64) (4679240012837945344 : UInt64))), .second, .val (.double (FP.ddiv (FP.l2d p6.toInt64) (4679240012837945344 : UInt64))), .second, .val (.ref b4), .unset, .unset, .unset, .unset, .unset, .unset, .unset, .unset]) rfl ?_
    show Steps p.tables e below (T5.setTop (mkF m 34 #[.val (.int p1), .val (.int p2), .val (.int p3), .val (.int p4), .val (.int p5), .val (.int p6), .val (.double (FP.ddiv (FP.l2d p2.toInt64) (4679240012837945344 : UInt64))), .second, .val (.double (FP.ddiv (FP.l2d p4.toInt64) (4679240012837945344 : UInt64))), .second, .val (.double (FP.ddiv (FP.l2d p6.toInt64) (4679240012837945344 : UInt64))), .second, .val (.ref b4), .unset, .unset, .unset, .unset, .unset, .unset, .unset, .unset] [])) _
    refine XS.aload X5.here hx rfl (hb hby at_34) rfl rfl ?_
    show Steps p.tables e below (T5.setTop (mkF m 36 #[.val (.int p1), .val (.int p2), .val (.int p3), .val (.int p4), .val (.int p5), .val (.int p6), .val (.double (FP.ddiv (FP.l2d p2.toInt64) (4679240012837945344 : UInt64))), .second, .val (.double (FP.ddiv (FP.l2d p4.toInt64) (4679240012837945344 : UInt64))), .second, .val (.double (FP.ddiv (FP.l2d p6.toInt64) (4679240012837945344 : UInt64))), .second, .val (.ref b4), .unset, .unset, .unset, .unset, .unset, .unset, .unset, .unset] [(.ref b4)])) _
    refine st6 _ ?_
    show Steps p.tables e below (T6.setTop (mkF m 39 #[.val (.int p1), .val (.int p2), .val (.int p3), .val (.int p4), .val (.int p5), .val (.int p6), .val (.double (FP.ddiv (FP.l2d p2.toInt64) (4679240012837945344 : UInt64))), .second, .val (.double (FP.ddiv (FP.l2d p4.toInt64) (4679240012837945344 : UInt64))), .second, .val (.double (FP.ddiv (FP.l2d p6.toInt64) (4679240012837945344 : UInt64))), .second, .val (.ref b4), .unset, .unset, .unset, .unset, .unset, .unset, .unset, .unset] [(.ref b6), (.ref b4)])) _
    refine XS.dup X6.here hx rfl (hb hby at_39) rfl rfl ?_
    show Steps p.tables e below (T6.setTop (mkF m 40 #[.val (.int p1), .val (.int p2), .val (.int p3), .val (.int p4), .val (.int p5), .val (.int p6), .val (.double (FP.ddiv (FP.l2d p2.toInt64) (4679240012837945344 : UInt64))), .second, .val (.double (FP.ddiv (FP.l2d p4.toInt64) (4679240012837945344 : UInt64))), .second, .val (.double (FP.ddiv (FP.l2d p6.toInt64) (4679240012837945344 : UInt64))), .second, .val (.ref b4), .unset, .unset, .unset, .unset, .unset, .unset, .unset, .unset] [(.ref b6), (.ref b6), (.ref b4)])) _
    refine XS.iloadN X6.here hx rfl (hb hby at_40) rfl ?_
    show Steps p.tables e below (T6.setTop (mkF m 41 #[.val (.int p1), .val (.int p2), .val (.int p3), .val (.int p4), .val (.int p5), .val (.int p6), .val (.double (FP.ddiv (FP.l2d p2.toInt64) (4679240012837945344 : UInt64))), .second, .val (.double (FP.ddiv (FP.l2d p4.toInt64) (4679240012837945344 : UInt64))), .second, .val (.double (FP.ddiv (FP.l2d p6.toInt64) (4679240012837945344 : UInt64))), .second, .val (.ref b4), .unset, .unset, .unset, .unset, .unset, .unset, .unset, .unset] [(.int p3), (.ref b6), (.ref b6), (.ref b4)])) _
    refine XS.i2dS X6.here hx rfl (v := (FP.l2d p3.toInt64)) (hb hby at_41) rfl (i2d_w _) ?_
    show Steps p.tables e below (T6.setTop (mkF m 42 #[.val (.int p1), .val (.int p2), .val (.int p3), .val (.int p4), .val (.int p5), .val (.int p6), .val (.double (FP.ddiv (FP.l2d p2.toInt64) (4679240012837945344 : UInt64))), .second, .val (.double (FP.ddiv (FP.l2d p4.toInt64) (4679240012837945344 : UInt64))), .second, .val (.double (FP.ddiv (FP.l2d p6.toInt64) (4679240012837945344 : UInt64))), .second, .val (.ref b4), .unset, .unset, .unset, .unset, .unset, .unset, .unset, .unset] [(.double (FP.l2d p3.toInt64)), (.ref b6), (.ref b6), (.ref b4)])) _
    refine XS.dload X6.here hx rfl (hb hby at_42) rfl ?_
    show Steps p.tables e below (T6.setTop (mkF m 44 #[.val (.int p1), .val (.int p2), .val (.int p3), .val (.int p4), .val (.int p5), .val (.int p6), .val (.double (FP.ddiv (FP.l2d p2.toInt64) (4679240012837945344 : UInt64))), .second, .val (.double (FP.ddiv (FP.l2d p4.toInt64) (4679240012837945344 : UInt64))), .second, .val (.double (FP.ddiv (FP.l2d p6.toInt64) (4679240012837945344 : UInt64))), .second, .val (.ref b4), .unset, .unset, .unset, .unset, .unset, .unset, .unset, .unset] [(.double (FP.ddiv (FP.l2d p4.toInt64) (4679240012837945344 : UInt64))), (.double (FP.l2d p3.toInt64)), (.ref b6), (.ref b6), (.ref b4)])) _
    refine XS.iload X6.here hx rfl (hb hby at_44) rfl ?_
    show Steps p.tables e below (T6.setTop (mkF m 46 #[.val (.int p1), .val (.int p2), .val (.int p3), .val (.int p4), .val (.int p5), .val (.int p6), .val (.double (FP.ddiv (FP.l2d p2.toInt64) (4679240012837945344 : UInt64))), .second, .val (.double (FP.ddiv (FP.l2d p4.toInt64) (4679240012837945344 : UInt64))), .second, .val (.double (FP.ddiv (FP.l2d p6.toInt64) (4679240012837945344 : UInt64))), .second, .val (.ref b4), .unset, .unset, .unset, .unset, .unset, .unset, .unset, .unset] [(.int p5), (.double (FP.ddiv (FP.l2d p4.toInt64) (4679240012837945344 : UInt64))), (.double (FP.l2d p3.toInt64)), (.ref b6), (.ref b6), (.ref b4)])) _
    refine XS.i2dS X6.here hx rfl (v := (FP.l2d p5.toInt64)) (hb hby at_46) rfl (i2d_w _) ?_
    show Steps p.tables e below (T6.setTop (mkF m 47 #[.val (.int p1), .val (.int p2), .val (.int p3), .val (.int p4), .val (.int p5), .val (.int p6), .val (.double (FP.ddiv (FP.l2d p2.toInt64) (4679240012837945344 : UInt64))), .second, .val (.double (FP.ddiv (FP.l2d p4.toInt64) (4679240012837945344 : UInt64))), .second, .val (.double (FP.ddiv (FP.l2d p6.toInt64) (4679240012837945344 : UInt64))), .second, .val (.ref b4), .unset, .unset, .unset, .unset, .unset, .unset, .unset, .unset] [(.double (FP.l2d p5.toInt64)), (.double (FP.ddiv (FP.l2d p4.toInt64) (4679240012837945344 : UInt64))), (.double (FP.l2d p3.toInt64)), (.ref b6), (.ref b6), (.ref b4)])) _
    refine XS.dload X6.here hx rfl (hb hby at_47) rfl ?_
    show Steps p.tables e below (T6.setTop (mkF m 49 #[.val (.int p1), .val (.int p2), .val (.int p3), .val (.int p4), .val (.int p5), .val (.int p6), .val (.double (FP.ddiv (FP.l2d p2.toInt64) (4679240012837945344 : UInt64))), .second, .val (.double (FP.ddiv (FP.l2d p4.toInt64) (4679240012837945344 : UInt64))), .second, .val (.double (FP.ddiv (FP.l2d p6.toInt64) (4679240012837945344 : UInt64))), .second, .val (.ref b4), .unset, .unset, .unset, .unset, .unset, .unset, .unset, .unset] [(.double (FP.ddiv (FP.l2d p6.toInt64) (4679240012837945344 : UInt64))), (.double (FP.l2d p5.toInt64)), (.double (FP.ddiv (FP.l2d p4.toInt64) (4679240012837945344 : UInt64))), (.double (FP.l2d p3.toInt64)), (.ref b6), (.ref b6), (.ref b4)])) _
    refine st7.trans ?_
    show Steps p.tables e below (T7.setTop (mkF m 52 #[.val (.int p1), .val (.int p2), .val (.int p3), .val (.int p4), .val (.int p5), .val (.int p6), .val (.double (FP.ddiv (FP.l2d p2.toInt64) (4679240012837945344 : UInt64))), .second, .val (.double (FP.ddiv (FP.l2d p4.toInt64) (4679240012837945344 : UInt64))), .second, .val (.double (FP.ddiv (FP.l2d p6.toInt64) (4679240012837945344 : UInt64))), .second, .val (.ref b4), .unset, .unset, .unset, .unset, .unset, .unset, .unset, .unset] [(.ref b6), (.ref b4)])) _
    refine st8.trans ?_
    show Steps p.tables e below (T8.setTop (mkF m 55 #[.val (.int p1), .val (.int p2), .val (.int p3), .val (.int p4), .val (.int p5), .val (.int p6), .val (.double (FP.ddiv (FP.l2d p2.toInt64) (4679240012837945344 : UInt64))), .second, .val (.double (FP.ddiv (FP.l2d p4.toInt64) (4679240012837945344 : UInt64))), .second, .val (.double (FP.ddiv (FP.l2d p6.toInt64) (4679240012837945344 : UInt64))), .second, .val (.ref b4), .unset, .unset, .unset, .unset, .unset, .unset, .unset, .unset] [])) _
    refine XS.aload X8.here hx rfl (hb hby at_55) rfl rfl ?_
    show Steps p.tables e below (T8.setTop (mkF m 57 #[.val (.int p1), .val (.int p2), .val (.int p3), .val (.int p4), .val (.int p5), .val (.int p6), .val (.double (FP.ddiv (FP.l2d p2.toInt64) (4679240012837945344 : UInt64))), .second, .val (.double (FP.ddiv (FP.l2d p4.toInt64) (4679240012837945344 : UInt64))), .second, .val (.double (FP.ddiv (FP.l2d p6.toInt64) (4679240012837945344 : UInt64))), .second, .val (.ref b4), .unset, .unset, .unset, .unset, .unset, .unset, .unset, .unset] [(.ref b4)])) _
    refine XS.iloadN X8.here hx rfl (hb hby at_57) rfl ?_
    show Steps p.tables e below (T8.setTop (mkF m 58 #[.val (.int p1), .val (.int p2), .val (.int p3), .val (.int p4), .val (.int p5), .val (.int p6), .val (.double (FP.ddiv (FP.l2d p2.toInt64) (4679240012837945344 : UInt64))), .second, .val (.double (FP.ddiv (FP.l2d p4.toInt64) (4679240012837945344 : UInt64))), .second, .val (.double (FP.ddiv (FP.l2d p6.toInt64) (4679240012837945344 : UInt64))), .second, .val (.ref b4), .unset, .unset, .unset, .unset, .unset, .unset, .unset, .unset] [(.int p1), (.ref b4)])) _
    refine XS.i2dS X8.here hx rfl (v := (FP.l2d p1.toInt64)) (hb hby at_58) rfl (i2d_w _) ?_
    show Steps p.tables e below (T8.setTop (mkF m 59 #[.val (.int p1), .val (.int p2), .val (.int p3), .val (.int p4), .val (.int p5), .val (.int p6), .val (.double (FP.ddiv (FP.l2d p2.toInt64) (4679240012837945344 : UInt64))), .second, .val (.double (FP.ddiv (FP.l2d p4.toInt64) (4679240012837945344 : UInt64))), .second, .val (.double (FP.ddiv (FP.l2d p6.toInt64) (4679240012837945344 : UInt64))), .second, .val (.ref b4), .unset, .unset, .unset, .unset, .unset, .unset, .unset, .unset] [(.double (FP.l2d p1.toInt64)), (.ref b4)])) _
    refine XS.dload X8.here hx rfl (hb hby at_59) rfl ?_
    show Steps p.tables e below (T8.setTop (mkF m 61 #[.val (.int p1), .val (.int p2), .val (.int p3), .val (.int p4), .val (.int p5), .val (.int p6), .val (.double (FP.ddiv (FP.l2d p2.toInt64) (4679240012837945344 : UInt64))), .second, .val (.double (FP.ddiv (FP.l2d p4.toInt64) (4679240012837945344 : UInt64))), .second, .val (.double (FP.ddiv (FP.l2d p6.toInt64) (4679240012837945344 : UInt64))), .second, .val (.ref b4), .unset, .unset, .unset, .unset, .unset, .unset, .unset, .unset] [(.double (FP.ddiv (FP.l2d p2.toInt64) (4679240012837945344 : UInt64))), (.double (FP.l2d p1.toInt64)), (.ref b4)])) _
    refine st15.trans ?_
    show Steps p.tables e below (T15.setTop (mkF m 64 #[.val (.int p1), .val (.int p2), .val (.int p3), .val (.int p4), .val (.int p5), .val (.int p6), .val (.double (FP.ddiv (FP.l2d p2.toInt64) (4679240012837945344 : UInt64))), .second, .val (.double (FP.ddiv (FP.l2d p4.toInt64) (4679240012837945344 : UInt64))), .second, .val (.double (FP.ddiv (FP.l2d p6.toInt64) (4679240012837945344 : UInt64))), .second, .val (.ref b4), .unset, .unset, .unset, .unset, .unset, .unset, .unset, .unset] [(.double y15)])) _
    refine XS.dstore X15.here hx rfl (hb hby at_64) rfl (l' := #[.val (.int p1), .val (.int p2), .val (.int p3), .val (.int p4), .val (.int p5), .val (.int p6), .val (.double (FP.ddiv (FP.l2d p2.toInt64) (4679240012837945344 : UInt64))), .second, .val (.double (FP.ddiv (FP.l2d p4.toInt64) (4679240012837945344 : UInt64))), .second, .val (.double (FP.ddiv (FP.l2d p6.toInt64) (4679240012837945344 : UInt64))), .second, .val (.ref b4), .val (.double y15), .second, .unset, .unset, .unset, .unset, .unset, .unset]) rfl ?_
    show Steps p.tables e below (T15.setTop (mkF m 66 #[.val (.int p1), .val (.int p2), .val (.int p3), .val (.int p4), .val (.int p5), .val (.int p6), .val (.double (FP.ddiv (FP.l2d p2.toInt64) (4679240012837945344 : UInt64))), .second, .val (.double (FP.ddiv (FP.l2d p4.toInt64) (4679240012837945344 : UInt64))), .second, .val (.double (FP.ddiv (FP.l2d p6.toInt64) (4679240012837945344 : UInt64))), .second, .val (.ref b4), .val (.double y15), .second, .unset, .unset, .unset, .unset, .unset, .unset] [])) _
    refine XS.iloadN X15.here hx rfl (hb hby at_66) rfl ?_
    show Steps p.tables e below (T15.setTop (mkF m 67 #[.val (.int p1), .val (.int p2), .val (.int p3), .val (.int p4), .val (.int p5), .val (.int p6), .val (.double (FP.ddiv (FP.l2d p2.toInt64) (4679240012837945344 : UInt64))), .second, .val (.double (FP.ddiv (FP.l2d p4.toInt64) (4679240012837945344 : UInt64))), .second, .val (.double (FP.ddiv (FP.l2d p6.toInt64) (4679240012837945344 : UInt64))), .second, .val (.ref b4), .val (.double y15), .second, .unset, .unset, .unset, .unset, .unset, .unset] [(.int p1)])) _
    refine XS.i2l X15.here hx rfl (hb hby at_67) rfl ?_
    show Steps p.tables e below (T15.setTop (mkF m 68 #[.val (.int p1), .val (.int p2), .val (.int p3), .val (.int p4), .val (.int p5), .val (.int p6), .val (.double (FP.ddiv (FP.l2d p2.toInt64) (4679240012837945344 : UInt64))), .second, .val (.double (FP.ddiv (FP.l2d p4.toInt64) (4679240012837945344 : UInt64))), .second, .val (.double (FP.ddiv (FP.l2d p6.toInt64) (4679240012837945344 : UInt64))), .second, .val (.ref b4), .val (.double y15), .second, .unset, .unset, .unset, .unset, .unset, .unset] [(.long (p1.toInt64))])) _
    refine XS.iloadN X15.here hx rfl (hb hby at_68) rfl ?_
    show Steps p.tables e below (T15.setTop (mkF m 69 #[.val (.int p1), .val (.int p2), .val (.int p3), .val (.int p4), .val (.int p5), .val (.int p6), .val (.double (FP.ddiv (FP.l2d p2.toInt64) (4679240012837945344 : UInt64))), .second, .val (.double (FP.ddiv (FP.l2d p4.toInt64) (4679240012837945344 : UInt64))), .second, .val (.double (FP.ddiv (FP.l2d p6.toInt64) (4679240012837945344 : UInt64))), .second, .val (.ref b4), .val (.double y15), .second, .unset, .unset, .unset, .unset, .unset, .unset] [(.int p3), (.long (p1.toInt64))])) _
    refine XS.i2l X15.here hx rfl (hb hby at_69) rfl ?_
    show Steps p.tables e below (T15.setTop (mkF m 70 #[.val (.int p1), .val (.int p2), .val (.int p3), .val (.int p4), .val (.int p5), .val (.int p6), .val (.double (FP.ddiv (FP.l2d p2.toInt64) (4679240012837945344 : UInt64))), .second, .val (.double (FP.ddiv (FP.l2d p4.toInt64) (4679240012837945344 : UInt64))), .second, .val (.double (FP.ddiv (FP.l2d p6.toInt64) (4679240012837945344 : UInt64))), .second, .val (.ref b4), .val (.double y15), .second, .unset, .unset, .unset, .unset, .unset, .unset] [(.long (p3.toInt64)), (.long (p1.toInt64))])) _
    refine XS.lsub X15.here hx rfl (hb hby at_70) rfl ?_
    show Steps p.tables e below (T15.setTop (mkF m 71 #[.val (.int p1), .val (.int p2), .val (.int p3), .val (.int p4), .val (.int p5), .val (.int p6), .val (.double (FP.ddiv (FP.l2d p2.toInt64) (4679240012837945344 : UInt64))), .second, .val (.double (FP.ddiv (FP.l2d p4.toInt64) (4679240012837945344 : UInt64))), .second, .val (.double (FP.ddiv (FP.l2d p6.toInt64) (4679240012837945344 : UInt64))), .second, .val (.ref b4), .val (.double y15), .second, .unset, .unset, .unset, .unset, .unset, .unset] [(.long ((p1.toInt64) - (p3.toInt64)))])) _
    refine XS.iload X15.here hx rfl (hb hby at_71) rfl ?_
    show Steps p.tables e below (T15.setTop (mkF m 73 #[.val (.int p1), .val (.int p2), .val (.int p3), .val (.int p4), .val (.int p5), .val (.int p6), .val (.double (FP.ddiv (FP.l2d p2.toInt64) (4679240012837945344 : UInt64))), .second, .val (.double (FP.ddiv (FP.l2d p4.toInt64) (4679240012837945344 : UInt64))), .second, .val (.double (FP.ddiv (FP.l2d p6.toInt64) (4679240012837945344 : UInt64))), .second, .val (.ref b4), .val (.double y15), .second, .unset, .unset, .unset, .unset, .unset, .unset] [(.int p5), (.long ((p1.toInt64) - (p3.toInt64)))])) _
    refine XS.i2l X15.here hx rfl (hb hby at_73) rfl ?_
    show Steps p.tables e below (T15.setTop (mkF m 74 #[.val (.int p1), .val (.int p2), .val (.int p3), .val (.int p4), .val (.int p5), .val (.int p6), .val (.double (FP.ddiv (FP.l2d p2.toInt64) (4679240012837945344 : UInt64))), .second, .val (.double (FP.ddiv (FP.l2d p4.toInt64) (4679240012837945344 : UInt64))), .second, .val (.double (FP.ddiv (FP.l2d p6.toInt64) (4679240012837945344 : UInt64))), .second, .val (.ref b4), .val (.double y15), .second, .unset, .unset, .unset, .unset, .unset, .unset] [(.long (p5.toInt64)), (.long ((p1.toInt64) - (p3.toInt64)))])) _
    refine XS.lsub X15.here hx rfl (hb hby at_74) rfl ?_
    show Steps p.tables e below (T15.setTop (mkF m 75 #[.val (.int p1), .val (.int p2), .val (.int p3), .val (.int p4), .val (.int p5), .val (.int p6), .val (.double (FP.ddiv (FP.l2d p2.toInt64) (4679240012837945344 : UInt64))), .second, .val (.double (FP.ddiv (FP.l2d p4.toInt64) (4679240012837945344 : UInt64))), .second, .val (.double (FP.ddiv (FP.l2d p6.toInt64) (4679240012837945344 : UInt64))), .second, .val (.ref b4), .val (.double y15), .second, .unset, .unset, .unset, .unset, .unset, .unset] [(.long (((p1.toInt64) - (p3.toInt64)) - (p5.toInt64)))])) _
    refine XS.lstore X15.here hx rfl (hb hby at_75) rfl (l' := #[.val (.int p1), .val (.int p2), .val (.int p3), .val (.int p4), .val (.int p5), .val (.int p6), .val (.double (FP.ddiv (FP.l2d p2.toInt64) (4679240012837945344 : UInt64))), .second, .val (.double (FP.ddiv (FP.l2d p4.toInt64) (4679240012837945344 : UInt64))), .second, .val (.double (FP.ddiv (FP.l2d p6.toInt64) (4679240012837945344 : UInt64))), .second, .val (.ref b4), .val (.double y15), .second, .val (.long (((p1.toInt64) - (p3.toInt64)) - (p5.toInt64))), .second, .unset, .unset, .unset, .unset]) rfl ?_
    show Steps p.tables e below (T15.setTop (mkF m 77 #[.val (.int p1), .val (.int p2), .val (.int p3), .val (.int p4), .val (.int p5), .val (.int p6), .val (.double (FP.ddiv (FP.l2d p2.toInt64) (4679240012837945344 : UInt64))), .second, .val (.double (FP.ddiv (FP.l2d p4.toInt64) (4679240012837945344 : UInt64))), .second, .val (.double (FP.ddiv (FP.l2d p6.toInt64) (4679240012837945344 : UInt64))), .second, .val (.ref b4), .val (.double y15), .second, .val (.long (((p1.toInt64) - (p3.toInt64)) - (p5.toInt64))), .second, .unset, .unset, .unset, .unset] [])) _
    refine XS.iloadN X15.here hx rfl (hb hby at_77) rfl ?_
    show Steps p.tables e below (T15.setTop (mkF m 78 #[.val (.int p1), .val (.int p2), .val (.int p3), .val (.int p4), .val (.int p5), .val (.int p6), .val (.double (FP.ddiv (FP.l2d p2.toInt64) (4679240012837945344 : UInt64))), .second, .val (.double (FP.ddiv (FP.l2d p4.toInt64) (4679240012837945344 : UInt64))), .second, .val (.double (FP.ddiv (FP.l2d p6.toInt64) (4679240012837945344 : UInt64))), .second, .val (.ref b4), .val (.double y15), .second, .val (.long (((p1.toInt64) - (p3.toInt64)) - (p5.toInt64))), .second, .unset, .unset, .unset, .unset] [(.int p2)])) _
    refine XS.i2l X15.here hx rfl (hb hby at_78) rfl ?_
    show Steps p.tables e below (T15.setTop (mkF m 79 #[.val (.int p1), .val (.int p2), .val (.int p3), .val (.int p4), .val (.int p5), .val (.int p6), .val (.double (FP.ddiv (FP.l2d p2.toInt64) (4679240012837945344 : UInt64))), .second, .val (.double (FP.ddiv (FP.l2d p4.toInt64) (4679240012837945344 : UInt64))), .second, .val (.double (FP.ddiv (FP.l2d p6.toInt64) (4679240012837945344 : UInt64))), .second, .val (.ref b4), .val (.double y15), .second, .val (.long (((p1.toInt64) - (p3.toInt64)) - (p5.toInt64))), .second, .unset, .unset, .unset, .unset] [(.long (p2.toInt64))])) _
    refine XS.iloadN X15.here hx rfl (hb hby at_79) rfl ?_
    show Steps p.tables e below (T15.setTop (mkF m 80 #[.val (.int p1), .val (.int p2), .val (.int p3), .val (.int p4), .val (.int p5), .val (.int p6), .val (.double (FP.ddiv (FP.l2d p2.toInt64) (4679240012837945344 : UInt64))), .second, .val (.double (FP.ddiv (FP.l2d p4.toInt64) (4679240012837945344 : UInt64))), .second, .val (.double (FP.ddiv (FP.l2d p6.toInt64) (4679240012837945344 : UInt64))), .second, .val (.ref b4), .val (.double y15), .second, .val (.long (((p1.toInt64) - (p3.toInt64)) - (p5.toInt64))), .second, .unset, .unset, .unset, .unset] [(.int p4), (.long (p2.toInt64))])) _
    refine XS.i2l X15.here hx rfl (hb hby at_80) rfl ?_
    show Steps p.tables e below (T15.setTop (mkF m 81 #[.val (.int p1), .val (.int p2), .val (.int p3), .val (.int p4), .val (.int p5), .val (.int p6), .val (.double (FP.ddiv (FP.l2d p2.toInt64) (4679240012837945344 : UInt64))), .second, .val (.double (FP.ddiv (FP.l2d p4.toInt64) (4679240012837945344 : UInt64))), .second, .val (.double (FP.ddiv (FP.l2d p6.toInt64) (4679240012837945344 : UInt64))), .second, .val (.ref b4), .val (.double y15), .second, .val (.long (((p1.toInt64) - (p3.toInt64)) - (p5.toInt64))), .second, .unset, .unset, .unset, .unset] [(.long (p4.toInt64)), (.long (p2.toInt64))])) _
    refine XS.lsub X15.here hx rfl (hb hby at_81) rfl ?_
    show Steps p.tables e below (T15.setTop (mkF m 82 #[.val (.int p1), .val (.int p2), .val (.int p3), .val (.int p4), .val (.int p5), .val (.int p6), .val (.double (FP.ddiv (FP.l2d p2.toInt64) (4679240012837945344 : UInt64))), .second, .val (.double (FP.ddiv (FP.l2d p4.toInt64) (4679240012837945344 : UInt64))), .second, .val (.double (FP.ddiv (FP.l2d p6.toInt64) (4679240012837945344 : UInt64))), .second, .val (.ref b4), .val (.double y15), .second, .val (.long (((p1.toInt64) - (p3.toInt64)) - (p5.toInt64))), .second, .unset, .unset, .unset, .unset] [(.long ((p2.toInt64) - (p4.toInt64)))])) _
    refine XS.iload X15.here hx rfl (hb hby at_82) rfl ?_
    show Steps p.tables e below (T15.setTop (mkF m 84 #[.val (.int p1), .val (.int p2), .val (.int p3), .val (.int p4), .val (.int p5), .val (.int p6), .val (.double (FP.ddiv (FP.l2d p2.toInt64) (4679240012837945344 : UInt64))), .second, .val (.double (FP.ddiv (FP.l2d p4.toInt64) (4679240012837945344 : UInt64))), .second, .val (.double (FP.ddiv (FP.l2d p6.toInt64) (4679240012837945344 : UInt64))), .second, .val (.ref b4), .val (.double y15), .second, .val (.long (((p1.toInt64) - (p3.toInt64)) - (p5.toInt64))), .second, .unset, .unset, .unset, .unset] [(.int p6), (.long ((p2.toInt64) - (p4.toInt64)))])) _
    refine XS.i2l X15.here hx rfl (hb hby at_84) rfl ?_
    show Steps p.tables e below (T15.setTop (mkF m 85 #[.val (.int p1), .val (.int p2), .val (.int p3), .val (.int p4), .val (.int p5), .val (.int p6), .val (.double (FP.ddiv (FP.l2d p2.toInt64) (4679240012837945344 : UInt64))), .second, .val (.double (FP.ddiv (FP.l2d p4.toInt64) (4679240012837945344 : UInt64))), .second, .val (.double (FP.ddiv (FP.l2d p6.toInt64) (4679240012837945344 : UInt64))), .second, .val (.ref b4), .val (.double y15), .second, .val (.long (((p1.toInt64) - (p3.toInt64)) - (p5.toInt64))), .second, .unset, .unset, .unset, .unset] [(.long (p6.toInt64)), (.long ((p2.toInt64) - (p4.toInt64)))])) _
    refine XS.lsub X15.here hx rfl (hb hby at_85) rfl ?_
    show Steps p.tables e below (T15.setTop (mkF m 86 #[.val (.int p1), .val (.int p2), .val (.int p3), .val (.int p4), .val (.int p5), .val (.int p6), .val (.double (FP.ddiv (FP.l2d p2.toInt64) (4679240012837945344 : UInt64))), .second, .val (.double (FP.ddiv (FP.l2d p4.toInt64) (4679240012837945344 : UInt64))), .second, .val (.double (FP.ddiv (FP.l2d p6.toInt64) (4679240012837945344 : UInt64))), .second, .val (.ref b4), .val (.double y15), .second, .val (.long (((p1.toInt64) - (p3.toInt64)) - (p5.toInt64))), .second, .unset, .unset, .unset, .unset] [(.long (((p2.toInt64) - (p4.toInt64)) - (p6.toInt64)))])) _
    refine XS.lstore X15.here hx rfl (hb hby at_86) rfl (l' := #[.val (.int p1), .val (.int p2), .val (.int p3), .val (.int p4), .val (.int p5), .val (.int p6), .val (.double (FP.ddiv (FP.l2d p2.toInt64) (4679240012837945344 : UInt64))), .second, .val (.double (FP.ddiv (FP.l2d p4.toInt64) (4679240012837945344 : UInt64))), .second, .val (.double (FP.ddiv (FP.l2d p6.toInt64) (4679240012837945344 : UInt64))), .second, .val (.ref b4), .val (.double y15), .second, .val (.long (((p1.toInt64) - (p3.toInt64)) - (p5.toInt64))), .second, .val (.long (((p2.toInt64) - (p4.toInt64)) - (p6.toInt64))), .second, .unset, .unset]) rfl ?_
    show Steps p.tables e below (T15.setTop (mkF m 88 #[.val (.int p1), .val (.int p2), .val (.int p3), .val (.int p4), .val (.int p5), .val (.int p6), .val (.double (FP.ddiv (FP.l2d p2.toInt64) (4679240012837945344 : UInt64))), .second, .val (.double (FP.ddiv (FP.l2d p4.toInt64) (4679240012837945344 : UInt64))), .second, .val (.double (FP.ddiv (FP.l2d p6.toInt64) (4679240012837945344 : UInt64))), .second, .val (.ref b4), .val (.double y15), .second, .val (.long (((p1.toInt64) - (p3.toInt64)) - (p5.toInt64))), .second, .val (.long (((p2.toInt64) - (p4.toInt64)) - (p6.toInt64))), .second, .unset, .unset] [])) _
    refine XS.lload X15.here hx rfl (hb hby at_88) rfl ?_
    show Steps p.tables e below (T15.setTop (mkF m 90 #[.val (.int p1), .val (.int p2), .val (.int p3), .val (.int p4), .val (.int p5), .val (.int p6), .val (.double (FP.ddiv (FP.l2d p2.toInt64) (4679240012837945344 : UInt64))), .second, .val (.double (FP.ddiv (FP.l2d p4.toInt64) (4679240012837945344 : UInt64))), .second, .val (.double (FP.ddiv (FP.l2d p6.toInt64) (4679240012837945344 : UInt64))), .second, .val (.ref b4), .val (.double y15), .second, .val (.long (((p1.toInt64) - (p3.toInt64)) - (p5.toInt64))), .second, .val (.long (((p2.toInt64) - (p4.toInt64)) - (p6.toInt64))), .second, .unset, .unset] [(.long (((p1.toInt64) - (p3.toInt64)) - (p5.toInt64)))])) _
    refine X15.ldc2Long hx hown (mvT hZ (hw _ (List.mem_of_getElem? (i := 68) rfl))) (g := (mkF m 90 #[.val (.int p1), .val (.int p2), .val (.int p3), .val (.int p4), .val (.int p5), .val (.int p6), .val (.double (FP.ddiv (FP.l2d p2.toInt64) (4679240012837945344 : UInt64))), .second, .val (.double (FP.ddiv (FP.l2d p4.toInt64) (4679240012837945344 : UInt64))), .second, .val (.double (FP.ddiv (FP.l2d p6.toInt64) (4679240012837945344 : UInt64))), .second, .val (.ref b4), .val (.double y15), .second, .val (.long (((p1.toInt64) - (p3.toInt64)) - (p5.toInt64))), .second, .val (.long (((p2.toInt64) - (p4.toInt64)) - (p6.toInt64))), .second, .unset, .unset] [(.long (((p1.toInt64) - (p3.toInt64)) - (p5.toInt64)))])) rfl (hb hby at_90) _ ?_
    show Steps p.tables e below (T15.setTop (mkF m 93 #[.val (.int p1), .val (.int p2), .val (.int p3), .val (.int p4), .val (.int p5), .val (.int p6), .val (.double (FP.ddiv (FP.l2d p2.toInt64) (4679240012837945344 : UInt64))), .second, .val (.double (FP.ddiv (FP.l2d p4.toInt64) (4679240012837945344 : UInt64))), .second, .val (.double (FP.ddiv (FP.l2d p6.toInt64) (4679240012837945344 : UInt64))), .second, .val (.ref b4), .val (.double y15), .second, .val (.long (((p1.toInt64) - (p3.toInt64)) - (p5.toInt64))), .second, .val (.long (((p2.toInt64) - (p4.toInt64)) - (p6.toInt64))), .second, .unset, .unset] [(.long (65536 : Int64)), (.long (((p1.toInt64) - (p3.toInt64)) - (p5.toInt64)))])) _
    refine XS.lmul X15.here hx rfl (hb hby at_93) rfl ?_
    show Steps p.tables e below (T15.setTop (mkF m 94 #[.val (.int p1), .val (.int p2), .val (.int p3), .val (.int p4), .val (.int p5), .val (.int p6), .val (.double (FP.ddiv (FP.l2d p2.toInt64) (4679240012837945344 : UInt64))), .second, .val (.double (FP.ddiv (FP.l2d p4.toInt64) (4679240012837945344 : UInt64))), .second, .val (.double (FP.ddiv (FP.l2d p6.toInt64) (4679240012837945344 : UInt64))), .second, .val (.ref b4), .val (.double y15), .second, .val (.long (((p1.toInt64) - (p3.toInt64)) - (p5.toInt64))), .second, .val (.long (((p2.toInt64) - (p4.toInt64)) - (p6.toInt64))), .second, .unset, .unset] [(.long ((((p1.toInt64) - (p3.toInt64)) - (p5.toInt64)) * (65536 : Int64)))])) _
    refine XS.lload X15.here hx rfl (hb hby at_94) rfl ?_
    show Steps p.tables e below (T15.setTop (mkF m 96 #[.val (.int p1), .val (.int p2), .val (.int p3), .val (.int p4), .val (.int p5), .val (.int p6), .val (.double (FP.ddiv (FP.l2d p2.toInt64) (4679240012837945344 : UInt64))), .second, .val (.double (FP.ddiv (FP.l2d p4.toInt64) (4679240012837945344 : UInt64))), .second, .val (.double (FP.ddiv (FP.l2d p6.toInt64) (4679240012837945344 : UInt64))), .second, .val (.ref b4), .val (.double y15), .second, .val (.long (((p1.toInt64) - (p3.toInt64)) - (p5.toInt64))), .second, .val (.long (((p2.toInt64) - (p4.toInt64)) - (p6.toInt64))), .second, .unset, .unset] [(.long (((p2.toInt64) - (p4.toInt64)) - (p6.toInt64))), (.long ((((p1.toInt64) - (p3.toInt64)) - (p5.toInt64)) * (65536 : Int64)))])) _
    refine XS.ladd X15.here hx rfl (hb hby at_96) rfl ?_
    show Steps p.tables e below (T15.setTop (mkF m 97 #[.val (.int p1), .val (.int p2), .val (.int p3), .val (.int p4), .val (.int p5), .val (.int p6), .val (.double (FP.ddiv (FP.l2d p2.toInt64) (4679240012837945344 : UInt64))), .second, .val (.double (FP.ddiv (FP.l2d p4.toInt64) (4679240012837945344 : UInt64))), .second, .val (.double (FP.ddiv (FP.l2d p6.toInt64) (4679240012837945344 : UInt64))), .second, .val (.ref b4), .val (.double y15), .second, .val (.long (((p1.toInt64) - (p3.toInt64)) - (p5.toInt64))), .second, .val (.long (((p2.toInt64) - (p4.toInt64)) - (p6.toInt64))), .second, .unset, .unset] [(.long (((((p1.toInt64) - (p3.toInt64)) - (p5.toInt64)) * (65536 : Int64)) + (((p2.toInt64) - (p4.toInt64)) - (p6.toInt64))))])) _
    refine XS.lstore X15.here hx rfl (hb hby at_97) rfl (l' := #[.val (.int p1), .val (.int p2), .val (.int p3), .val (.int p4), .val (.int p5), .val (.int p6), .val (.double (FP.ddiv (FP.l2d p2.toInt64) (4679240012837945344 : UInt64))), .second, .val (.double (FP.ddiv (FP.l2d p4.toInt64) (4679240012837945344 : UInt64))), .second, .val (.double (FP.ddiv (FP.l2d p6.toInt64) (4679240012837945344 : UInt64))), .second, .val (.ref b4), .val (.double y15), .second, .val (.long (((p1.toInt64) - (p3.toInt64)) - (p5.toInt64))), .second, .val (.long (((p2.toInt64) - (p4.toInt64)) - (p6.toInt64))), .second, .val (.long (((((p1.toInt64) - (p3.toInt64)) - (p5.toInt64)) * (65536 : Int64)) + (((p2.toInt64) - (p4.toInt64)) - (p6.toInt64)))), .second]) rfl ?_
    show Steps p.tables e below (T15.setTop (mkF m 99 #[.val (.int p1), .val (.int p2), .val (.int p3), .val (.int p4), .val (.int p5), .val (.int p6), .val (.double (FP.ddiv (FP.l2d p2.toInt64) (4679240012837945344 : UInt64))), .second, .val (.double (FP.ddiv (FP.l2d p4.toInt64) (4679240012837945344 : UInt64))), .second, .val (.double (FP.ddiv (FP.l2d p6.toInt64) (4679240012837945344 : UInt64))), .second, .val (.ref b4), .val (.double y15), .second, .val (.long (((p1.toInt64) - (p3.toInt64)) - (p5.toInt64))), .second, .val (.long (((p2.toInt64) - (p4.toInt64)) - (p6.toInt64))), .second, .val (.long (((((p1.toInt64) - (p3.toInt64)) - (p5.toInt64)) * (65536 : Int64)) + (((p2.toInt64) - (p4.toInt64)) - (p6.toInt64)))), .second] [])) _
    refine XS.dload X15.here hx rfl (hb hby at_99) rfl ?_
    show Steps p.tables e below (T15.setTop (mkF m 101 #[.val (.int p1), .val (.int p2), .val (.int p3), .val (.int p4), .val (.int p5), .val (.int p6), .val (.double (FP.ddiv (FP.l2d p2.toInt64) (4679240012837945344 : UInt64))), .second, .val (.double (FP.ddiv (FP.l2d p4.toInt64) (4679240012837945344 : UInt64))), .second, .val (.double (FP.ddiv (FP.l2d p6.toInt64) (4679240012837945344 : UInt64))), .second, .val (.ref b4), .val (.double y15), .second, .val (.long (((p1.toInt64) - (p3.toInt64)) - (p5.toInt64))), .second, .val (.long (((p2.toInt64) - (p4.toInt64)) - (p6.toInt64))), .second, .val (.long (((((p1.toInt64) - (p3.toInt64)) - (p5.toInt64)) * (65536 : Int64)) + (((p2.toInt64) - (p4.toInt64)) - (p6.toInt64)))), .second] [(.double y15)])) _
    refine X15.ldc2DoubleC hx hown (mvT hZ (hw _ (List.mem_of_getElem? (i := 0) rfl))) (g := (mkF m 101 #[.val (.int p1), .val (.int p2), .val (.int p3), .val (.int p4), .val (.int p5), .val (.int p6), .val (.double (FP.ddiv (FP.l2d p2.toInt64) (4679240012837945344 : UInt64))), .second, .val (.double (FP.ddiv (FP.l2d p4.toInt64) (4679240012837945344 : UInt64))), .second, .val (.double (FP.ddiv (FP.l2d p6.toInt64) (4679240012837945344 : UInt64))), .second, .val (.ref b4), .val (.double y15), .second, .val (.long (((p1.toInt64) - (p3.toInt64)) - (p5.toInt64))), .second, .val (.long (((p2.toInt64) - (p4.toInt64)) - (p6.toInt64))), .second, .val (.long (((((p1.toInt64) - (p3.toInt64)) - (p5.toInt64)) * (65536 : Int64)) + (((p2.toInt64) - (p4.toInt64)) - (p6.toInt64)))), .second] [(.double y15)])) rfl (hb hby at_101) _ ?_
    show Steps p.tables e below (T15.setTop (mkF m 104 #[.val (.int p1), .val (.int p2), .val (.int p3), .val (.int p4), .val (.int p5), .val (.int p6), .val (.double (FP.ddiv (FP.l2d p2.toInt64) (4679240012837945344 : UInt64))), .second, .val (.double (FP.ddiv (FP.l2d p4.toInt64) (4679240012837945344 : UInt64))), .second, .val (.double (FP.ddiv (FP.l2d p6.toInt64) (4679240012837945344 : UInt64))), .second, .val (.ref b4), .val (.double y15), .second, .val (.long (((p1.toInt64) - (p3.toInt64)) - (p5.toInt64))), .second, .val (.long (((p2.toInt64) - (p4.toInt64)) - (p6.toInt64))), .second, .val (.long (((((p1.toInt64) - (p3.toInt64)) - (p5.toInt64)) * (65536 : Int64)) + (((p2.toInt64) - (p4.toInt64)) - (p6.toInt64)))), .second] [(.double (4679240012837945344 : UInt64)), (.double y15)])) _
    refine XS.dmulS X15.here hx rfl (v := (FP.dmul y15 (4679240012837945344 : UInt64))) (hb hby at_104) rfl (own_nnW wh16) rfl ?_
    show Steps p.tables e below (T15.setTop (mkF m 105 #[.val (.int p1), .val (.int p2), .val (.int p3), .val (.int p4), .val (.int p5), .val (.int p6), .val (.double (FP.ddiv (FP.l2d p2.toInt64) (4679240012837945344 : UInt64))), .second, .val (.double (FP.ddiv (FP.l2d p4.toInt64) (4679240012837945344 : UInt64))), .second, .val (.double (FP.ddiv (FP.l2d p6.toInt64) (4679240012837945344 : UInt64))), .second, .val (.ref b4), .val (.double y15), .second, .val (.long (((p1.toInt64) - (p3.toInt64)) - (p5.toInt64))), .second, .val (.long (((p2.toInt64) - (p4.toInt64)) - (p6.toInt64))), .second, .val (.long (((((p1.toInt64) - (p3.toInt64)) - (p5.toInt64)) * (65536 : Int64)) + (((p2.toInt64) - (p4.toInt64)) - (p6.toInt64)))), .second] [(.double (FP.dmul y15 (4679240012837945344 : UInt64)))])) _
    refine XS.lload X15.here hx rfl (hb hby at_105) rfl ?_
    show Steps p.tables e below (T15.setTop (mkF m 107 #[.val (.int p1), .val (.int p2), .val (.int p3), .val (.int p4), .val (.int p5), .val (.int p6), .val (.double (FP.ddiv (FP.l2d p2.toInt64) (4679240012837945344 : UInt64))), .second, .val (.double (FP.ddiv (FP.l2d p4.toInt64) (4679240012837945344 : UInt64))), .second, .val (.double (FP.ddiv (FP.l2d p6.toInt64) (4679240012837945344 : UInt64))), .second, .val (.ref b4), .val (.double y15), .second, .val (.long (((p1.toInt64) - (p3.toInt64)) - (p5.toInt64))), .second, .val (.long (((p2.toInt64) - (p4.toInt64)) - (p6.toInt64))), .second, .val (.long (((((p1.toInt64) - (p3.toInt64)) - (p5.toInt64)) * (65536 : Int64)) + (((p2.toInt64) - (p4.toInt64)) - (p6.toInt64)))), .second] [(.long (((((p1.toInt64) - (p3.toInt64)) - (p5.toInt64)) * (65536 : Int64)) + (((p2.toInt64) - (p4.toInt64)) - (p6.toInt64)))), (.double (FP.dmul y15 (4679240012837945344 : UInt64)))])) _
    refine XS.l2dS X15.here hx rfl (v := (FP.l2d (((((p1.toInt64) - (p3.toInt64)) - (p5.toInt64)) * (65536 : Int64)) + (((p2.toInt64) - (p4.toInt64)) - (p6.toInt64))))) (hb hby at_107) rfl rfl ?_
    show Steps p.tables e below (T15.setTop (mkF m 108 #[.val (.int p1), .val (.int p2), .val (.int p3), .val (.int p4), .val (.int p5), .val (.int p6), .val (.double (FP.ddiv (FP.l2d p2.toInt64) (4679240012837945344 : UInt64))), .second, .val (.double (FP.ddiv (FP.l2d p4.toInt64) (4679240012837945344 : UInt64))), .second, .val (.double (FP.ddiv (FP.l2d p6.toInt64) (4679240012837945344 : UInt64))), .second, .val (.ref b4), .val (.double y15), .second, .val (.long (((p1.toInt64) - (p3.toInt64)) - (p5.toInt64))), .second, .val (.long (((p2.toInt64) - (p4.toInt64)) - (p6.toInt64))), .second, .val (.long (((((p1.toInt64) - (p3.toInt64)) - (p5.toInt64)) * (65536 : Int64)) + (((p2.toInt64) - (p4.toInt64)) - (p6.toInt64)))), .second] [(.double (FP.l2d (((((p1.toInt64) - (p3.toInt64)) - (p5.toInt64)) * (65536 : Int64)) + (((p2.toInt64) - (p4.toInt64)) - (p6.toInt64))))), (.double (FP.dmul y15 (4679240012837945344 : UInt64)))])) _
    refine XS.dcmpS X15.here hx rfl (v := (0 : Int32)) (hb hby at_108) rfl (own_dcmp wh16 wl17 (by omega) _) ?_
    show Steps p.tables e below (T15.setTop (mkF m 109 #[.val (.int p1), .val (.int p2), .val (.int p3), .val (.int p4), .val (.int p5), .val (.int p6), .val (.double (FP.ddiv (FP.l2d p2.toInt64) (4679240012837945344 : UInt64))), .second, .val (.double (FP.ddiv (FP.l2d p4.toInt64) (4679240012837945344 : UInt64))), .second, .val (.double (FP.ddiv (FP.l2d p6.toInt64) (4679240012837945344 : UInt64))), .second, .val (.ref b4), .val (.double y15), .second, .val (.long (((p1.toInt64) - (p3.toInt64)) - (p5.toInt64))), .second, .val (.long (((p2.toInt64) - (p4.toInt64)) - (p6.toInt64))), .second, .val (.long (((((p1.toInt64) - (p3.toInt64)) - (p5.toInt64)) * (65536 : Int64)) + (((p2.toInt64) - (p4.toInt64)) - (p6.toInt64)))), .second] [(.int (0 : Int32))])) _
    refine XS.ifNo X15.here hx rfl (hb hby at_109) rfl ((if0 _ _).trans (teq (by decide : (0 : Int32) = (0 : Int32))).2) ?_
    show Steps p.tables e below (T15.setTop (mkF m 112 #[.val (.int p1), .val (.int p2), .val (.int p3), .val (.int p4), .val (.int p5), .val (.int p6), .val (.double (FP.ddiv (FP.l2d p2.toInt64) (4679240012837945344 : UInt64))), .second, .val (.double (FP.ddiv (FP.l2d p4.toInt64) (4679240012837945344 : UInt64))), .second, .val (.double (FP.ddiv (FP.l2d p6.toInt64) (4679240012837945344 : UInt64))), .second, .val (.ref b4), .val (.double y15), .second, .val (.long (((p1.toInt64) - (p3.toInt64)) - (p5.toInt64))), .second, .val (.long (((p2.toInt64) - (p4.toInt64)) - (p6.toInt64))), .second, .val (.long (((((p1.toInt64) - (p3.toInt64)) - (p5.toInt64)) * (65536 : Int64)) + (((p2.toInt64) - (p4.toInt64)) - (p6.toInt64)))), .second] [])) _
    refine XS.iconst X15.here hx rfl (hb hby at_112) ?_
    show Steps p.tables e below (T15.setTop (mkF m 113 #[.val (.int p1), .val (.int p2), .val (.int p3), .val (.int p4), .val (.int p5), .val (.int p6), .val (.double (FP.ddiv (FP.l2d p2.toInt64) (4679240012837945344 : UInt64))), .second, .val (.double (FP.ddiv (FP.l2d p4.toInt64) (4679240012837945344 : UInt64))), .second, .val (.double (FP.ddiv (FP.l2d p6.toInt64) (4679240012837945344 : UInt64))), .second, .val (.ref b4), .val (.double y15), .second, .val (.long (((p1.toInt64) - (p3.toInt64)) - (p5.toInt64))), .second, .val (.long (((p2.toInt64) - (p4.toInt64)) - (p6.toInt64))), .second, .val (.long (((((p1.toInt64) - (p3.toInt64)) - (p5.toInt64)) * (65536 : Int64)) + (((p2.toInt64) - (p4.toInt64)) - (p6.toInt64)))), .second] [(.int (1 : Int32))])) _
    refine XS.goto X15.here hx rfl (pc0 := 113) (pc' := 117) rfl (hb hby at_113) (by decide) (by decide) ?_
    show Steps p.tables e below (T15.setTop (mkF m 117 #[.val (.int p1), .val (.int p2), .val (.int p3), .val (.int p4), .val (.int p5), .val (.int p6), .val (.double (FP.ddiv (FP.l2d p2.toInt64) (4679240012837945344 : UInt64))), .second, .val (.double (FP.ddiv (FP.l2d p4.toInt64) (4679240012837945344 : UInt64))), .second, .val (.double (FP.ddiv (FP.l2d p6.toInt64) (4679240012837945344 : UInt64))), .second, .val (.ref b4), .val (.double y15), .second, .val (.long (((p1.toInt64) - (p3.toInt64)) - (p5.toInt64))), .second, .val (.long (((p2.toInt64) - (p4.toInt64)) - (p6.toInt64))), .second, .val (.long (((((p1.toInt64) - (p3.toInt64)) - (p5.toInt64)) * (65536 : Int64)) + (((p2.toInt64) - (p4.toInt64)) - (p6.toInt64)))), .second] [(.int (1 : Int32))])) _
    exact retN X15 hx (t := .boolean) Bd.returns (by simp) (hb hby at_117) hr
  · show Qrm0 Z p1 p2 p3 p4 p5 p6 h0 n0 _ T15.heap _
    rw [e15]
    exact ⟨rfl, N15⟩
set_option maxRecDepth 65536 in
set_option maxHeartbeats 40000000 in
theorem comes_1 {Post : Tables → Env → Array Value → State → Outcome → State → Prop} (hpost : ∀ tb e args s v u, (limb_1_1.after args s (.returned v) u = true ∧ limb_1_2.after args s (.returned v) u = true ∧ True) → FrameEnd s (.returned v) u (Jvm.fieldLocs frame_1_writes args s ++ Jvm.arrayLocs frame_1_arrays args s ++ Jvm.staticLocs frame_1_statics s) 16 128 → Post tb e args s (.returned v) u) :
    ArmFor flags0 classFile x code maxLocals ret World_1 tables_1 room_1 Calls_1 rest_1 Pre_1 Post := by
  intro l hfl _ _ p e ha hc hk s m args below hf hA hF happ hP
  obtain ⟨hcalls, hrest, hpre⟩ := hP
  obtain ⟨-, -, -, hnamed, -, -, -, hat⟩ := (Spec.applies_iff hf).mp happ
  obtain ⟨hg, hn⟩ := and_e (Cond.before_iff.mp (show (Jvm.Cond.and given_1 narrow_1).before args s = true from hpre))
  obtain ⟨gc, r0⟩ := and_e hg
  obtain ⟨g0, r1⟩ := and_e r0
  obtain ⟨g1, r2⟩ := and_e r1
  obtain ⟨g2, r3⟩ := and_e r2
  obtain ⟨g3, r4⟩ := and_e r3
  obtain ⟨g4, r5⟩ := and_e r4
  have g5 := r5
  obtain ⟨w0, w1, w2, w3, w4, w5, rfl⟩ : ∃ w0 w1 w2 w3 w4 w5 : Value, args = #[w0, w1, w2, w3, w4, w5] := by
    have hs : args.size = 6 := by simpa [Cond.value, given_1] using gc
    obtain ⟨L⟩ := args
    match L, hs with
    | [w0, w1, w2, w3, w4, w5], _ => exact ⟨w0, w1, w2, w3, w4, w5, rfl⟩
  have hw := fun d (hd : d ∈ tables_1) => atoms_spec (ws := Jvm.Cond.code x code maxLocals ret :: tables_1) hat d (List.mem_cons_of_mem _ hd)
  have hfit : Fit s := fun {y c} hc i hi => by
    obtain ⟨ha, rfl⟩ := Array.getElem?_eq_some_iff.mp hc
    have q := List.all_eq_true.mp ((Array.all_eq_true_iff_forall_mem.mp hF) _ (Array.getElem_mem ha)) i (List.mem_range.mpr hi)
    simpa [Array.getElem?_eq_getElem hi] using q
  obtain ⟨i0, ei0⟩ := is_v g0
  obtain rfl : w0 = (.int i0) := Option.some.inj ei0
  obtain ⟨i1, ei1⟩ := is_v g1
  obtain rfl : w1 = (.int i1) := Option.some.inj ei1
  obtain ⟨i2, ei2⟩ := is_v g2
  obtain rfl : w2 = (.int i2) := Option.some.inj ei2
  obtain ⟨i3, ei3⟩ := is_v g3
  obtain rfl : w3 = (.int i3) := Option.some.inj ei3
  obtain ⟨i4, ei4⟩ := is_v g4
  obtain rfl : w4 = (.int i4) := Option.some.inj ei4
  obtain ⟨i5, ei5⟩ := is_v g5
  obtain rfl : w5 = (.int i5) := Option.some.inj ei5
  obtain ⟨n, o, h1, h2, h3, _, L, rfl, ⟨rfl, N⟩, hq⟩ := rm0 l s _ hw tables_1 i0 i1 i2 i3 i4 i5 s.heap s.heap.size (Nat.le_refl _) p e ha hc hk s m _ below hf ((Spec.applies_iff_loose hf).mp happ).1 ⟨rfl, State.Warmed39.refl s, rfl⟩ trivial
  refine ⟨n, _, h1, h2, h3, hpost _ _ _ _ _ _ ⟨Cond.after_iff.mpr rfl, Cond.after_iff.mpr (eq_i res_at (Term.int_eval (1)) rfl), trivial⟩ ⟨hq.1, hq.2.1, (hq.2.2.sift fun y hy => Or.inr (N y hy)).mono (by decide) (by decide)⟩⟩
theorem main_1_1 : Claimed_1_1 := comes_1 fun _ _ _ _ _ _ h hF => ⟨h.1, hF⟩
theorem main_1_2 : Claimed_1_2 := comes_1 fun _ _ _ _ _ _ h hF => ⟨h.2.1, hF⟩
end Jvm.Pilot.@@N@@
namespace Jvm.Pilot.@@N@@
open Jvm Jvm.ClassFile Sem Op Lib Jvm.Free Jvm.Stand Jvm.Pilot.@@N@@.Jvm.D
/-! MADE BY PROGRAM (witnessworld.py) out of the Statement's table words and the real class files: 11 classes; the members and pool entries that the words name. The judged class is class 1, her method 1. -/
namespace start1
open Jvm.ClassFile
def u (s : String) : CpInfo := .utf8 (stringToUtf16 s)
/-- a pool by its gaps: so many unusable entries, then the entry; so many at the end -/
def gap : Nat → List CpInfo → List CpInfo
  | 0, r => r
  | n + 1, r => .unusable :: gap n r
def poolList (es : List (Nat × CpInfo)) (last : Nat) : List CpInfo := es.foldr (fun e r => gap e.1 (e.2 :: r)) (gap last [])
def pool (es : List (Nat × CpInfo)) (last : Nat) : Array CpInfo := ⟨poolList es last⟩
def fileOf (pool : Array CpInfo) (this : Nat) (attrs : Array Attribute := #[]) (ms : Array MethodInfo := #[]) (fl : Nat := 33) (sup : Nat := 0) (ifs : Array Nat := #[]) (fds : Array FieldInfo := #[]) : ClassFile where
  minorVersion := 0
  majorVersion := 65
  constantPool := pool
  accessFlags := fl
  thisClass := this
  superClass := sup
  interfaces := ifs
  fields := fds
  methods := ms
  attributes := attrs
def plain (name : String) (sup : Option ClassId) : Class where
  name := name
  kind := .ordinary
  loader := none
  accessFlags := 33
  super := sup
  interfaces := #[]
  cf := none
  fields := #[]
  methods := #[]
  instanceTypes := #[]
  staticTypes := #[]
  resolved := #[]
  callSites := []
  init := .initialized
  statics := none
  mirror := none

def pool0 : Array CpInfo := pool [(5, u "<init>"), (0, u "()V"), (1, .class_ 10), (1, u "java/lang/Object")] 113

def k0c0 : Code := { maxStack := 0, maxLocals := 1, code := object_method_1_code, exceptionTable := #[], attributes := #[] }
def k0m0 : Method := { name := "<init>", desc := "()V", sig := { parameters := [], returnType := none }, accessFlags := 1, code := some k0c0 }
/-- java/lang/Object -/
def k0 : Class := { plain "java/lang/Object" none with
  accessFlags := 33
  interfaces := #[]
  cf := some (fileOf pool0 8 #[] #[{ accessFlags := 1, nameIndex := 5, descriptorIndex := 6, attributes := #[] }] 33 0 #[] #[])
  fields := #[]
  methods := #[k0m0]
  instanceTypes := #[]
  staticTypes := #[]
  resolved := Array.replicate 124 none
  statics := none }

def pool1 : Array CpInfo := pool [(2, .class_ 4), (0, .nameAndType 5 6), (0, u "java/lang/Object"), (0, u "<init>"), (0, u "()V"), (0, .double 4679240012837945344), (1, .class_ 10), (0, u "com/example/phaseweave/phaseweave/clock/EventClock"), (0, .methodref 9 3), (0, .class_ 13), (0, u "com/example/phaseweave/phaseweave/clock/EventClock$Mark"), (0, .methodref 12 15), (0, .nameAndType 5 16), (0, u "(DDDD)V"), (0, .methodref 9 18), (0, .nameAndType 19 20), (0, u "reach"), (0, u "(Lcom/example/phaseweave/phaseweave/clock/EventClock$Mark;)V"), (0, .methodref 9 22), (0, .nameAndType 23 24), (0, u "timeUntil"), (0, u "(DD)D"), (0, .long 65536), (1, .class_ 28), (0, u "com/example/phaseweave/phaseweave/clock/EventClockTimeUntilPinLaw"), (2, u "law"), (0, u "(IIIIII)Z")] 5

def k1m0 : Method := { name := "<init>", desc := "()V", sig := { parameters := [], returnType := none }, accessFlags := 1, code := none }
def k1c1 : Code := { maxStack := 11, maxLocals := 21, code := code, exceptionTable := #[], attributes := #[] }
def k1m1 : Method := { name := "law", desc := "(IIIIII)Z", sig := { parameters := [.int, .int, .int, .int, .int, .int], returnType := some .boolean }, accessFlags := 9, code := some k1c1 }
/-- com/example/phaseweave/phaseweave/clock/EventClockTimeUntilPinLaw -/
def k1 : Class := { plain "com/example/phaseweave/phaseweave/clock/EventClockTimeUntilPinLaw" (some 0) with
  accessFlags := 49
  interfaces := #[]
  cf := some (fileOf pool1 27 #[] #[{ accessFlags := 1, nameIndex := 5, descriptorIndex := 6, attributes := #[] }, { accessFlags := 9, nameIndex := 31, descriptorIndex := 32, attributes := #[] }] 49 2 #[] #[])
  fields := #[]
  methods := #[k1m0, k1m1]
  instanceTypes := #[]
  staticTypes := #[]
  resolved := Array.replicate 38 none
  statics := none }

def pool2 : Array CpInfo := pool [(1, .methodref 2 3), (0, .class_ 4), (0, .nameAndType 5 6), (0, u "java/lang/Object"), (0, u "<init>"), (0, u "()V"), (0, .fieldref 8 9), (0, .class_ 10), (0, .nameAndType 11 12), (0, u "com/example/phaseweave/phaseweave/clock/EventClock"), (0, u "since"), (0, u "D"), (0, .fieldref 8 14), (0, .nameAndType 15 12), (0, u "sinceError"), (3, u "(DD)D"), (0, .fieldref 8 21), (0, .nameAndType 22 12), (0, u "release"), (0, .fieldref 8 24), (0, .nameAndType 25 12), (0, u "releaseOffset"), (3, .class_ 30), (0, u "com/example/phaseweave/phaseweave/clock/EventClock$Mark"), (7, .methodref 29 39), (0, .nameAndType 22 40), (0, u "()D"), (0, .methodref 29 42), (0, .nameAndType 25 40), (0, .methodref 29 44), (0, .nameAndType 11 40), (0, .methodref 29 46), (0, .nameAndType 15 40), (33, u "timeUntil"), (4, u "reach"), (4, u "(Lcom/example/phaseweave/phaseweave/clock/EventClock$Mark;)V")] 8

def k2c0 : Code := { maxStack := 1, maxLocals := 1, code := prog_1_method_1_code, exceptionTable := #[], attributes := #[] }
def k2m0 : Method := { name := "<init>", desc := "()V", sig := { parameters := [], returnType := none }, accessFlags := 1, code := some k2c0 }
def k2c1 : Code := { maxStack := 6, maxLocals := 5, code := prog_1_method_3_code, exceptionTable := #[], attributes := #[] }
def k2m1 : Method := { name := "timeUntil", desc := "(DD)D", sig := { parameters := [.double, .double], returnType := some .double }, accessFlags := 1, code := some k2c1 }
def k2c2 : Code := { maxStack := 3, maxLocals := 2, code := prog_1_method_10_code, exceptionTable := #[], attributes := #[] }
def k2m2 : Method := { name := "reach", desc := "(Lcom/example/phaseweave/phaseweave/clock/EventClock$Mark;)V", sig := { parameters := [(.object "com/example/phaseweave/phaseweave/clock/EventClock$Mark")], returnType := none }, accessFlags := 1, code := some k2c2 }
/-- com/example/phaseweave/phaseweave/clock/EventClock -/
def k2 : Class := { plain "com/example/phaseweave/phaseweave/clock/EventClock" (some 0) with
  accessFlags := 49
  interfaces := #[]
  cf := some (fileOf pool2 8 #[.nestMembers #[29]] #[{ accessFlags := 1, nameIndex := 5, descriptorIndex := 6, attributes := #[] }, { accessFlags := 1, nameIndex := 80, descriptorIndex := 19, attributes := #[] }, { accessFlags := 1, nameIndex := 85, descriptorIndex := 90, attributes := #[] }] 49 2 #[] #[{ accessFlags := 2, nameIndex := 22, descriptorIndex := 12, attributes := #[] }, { accessFlags := 2, nameIndex := 25, descriptorIndex := 12, attributes := #[] }, { accessFlags := 2, nameIndex := 11, descriptorIndex := 12, attributes := #[] }, { accessFlags := 2, nameIndex := 15, descriptorIndex := 12, attributes := #[] }])
  fields := #[{ name := "release", type := .double, accessFlags := 2, slot := 0, constantValue := 0 }, { name := "releaseOffset", type := .double, accessFlags := 2, slot := 1, constantValue := 0 }, { name := "since", type := .double, accessFlags := 2, slot := 2, constantValue := 0 }, { name := "sinceError", type := .double, accessFlags := 2, slot := 3, constantValue := 0 }]
  methods := #[k2m0, k2m1, k2m2]
  instanceTypes := #[.double, .double, .double, .double]
  staticTypes := #[]
  resolved := Array.replicate 99 none
  statics := none }

def pool3 : Array CpInfo := pool [(1, .methodref 2 3), (0, .class_ 4), (0, .nameAndType 5 6), (0, u "java/lang/Object"), (0, u "<init>"), (0, u "()V"), (0, .class_ 8), (0, u "java/lang/Record")] 13

def k3c0 : Code := { maxStack := 1, maxLocals := 1, code := jdk_30_method_1_code, exceptionTable := #[], attributes := #[] }
def k3m0 : Method := { name := "<init>", desc := "()V", sig := { parameters := [], returnType := none }, accessFlags := 4, code := some k3c0 }
/-- java/lang/Record -/
def k3 : Class := { plain "java/lang/Record" (some 0) with
  accessFlags := 1057
  interfaces := #[]
  cf := some (fileOf pool3 7 #[] #[{ accessFlags := 4, nameIndex := 5, descriptorIndex := 6, attributes := #[] }] 1057 2 #[] #[])
  fields := #[]
  methods := #[k3m0]
  instanceTypes := #[]
  staticTypes := #[]
  resolved := Array.replicate 22 none
  statics := none }

def pool4 : Array CpInfo := pool [(1, .methodref 2 3), (0, .class_ 4), (0, .nameAndType 5 6), (0, u "java/lang/Record"), (0, u "<init>"), (0, u "()V"), (0, .fieldref 8 9), (0, .class_ 10), (0, .nameAndType 11 12), (0, u "com/example/phaseweave/phaseweave/clock/EventClock$Mark"), (0, u "release"), (0, u "D"), (0, .fieldref 8 14), (0, .nameAndType 15 12), (0, u "releaseOffset"), (0, .fieldref 8 17), (0, .nameAndType 18 12), (0, u "since"), (0, .fieldref 8 20), (0, .nameAndType 21 12), (0, u "sinceError"), (12, u "(DDDD)V"), (6, u "()D"), (3, .class_ 46), (0, u "com/example/phaseweave/phaseweave/clock/EventClock")] 22

def k4c0 : Code := { maxStack := 3, maxLocals := 9, code := prog_2_method_1_code, exceptionTable := #[], attributes := #[] }
def k4m0 : Method := { name := "<init>", desc := "(DDDD)V", sig := { parameters := [.double, .double, .double, .double], returnType := none }, accessFlags := 1, code := some k4c0 }
def k4c1 : Code := { maxStack := 2, maxLocals := 1, code := prog_2_method_5_code, exceptionTable := #[], attributes := #[] }
def k4m1 : Method := { name := "release", desc := "()D", sig := { parameters := [], returnType := some .double }, accessFlags := 1, code := some k4c1 }
def k4c2 : Code := { maxStack := 2, maxLocals := 1, code := prog_2_method_6_code, exceptionTable := #[], attributes := #[] }
def k4m2 : Method := { name := "releaseOffset", desc := "()D", sig := { parameters := [], returnType := some .double }, accessFlags := 1, code := some k4c2 }
def k4c3 : Code := { maxStack := 2, maxLocals := 1, code := prog_2_method_7_code, exceptionTable := #[], attributes := #[] }
def k4m3 : Method := { name := "since", desc := "()D", sig := { parameters := [], returnType := some .double }, accessFlags := 1, code := some k4c3 }
def k4c4 : Code := { maxStack := 2, maxLocals := 1, code := prog_2_method_8_code, exceptionTable := #[], attributes := #[] }
def k4m4 : Method := { name := "sinceError", desc := "()D", sig := { parameters := [], returnType := some .double }, accessFlags := 1, code := some k4c4 }
/-- com/example/phaseweave/phaseweave/clock/EventClock$Mark -/
def k4 : Class := { plain "com/example/phaseweave/phaseweave/clock/EventClock$Mark" (some 3) with
  accessFlags := 49
  interfaces := #[]
  cf := some (fileOf pool4 8 #[.nestHost 45] #[{ accessFlags := 1, nameIndex := 5, descriptorIndex := 34, attributes := #[] }, { accessFlags := 1, nameIndex := 11, descriptorIndex := 41, attributes := #[] }, { accessFlags := 1, nameIndex := 15, descriptorIndex := 41, attributes := #[] }, { accessFlags := 1, nameIndex := 18, descriptorIndex := 41, attributes := #[] }, { accessFlags := 1, nameIndex := 21, descriptorIndex := 41, attributes := #[] }] 49 2 #[] #[{ accessFlags := 18, nameIndex := 11, descriptorIndex := 12, attributes := #[] }, { accessFlags := 18, nameIndex := 15, descriptorIndex := 12, attributes := #[] }, { accessFlags := 18, nameIndex := 18, descriptorIndex := 12, attributes := #[] }, { accessFlags := 18, nameIndex := 21, descriptorIndex := 12, attributes := #[] }])
  fields := #[{ name := "release", type := .double, accessFlags := 18, slot := 0, constantValue := 0 }, { name := "releaseOffset", type := .double, accessFlags := 18, slot := 1, constantValue := 0 }, { name := "since", type := .double, accessFlags := 18, slot := 2, constantValue := 0 }, { name := "sinceError", type := .double, accessFlags := 18, slot := 3, constantValue := 0 }]
  methods := #[k4m0, k4m1, k4m2, k4m3, k4m4]
  instanceTypes := #[.double, .double, .double, .double]
  staticTypes := #[]
  resolved := Array.replicate 69 none
  statics := none }

def pool5 : Array CpInfo := pool [(1, u "java/lang/Cloneable"), (0, .class_ 1), (0, u "java/lang/Object"), (0, .class_ 3)] 3

/-- java/lang/Cloneable -/
def k5 : Class := { plain "java/lang/Cloneable" (some 0) with
  accessFlags := 1537
  interfaces := #[]
  cf := some (fileOf pool5 2 #[] #[] 1537 4 #[] #[])
  fields := #[]
  methods := #[]
  instanceTypes := #[]
  staticTypes := #[]
  resolved := Array.replicate 8 none
  statics := none }

def pool6 : Array CpInfo := pool [(1, u "java/io/Serializable"), (0, .class_ 1), (0, u "java/lang/Object"), (0, .class_ 3)] 3

/-- java/io/Serializable -/
def k6 : Class := { plain "java/io/Serializable" (some 0) with
  accessFlags := 1537
  interfaces := #[]
  cf := some (fileOf pool6 2 #[] #[] 1537 4 #[] #[])
  fields := #[]
  methods := #[]
  instanceTypes := #[]
  staticTypes := #[]
  resolved := Array.replicate 8 none
  statics := none }

/-- the primitive byte -/
def k7 : Class := { plain "byte" none with kind := .primitive 'B', accessFlags := 0x411 }
/-- [B -/
def k8 : Class := { plain "[B" (some 0) with kind := .array 7 .byte, interfaces := #[5, 6], accessFlags := 1041 }

/-- the primitive int -/
def k9 : Class := { plain "int" none with kind := .primitive 'I', accessFlags := 0x411 }
/-- [I -/
def k10 : Class := { plain "[I" (some 0) with kind := .array 9 .int, interfaces := #[5, 6], accessFlags := 1041 }

def heap : Heap := #[]
def classes : Array Class := #[k0, k1, k2, k3, k4, k5, k6, k7, k8, k9, k10]
def interned : List (Array UInt16 × Addr) := []
def slotsUsed : Nat := 0
def theMethod : MethodId := ⟨1, 1⟩
def args0 : Array Value := #[.int 5, .int 5, .int 5, .int 5, .int 5, .int 5]
def aboutOver (below : List Frame) : State where
  vm := { classes := classes, interned := interned.toArray }
  heap := heap
  slotsUsed := slotsUsed
  threads := #[{ frames := .invoking theMethod args0 :: below }]
def below0 : List Frame := [.native { method := ⟨0, 0⟩, args := #[] }]
def about1 : State := aboutOver below0
def p0 : Program := .bare "" "" ""
def e0 : Env := launch0.env 0 0 0
theorem w_frames : about1.frames = Frame.invoking theMethod args0 :: below0 := rfl
set_option maxRecDepth 65536 in
theorem w_args : argsFit about1.vm theMethod args0 = true := by decide +kernel
set_option maxRecDepth 65536 in
theorem w_heap : heapFits about1 = true := by decide +kernel
set_option maxRecDepth 65536 in
theorem w_runnable : about1.curStatus? = some .runnable := by decide +kernel
set_option maxRecDepth 65536 in
theorem w_alone : about1.alone = true := by decide +kernel
set_option maxRecDepth 65536 in
theorem w_named : about1.methodNamed? x = some theMethod := by decide +kernel
set_option maxRecDepth 65536 in
theorem w_hears : about1.hears theMethod below0 = true := by decide +kernel
set_option maxRecDepth 65536 in
theorem w_ripe : about1.ripe theMethod args0 below0 = true := by decide +kernel
theorem w_running : about1.status = .running := rfl
set_option maxRecDepth 65536 in
theorem w_room : about1.hasRoom e0.platform room_1 = true :=
  launch0.hasRoom_least _ room_1 (by decide +kernel) (by decide +kernel) (by decide +kernel) (by decide +kernel) (by decide +kernel) (by decide +kernel)
theorem allAtoms_all (ts : List Jvm.Cond) (a : Array Jvm.Value) (st : Jvm.State) : (allAtoms ts).before a st = ts.all (fun c => c.before a st) := by
  induction ts with
  | nil => rfl
  | cons c t ih =>
    show (Jvm.Cond.and c (allAtoms t)).before a st = _
    rw [Jvm.Cond.before_and, ih, List.all_cons]
def words1 : List Jvm.Cond := Jvm.Cond.code x code maxLocals ret :: tables_1
/-- a 'code' word, met by the world's own term for the bytes: nothing is compared byte by byte -/
theorem code_word {y : MethodName} {bytes : ByteArray} {mx : Nat} {rt : Option FieldType} {a : Array Value} {s : State} {m : MethodId} {meth : Method} {c : Code} (h1 : s.methodNamed? y = some m) (h2 : s.vm.method? m = some meth) (h3 : meth.code = some c) (h4 : c.code = bytes)
    (h5 : (c.maxLocals == mx && c.exceptionTable.isEmpty && decide (c.maxStack ≤ mostOperands) && decide (meth.sig.returnType = rt) && !meth.locks && decide (parseMethodDescriptor y.desc = some meth.sig)) = true) : (Jvm.Cond.code y bytes mx rt).before a s = true := by
  simp only [Bool.and_eq_true, beq_iff_eq, Bool.not_eq_true', decide_eq_true_eq] at h5
  obtain ⟨⟨⟨⟨⟨g1, g2⟩, g3⟩, g4⟩, g5⟩, g6⟩ := h5
  simp [Cond.before, Cond.holds, Cond.value, h1, h2, h3, h4, g1, g2, g3, g4, g5, g6]
def isCode : Jvm.Cond → Bool
  | .code _ _ _ _ => true
  | _ => false
theorem all_split {L : List Jvm.Cond} {P : Jvm.Cond → Bool} (h1 : L.all (fun c => isCode c || P c) = true) (h2 : ∀ c ∈ L.filter isCode, P c = true) : L.all P = true := by
  refine List.all_eq_true.mpr fun c hc => ?_
  have h := List.all_eq_true.mp h1 c hc
  rcases Bool.eq_false_or_eq_true (isCode c) with hi | hi
  · exact h2 c (List.mem_filter.mpr ⟨hc, hi⟩)
  · simpa [hi] using h
set_option maxRecDepth 65536 in
theorem w_c0 : (Jvm.Cond.code x code maxLocals ret).before args0 about1 = true := code_word (m := ⟨1, 1⟩) (meth := k1m1) (c := k1c1) (by decide +kernel) rfl rfl rfl (by decide +kernel)
set_option maxRecDepth 65536 in
theorem w_c1 : (Jvm.Cond.code ({ cls := "com/example/phaseweave/phaseweave/clock/EventClock", name := "<init>", desc := "()V" } : Jvm.MethodName) prog_1_method_1_code (1 : Nat) (Option.none : Option Jvm.ClassFile.FieldType)).before args0 about1 = true := code_word (m := ⟨2, 0⟩) (meth := k2m0) (c := k2c0) (by decide +kernel) rfl rfl rfl (by decide +kernel)
set_option maxRecDepth 65536 in
theorem w_c2 : (Jvm.Cond.code ({ cls := "java/lang/Object", name := "<init>", desc := "()V" } : Jvm.MethodName) object_method_1_code (1 : Nat) (Option.none : Option Jvm.ClassFile.FieldType)).before args0 about1 = true := code_word (m := ⟨0, 0⟩) (meth := k0m0) (c := k0c0) (by decide +kernel) rfl rfl rfl (by decide +kernel)
set_option maxRecDepth 65536 in
theorem w_c3 : (Jvm.Cond.code ({ cls := "com/example/phaseweave/phaseweave/clock/EventClock$Mark", name := "<init>", desc := "(DDDD)V" } : Jvm.MethodName) prog_2_method_1_code (9 : Nat) (Option.none : Option Jvm.ClassFile.FieldType)).before args0 about1 = true := code_word (m := ⟨4, 0⟩) (meth := k4m0) (c := k4c0) (by decide +kernel) rfl rfl rfl (by decide +kernel)
set_option maxRecDepth 65536 in
theorem w_c4 : (Jvm.Cond.code ({ cls := "java/lang/Record", name := "<init>", desc := "()V" } : Jvm.MethodName) jdk_30_method_1_code (1 : Nat) (Option.none : Option Jvm.ClassFile.FieldType)).before args0 about1 = true := code_word (m := ⟨3, 0⟩) (meth := k3m0) (c := k3c0) (by decide +kernel) rfl rfl rfl (by decide +kernel)
set_option maxRecDepth 65536 in
theorem w_c5 : (Jvm.Cond.code ({ cls := "com/example/phaseweave/phaseweave/clock/EventClock", name := "reach", desc := "(Lcom/example/phaseweave/phaseweave/clock/EventClock$Mark;)V" } : Jvm.MethodName) prog_1_method_10_code (2 : Nat) (Option.none : Option Jvm.ClassFile.FieldType)).before args0 about1 = true := code_word (m := ⟨2, 2⟩) (meth := k2m2) (c := k2c2) (by decide +kernel) rfl rfl rfl (by decide +kernel)
set_option maxRecDepth 65536 in
theorem w_c6 : (Jvm.Cond.code ({ cls := "com/example/phaseweave/phaseweave/clock/EventClock$Mark", name := "release", desc := "()D" } : Jvm.MethodName) prog_2_method_5_code (1 : Nat) (Option.some Jvm.ClassFile.FieldType.double)).before args0 about1 = true := code_word (m := ⟨4, 1⟩) (meth := k4m1) (c := k4c1) (by decide +kernel) rfl rfl rfl (by decide +kernel)
set_option maxRecDepth 65536 in
theorem w_c7 : (Jvm.Cond.code ({ cls := "com/example/phaseweave/phaseweave/clock/EventClock$Mark", name := "releaseOffset", desc := "()D" } : Jvm.MethodName) prog_2_method_6_code (1 : Nat) (Option.some Jvm.ClassFile.FieldType.double)).before args0 about1 = true := code_word (m := ⟨4, 2⟩) (meth := k4m2) (c := k4c2) (by decide +kernel) rfl rfl rfl (by decide +kernel)
set_option maxRecDepth 65536 in
theorem w_c8 : (Jvm.Cond.code ({ cls := "com/example/phaseweave/phaseweave/clock/EventClock$Mark", name := "since", desc := "()D" } : Jvm.MethodName) prog_2_method_7_code (1 : Nat) (Option.some Jvm.ClassFile.FieldType.double)).before args0 about1 = true := code_word (m := ⟨4, 3⟩) (meth := k4m3) (c := k4c3) (by decide +kernel) rfl rfl rfl (by decide +kernel)
set_option maxRecDepth 65536 in
theorem w_c9 : (Jvm.Cond.code ({ cls := "com/example/phaseweave/phaseweave/clock/EventClock$Mark", name := "sinceError", desc := "()D" } : Jvm.MethodName) prog_2_method_8_code (1 : Nat) (Option.some Jvm.ClassFile.FieldType.double)).before args0 about1 = true := code_word (m := ⟨4, 4⟩) (meth := k4m4) (c := k4c4) (by decide +kernel) rfl rfl rfl (by decide +kernel)
set_option maxRecDepth 65536 in
theorem w_c10 : (Jvm.Cond.code ({ cls := "com/example/phaseweave/phaseweave/clock/EventClock", name := "timeUntil", desc := "(DD)D" } : Jvm.MethodName) prog_1_method_3_code (5 : Nat) (Option.some Jvm.ClassFile.FieldType.double)).before args0 about1 = true := code_word (m := ⟨2, 1⟩) (meth := k2m1) (c := k2c1) (by decide +kernel) rfl rfl rfl (by decide +kernel)
def codes1 : List Jvm.Cond := [Jvm.Cond.code x code maxLocals ret, Jvm.Cond.code ({ cls := "com/example/phaseweave/phaseweave/clock/EventClock", name := "<init>", desc := "()V" } : Jvm.MethodName) prog_1_method_1_code (1 : Nat) (Option.none : Option Jvm.ClassFile.FieldType), Jvm.Cond.code ({ cls := "java/lang/Object", name := "<init>", desc := "()V" } : Jvm.MethodName) object_method_1_code (1 : Nat) (Option.none : Option Jvm.ClassFile.FieldType), Jvm.Cond.code ({ cls := "com/example/phaseweave/phaseweave/clock/EventClock$Mark", name := "<init>", desc := "(DDDD)V" } : Jvm.MethodName) prog_2_method_1_code (9 : Nat) (Option.none : Option Jvm.ClassFile.FieldType), Jvm.Cond.code ({ cls := "java/lang/Record", name := "<init>", desc := "()V" } : Jvm.MethodName) jdk_30_method_1_code (1 : Nat) (Option.none : Option Jvm.ClassFile.FieldType), Jvm.Cond.code ({ cls := "com/example/phaseweave/phaseweave/clock/EventClock", name := "reach", desc := "(Lcom/example/phaseweave/phaseweave/clock/EventClock$Mark;)V" } : Jvm.MethodName) prog_1_method_10_code (2 : Nat) (Option.none : Option Jvm.ClassFile.FieldType), Jvm.Cond.code ({ cls := "com/example/phaseweave/phaseweave/clock/EventClock$Mark", name := "release", desc := "()D" } : Jvm.MethodName) prog_2_method_5_code (1 : Nat) (Option.some Jvm.ClassFile.FieldType.double), Jvm.Cond.code ({ cls := "com/example/phaseweave/phaseweave/clock/EventClock$Mark", name := "releaseOffset", desc := "()D" } : Jvm.MethodName) prog_2_method_6_code (1 : Nat) (Option.some Jvm.ClassFile.FieldType.double), Jvm.Cond.code ({ cls := "com/example/phaseweave/phaseweave/clock/EventClock$Mark", name := "since", desc := "()D" } : Jvm.MethodName) prog_2_method_7_code (1 : Nat) (Option.some Jvm.ClassFile.FieldType.double), Jvm.Cond.code ({ cls := "com/example/phaseweave/phaseweave/clock/EventClock$Mark", name := "sinceError", desc := "()D" } : Jvm.MethodName) prog_2_method_8_code (1 : Nat) (Option.some Jvm.ClassFile.FieldType.double), Jvm.Cond.code ({ cls := "com/example/phaseweave/phaseweave/clock/EventClock", name := "timeUntil", desc := "(DD)D" } : Jvm.MethodName) prog_1_method_3_code (5 : Nat) (Option.some Jvm.ClassFile.FieldType.double)]
set_option maxRecDepth 65536 in
theorem codes_eq : words1.filter isCode = codes1 := rfl
theorem w_codes : ∀ c ∈ words1.filter isCode, c.before args0 about1 = true := by
  rw [codes_eq]
  intro c hc
  simp only [codes1, List.mem_cons, List.not_mem_nil, or_false] at hc
  rcases hc with rfl | rfl | rfl | rfl | rfl | rfl | rfl | rfl | rfl | rfl | rfl
  · exact w_c0
  · exact w_c1
  · exact w_c2
  · exact w_c3
  · exact w_c4
  · exact w_c5
  · exact w_c6
  · exact w_c7
  · exact w_c8
  · exact w_c9
  · exact w_c10
set_option maxRecDepth 65536 in
theorem w_t1 : (words1.take 24).all (fun c => isCode c || c.before args0 about1) = true := by decide +kernel
set_option maxRecDepth 65536 in
theorem w_t2 : ((words1.drop 24).take 24).all (fun c => isCode c || c.before args0 about1) = true := by decide +kernel
set_option maxRecDepth 65536 in
theorem w_t3 : ((words1.drop 24).drop 24).all (fun c => isCode c || c.before args0 about1) = true := by decide +kernel
theorem w_tables : (allAtoms (Jvm.Cond.code x code maxLocals ret :: tables_1)).before args0 about1 = true := by
  rw [allAtoms_all]
  show words1.all (fun c => c.before args0 about1) = true
  refine all_split ?_ w_codes
  rw [← List.take_append_drop 24 words1, List.all_append, w_t1, ← List.take_append_drop 24 (words1.drop 24), List.all_append, w_t2, w_t3]
  rfl
set_option maxRecDepth 65536 in
theorem w_case : (Jvm.Cond.and given_1 narrow_1).before args0 about1 = true := by decide +kernel
theorem w_applies : (headSpec (Jvm.Cond.code x code maxLocals ret :: tables_1) room_1).applies x e0.platform about1 = true :=
  (Spec.applies_iff w_frames).mpr ⟨w_running, w_runnable, w_alone, w_named, w_hears, w_ripe, w_room, w_tables⟩
theorem atStart : AtStart classFile x code maxLocals ret World_1 tables_1 room_1 Calls_1 rest_1 Pre_1 launch0 p0 e0 about1 theMethod args0 below0 :=
  ⟨lists_1, trivial, launch0.admits_env _ _ _, launch0.least_env, fairChoices_fair.cas, fairChoices_fair.clock, w_frames, w_args, w_heap, w_applies, trivial, trivial, w_case⟩
end start1
theorem witness_1 : WitnessClaimed_1 := ⟨start1.p0, start1.e0, start1.about1, start1.theMethod, start1.args0, start1.below0, start1.atStart⟩
end Jvm.Pilot.@@N@@
