import JvmDerived
import JvmDerived.Pilot.@@N@@Statement
import JvmDerived.Pilot.@@N@@Code
set_option linter.unusedVariables false
set_option linter.unusedSimpArgs false
namespace Jvm.RoadKit
open Sem ClassFile Op Lib Jvm.Stand Jvm.Free Jvm.LawKit
section New
variable {p : Program} {l : Launch} {e : Env} {R : Room} {s : State} {m : MethodId} {args : Array Value} {below : List Frame} {meth : Method} {c : Code} {T : State} {locs : List Loc} {cells slots : Nat}
theorem retI (X : Stand p l e R s m args below meth c T locs cells slots) (hx : p.tables.exec = Jvm.exec) {pc : Nat} {Ls : Array Slot} {z : Int32} {rest : List Value} (hret : meth.sig.returnType = some .int) (hd : decode c.code pc = .ok (.ireturn, 1)) {fs : List Frame}
    (hl : ∀ (f : JFrame) (acts : List Action), f.method = m → f.locked = none → f.entered = [] → (doReturn e (T.setTop f) acts (some (.int z))).1 = T.setFrames fs) : Steps p.tables e below (T.setTop (mkF m pc Ls (.int z :: rest))) (T.setFrames fs) := by
  have hm' : T.vm.method? m = some meth := X.method'
  have hn : narrow .int (.int z) = .int z := rfl
  show Steps p.tables e below (T.setTop { method := m, pc := pc, locals := Ls, stack := _ :: rest, locked := none }) _
  jvm_step X.here [X.here.top, hx, hd, hm', hret, hn]
  first | (intro acts; rw [hl _ acts rfl rfl rfl]) | rw [hl _ _ rfl rfl rfl]
  exact Steps.refl _
theorem retL (X : Stand p l e R s m args below meth c T locs cells slots) (hx : p.tables.exec = Jvm.exec) {pc : Nat} {Ls : Array Slot} {z : Int64} {rest : List Value} (hret : meth.sig.returnType = some .long) (hd : decode c.code pc = .ok (.lreturn, 1)) {fs : List Frame}
    (hl : ∀ (f : JFrame) (acts : List Action), f.method = m → f.locked = none → f.entered = [] → (doReturn e (T.setTop f) acts (some (.long z))).1 = T.setFrames fs) : Steps p.tables e below (T.setTop (mkF m pc Ls (.long z :: rest))) (T.setFrames fs) := by
  have hm' : T.vm.method? m = some meth := X.method'
  have hn : narrow .long (.long z) = .long z := rfl
  show Steps p.tables e below (T.setTop { method := m, pc := pc, locals := Ls, stack := _ :: rest, locked := none }) _
  jvm_step X.here [X.here.top, hx, hd, hm', hret, hn]
  first | (intro acts; rw [hl _ acts rfl rfl rfl]) | rw [hl _ _ rfl rfl rfl]
  exact Steps.refl _
end New
end Jvm.RoadKit
namespace Jvm.Pilot.@@N@@
open Jvm Jvm.ClassFile Sem Op Lib Jvm.Free Jvm.Stand Jvm.LawKit Jvm.RoadKit Bundle Jvm.Pilot.@@N@@.Jvm.D

theorem own_tif {tb : Tables} [Ours tb] {e : Env} {below : List Frame} {T target : State} {m : MethodId} {c : Code} {cd : ClassFile.Cond} {pc : Nat} {Ls : Array Slot} {v : Int32} {rest : List Value} (h : At T m c below) (hx : tb.exec = Jvm.exec)
    (d0 : decode c.code pc = .ok (.ifCond cd 7, 3)) (d1 : decode c.code (pc + 3) = .ok (.iconst 1, 1)) (d2 : decode c.code (pc + 4) = .ok (.goto 4, 3)) (d3 : decode c.code (pc + 7) = .ok (.iconst 0, 1))
    (hr : Steps tb e below (T.setTop (mkF m (pc + 8) Ls (.int (if ifCond.holds cd v = true then 0 else 1) :: rest))) target) :
    Steps tb e below (T.setTop (mkF m pc Ls (.int v :: rest))) target := by
  rcases Bool.eq_false_or_eq_true (ifCond.holds cd v) with hc | hc
  · rw [hc, if_pos rfl] at hr
    refine XS.ifYes h hx rfl (pc0 := pc) (pc' := pc + 7) rfl d0 rfl hc (by omega) (by omega) ?_
    refine XS.iconst h hx rfl d3 ?_
    exact hr
  · rw [hc, if_neg (by decide)] at hr
    refine XS.ifNo h hx rfl d0 rfl hc ?_
    refine XS.iconst h hx rfl d1 ?_
    refine XS.goto h hx rfl (pc0 := pc + 4) (pc' := pc + 8) rfl d2 (by omega) (by omega) ?_
    exact hr
theorem own_tic {tb : Tables} [Ours tb] {e : Env} {below : List Frame} {T target : State} {m : MethodId} {c : Code} {cd : ClassFile.Cond} {pc : Nat} {Ls : Array Slot} {v w : Int32} {rest : List Value} (h : At T m c below) (hx : tb.exec = Jvm.exec)
    (d0 : decode c.code pc = .ok (.if_icmp cd 7, 3)) (d1 : decode c.code (pc + 3) = .ok (.iconst 1, 1)) (d2 : decode c.code (pc + 4) = .ok (.goto 4, 3)) (d3 : decode c.code (pc + 7) = .ok (.iconst 0, 1))
    (hr : Steps tb e below (T.setTop (mkF m (pc + 8) Ls (.int (if if_icmp.holds cd v w = true then 0 else 1) :: rest))) target) :
    Steps tb e below (T.setTop (mkF m pc Ls (.int w :: .int v :: rest))) target := by
  rcases Bool.eq_false_or_eq_true (if_icmp.holds cd v w) with hc | hc
  · rw [hc, if_pos rfl] at hr
    refine XS.icmpYes h hx rfl (pc0 := pc) (pc' := pc + 7) rfl d0 rfl hc (by omega) (by omega) ?_
    refine XS.iconst h hx rfl d3 ?_
    exact hr
  · rw [hc, if_neg (by decide)] at hr
    refine XS.icmpNo h hx rfl d0 rfl hc ?_
    refine XS.iconst h hx rfl d1 ?_
    refine XS.goto h hx rfl (pc0 := pc + 4) (pc' := pc + 8) rfl d2 (by omega) (by omega) ?_
    exact hr
theorem own_tif_eq {tb : Tables} [Ours tb] {e : Env} {below : List Frame} {T target : State} {m : MethodId} {c : Code} {pc : Nat} {Ls : Array Slot} {v : Int32} {rest : List Value} (h : At T m c below) (hx : tb.exec = Jvm.exec)
    (d0 : decode c.code pc = .ok (.ifCond .eq 7, 3)) (d1 : decode c.code (pc + 3) = .ok (.iconst 1, 1)) (d2 : decode c.code (pc + 4) = .ok (.goto 4, 3)) (d3 : decode c.code (pc + 7) = .ok (.iconst 0, 1))
    (hr : Steps tb e below (T.setTop (mkF m (pc + 8) Ls (.int (if ¬ (v = (0 : Int32)) then (1 : Int32) else 0) :: rest))) target) :
    Steps tb e below (T.setTop (mkF m pc Ls (.int v :: rest))) target := by
  refine own_tif h hx d0 d1 d2 d3 ?_
  by_cases hb : v = (0 : Int32)
  · have hh : ifCond.holds .eq v = true := (if0 _ _).trans (teq hb).1
    rw [if_neg (fun q => q hb)] at hr; rw [hh]; exact hr
  · have hh : ifCond.holds .eq v = false := (if0 _ _).trans (feq hb).1
    rw [if_pos hb] at hr; rw [hh]; exact hr

def own_ipc (g e : Int32) : Int32 := if (g - (g / (2 : Int32)) * (2 : Int32)) = (1 : Int32) then (if e < (16 : Int32) then 0 else if (255 : Int32) < e then 0 else 1) else 0
def own_el (m e : Int32) : Int32 := if m = (1 : Int32) then (14 : Int32) + (e &&& (3 : Int32)) else if m = (2 : Int32) then (254 : Int32) + (e &&& (3 : Int32)) else (e &&& (65535 : Int32))
theorem own_and (x : Int32) (k : Nat) (hk : k < 32) (m : Int32) (hm : m.toBitVec.toNat = 2 ^ k - 1) : ∃ n : Nat, n < 2 ^ k ∧ (x &&& m) = Int32.ofNat n := by
  refine ⟨x.toBitVec.toNat % 2 ^ k, Nat.mod_lt _ (Nat.two_pow_pos k), ?_⟩
  apply Int32.toBitVec_inj.mp
  apply BitVec.eq_of_toNat_eq
  rw [Int32.toBitVec_and, BitVec.toNat_and, hm, Nat.and_two_pow_sub_one_eq_mod]
  show _ = (BitVec.ofNat 32 _).toNat
  rw [BitVec.toNat_ofNat]
  exact (Nat.mod_eq_of_lt (Nat.lt_of_lt_of_le (Nat.mod_lt _ (Nat.two_pow_pos k)) (Nat.pow_le_pow_right (by decide) (Nat.le_of_lt hk)))).symm
theorem own_addn (a b : Nat) : Int32.ofNat a + Int32.ofNat b = Int32.ofNat (a + b) := (Int32.ofNat_add a b).symm
theorem own_el16 (m e : Int32) : ∃ k : Nat, k < 65536 ∧ own_el m e = Int32.ofNat k := by
  unfold own_el
  obtain ⟨a, ha, ea⟩ := own_and e 2 (by decide) 3 rfl
  obtain ⟨b, hb, eb⟩ := own_and e 16 (by decide) 65535 rfl
  by_cases h1 : m = (1 : Int32)
  · rw [if_pos h1, ea]
    exact ⟨14 + a, by omega, own_addn 14 a⟩
  · rw [if_neg h1]
    by_cases h2 : m = (2 : Int32)
    · rw [if_pos h2, ea]
      exact ⟨254 + a, by omega, own_addn 254 a⟩
    · rw [if_neg h2, eb]
      exact ⟨b, hb, rfl⟩
theorem own_high (k : Nat) (hk : k < 65536) : (Int32.ofNat k &&& (-65536 : Int32)) = (0 : Int32) := by
  apply Int32.toBitVec_inj.mp
  rw [Int32.toBitVec_and]
  show (BitVec.ofNat 32 k) &&& (BitVec.ofNat 32 4294901760) = BitVec.ofNat 32 0
  apply BitVec.eq_of_getLsbD_eq
  intro i hi
  rw [BitVec.getLsbD_and, BitVec.getLsbD_ofNat, BitVec.getLsbD_ofNat, BitVec.getLsbD_ofNat]
  by_cases h : i < 16
  · have : ∀ i : Fin 16, Nat.testBit 4294901760 i.val = false := by decide
    rw [this ⟨i, h⟩]; simp
  · have : k.testBit i = false := Nat.testBit_lt_two_pow (Nat.lt_of_lt_of_le hk (show 2 ^ 16 ≤ 2 ^ i from Nat.pow_le_pow_right (by decide) (by omega)))
    rw [this]; simp
theorem own_toInt (n : Nat) (h : n < 65536) : (Int32.ofNat n).toInt = (n : Int) := Int32.toInt_ofNat_of_lt (by omega)
theorem own_inj (a b : Nat) (ha : a < 65536) (hb : b < 65536) : Int32.ofNat a = Int32.ofNat b ↔ a = b := by
  rw [← Int32.toInt_inj, own_toInt a ha, own_toInt b hb]
  omega
theorem own_rem (n : Nat) (h : n < 65536) : (Int32.ofNat n - (Int32.ofNat n / (2 : Int32)) * (2 : Int32)) = Int32.ofNat (n % 2) := by
  have h2 : (2 : Int32).toInt = 2 := rfl
  apply Int32.toInt_inj.mp
  have hd : (Int32.ofNat n / (2 : Int32)).toInt = (n : Int) / 2 := by
    rw [Int32.toInt_div_of_ne_right _ _ (by decide), own_toInt n h, h2]
    exact Int.tdiv_eq_ediv_of_nonneg (by omega)
  have hm : ((Int32.ofNat n / (2 : Int32)) * (2 : Int32)).toInt = (n : Int) / 2 * 2 := by
    rw [Int32.toInt_mul, hd, h2]
    exact Int.bmod_eq_of_le (by omega) (by omega)
  rw [Int32.toInt_sub, hm, own_toInt n h, own_toInt (n % 2) (by omega)]
  rw [Int.bmod_eq_of_le (by omega) (by omega)]
  omega
theorem own_odd (n : Nat) (h : n < 65536) : (Int32.ofNat n &&& (1 : Int32)) = Int32.ofNat (n % 2) := by
  apply Int32.toBitVec_inj.mp
  apply BitVec.eq_of_toNat_eq
  rw [Int32.toBitVec_and, BitVec.toNat_and]
  show (BitVec.ofNat 32 n).toNat &&& 1 = (BitVec.ofNat 32 (n % 2)).toNat
  rw [BitVec.toNat_ofNat, BitVec.toNat_ofNat, Nat.and_one_is_mod]
  omega
theorem own_sh8 (n : Nat) (h : n < 65536) : (((Int32.ofNat n).toUInt32 >>> ((8 : Int32) &&& 31).toUInt32).toInt32) = Int32.ofNat (n / 256) := by
  apply Int32.toBitVec_inj.mp
  show (BitVec.ofNat 32 n) >>> 8 = BitVec.ofNat 32 (n / 256)
  apply BitVec.eq_of_toNat_eq
  rw [BitVec.toNat_ushiftRight, BitVec.toNat_ofNat, BitVec.toNat_ofNat, Nat.shiftRight_eq_div_pow]
  omega
theorem own_sh4 (n : Nat) (h : n < 65536) : (((Int32.ofNat n).toUInt32 >>> ((4 : Int32) &&& 31).toUInt32).toInt32) = Int32.ofNat (n / 16) := by
  apply Int32.toBitVec_inj.mp
  show (BitVec.ofNat 32 n) >>> 4 = BitVec.ofNat 32 (n / 16)
  apply BitVec.eq_of_toNat_eq
  rw [BitVec.toNat_ushiftRight, BitVec.toNat_ofNat, BitVec.toNat_ofNat, Nat.shiftRight_eq_div_pow]
  omega
def own_two (P Q : Prop) [Decidable P] [Decidable Q] : Int32 := if P then (if Q then 1 else 0) else 0
theorem own_law (g e m : Int32) : own_ipc (g &&& (65535 : Int32)) (own_el m e) =
    own_two (¬ ((if ¬ ((g &&& (65535 : Int32)) &&& (1 : Int32)) = (0 : Int32) then (1 : Int32) else 0) = (0 : Int32))) (¬ (own_two ((((own_el m e).toUInt32 >>> ((8 : Int32) &&& 31).toUInt32).toInt32) = (0 : Int32)) (¬ ((((own_el m e).toUInt32 >>> ((4 : Int32) &&& 31).toUInt32).toInt32) = (0 : Int32))) = (0 : Int32))) := by
  obtain ⟨n, hn, en⟩ := own_and g 16 (by decide) 65535 rfl
  obtain ⟨k, hk, ek⟩ := own_el16 m e
  rw [en, ek, own_odd n hn, own_sh8 k hk, own_sh4 k hk]
  unfold own_ipc
  rw [own_rem n hn]
  have i1 : (Int32.ofNat (n % 2) = (1 : Int32)) ↔ n % 2 = 1 := own_inj (n % 2) 1 (by omega) (by omega)
  have i0 : (Int32.ofNat (n % 2) = (0 : Int32)) ↔ n % 2 = 0 := own_inj (n % 2) 0 (by omega) (by omega)
  have j8 : (Int32.ofNat (k / 256) = (0 : Int32)) ↔ k < 256 := (own_inj (k / 256) 0 (by omega) (by omega)).trans (by omega)
  have j4 : (Int32.ofNat (k / 16) = (0 : Int32)) ↔ k < 16 := (own_inj (k / 16) 0 (by omega) (by omega)).trans (by omega)
  have l16 : (Int32.ofNat k < (16 : Int32)) ↔ k < 16 := by
    rw [Int32.lt_iff_toInt_lt, own_toInt k (by omega)]
    have : (16 : Int32).toInt = 16 := rfl
    omega
  have l255 : ((255 : Int32) < Int32.ofNat k) ↔ ¬ k < 256 := by
    rw [Int32.lt_iff_toInt_lt, own_toInt k (by omega)]
    have : (255 : Int32).toInt = 255 := rfl
    omega
  have z1 : ¬ ((1 : Int32) = 0) := by decide
  unfold own_two
  simp only [i1, i0, j8, j4, l16, l255]
  by_cases a : n % 2 = 1
  · have a0 : ¬ n % 2 = 0 := by omega
    by_cases b : k < 16
    · have c : k < 256 := by omega
      simp [a, b, c]
    · by_cases c : k < 256 <;> simp [a, b, c]
  · have a0 : n % 2 = 0 := by omega
    simp [a0]
theorem d2_0 : decode jdk_30_method_1_code 0 = .ok (.aload_n 0, 1) := by decide +kernel
theorem d2_1 : decode jdk_30_method_1_code 1 = .ok (.invokespecial 1, 3) := by decide +kernel
theorem d2_4 : decode jdk_30_method_1_code 4 = .ok (.return_, 1) := by decide +kernel
theorem pn_2 : plainName "java/lang/Record" = true := by first | (simp [plainName, overriddenIn]; done) | decide +kernel
theorem ef_2 (m : MethodId) (x0 : Addr) : entryFrame m #[(.ref x0)] 1 = mkF m 0 #[.val (.ref x0)] [] := by first | (simp [entryFrame, mkF, argsToLocals, Value.category]; done) | rfl
def Q2 (Z : State) (a1 : Addr) (h0 : Heap) (n0 : Nat) (v : Option Value) (h : Heap) (L : List Loc) : Prop := v = none ∧ Fr n0 L ∧ h = h0
set_option maxRecDepth 65536 in
set_option maxHeartbeats 40000000 in
theorem rm2 (l : Launch) (Z : State) (a0 : Array Value) (hw : ∀ d ∈ tables_1, d.before a0 Z = true) (ws : List Jvm.Cond) (a1 : Addr) (h0 : Heap) (n0 : Nat) (Z0 : n0 ≤ h0.size) :
    MetFree l (⟨"java/lang/Record", "<init>", "()V"⟩ : MethodName) (head1 (Jvm.Cond.code (⟨"java/lang/Record", "<init>", "()V"⟩ : MethodName) jdk_30_method_1_code 1 none :: ws) ({ frames := 1, cells := 0, slots := 0, locals := 12 } : Room)) (fun a U => a = #[(.ref a1)] ∧ Z.Warmed39 U.vm ∧ U.heap = h0) (fun _ _ _ _ _ => True) (fun _ U o U' => ∃ v L, o = .returned v ∧ Q2 Z a1 h0 n0 v U'.heap L ∧ FrameEnd U o U' L ({ frames := 1, cells := 0, slots := 0, locals := 12 } : Room).cells ({ frames := 1, cells := 0, slots := 0, locals := 12 } : Room).slots) := by
  refine MetFree.of_bodySF (plainFor_of_name pn_2) hisR ?_
  intro p e s m args below meth c s₁ Bd hml0 hP hK
  obtain ⟨rfl, hZ, hh⟩ := hP
  have hx := Bd.exec
  have hby := Bd.bytes
  have hml : c.maxLocals = 1 := hml0
  have hown : s.vm.findClass "java/lang/Record" = some m.cls := findClass_of_methodNamed Bd.named
  have hnm := (name_of_methodNamed Bd.named Bd.method).1
  have X0 : Stand p l e ({ frames := 1, cells := 0, slots := 0, locals := 12 } : Room) s m #[(.ref a1)] below meth c s₁ [] 0 0 := Stand.of_body Bd
  have e0 : s₁.heap = h0 := by rw [← hh, Bd.state]; rfl
  have N0 := Fr.nil n0
  have pre0 : ∀ t, Steps p.tables e below (s₁.setTop (mkF m 0 #[.val (.ref a1)] [])) t → Steps p.tables e below (s₁.setTop (entryFrame m #[(.ref a1)] 1)) t := fun t k => castTop (ef_2 m a1) k
  obtain ⟨T2, X2, e2, st2⟩ := initO X0 hx hZ hown (hw _ (List.mem_of_getElem? (i := 12) rfl)) (hw _ (List.mem_of_getElem? (i := 13) rfl)) (hw _ (List.mem_of_getElem? (i := 14) rfl)) e0 (g := (mkF m 1 #[.val (.ref a1)] [(.ref a1)])) rfl (by rw [hml]; rfl) rfl (hb hby d2_1) (by decide) (W := 0) (by show 2 * 0 + _ ≤ _; exact Nat.le_of_eq rfl) (by decide)
  obtain ⟨fs, hr, hrun, hended, hW, hsame⟩ := X2.leave (v := none) (fun _ => rfl)
  refine ⟨_, _, pre0 _ ?_, hrun, hended, _, _, rfl, ?_, ⟨_, rfl⟩, hW, hsame.mono (by decide) (by decide)⟩
  · show Steps p.tables e below (s₁.setTop (mkF m 0 #[.val (.ref a1)] [])) _
    refine XS.aloadN X0.here hx rfl (hb hby d2_0) rfl rfl ?_
    show Steps p.tables e below (s₁.setTop (mkF m 1 #[.val (.ref a1)] [(.ref a1)])) _
    refine st2 _ ?_
    show Steps p.tables e below (T2.setTop (mkF m 4 #[.val (.ref a1)] [])) _
    exact X2.returnOut hx Bd.returns (hb hby d2_4) hr
  · show Q2 Z a1 h0 n0 _ T2.heap _
    rw [e2]
    exact ⟨rfl, N0, rfl⟩
theorem d1_0 : decode prog_61_method_1_code 0 = .ok (.aload_n 0, 1) := by decide +kernel
theorem d1_1 : decode prog_61_method_1_code 1 = .ok (.invokespecial 1, 3) := by decide +kernel
theorem d1_4 : decode prog_61_method_1_code 4 = .ok (.iload_n 1, 1) := by decide +kernel
theorem d1_5 : decode prog_61_method_1_code 5 = .ok (.ldc 7, 2) := by decide +kernel
theorem d1_7 : decode prog_61_method_1_code 7 = .ok (.iand, 1) := by decide +kernel
theorem d1_8 : decode prog_61_method_1_code 8 = .ok (.ifCond .ne 10, 3) := by decide +kernel
theorem d1_11 : decode prog_61_method_1_code 11 = .ok (.iload_n 2, 1) := by decide +kernel
theorem d1_12 : decode prog_61_method_1_code 12 = .ok (.ldc 7, 2) := by decide +kernel
theorem d1_14 : decode prog_61_method_1_code 14 = .ok (.iand, 1) := by decide +kernel
theorem d1_15 : decode prog_61_method_1_code 15 = .ok (.ifCond .eq 34, 3) := by decide +kernel
theorem d1_49 : decode prog_61_method_1_code 49 = .ok (.aload_n 0, 1) := by decide +kernel
theorem d1_50 : decode prog_61_method_1_code 50 = .ok (.iload_n 1, 1) := by decide +kernel
theorem d1_51 : decode prog_61_method_1_code 51 = .ok (.putfield 29, 3) := by decide +kernel
theorem d1_54 : decode prog_61_method_1_code 54 = .ok (.aload_n 0, 1) := by decide +kernel
theorem d1_55 : decode prog_61_method_1_code 55 = .ok (.iload_n 2, 1) := by decide +kernel
theorem d1_56 : decode prog_61_method_1_code 56 = .ok (.putfield 35, 3) := by decide +kernel
theorem d1_59 : decode prog_61_method_1_code 59 = .ok (.return_, 1) := by decide +kernel
theorem pn_1 : plainName "com/example/tagsieve/tagsieve/dicom/Tag" = true := by first | (simp [plainName, overriddenIn]; done) | decide +kernel
theorem pd_1_1 : parseMethodDescriptor "()V" = some ⟨[], none⟩ := by decide +kernel
theorem ef_1 (m : MethodId) (x0 : Addr) (x1 : Int32) (x2 : Int32) : entryFrame m #[(.ref x0), (.int x1), (.int x2)] 3 = mkF m 0 #[.val (.ref x0), .val (.int x1), .val (.int x2)] [] := by first | (simp [entryFrame, mkF, argsToLocals, Value.category]; done) | rfl
def Q1 (Z : State) (a1 : Addr) (p2 : Int32) (p3 : Int32) (u_group_a1 : Value) (u_element_a1 : Value) (h0 : Heap) (n0 : Nat) (v : Option Value) (h : Heap) (L : List Loc) : Prop := v = none ∧ Fr n0 L ∧ Keep h0 h [a1] ∧ Exa Z h a1 "com/example/tagsieve/tagsieve/dicom/Tag" ∧ Fld Z h a1 "com/example/tagsieve/tagsieve/dicom/Tag" "group" "I" (.int p2) ∧ Fld Z h a1 "com/example/tagsieve/tagsieve/dicom/Tag" "element" "I" (.int p3)
set_option maxRecDepth 65536 in
set_option maxHeartbeats 40000000 in
theorem rm1 (l : Launch) (Z : State) (a0 : Array Value) (hw : ∀ d ∈ tables_1, d.before a0 Z = true) (ws : List Jvm.Cond) (a1 : Addr) (p2 : Int32) (p3 : Int32) (u_group_a1 : Value) (u_element_a1 : Value) (h0 : Heap) (n0 : Nat) (Z0 : n0 ≤ h0.size) (E_a1 : Exa Z h0 a1 "com/example/tagsieve/tagsieve/dicom/Tag") (F_group_a1 : Fld Z h0 a1 "com/example/tagsieve/tagsieve/dicom/Tag" "group" "I" u_group_a1) (g_a1 : n0 ≤ a1) (F_element_a1 : Fld Z h0 a1 "com/example/tagsieve/tagsieve/dicom/Tag" "element" "I" u_element_a1) (hc8 : (p2 &&& (-65536 : Int32)) = (0 : Int32)) (hc15 : (p3 &&& (-65536 : Int32)) = (0 : Int32)) :
    MetFree l (⟨"com/example/tagsieve/tagsieve/dicom/Tag", "<init>", "(II)V"⟩ : MethodName) (head1 (Jvm.Cond.code (⟨"com/example/tagsieve/tagsieve/dicom/Tag", "<init>", "(II)V"⟩ : MethodName) prog_61_method_1_code 3 none :: ws) ({ frames := 2, cells := 0, slots := 0, locals := 24 } : Room)) (fun a U => a = #[(.ref a1), (.int p2), (.int p3)] ∧ Z.Warmed39 U.vm ∧ U.heap = h0) (fun _ _ _ _ _ => True) (fun _ U o U' => ∃ v L, o = .returned v ∧ Q1 Z a1 p2 p3 u_group_a1 u_element_a1 h0 n0 v U'.heap L ∧ FrameEnd U o U' L ({ frames := 2, cells := 0, slots := 0, locals := 24 } : Room).cells ({ frames := 2, cells := 0, slots := 0, locals := 24 } : Room).slots) := by
  refine MetFree.of_bodySF (plainFor_of_name pn_1) hisR ?_
  intro p e s m args below meth c s₁ Bd hml0 hP hK
  obtain ⟨rfl, hZ, hh⟩ := hP
  have hx := Bd.exec
  have hby := Bd.bytes
  have hml : c.maxLocals = 3 := hml0
  have hown : s.vm.findClass "com/example/tagsieve/tagsieve/dicom/Tag" = some m.cls := findClass_of_methodNamed Bd.named
  have hnm := (name_of_methodNamed Bd.named Bd.method).1
  have X0 : Stand p l e ({ frames := 2, cells := 0, slots := 0, locals := 24 } : Room) s m #[(.ref a1), (.int p2), (.int p3)] below meth c s₁ [] 0 0 := Stand.of_body Bd
  have e0 : s₁.heap = h0 := by rw [← hh, Bd.state]; rfl
  have N0 := Fr.nil n0
  have pre0 : ∀ t, Steps p.tables e below (s₁.setTop (mkF m 0 #[.val (.ref a1), .val (.int p2), .val (.int p3)] [])) t → Steps p.tables e below (s₁.setTop (entryFrame m #[(.ref a1), (.int p2), (.int p3)] 3)) t := fun t k => castTop (ef_1 m a1 p2 p3) k
  obtain ⟨_, _, ⟨T4, L4, k4, n4⟩, -, X4, ⟨Lc4, hQ4, l4, y4, z4⟩, st4⟩ := X0.specialBack hx (y := (⟨"java/lang/Record", "<init>", "()V"⟩ : MethodName)) rfl hown (mvT hZ (hw _ (List.mem_of_getElem? (i := 7) rfl))) (mvT hZ (hw _ (List.mem_of_getElem? (i := 8) rfl))) (mvT hZ (hw _ (List.mem_of_getElem? (i := 11) rfl))) (by decide) (backOf (W := 0) (rm2 l Z a0 hw [] a1  h0 n0 Z0) hZ (hw _ (List.mem_of_getElem? (i := 11) rfl)) (hw _ (List.mem_of_getElem? (i := 10) rfl)) (by decide) (by decide)) (g := (mkF m 1 #[.val (.ref a1), .val (.int p2), .val (.int p3)] [(.ref a1)])) rfl (by rw [hml]; rfl) (Steps.refl _) (a := a1) (argsL := []) (rest := []) (lenOf pd_1_1 rfl) rfl (by show 2 * 0 + _ ≤ _; exact Nat.le_of_eq rfl) (hb hby d1_1) (fun _ _ => ⟨rfl, e0, (by decide : 0 + 0 ≤ _), (by decide : 0 + 0 ≤ _)⟩)
  dsimp only [Pt.U, Pt.locs, Pt.cells, Pt.slots] at X4 l4 y4 z4 st4 hQ4
  subst l4 y4 z4
  obtain ⟨rfl, N4q, e4⟩ := hQ4
  have N4 := Fr.app N0 N4q
  obtain ⟨T5, h5, X5, e5, W5, st5⟩ := putF X4 hx hZ hown (host := "") (Or.inl (hw _ (List.mem_of_getElem? (i := 16) rfl))) Via.refl e4 F_group_a1 E_a1 (Or.inr ⟨(hw _ (List.mem_of_getElem? (i := 17) rfl)), rfl, hnm⟩) (hw _ (List.mem_of_getElem? (i := 2) rfl)) (ty := .int) (by decide) rfl rfl (g := (mkF m 51 #[.val (.ref a1), .val (.int p2), .val (.int p3)] [(.int p2), (.ref a1)])) rfl rfl (hb hby d1_51)
  have Fw5 := F_group_a1.same W5
  have K5 : Keep h0 h5 [a1] := (Keep.refl h0 [a1]).wr W5 (Or.inl (List.mem_of_getElem? (i := 0) rfl))
  have N5 := Fr.snoc X5 N4 g_a1
  obtain ⟨T6, h6, X6, e6, W6, st6⟩ := putF X5 hx hZ hown (host := "") (Or.inl (hw _ (List.mem_of_getElem? (i := 18) rfl))) Via.refl e5 (F_element_a1.other W5 (Or.inr (slot_ne (Or.inr (hw _ (List.mem_of_getElem? (i := 19) rfl))) (Or.inr (hw _ (List.mem_of_getElem? (i := 17) rfl))) (by decide) (t := .int) (t' := .int) (by decide) (by decide)))) (E_a1.wr W5) (Or.inr ⟨(hw _ (List.mem_of_getElem? (i := 19) rfl)), rfl, hnm⟩) (hw _ (List.mem_of_getElem? (i := 2) rfl)) (ty := .int) (by decide) rfl rfl (g := (mkF m 56 #[.val (.ref a1), .val (.int p2), .val (.int p3)] [(.int p3), (.ref a1)])) rfl rfl (hb hby d1_56)
  have Fw6 := (F_element_a1.other W5 (Or.inr (slot_ne (Or.inr (hw _ (List.mem_of_getElem? (i := 19) rfl))) (Or.inr (hw _ (List.mem_of_getElem? (i := 17) rfl))) (by decide) (t := .int) (t' := .int) (by decide) (by decide)))).same W6
  have K6 : Keep h0 h6 [a1] := K5.wr W6 (Or.inl (List.mem_of_getElem? (i := 0) rfl))
  have N6 := Fr.snoc X6 N5 g_a1
  obtain ⟨fs, hr, hrun, hended, hW, hsame⟩ := X6.leave (v := none) (fun _ => rfl)
  refine ⟨_, _, pre0 _ ?_, hrun, hended, _, _, rfl, ?_, ⟨_, rfl⟩, hW, hsame.mono (by decide) (by decide)⟩
  · show Steps p.tables e below (s₁.setTop (mkF m 0 #[.val (.ref a1), .val (.int p2), .val (.int p3)] [])) _
    refine XS.aloadN X0.here hx rfl (hb hby d1_0) rfl rfl ?_
    show Steps p.tables e below (s₁.setTop (mkF m 1 #[.val (.ref a1), .val (.int p2), .val (.int p3)] [(.ref a1)])) _
    refine st4.trans ?_
    show Steps p.tables e below (T4.setTop (mkF m 4 #[.val (.ref a1), .val (.int p2), .val (.int p3)] [])) _
    refine XS.iloadN X4.here hx rfl (hb hby d1_4) rfl ?_
    show Steps p.tables e below (T4.setTop (mkF m 5 #[.val (.ref a1), .val (.int p2), .val (.int p3)] [(.int p2)])) _
    refine X4.ldcInt hx hown (mvT hZ (hw _ (List.mem_of_getElem? (i := 15) rfl))) (g := (mkF m 5 #[.val (.ref a1), .val (.int p2), .val (.int p3)] [(.int p2)])) rfl (hb hby d1_5) _ ?_
    show Steps p.tables e below (T4.setTop (mkF m 7 #[.val (.ref a1), .val (.int p2), .val (.int p3)] [(.int (-65536 : Int32)), (.int p2)])) _
    refine XS.iand X4.here hx rfl (hb hby d1_7) rfl ?_
    show Steps p.tables e below (T4.setTop (mkF m 8 #[.val (.ref a1), .val (.int p2), .val (.int p3)] [(.int (p2 &&& (-65536 : Int32)))])) _
    refine XS.ifNo X4.here hx rfl (hb hby d1_8) rfl ((if0 _ _).trans (teq hc8).2) ?_
    show Steps p.tables e below (T4.setTop (mkF m 11 #[.val (.ref a1), .val (.int p2), .val (.int p3)] [])) _
    refine XS.iloadN X4.here hx rfl (hb hby d1_11) rfl ?_
    show Steps p.tables e below (T4.setTop (mkF m 12 #[.val (.ref a1), .val (.int p2), .val (.int p3)] [(.int p3)])) _
    refine X4.ldcInt hx hown (mvT hZ (hw _ (List.mem_of_getElem? (i := 15) rfl))) (g := (mkF m 12 #[.val (.ref a1), .val (.int p2), .val (.int p3)] [(.int p3)])) rfl (hb hby d1_12) _ ?_
    show Steps p.tables e below (T4.setTop (mkF m 14 #[.val (.ref a1), .val (.int p2), .val (.int p3)] [(.int (-65536 : Int32)), (.int p3)])) _
    refine XS.iand X4.here hx rfl (hb hby d1_14) rfl ?_
    show Steps p.tables e below (T4.setTop (mkF m 15 #[.val (.ref a1), .val (.int p2), .val (.int p3)] [(.int (p3 &&& (-65536 : Int32)))])) _
    refine XS.ifYes X4.here hx rfl (pc0 := 15) (pc' := 49) rfl (hb hby d1_15) rfl ((if0 _ _).trans (teq hc15).1) (by decide) (by decide) ?_
    show Steps p.tables e below (T4.setTop (mkF m 49 #[.val (.ref a1), .val (.int p2), .val (.int p3)] [])) _
    refine XS.aloadN X4.here hx rfl (hb hby d1_49) rfl rfl ?_
    show Steps p.tables e below (T4.setTop (mkF m 50 #[.val (.ref a1), .val (.int p2), .val (.int p3)] [(.ref a1)])) _
    refine XS.iloadN X4.here hx rfl (hb hby d1_50) rfl ?_
    show Steps p.tables e below (T4.setTop (mkF m 51 #[.val (.ref a1), .val (.int p2), .val (.int p3)] [(.int p2), (.ref a1)])) _
    refine st5 _ ?_
    show Steps p.tables e below (T5.setTop (mkF m 54 #[.val (.ref a1), .val (.int p2), .val (.int p3)] [])) _
    refine XS.aloadN X5.here hx rfl (hb hby d1_54) rfl rfl ?_
    show Steps p.tables e below (T5.setTop (mkF m 55 #[.val (.ref a1), .val (.int p2), .val (.int p3)] [(.ref a1)])) _
    refine XS.iloadN X5.here hx rfl (hb hby d1_55) rfl ?_
    show Steps p.tables e below (T5.setTop (mkF m 56 #[.val (.ref a1), .val (.int p2), .val (.int p3)] [(.int p3), (.ref a1)])) _
    refine st6 _ ?_
    show Steps p.tables e below (T6.setTop (mkF m 59 #[.val (.ref a1), .val (.int p2), .val (.int p3)] [])) _
    exact X6.returnOut hx Bd.returns (hb hby d1_59) hr
  · show Q1 Z a1 p2 p3 u_group_a1 u_element_a1 h0 n0 _ T6.heap _
    rw [e6]
    exact ⟨rfl, N6, K6, ((E_a1.wr W5).wr W6), (Fw5.other W6 (Or.inr (slot_ne (Or.inr (hw _ (List.mem_of_getElem? (i := 17) rfl))) (Or.inr (hw _ (List.mem_of_getElem? (i := 19) rfl))) (by decide) (t := .int) (t' := .int) (by decide) (by decide)))), Fw6⟩
theorem d4_0 : decode prog_61_method_5_code 0 = .ok (.aload_n 0, 1) := by decide +kernel
theorem d4_1 : decode prog_61_method_5_code 1 = .ok (.getfield 29, 3) := by decide +kernel
theorem d4_4 : decode prog_61_method_5_code 4 = .ok (.iconst 2, 1) := by decide +kernel
theorem d4_5 : decode prog_61_method_5_code 5 = .ok (.irem, 1) := by decide +kernel
theorem d4_6 : decode prog_61_method_5_code 6 = .ok (.iconst 1, 1) := by decide +kernel
theorem d4_7 : decode prog_61_method_5_code 7 = .ok (.if_icmp .ne 26, 3) := by decide +kernel
theorem d4_33 : decode prog_61_method_5_code 33 = .ok (.iconst 0, 1) := by decide +kernel
theorem d4_34 : decode prog_61_method_5_code 34 = .ok (.ireturn, 1) := by decide +kernel
theorem pn_4 : plainName "com/example/tagsieve/tagsieve/dicom/Tag" = true := by first | (simp [plainName, overriddenIn]; done) | decide +kernel
theorem ef_4 (m : MethodId) (x0 : Addr) : entryFrame m #[(.ref x0)] 1 = mkF m 0 #[.val (.ref x0)] [] := by first | (simp [entryFrame, mkF, argsToLocals, Value.category]; done) | rfl
def Q4 (Z : State) (a1 : Addr) (w1 : Int32) (w2 : Int32) (h0 : Heap) (n0 : Nat) (v : Option Value) (h : Heap) (L : List Loc) : Prop := v = some (.int (own_ipc w1 w2)) ∧ Fr n0 L ∧ h = h0
set_option maxRecDepth 65536 in
set_option maxHeartbeats 40000000 in
theorem rm4a (l : Launch) (Z : State) (a0 : Array Value) (hw : ∀ d ∈ tables_1, d.before a0 Z = true) (ws : List Jvm.Cond) (a1 : Addr) (w1 : Int32) (w2 : Int32) (h0 : Heap) (n0 : Nat) (Z0 : n0 ≤ h0.size) (F_group_a1 : Fld Z h0 a1 "com/example/tagsieve/tagsieve/dicom/Tag" "group" "I" (.int w1)) (hc7 : ¬ ((w1 - (w1 / (2 : Int32)) * (2 : Int32)) = (1 : Int32))) :
    MetFree l (⟨"com/example/tagsieve/tagsieve/dicom/Tag", "isPrivateCreator", "()Z"⟩ : MethodName) (head1 (Jvm.Cond.code (⟨"com/example/tagsieve/tagsieve/dicom/Tag", "isPrivateCreator", "()Z"⟩ : MethodName) prog_61_method_5_code 1 (some .boolean) :: ws) ({ frames := 0, cells := 0, slots := 0, locals := 0 } : Room)) (fun a U => a = #[(.ref a1)] ∧ Z.Warmed39 U.vm ∧ U.heap = h0) (fun _ _ _ _ _ => True) (fun _ U o U' => ∃ v L, o = .returned v ∧ Q4 Z a1 w1 w2 h0 n0 v U'.heap L ∧ FrameEnd U o U' L ({ frames := 0, cells := 0, slots := 0, locals := 0 } : Room).cells ({ frames := 0, cells := 0, slots := 0, locals := 0 } : Room).slots) := by
  refine MetFree.of_bodySF (plainFor_of_name pn_4) hisR ?_
  intro p e s m args below meth c s₁ Bd hml0 hP hK
  obtain ⟨rfl, hZ, hh⟩ := hP
  have hx := Bd.exec
  have hby := Bd.bytes
  have hml : c.maxLocals = 1 := hml0
  have hown : s.vm.findClass "com/example/tagsieve/tagsieve/dicom/Tag" = some m.cls := findClass_of_methodNamed Bd.named
  have hnm := (name_of_methodNamed Bd.named Bd.method).1
  have X0 : Stand p l e ({ frames := 0, cells := 0, slots := 0, locals := 0 } : Room) s m #[(.ref a1)] below meth c s₁ [] 0 0 := Stand.of_body Bd
  have e0 : s₁.heap = h0 := by rw [← hh, Bd.state]; rfl
  have N0 := Fr.nil n0
  have pre0 : ∀ t, Steps p.tables e below (s₁.setTop (mkF m 0 #[.val (.ref a1)] [])) t → Steps p.tables e below (s₁.setTop (entryFrame m #[(.ref a1)] 1)) t := fun t k => castTop (ef_4 m a1) k
  obtain ⟨T2, X2, e2, st2⟩ := getF X0 hx hZ hown (host := "") (Or.inl (hw _ (List.mem_of_getElem? (i := 16) rfl))) Via.refl e0 F_group_a1 (g := (mkF m 1 #[.val (.ref a1)] [(.ref a1)])) rfl rfl (hb hby d4_1)
  obtain ⟨fs, hr, hrun, hended, hW, hsame⟩ := X2.leave (v := some (.int (0 : Int32))) (fun h => by rw [Bd.returns] at h; cases h)
  refine ⟨_, _, pre0 _ ?_, hrun, hended, _, _, rfl, ?_, ⟨_, rfl⟩, hW, hsame.mono (by decide) (by decide)⟩
  · show Steps p.tables e below (s₁.setTop (mkF m 0 #[.val (.ref a1)] [])) _
    refine XS.aloadN X0.here hx rfl (hb hby d4_0) rfl rfl ?_
    show Steps p.tables e below (s₁.setTop (mkF m 1 #[.val (.ref a1)] [(.ref a1)])) _
    refine st2 _ ?_
    show Steps p.tables e below (T2.setTop (mkF m 4 #[.val (.ref a1)] [(.int w1)])) _
    refine XS.iconst X2.here hx rfl (hb hby d4_4) ?_
    show Steps p.tables e below (T2.setTop (mkF m 5 #[.val (.ref a1)] [(.int (2 : Int32)), (.int w1)])) _
    refine XS.irem X2.here hx rfl (hb hby d4_5) rfl (by decide) ?_
    show Steps p.tables e below (T2.setTop (mkF m 6 #[.val (.ref a1)] [(.int (w1 - (w1 / (2 : Int32)) * (2 : Int32)))])) _
    refine XS.iconst X2.here hx rfl (hb hby d4_6) ?_
    show Steps p.tables e below (T2.setTop (mkF m 7 #[.val (.ref a1)] [(.int (1 : Int32)), (.int (w1 - (w1 / (2 : Int32)) * (2 : Int32)))])) _
    refine XS.icmpYes X2.here hx rfl (pc0 := 7) (pc' := 33) rfl (hb hby d4_7) rfl (feq hc7).2 (by decide) (by decide) ?_
    show Steps p.tables e below (T2.setTop (mkF m 33 #[.val (.ref a1)] [])) _
    refine XS.iconst X2.here hx rfl (hb hby d4_33) ?_
    show Steps p.tables e below (T2.setTop (mkF m 34 #[.val (.ref a1)] [(.int (0 : Int32))])) _
    exact retN X2 hx (t := .boolean) Bd.returns (by simp) (hb hby d4_34) hr
  · show Q4 Z a1 w1 w2 h0 n0 _ T2.heap _
    rw [e2]
    exact ⟨by rw [own_ipc, if_neg hc7], N0, rfl⟩
theorem d4_10 : decode prog_61_method_5_code 10 = .ok (.aload_n 0, 1) := by decide +kernel
theorem d4_11 : decode prog_61_method_5_code 11 = .ok (.getfield 35, 3) := by decide +kernel
theorem d4_14 : decode prog_61_method_5_code 14 = .ok (.bipush 16, 2) := by decide +kernel
theorem d4_16 : decode prog_61_method_5_code 16 = .ok (.if_icmp .lt 17, 3) := by decide +kernel

set_option maxRecDepth 65536 in
set_option maxHeartbeats 40000000 in
theorem rm4b (l : Launch) (Z : State) (a0 : Array Value) (hw : ∀ d ∈ tables_1, d.before a0 Z = true) (ws : List Jvm.Cond) (a1 : Addr) (w1 : Int32) (w2 : Int32) (h0 : Heap) (n0 : Nat) (Z0 : n0 ≤ h0.size) (F_group_a1 : Fld Z h0 a1 "com/example/tagsieve/tagsieve/dicom/Tag" "group" "I" (.int w1)) (F_element_a1 : Fld Z h0 a1 "com/example/tagsieve/tagsieve/dicom/Tag" "element" "I" (.int w2)) (hc7 : (w1 - (w1 / (2 : Int32)) * (2 : Int32)) = (1 : Int32)) (hc16 : w2 < (16 : Int32)) :
    MetFree l (⟨"com/example/tagsieve/tagsieve/dicom/Tag", "isPrivateCreator", "()Z"⟩ : MethodName) (head1 (Jvm.Cond.code (⟨"com/example/tagsieve/tagsieve/dicom/Tag", "isPrivateCreator", "()Z"⟩ : MethodName) prog_61_method_5_code 1 (some .boolean) :: ws) ({ frames := 0, cells := 0, slots := 0, locals := 0 } : Room)) (fun a U => a = #[(.ref a1)] ∧ Z.Warmed39 U.vm ∧ U.heap = h0) (fun _ _ _ _ _ => True) (fun _ U o U' => ∃ v L, o = .returned v ∧ Q4 Z a1 w1 w2 h0 n0 v U'.heap L ∧ FrameEnd U o U' L ({ frames := 0, cells := 0, slots := 0, locals := 0 } : Room).cells ({ frames := 0, cells := 0, slots := 0, locals := 0 } : Room).slots) := by
  refine MetFree.of_bodySF (plainFor_of_name pn_4) hisR ?_
  intro p e s m args below meth c s₁ Bd hml0 hP hK
  obtain ⟨rfl, hZ, hh⟩ := hP
  have hx := Bd.exec
  have hby := Bd.bytes
  have hml : c.maxLocals = 1 := hml0
  have hown : s.vm.findClass "com/example/tagsieve/tagsieve/dicom/Tag" = some m.cls := findClass_of_methodNamed Bd.named
  have hnm := (name_of_methodNamed Bd.named Bd.method).1
  have X0 : Stand p l e ({ frames := 0, cells := 0, slots := 0, locals := 0 } : Room) s m #[(.ref a1)] below meth c s₁ [] 0 0 := Stand.of_body Bd
  have e0 : s₁.heap = h0 := by rw [← hh, Bd.state]; rfl
  have N0 := Fr.nil n0
  have pre0 : ∀ t, Steps p.tables e below (s₁.setTop (mkF m 0 #[.val (.ref a1)] [])) t → Steps p.tables e below (s₁.setTop (entryFrame m #[(.ref a1)] 1)) t := fun t k => castTop (ef_4 m a1) k
  obtain ⟨T2, X2, e2, st2⟩ := getF X0 hx hZ hown (host := "") (Or.inl (hw _ (List.mem_of_getElem? (i := 16) rfl))) Via.refl e0 F_group_a1 (g := (mkF m 1 #[.val (.ref a1)] [(.ref a1)])) rfl rfl (hb hby d4_1)
  obtain ⟨T3, X3, e3, st3⟩ := getF X2 hx hZ hown (host := "") (Or.inl (hw _ (List.mem_of_getElem? (i := 18) rfl))) Via.refl e2 F_element_a1 (g := (mkF m 11 #[.val (.ref a1)] [(.ref a1)])) rfl rfl (hb hby d4_11)
  obtain ⟨fs, hr, hrun, hended, hW, hsame⟩ := X3.leave (v := some (.int (0 : Int32))) (fun h => by rw [Bd.returns] at h; cases h)
  refine ⟨_, _, pre0 _ ?_, hrun, hended, _, _, rfl, ?_, ⟨_, rfl⟩, hW, hsame.mono (by decide) (by decide)⟩
  · show Steps p.tables e below (s₁.setTop (mkF m 0 #[.val (.ref a1)] [])) _
    refine XS.aloadN X0.here hx rfl (hb hby d4_0) rfl rfl ?_
    show Steps p.tables e below (s₁.setTop (mkF m 1 #[.val (.ref a1)] [(.ref a1)])) _
    refine st2 _ ?_
    show Steps p.tables e below (T2.setTop (mkF m 4 #[.val (.ref a1)] [(.int w1)])) _
    refine XS.iconst X2.here hx rfl (hb hby d4_4) ?_
    show Steps p.tables e below (T2.setTop (mkF m 5 #[.val (.ref a1)] [(.int (2 : Int32)), (.int w1)])) _
    refine XS.irem X2.here hx rfl (hb hby d4_5) rfl (by decide) ?_
    show Steps p.tables e below (T2.setTop (mkF m 6 #[.val (.ref a1)] [(.int (w1 - (w1 / (2 : Int32)) * (2 : Int32)))])) _
    refine XS.iconst X2.here hx rfl (hb hby d4_6) ?_
    show Steps p.tables e below (T2.setTop (mkF m 7 #[.val (.ref a1)] [(.int (1 : Int32)), (.int (w1 - (w1 / (2 : Int32)) * (2 : Int32)))])) _
    refine XS.icmpNo X2.here hx rfl (hb hby d4_7) rfl (teq hc7).2 ?_
    show Steps p.tables e below (T2.setTop (mkF m 10 #[.val (.ref a1)] [])) _
    refine XS.aloadN X2.here hx rfl (hb hby d4_10) rfl rfl ?_
    show Steps p.tables e below (T2.setTop (mkF m 11 #[.val (.ref a1)] [(.ref a1)])) _
    refine st3 _ ?_
    show Steps p.tables e below (T3.setTop (mkF m 14 #[.val (.ref a1)] [(.int w2)])) _
    refine XS.bipush X3.here hx rfl (hb hby d4_14) ?_
    show Steps p.tables e below (T3.setTop (mkF m 16 #[.val (.ref a1)] [(.int (16 : Int32)), (.int w2)])) _
    refine XS.icmpYes X3.here hx rfl (pc0 := 16) (pc' := 33) rfl (hb hby d4_16) rfl (tlt hc16).1 (by decide) (by decide) ?_
    show Steps p.tables e below (T3.setTop (mkF m 33 #[.val (.ref a1)] [])) _
    refine XS.iconst X3.here hx rfl (hb hby d4_33) ?_
    show Steps p.tables e below (T3.setTop (mkF m 34 #[.val (.ref a1)] [(.int (0 : Int32))])) _
    exact retN X3 hx (t := .boolean) Bd.returns (by simp) (hb hby d4_34) hr
  · show Q4 Z a1 w1 w2 h0 n0 _ T3.heap _
    rw [e3]
    exact ⟨by rw [own_ipc, if_pos hc7, if_pos hc16], N0, rfl⟩
theorem d4_19 : decode prog_61_method_5_code 19 = .ok (.aload_n 0, 1) := by decide +kernel
theorem d4_20 : decode prog_61_method_5_code 20 = .ok (.getfield 35, 3) := by decide +kernel
theorem d4_23 : decode prog_61_method_5_code 23 = .ok (.sipush 255, 3) := by decide +kernel
theorem d4_26 : decode prog_61_method_5_code 26 = .ok (.if_icmp .gt 7, 3) := by decide +kernel

set_option maxRecDepth 65536 in
set_option maxHeartbeats 40000000 in
theorem rm4c (l : Launch) (Z : State) (a0 : Array Value) (hw : ∀ d ∈ tables_1, d.before a0 Z = true) (ws : List Jvm.Cond) (a1 : Addr) (w1 : Int32) (w2 : Int32) (h0 : Heap) (n0 : Nat) (Z0 : n0 ≤ h0.size) (F_group_a1 : Fld Z h0 a1 "com/example/tagsieve/tagsieve/dicom/Tag" "group" "I" (.int w1)) (F_element_a1 : Fld Z h0 a1 "com/example/tagsieve/tagsieve/dicom/Tag" "element" "I" (.int w2)) (hc7 : (w1 - (w1 / (2 : Int32)) * (2 : Int32)) = (1 : Int32)) (hc16 : ¬ (w2 < (16 : Int32))) (hc26 : (255 : Int32) < w2) :
    MetFree l (⟨"com/example/tagsieve/tagsieve/dicom/Tag", "isPrivateCreator", "()Z"⟩ : MethodName) (head1 (Jvm.Cond.code (⟨"com/example/tagsieve/tagsieve/dicom/Tag", "isPrivateCreator", "()Z"⟩ : MethodName) prog_61_method_5_code 1 (some .boolean) :: ws) ({ frames := 0, cells := 0, slots := 0, locals := 0 } : Room)) (fun a U => a = #[(.ref a1)] ∧ Z.Warmed39 U.vm ∧ U.heap = h0) (fun _ _ _ _ _ => True) (fun _ U o U' => ∃ v L, o = .returned v ∧ Q4 Z a1 w1 w2 h0 n0 v U'.heap L ∧ FrameEnd U o U' L ({ frames := 0, cells := 0, slots := 0, locals := 0 } : Room).cells ({ frames := 0, cells := 0, slots := 0, locals := 0 } : Room).slots) := by
  refine MetFree.of_bodySF (plainFor_of_name pn_4) hisR ?_
  intro p e s m args below meth c s₁ Bd hml0 hP hK
  obtain ⟨rfl, hZ, hh⟩ := hP
  have hx := Bd.exec
  have hby := Bd.bytes
  have hml : c.maxLocals = 1 := hml0
  have hown : s.vm.findClass "com/example/tagsieve/tagsieve/dicom/Tag" = some m.cls := findClass_of_methodNamed Bd.named
  have hnm := (name_of_methodNamed Bd.named Bd.method).1
  have X0 : Stand p l e ({ frames := 0, cells := 0, slots := 0, locals := 0 } : Room) s m #[(.ref a1)] below meth c s₁ [] 0 0 := Stand.of_body Bd
  have e0 : s₁.heap = h0 := by rw [← hh, Bd.state]; rfl
  have N0 := Fr.nil n0
  have pre0 : ∀ t, Steps p.tables e below (s₁.setTop (mkF m 0 #[.val (.ref a1)] [])) t → Steps p.tables e below (s₁.setTop (entryFrame m #[(.ref a1)] 1)) t := fun t k => castTop (ef_4 m a1) k
  obtain ⟨T2, X2, e2, st2⟩ := getF X0 hx hZ hown (host := "") (Or.inl (hw _ (List.mem_of_getElem? (i := 16) rfl))) Via.refl e0 F_group_a1 (g := (mkF m 1 #[.val (.ref a1)] [(.ref a1)])) rfl rfl (hb hby d4_1)
  obtain ⟨T3, X3, e3, st3⟩ := getF X2 hx hZ hown (host := "") (Or.inl (hw _ (List.mem_of_getElem? (i := 18) rfl))) Via.refl e2 F_element_a1 (g := (mkF m 11 #[.val (.ref a1)] [(.ref a1)])) rfl rfl (hb hby d4_11)
  obtain ⟨T4, X4, e4, st4⟩ := getF X3 hx hZ hown (host := "") (Or.inl (hw _ (List.mem_of_getElem? (i := 18) rfl))) Via.refl e3 F_element_a1 (g := (mkF m 20 #[.val (.ref a1)] [(.ref a1)])) rfl rfl (hb hby d4_20)
  obtain ⟨fs, hr, hrun, hended, hW, hsame⟩ := X4.leave (v := some (.int (0 : Int32))) (fun h => by rw [Bd.returns] at h; cases h)
  refine ⟨_, _, pre0 _ ?_, hrun, hended, _, _, rfl, ?_, ⟨_, rfl⟩, hW, hsame.mono (by decide) (by decide)⟩
  · show Steps p.tables e below (s₁.setTop (mkF m 0 #[.val (.ref a1)] [])) _
    refine XS.aloadN X0.here hx rfl (hb hby d4_0) rfl rfl ?_
    show Steps p.tables e below (s₁.setTop (mkF m 1 #[.val (.ref a1)] [(.ref a1)])) _
    refine st2 _ ?_
    show Steps p.tables e below (T2.setTop (mkF m 4 #[.val (.ref a1)] [(.int w1)])) _
    refine XS.iconst X2.here hx rfl (hb hby d4_4) ?_
    show Steps p.tables e below (T2.setTop (mkF m 5 #[.val (.ref a1)] [(.int (2 : Int32)), (.int w1)])) _
    refine XS.irem X2.here hx rfl (hb hby d4_5) rfl (by decide) ?_
    show Steps p.tables e below (T2.setTop (mkF m 6 #[.val (.ref a1)] [(.int (w1 - (w1 / (2 : Int32)) * (2 : Int32)))])) _
    refine XS.iconst X2.here hx rfl (hb hby d4_6) ?_
    show Steps p.tables e below (T2.setTop (mkF m 7 #[.val (.ref a1)] [(.int (1 : Int32)), (.int (w1 - (w1 / (2 : Int32)) * (2 : Int32)))])) _
    refine XS.icmpNo X2.here hx rfl (hb hby d4_7) rfl (teq hc7).2 ?_
    show Steps p.tables e below (T2.setTop (mkF m 10 #[.val (.ref a1)] [])) _
    refine XS.aloadN X2.here hx rfl (hb hby d4_10) rfl rfl ?_
    show Steps p.tables e below (T2.setTop (mkF m 11 #[.val (.ref a1)] [(.ref a1)])) _
    refine st3 _ ?_
    show Steps p.tables e below (T3.setTop (mkF m 14 #[.val (.ref a1)] [(.int w2)])) _
    refine XS.bipush X3.here hx rfl (hb hby d4_14) ?_
    show Steps p.tables e below (T3.setTop (mkF m 16 #[.val (.ref a1)] [(.int (16 : Int32)), (.int w2)])) _
    refine XS.icmpNo X3.here hx rfl (hb hby d4_16) rfl (flt hc16).1 ?_
    show Steps p.tables e below (T3.setTop (mkF m 19 #[.val (.ref a1)] [])) _
    refine XS.aloadN X3.here hx rfl (hb hby d4_19) rfl rfl ?_
    show Steps p.tables e below (T3.setTop (mkF m 20 #[.val (.ref a1)] [(.ref a1)])) _
    refine st4 _ ?_
    show Steps p.tables e below (T4.setTop (mkF m 23 #[.val (.ref a1)] [(.int w2)])) _
    refine XS.sipush X4.here hx rfl (hb hby d4_23) ?_
    show Steps p.tables e below (T4.setTop (mkF m 26 #[.val (.ref a1)] [(.int (255 : Int32)), (.int w2)])) _
    refine XS.icmpYes X4.here hx rfl (pc0 := 26) (pc' := 33) rfl (hb hby d4_26) rfl (tlt hc26).2.2.1 (by decide) (by decide) ?_
    show Steps p.tables e below (T4.setTop (mkF m 33 #[.val (.ref a1)] [])) _
    refine XS.iconst X4.here hx rfl (hb hby d4_33) ?_
    show Steps p.tables e below (T4.setTop (mkF m 34 #[.val (.ref a1)] [(.int (0 : Int32))])) _
    exact retN X4 hx (t := .boolean) Bd.returns (by simp) (hb hby d4_34) hr
  · show Q4 Z a1 w1 w2 h0 n0 _ T4.heap _
    rw [e4]
    exact ⟨by rw [own_ipc, if_pos hc7, if_neg hc16, if_pos hc26], N0, rfl⟩
theorem d4_29 : decode prog_61_method_5_code 29 = .ok (.iconst 1, 1) := by decide +kernel
theorem d4_30 : decode prog_61_method_5_code 30 = .ok (.goto 4, 3) := by decide +kernel

set_option maxRecDepth 65536 in
set_option maxHeartbeats 40000000 in
theorem rm4d (l : Launch) (Z : State) (a0 : Array Value) (hw : ∀ d ∈ tables_1, d.before a0 Z = true) (ws : List Jvm.Cond) (a1 : Addr) (w1 : Int32) (w2 : Int32) (h0 : Heap) (n0 : Nat) (Z0 : n0 ≤ h0.size) (F_group_a1 : Fld Z h0 a1 "com/example/tagsieve/tagsieve/dicom/Tag" "group" "I" (.int w1)) (F_element_a1 : Fld Z h0 a1 "com/example/tagsieve/tagsieve/dicom/Tag" "element" "I" (.int w2)) (hc7 : (w1 - (w1 / (2 : Int32)) * (2 : Int32)) = (1 : Int32)) (hc16 : ¬ (w2 < (16 : Int32))) (hc26 : ¬ ((255 : Int32) < w2)) :
    MetFree l (⟨"com/example/tagsieve/tagsieve/dicom/Tag", "isPrivateCreator", "()Z"⟩ : MethodName) (head1 (Jvm.Cond.code (⟨"com/example/tagsieve/tagsieve/dicom/Tag", "isPrivateCreator", "()Z"⟩ : MethodName) prog_61_method_5_code 1 (some .boolean) :: ws) ({ frames := 0, cells := 0, slots := 0, locals := 0 } : Room)) (fun a U => a = #[(.ref a1)] ∧ Z.Warmed39 U.vm ∧ U.heap = h0) (fun _ _ _ _ _ => True) (fun _ U o U' => ∃ v L, o = .returned v ∧ Q4 Z a1 w1 w2 h0 n0 v U'.heap L ∧ FrameEnd U o U' L ({ frames := 0, cells := 0, slots := 0, locals := 0 } : Room).cells ({ frames := 0, cells := 0, slots := 0, locals := 0 } : Room).slots) := by
  refine MetFree.of_bodySF (plainFor_of_name pn_4) hisR ?_
  intro p e s m args below meth c s₁ Bd hml0 hP hK
  obtain ⟨rfl, hZ, hh⟩ := hP
  have hx := Bd.exec
  have hby := Bd.bytes
  have hml : c.maxLocals = 1 := hml0
  have hown : s.vm.findClass "com/example/tagsieve/tagsieve/dicom/Tag" = some m.cls := findClass_of_methodNamed Bd.named
  have hnm := (name_of_methodNamed Bd.named Bd.method).1
  have X0 : Stand p l e ({ frames := 0, cells := 0, slots := 0, locals := 0 } : Room) s m #[(.ref a1)] below meth c s₁ [] 0 0 := Stand.of_body Bd
  have e0 : s₁.heap = h0 := by rw [← hh, Bd.state]; rfl
  have N0 := Fr.nil n0
  have pre0 : ∀ t, Steps p.tables e below (s₁.setTop (mkF m 0 #[.val (.ref a1)] [])) t → Steps p.tables e below (s₁.setTop (entryFrame m #[(.ref a1)] 1)) t := fun t k => castTop (ef_4 m a1) k
  obtain ⟨T2, X2, e2, st2⟩ := getF X0 hx hZ hown (host := "") (Or.inl (hw _ (List.mem_of_getElem? (i := 16) rfl))) Via.refl e0 F_group_a1 (g := (mkF m 1 #[.val (.ref a1)] [(.ref a1)])) rfl rfl (hb hby d4_1)
  obtain ⟨T3, X3, e3, st3⟩ := getF X2 hx hZ hown (host := "") (Or.inl (hw _ (List.mem_of_getElem? (i := 18) rfl))) Via.refl e2 F_element_a1 (g := (mkF m 11 #[.val (.ref a1)] [(.ref a1)])) rfl rfl (hb hby d4_11)
  obtain ⟨T4, X4, e4, st4⟩ := getF X3 hx hZ hown (host := "") (Or.inl (hw _ (List.mem_of_getElem? (i := 18) rfl))) Via.refl e3 F_element_a1 (g := (mkF m 20 #[.val (.ref a1)] [(.ref a1)])) rfl rfl (hb hby d4_20)
  obtain ⟨fs, hr, hrun, hended, hW, hsame⟩ := X4.leave (v := some (.int (1 : Int32))) (fun h => by rw [Bd.returns] at h; cases h)
  refine ⟨_, _, pre0 _ ?_, hrun, hended, _, _, rfl, ?_, ⟨_, rfl⟩, hW, hsame.mono (by decide) (by decide)⟩
  · show Steps p.tables e below (s₁.setTop (mkF m 0 #[.val (.ref a1)] [])) _
    refine XS.aloadN X0.here hx rfl (hb hby d4_0) rfl rfl ?_
    show Steps p.tables e below (s₁.setTop (mkF m 1 #[.val (.ref a1)] [(.ref a1)])) _
    refine st2 _ ?_
    show Steps p.tables e below (T2.setTop (mkF m 4 #[.val (.ref a1)] [(.int w1)])) _
    refine XS.iconst X2.here hx rfl (hb hby d4_4) ?_
    show Steps p.tables e below (T2.setTop (mkF m 5 #[.val (.ref a1)] [(.int (2 : Int32)), (.int w1)])) _
    refine XS.irem X2.here hx rfl (hb hby d4_5) rfl (by decide) ?_
    show Steps p.tables e below (T2.setTop (mkF m 6 #[.val (.ref a1)] [(.int (w1 - (w1 / (2 : Int32)) * (2 : Int32)))])) _
    refine XS.iconst X2.here hx rfl (hb hby d4_6) ?_
    show Steps p.tables e below (T2.setTop (mkF m 7 #[.val (.ref a1)] [(.int (1 : Int32)), (.int (w1 - (w1 / (2 : Int32)) * (2 : Int32)))])) _
    refine XS.icmpNo X2.here hx rfl (hb hby d4_7) rfl (teq hc7).2 ?_
    show Steps p.tables e below (T2.setTop (mkF m 10 #[.val (.ref a1)] [])) _
    refine XS.aloadN X2.here hx rfl (hb hby d4_10) rfl rfl ?_
    show Steps p.tables e below (T2.setTop (mkF m 11 #[.val (.ref a1)] [(.ref a1)])) _
    refine st3 _ ?_
    show Steps p.tables e below (T3.setTop (mkF m 14 #[.val (.ref a1)] [(.int w2)])) _
    refine XS.bipush X3.here hx rfl (hb hby d4_14) ?_
    show Steps p.tables e below (T3.setTop (mkF m 16 #[.val (.ref a1)] [(.int (16 : Int32)), (.int w2)])) _
    refine XS.icmpNo X3.here hx rfl (hb hby d4_16) rfl (flt hc16).1 ?_
    show Steps p.tables e below (T3.setTop (mkF m 19 #[.val (.ref a1)] [])) _
    refine XS.aloadN X3.here hx rfl (hb hby d4_19) rfl rfl ?_
    show Steps p.tables e below (T3.setTop (mkF m 20 #[.val (.ref a1)] [(.ref a1)])) _
    refine st4 _ ?_
    show Steps p.tables e below (T4.setTop (mkF m 23 #[.val (.ref a1)] [(.int w2)])) _
    refine XS.sipush X4.here hx rfl (hb hby d4_23) ?_
    show Steps p.tables e below (T4.setTop (mkF m 26 #[.val (.ref a1)] [(.int (255 : Int32)), (.int w2)])) _
    refine XS.icmpNo X4.here hx rfl (hb hby d4_26) rfl (flt hc26).2.2.1 ?_
    show Steps p.tables e below (T4.setTop (mkF m 29 #[.val (.ref a1)] [])) _
    refine XS.iconst X4.here hx rfl (hb hby d4_29) ?_
    show Steps p.tables e below (T4.setTop (mkF m 30 #[.val (.ref a1)] [(.int (1 : Int32))])) _
    refine XS.goto X4.here hx rfl (pc0 := 30) (pc' := 34) rfl (hb hby d4_30) (by decide) (by decide) ?_
    show Steps p.tables e below (T4.setTop (mkF m 34 #[.val (.ref a1)] [(.int (1 : Int32))])) _
    exact retN X4 hx (t := .boolean) Bd.returns (by simp) (hb hby d4_34) hr
  · show Q4 Z a1 w1 w2 h0 n0 _ T4.heap _
    rw [e4]
    exact ⟨by rw [own_ipc, if_pos hc7, if_neg hc16, if_neg hc26], N0, rfl⟩
set_option maxRecDepth 65536 in
set_option maxHeartbeats 40000000 in
theorem rm4 (l : Launch) (Z : State) (a0 : Array Value) (hw : ∀ d ∈ tables_1, d.before a0 Z = true) (ws : List Jvm.Cond) (a1 : Addr) (w1 : Int32) (w2 : Int32) (h0 : Heap) (n0 : Nat) (Z0 : n0 ≤ h0.size) (F_group_a1 : Fld Z h0 a1 "com/example/tagsieve/tagsieve/dicom/Tag" "group" "I" (.int w1)) (F_element_a1 : Fld Z h0 a1 "com/example/tagsieve/tagsieve/dicom/Tag" "element" "I" (.int w2)) :
    MetFree l (⟨"com/example/tagsieve/tagsieve/dicom/Tag", "isPrivateCreator", "()Z"⟩ : MethodName) (head1 (Jvm.Cond.code (⟨"com/example/tagsieve/tagsieve/dicom/Tag", "isPrivateCreator", "()Z"⟩ : MethodName) prog_61_method_5_code 1 (some .boolean) :: ws) ({ frames := 0, cells := 0, slots := 0, locals := 0 } : Room)) (fun a U => a = #[(.ref a1)] ∧ Z.Warmed39 U.vm ∧ U.heap = h0) (fun _ _ _ _ _ => True) (fun _ U o U' => ∃ v L, o = .returned v ∧ Q4 Z a1 w1 w2 h0 n0 v U'.heap L ∧ FrameEnd U o U' L ({ frames := 0, cells := 0, slots := 0, locals := 0 } : Room).cells ({ frames := 0, cells := 0, slots := 0, locals := 0 } : Room).slots) := by
  by_cases hc7 : (w1 - (w1 / (2 : Int32)) * (2 : Int32)) = (1 : Int32)
  · by_cases hc16 : w2 < (16 : Int32)
    · exact rm4b l Z a0 hw ws a1 w1 w2 h0 n0 Z0 F_group_a1 F_element_a1 hc7 hc16
    · by_cases hc26 : (255 : Int32) < w2
      · exact rm4c l Z a0 hw ws a1 w1 w2 h0 n0 Z0 F_group_a1 F_element_a1 hc7 hc16 hc26
      · exact rm4d l Z a0 hw ws a1 w1 w2 h0 n0 Z0 F_group_a1 F_element_a1 hc7 hc16 hc26
  · exact rm4a l Z a0 hw ws a1 w1 w2 h0 n0 Z0 F_group_a1 hc7
set_option maxRecDepth 65536 in
set_option maxHeartbeats 40000000 in
theorem p10a {p : Program} {l : Launch} {e : Env} {R : Room} {s : State} {m : MethodId} {args : Array Value} {below : List Frame} {meth : Method} {c : Code} {T0 : State} {locs : List Loc} {cells slots : Nat} {Z : State} {a0 : Array Value} {h0 : Heap} (s0 : Slot) (i1 : Int32) (s2 : Slot) (s3 : Slot) (i4 : Int32)
    (X0 : Stand p l e R s m args below meth c T0 locs cells slots) (hx : p.tables.exec = Jvm.exec) (hZ : Z.Warmed39 s.vm) (hw : ∀ d ∈ tables_1, d.before a0 Z = true) (hby : c.code = code) (hml : c.maxLocals = 10) (hown : s.vm.findClass "com/example/tagsieve/tagsieve/dicom/TagIsPrivateCreatorPinLaw" = some m.cls) (e0 : T0.heap = h0) (hc13 : i4 = (1 : Int32)) :
    ∃ (T' : State), Stand p l e R s m args below meth c T' locs cells slots ∧ T'.heap = h0 ∧
      ∀ target, Steps p.tables e below (T'.setTop (mkF m 51 #[s0, .val (.int i1), s2, s3, .val (.int i4), .val (.int ((14 : Int32) + (i1 &&& (3 : Int32)))), .unset, .unset, .unset, .unset] [])) target → Steps p.tables e below (T0.setTop (mkF m 10 #[s0, .val (.int i1), s2, s3, .val (.int i4), .unset, .unset, .unset, .unset, .unset] [])) target := by

  refine ⟨T0, X0, e0, fun target kt => ?_⟩
  show Steps p.tables e below (T0.setTop (mkF m 10 #[s0, .val (.int i1), s2, s3, .val (.int i4), .unset, .unset, .unset, .unset, .unset] [])) _
  refine XS.iload X0.here hx rfl (hb hby at_10) rfl ?_
  show Steps p.tables e below (T0.setTop (mkF m 12 #[s0, .val (.int i1), s2, s3, .val (.int i4), .unset, .unset, .unset, .unset, .unset] [(.int i4)])) _
  refine XS.iconst X0.here hx rfl (hb hby at_12) ?_
  show Steps p.tables e below (T0.setTop (mkF m 13 #[s0, .val (.int i1), s2, s3, .val (.int i4), .unset, .unset, .unset, .unset, .unset] [(.int (1 : Int32)), (.int i4)])) _
  refine XS.icmpNo X0.here hx rfl (hb hby at_13) rfl (teq hc13).2 ?_
  show Steps p.tables e below (T0.setTop (mkF m 16 #[s0, .val (.int i1), s2, s3, .val (.int i4), .unset, .unset, .unset, .unset, .unset] [])) _
  refine XS.bipush X0.here hx rfl (hb hby at_16) ?_
  show Steps p.tables e below (T0.setTop (mkF m 18 #[s0, .val (.int i1), s2, s3, .val (.int i4), .unset, .unset, .unset, .unset, .unset] [(.int (14 : Int32))])) _
  refine XS.iloadN X0.here hx rfl (hb hby at_18) rfl ?_
  show Steps p.tables e below (T0.setTop (mkF m 19 #[s0, .val (.int i1), s2, s3, .val (.int i4), .unset, .unset, .unset, .unset, .unset] [(.int i1), (.int (14 : Int32))])) _
  refine XS.iconst X0.here hx rfl (hb hby at_19) ?_
  show Steps p.tables e below (T0.setTop (mkF m 20 #[s0, .val (.int i1), s2, s3, .val (.int i4), .unset, .unset, .unset, .unset, .unset] [(.int (3 : Int32)), (.int i1), (.int (14 : Int32))])) _
  refine XS.iand X0.here hx rfl (hb hby at_20) rfl ?_
  show Steps p.tables e below (T0.setTop (mkF m 21 #[s0, .val (.int i1), s2, s3, .val (.int i4), .unset, .unset, .unset, .unset, .unset] [(.int (i1 &&& (3 : Int32))), (.int (14 : Int32))])) _
  refine XS.iadd X0.here hx rfl (hb hby at_21) rfl ?_
  show Steps p.tables e below (T0.setTop (mkF m 22 #[s0, .val (.int i1), s2, s3, .val (.int i4), .unset, .unset, .unset, .unset, .unset] [(.int ((14 : Int32) + (i1 &&& (3 : Int32))))])) _
  refine XS.istore X0.here hx rfl (hb hby at_22) rfl (l' := #[s0, .val (.int i1), s2, s3, .val (.int i4), .val (.int ((14 : Int32) + (i1 &&& (3 : Int32)))), .unset, .unset, .unset, .unset]) rfl ?_
  show Steps p.tables e below (T0.setTop (mkF m 24 #[s0, .val (.int i1), s2, s3, .val (.int i4), .val (.int ((14 : Int32) + (i1 &&& (3 : Int32)))), .unset, .unset, .unset, .unset] [])) _
  refine XS.goto X0.here hx rfl (pc0 := 24) (pc' := 51) rfl (hb hby at_24) (by decide) (by decide) ?_
  exact kt
set_option maxRecDepth 65536 in
set_option maxHeartbeats 40000000 in
theorem p10b {p : Program} {l : Launch} {e : Env} {R : Room} {s : State} {m : MethodId} {args : Array Value} {below : List Frame} {meth : Method} {c : Code} {T0 : State} {locs : List Loc} {cells slots : Nat} {Z : State} {a0 : Array Value} {h0 : Heap} (s0 : Slot) (i1 : Int32) (s2 : Slot) (s3 : Slot) (i4 : Int32)
    (X0 : Stand p l e R s m args below meth c T0 locs cells slots) (hx : p.tables.exec = Jvm.exec) (hZ : Z.Warmed39 s.vm) (hw : ∀ d ∈ tables_1, d.before a0 Z = true) (hby : c.code = code) (hml : c.maxLocals = 10) (hown : s.vm.findClass "com/example/tagsieve/tagsieve/dicom/TagIsPrivateCreatorPinLaw" = some m.cls) (e0 : T0.heap = h0) (hc13 : ¬ (i4 = (1 : Int32))) (hc30 : i4 = (2 : Int32)) :
    ∃ (T' : State), Stand p l e R s m args below meth c T' locs cells slots ∧ T'.heap = h0 ∧
      ∀ target, Steps p.tables e below (T'.setTop (mkF m 51 #[s0, .val (.int i1), s2, s3, .val (.int i4), .val (.int ((254 : Int32) + (i1 &&& (3 : Int32)))), .unset, .unset, .unset, .unset] [])) target → Steps p.tables e below (T0.setTop (mkF m 10 #[s0, .val (.int i1), s2, s3, .val (.int i4), .unset, .unset, .unset, .unset, .unset] [])) target := by

  refine ⟨T0, X0, e0, fun target kt => ?_⟩
  show Steps p.tables e below (T0.setTop (mkF m 10 #[s0, .val (.int i1), s2, s3, .val (.int i4), .unset, .unset, .unset, .unset, .unset] [])) _
  refine XS.iload X0.here hx rfl (hb hby at_10) rfl ?_
  show Steps p.tables e below (T0.setTop (mkF m 12 #[s0, .val (.int i1), s2, s3, .val (.int i4), .unset, .unset, .unset, .unset, .unset] [(.int i4)])) _
  refine XS.iconst X0.here hx rfl (hb hby at_12) ?_
  show Steps p.tables e below (T0.setTop (mkF m 13 #[s0, .val (.int i1), s2, s3, .val (.int i4), .unset, .unset, .unset, .unset, .unset] [(.int (1 : Int32)), (.int i4)])) _
  refine XS.icmpYes X0.here hx rfl (pc0 := 13) (pc' := 27) rfl (hb hby at_13) rfl (feq hc13).2 (by decide) (by decide) ?_
  show Steps p.tables e below (T0.setTop (mkF m 27 #[s0, .val (.int i1), s2, s3, .val (.int i4), .unset, .unset, .unset, .unset, .unset] [])) _
  refine XS.iload X0.here hx rfl (hb hby at_27) rfl ?_
  show Steps p.tables e below (T0.setTop (mkF m 29 #[s0, .val (.int i1), s2, s3, .val (.int i4), .unset, .unset, .unset, .unset, .unset] [(.int i4)])) _
  refine XS.iconst X0.here hx rfl (hb hby at_29) ?_
  show Steps p.tables e below (T0.setTop (mkF m 30 #[s0, .val (.int i1), s2, s3, .val (.int i4), .unset, .unset, .unset, .unset, .unset] [(.int (2 : Int32)), (.int i4)])) _
  refine XS.icmpNo X0.here hx rfl (hb hby at_30) rfl (teq hc30).2 ?_
  show Steps p.tables e below (T0.setTop (mkF m 33 #[s0, .val (.int i1), s2, s3, .val (.int i4), .unset, .unset, .unset, .unset, .unset] [])) _
  refine XS.sipush X0.here hx rfl (hb hby at_33) ?_
  show Steps p.tables e below (T0.setTop (mkF m 36 #[s0, .val (.int i1), s2, s3, .val (.int i4), .unset, .unset, .unset, .unset, .unset] [(.int (254 : Int32))])) _
  refine XS.iloadN X0.here hx rfl (hb hby at_36) rfl ?_
  show Steps p.tables e below (T0.setTop (mkF m 37 #[s0, .val (.int i1), s2, s3, .val (.int i4), .unset, .unset, .unset, .unset, .unset] [(.int i1), (.int (254 : Int32))])) _
  refine XS.iconst X0.here hx rfl (hb hby at_37) ?_
  show Steps p.tables e below (T0.setTop (mkF m 38 #[s0, .val (.int i1), s2, s3, .val (.int i4), .unset, .unset, .unset, .unset, .unset] [(.int (3 : Int32)), (.int i1), (.int (254 : Int32))])) _
  refine XS.iand X0.here hx rfl (hb hby at_38) rfl ?_
  show Steps p.tables e below (T0.setTop (mkF m 39 #[s0, .val (.int i1), s2, s3, .val (.int i4), .unset, .unset, .unset, .unset, .unset] [(.int (i1 &&& (3 : Int32))), (.int (254 : Int32))])) _
  refine XS.iadd X0.here hx rfl (hb hby at_39) rfl ?_
  show Steps p.tables e below (T0.setTop (mkF m 40 #[s0, .val (.int i1), s2, s3, .val (.int i4), .unset, .unset, .unset, .unset, .unset] [(.int ((254 : Int32) + (i1 &&& (3 : Int32))))])) _
  refine XS.istore X0.here hx rfl (hb hby at_40) rfl (l' := #[s0, .val (.int i1), s2, s3, .val (.int i4), .val (.int ((254 : Int32) + (i1 &&& (3 : Int32)))), .unset, .unset, .unset, .unset]) rfl ?_
  show Steps p.tables e below (T0.setTop (mkF m 42 #[s0, .val (.int i1), s2, s3, .val (.int i4), .val (.int ((254 : Int32) + (i1 &&& (3 : Int32)))), .unset, .unset, .unset, .unset] [])) _
  refine XS.goto X0.here hx rfl (pc0 := 42) (pc' := 51) rfl (hb hby at_42) (by decide) (by decide) ?_
  exact kt
set_option maxRecDepth 65536 in
set_option maxHeartbeats 40000000 in
theorem p10c {p : Program} {l : Launch} {e : Env} {R : Room} {s : State} {m : MethodId} {args : Array Value} {below : List Frame} {meth : Method} {c : Code} {T0 : State} {locs : List Loc} {cells slots : Nat} {Z : State} {a0 : Array Value} {h0 : Heap} (s0 : Slot) (i1 : Int32) (s2 : Slot) (s3 : Slot) (i4 : Int32)
    (X0 : Stand p l e R s m args below meth c T0 locs cells slots) (hx : p.tables.exec = Jvm.exec) (hZ : Z.Warmed39 s.vm) (hw : ∀ d ∈ tables_1, d.before a0 Z = true) (hby : c.code = code) (hml : c.maxLocals = 10) (hown : s.vm.findClass "com/example/tagsieve/tagsieve/dicom/TagIsPrivateCreatorPinLaw" = some m.cls) (e0 : T0.heap = h0) (hc13 : ¬ (i4 = (1 : Int32))) (hc30 : ¬ (i4 = (2 : Int32))) :
    ∃ (T' : State), Stand p l e R s m args below meth c T' locs cells slots ∧ T'.heap = h0 ∧
      ∀ target, Steps p.tables e below (T'.setTop (mkF m 51 #[s0, .val (.int i1), s2, s3, .val (.int i4), .val (.int (i1 &&& (65535 : Int32))), .unset, .unset, .unset, .unset] [])) target → Steps p.tables e below (T0.setTop (mkF m 10 #[s0, .val (.int i1), s2, s3, .val (.int i4), .unset, .unset, .unset, .unset, .unset] [])) target := by

  refine ⟨T0, X0, e0, fun target kt => ?_⟩
  show Steps p.tables e below (T0.setTop (mkF m 10 #[s0, .val (.int i1), s2, s3, .val (.int i4), .unset, .unset, .unset, .unset, .unset] [])) _
  refine XS.iload X0.here hx rfl (hb hby at_10) rfl ?_
  show Steps p.tables e below (T0.setTop (mkF m 12 #[s0, .val (.int i1), s2, s3, .val (.int i4), .unset, .unset, .unset, .unset, .unset] [(.int i4)])) _
  refine XS.iconst X0.here hx rfl (hb hby at_12) ?_
  show Steps p.tables e below (T0.setTop (mkF m 13 #[s0, .val (.int i1), s2, s3, .val (.int i4), .unset, .unset, .unset, .unset, .unset] [(.int (1 : Int32)), (.int i4)])) _
  refine XS.icmpYes X0.here hx rfl (pc0 := 13) (pc' := 27) rfl (hb hby at_13) rfl (feq hc13).2 (by decide) (by decide) ?_
  show Steps p.tables e below (T0.setTop (mkF m 27 #[s0, .val (.int i1), s2, s3, .val (.int i4), .unset, .unset, .unset, .unset, .unset] [])) _
  refine XS.iload X0.here hx rfl (hb hby at_27) rfl ?_
  show Steps p.tables e below (T0.setTop (mkF m 29 #[s0, .val (.int i1), s2, s3, .val (.int i4), .unset, .unset, .unset, .unset, .unset] [(.int i4)])) _
  refine XS.iconst X0.here hx rfl (hb hby at_29) ?_
  show Steps p.tables e below (T0.setTop (mkF m 30 #[s0, .val (.int i1), s2, s3, .val (.int i4), .unset, .unset, .unset, .unset, .unset] [(.int (2 : Int32)), (.int i4)])) _
  refine XS.icmpYes X0.here hx rfl (pc0 := 30) (pc' := 45) rfl (hb hby at_30) rfl (feq hc30).2 (by decide) (by decide) ?_
  show Steps p.tables e below (T0.setTop (mkF m 45 #[s0, .val (.int i1), s2, s3, .val (.int i4), .unset, .unset, .unset, .unset, .unset] [])) _
  refine XS.iloadN X0.here hx rfl (hb hby at_45) rfl ?_
  show Steps p.tables e below (T0.setTop (mkF m 46 #[s0, .val (.int i1), s2, s3, .val (.int i4), .unset, .unset, .unset, .unset, .unset] [(.int i1)])) _
  refine X0.ldcInt hx hown (mvT hZ (hw _ (List.mem_of_getElem? (i := 0) rfl))) (g := (mkF m 46 #[s0, .val (.int i1), s2, s3, .val (.int i4), .unset, .unset, .unset, .unset, .unset] [(.int i1)])) rfl (hb hby at_46) _ ?_
  show Steps p.tables e below (T0.setTop (mkF m 48 #[s0, .val (.int i1), s2, s3, .val (.int i4), .unset, .unset, .unset, .unset, .unset] [(.int (65535 : Int32)), (.int i1)])) _
  refine XS.iand X0.here hx rfl (hb hby at_48) rfl ?_
  show Steps p.tables e below (T0.setTop (mkF m 49 #[s0, .val (.int i1), s2, s3, .val (.int i4), .unset, .unset, .unset, .unset, .unset] [(.int (i1 &&& (65535 : Int32)))])) _
  refine XS.istore X0.here hx rfl (hb hby at_49) rfl (l' := #[s0, .val (.int i1), s2, s3, .val (.int i4), .val (.int (i1 &&& (65535 : Int32))), .unset, .unset, .unset, .unset]) rfl ?_
  exact kt
set_option maxRecDepth 65536 in
set_option maxHeartbeats 40000000 in
theorem p10 {p : Program} {l : Launch} {e : Env} {R : Room} {s : State} {m : MethodId} {args : Array Value} {below : List Frame} {meth : Method} {c : Code} {T0 : State} {locs : List Loc} {cells slots : Nat} {Z : State} {a0 : Array Value} {h0 : Heap} (s0 : Slot) (i1 : Int32) (s2 : Slot) (s3 : Slot) (i4 : Int32)
    (X0 : Stand p l e R s m args below meth c T0 locs cells slots) (hx : p.tables.exec = Jvm.exec) (hZ : Z.Warmed39 s.vm) (hw : ∀ d ∈ tables_1, d.before a0 Z = true) (hby : c.code = code) (hml : c.maxLocals = 10) (hown : s.vm.findClass "com/example/tagsieve/tagsieve/dicom/TagIsPrivateCreatorPinLaw" = some m.cls) (e0 : T0.heap = h0) :
    ∃ (T' : State), Stand p l e R s m args below meth c T' locs cells slots ∧ T'.heap = h0 ∧
      ∀ target, Steps p.tables e below (T'.setTop (mkF m 51 #[s0, .val (.int i1), s2, s3, .val (.int i4), .val (.int (own_el i4 i1)), .unset, .unset, .unset, .unset] [])) target → Steps p.tables e below (T0.setTop (mkF m 10 #[s0, .val (.int i1), s2, s3, .val (.int i4), .unset, .unset, .unset, .unset, .unset] [])) target := by
  unfold own_el
  by_cases h1 : i4 = (1 : Int32)
  · rw [if_pos h1]
    exact p10a s0 i1 s2 s3 i4 X0 hx hZ hw hby hml hown e0 h1
  · rw [if_neg h1]
    by_cases h2 : i4 = (2 : Int32)
    · rw [if_pos h2]
      exact p10b s0 i1 s2 s3 i4 X0 hx hZ hw hby hml hown e0 h1 h2
    · rw [if_neg h2]
      exact p10c s0 i1 s2 s3 i4 X0 hx hZ hw hby hml hown e0 h1 h2
set_option maxRecDepth 65536 in
set_option maxHeartbeats 40000000 in
theorem p76a {p : Program} {l : Launch} {e : Env} {R : Room} {s : State} {m : MethodId} {args : Array Value} {below : List Frame} {meth : Method} {c : Code} {T0 : State} {locs : List Loc} {cells slots : Nat} {Z : State} {a0 : Array Value} {h0 : Heap} (s0 : Slot) (s1 : Slot) (s2 : Slot) (s3 : Slot) (s4 : Slot) (i5 : Int32) (s6 : Slot) (s7 : Slot) (s8 : Slot) (s9 : Slot)
    (X0 : Stand p l e R s m args below meth c T0 locs cells slots) (hx : p.tables.exec = Jvm.exec) (hZ : Z.Warmed39 s.vm) (hw : ∀ d ∈ tables_1, d.before a0 Z = true) (hby : c.code = code) (hml : c.maxLocals = 10) (hown : s.vm.findClass "com/example/tagsieve/tagsieve/dicom/TagIsPrivateCreatorPinLaw" = some m.cls) (e0 : T0.heap = h0) (hc81 : ¬ (((i5.toUInt32 >>> ((8 : Int32) &&& 31).toUInt32).toInt32) = (0 : Int32))) :
    ∃ (T' : State), Stand p l e R s m args below meth c T' locs cells slots ∧ T'.heap = h0 ∧
      ∀ target, Steps p.tables e below (T'.setTop (mkF m 96 #[s0, s1, s2, s3, s4, .val (.int i5), s6, s7, s8, s9] [(.int (0 : Int32))])) target → Steps p.tables e below (T0.setTop (mkF m 76 #[s0, s1, s2, s3, s4, .val (.int i5), s6, s7, s8, s9] [])) target := by

  refine ⟨T0, X0, e0, fun target kt => ?_⟩
  show Steps p.tables e below (T0.setTop (mkF m 76 #[s0, s1, s2, s3, s4, .val (.int i5), s6, s7, s8, s9] [])) _
  refine XS.iload X0.here hx rfl (hb hby at_76) rfl ?_
  show Steps p.tables e below (T0.setTop (mkF m 78 #[s0, s1, s2, s3, s4, .val (.int i5), s6, s7, s8, s9] [(.int i5)])) _
  refine XS.bipush X0.here hx rfl (hb hby at_78) ?_
  show Steps p.tables e below (T0.setTop (mkF m 80 #[s0, s1, s2, s3, s4, .val (.int i5), s6, s7, s8, s9] [(.int (8 : Int32)), (.int i5)])) _
  refine XS.iushr X0.here hx rfl (hb hby at_80) rfl ?_
  show Steps p.tables e below (T0.setTop (mkF m 81 #[s0, s1, s2, s3, s4, .val (.int i5), s6, s7, s8, s9] [(.int ((i5.toUInt32 >>> ((8 : Int32) &&& 31).toUInt32).toInt32))])) _
  refine XS.ifYes X0.here hx rfl (pc0 := 81) (pc' := 95) rfl (hb hby at_81) rfl ((if0 _ _).trans (feq hc81).2) (by decide) (by decide) ?_
  show Steps p.tables e below (T0.setTop (mkF m 95 #[s0, s1, s2, s3, s4, .val (.int i5), s6, s7, s8, s9] [])) _
  refine XS.iconst X0.here hx rfl (hb hby at_95) ?_
  exact kt
set_option maxRecDepth 65536 in
set_option maxHeartbeats 40000000 in
theorem p76b {p : Program} {l : Launch} {e : Env} {R : Room} {s : State} {m : MethodId} {args : Array Value} {below : List Frame} {meth : Method} {c : Code} {T0 : State} {locs : List Loc} {cells slots : Nat} {Z : State} {a0 : Array Value} {h0 : Heap} (s0 : Slot) (s1 : Slot) (s2 : Slot) (s3 : Slot) (s4 : Slot) (i5 : Int32) (s6 : Slot) (s7 : Slot) (s8 : Slot) (s9 : Slot)
    (X0 : Stand p l e R s m args below meth c T0 locs cells slots) (hx : p.tables.exec = Jvm.exec) (hZ : Z.Warmed39 s.vm) (hw : ∀ d ∈ tables_1, d.before a0 Z = true) (hby : c.code = code) (hml : c.maxLocals = 10) (hown : s.vm.findClass "com/example/tagsieve/tagsieve/dicom/TagIsPrivateCreatorPinLaw" = some m.cls) (e0 : T0.heap = h0) (hc81 : ((i5.toUInt32 >>> ((8 : Int32) &&& 31).toUInt32).toInt32) = (0 : Int32)) (hc88 : ((i5.toUInt32 >>> ((4 : Int32) &&& 31).toUInt32).toInt32) = (0 : Int32)) :
    ∃ (T' : State), Stand p l e R s m args below meth c T' locs cells slots ∧ T'.heap = h0 ∧
      ∀ target, Steps p.tables e below (T'.setTop (mkF m 96 #[s0, s1, s2, s3, s4, .val (.int i5), s6, s7, s8, s9] [(.int (0 : Int32))])) target → Steps p.tables e below (T0.setTop (mkF m 76 #[s0, s1, s2, s3, s4, .val (.int i5), s6, s7, s8, s9] [])) target := by

  refine ⟨T0, X0, e0, fun target kt => ?_⟩
  show Steps p.tables e below (T0.setTop (mkF m 76 #[s0, s1, s2, s3, s4, .val (.int i5), s6, s7, s8, s9] [])) _
  refine XS.iload X0.here hx rfl (hb hby at_76) rfl ?_
  show Steps p.tables e below (T0.setTop (mkF m 78 #[s0, s1, s2, s3, s4, .val (.int i5), s6, s7, s8, s9] [(.int i5)])) _
  refine XS.bipush X0.here hx rfl (hb hby at_78) ?_
  show Steps p.tables e below (T0.setTop (mkF m 80 #[s0, s1, s2, s3, s4, .val (.int i5), s6, s7, s8, s9] [(.int (8 : Int32)), (.int i5)])) _
  refine XS.iushr X0.here hx rfl (hb hby at_80) rfl ?_
  show Steps p.tables e below (T0.setTop (mkF m 81 #[s0, s1, s2, s3, s4, .val (.int i5), s6, s7, s8, s9] [(.int ((i5.toUInt32 >>> ((8 : Int32) &&& 31).toUInt32).toInt32))])) _
  refine XS.ifNo X0.here hx rfl (hb hby at_81) rfl ((if0 _ _).trans (teq hc81).2) ?_
  show Steps p.tables e below (T0.setTop (mkF m 84 #[s0, s1, s2, s3, s4, .val (.int i5), s6, s7, s8, s9] [])) _
  refine XS.iload X0.here hx rfl (hb hby at_84) rfl ?_
  show Steps p.tables e below (T0.setTop (mkF m 86 #[s0, s1, s2, s3, s4, .val (.int i5), s6, s7, s8, s9] [(.int i5)])) _
  refine XS.iconst X0.here hx rfl (hb hby at_86) ?_
  show Steps p.tables e below (T0.setTop (mkF m 87 #[s0, s1, s2, s3, s4, .val (.int i5), s6, s7, s8, s9] [(.int (4 : Int32)), (.int i5)])) _
  refine XS.iushr X0.here hx rfl (hb hby at_87) rfl ?_
  show Steps p.tables e below (T0.setTop (mkF m 88 #[s0, s1, s2, s3, s4, .val (.int i5), s6, s7, s8, s9] [(.int ((i5.toUInt32 >>> ((4 : Int32) &&& 31).toUInt32).toInt32))])) _
  refine XS.ifYes X0.here hx rfl (pc0 := 88) (pc' := 95) rfl (hb hby at_88) rfl ((if0 _ _).trans (teq hc88).1) (by decide) (by decide) ?_
  show Steps p.tables e below (T0.setTop (mkF m 95 #[s0, s1, s2, s3, s4, .val (.int i5), s6, s7, s8, s9] [])) _
  refine XS.iconst X0.here hx rfl (hb hby at_95) ?_
  exact kt
set_option maxRecDepth 65536 in
set_option maxHeartbeats 40000000 in
theorem p76c {p : Program} {l : Launch} {e : Env} {R : Room} {s : State} {m : MethodId} {args : Array Value} {below : List Frame} {meth : Method} {c : Code} {T0 : State} {locs : List Loc} {cells slots : Nat} {Z : State} {a0 : Array Value} {h0 : Heap} (s0 : Slot) (s1 : Slot) (s2 : Slot) (s3 : Slot) (s4 : Slot) (i5 : Int32) (s6 : Slot) (s7 : Slot) (s8 : Slot) (s9 : Slot)
    (X0 : Stand p l e R s m args below meth c T0 locs cells slots) (hx : p.tables.exec = Jvm.exec) (hZ : Z.Warmed39 s.vm) (hw : ∀ d ∈ tables_1, d.before a0 Z = true) (hby : c.code = code) (hml : c.maxLocals = 10) (hown : s.vm.findClass "com/example/tagsieve/tagsieve/dicom/TagIsPrivateCreatorPinLaw" = some m.cls) (e0 : T0.heap = h0) (hc81 : ((i5.toUInt32 >>> ((8 : Int32) &&& 31).toUInt32).toInt32) = (0 : Int32)) (hc88 : ¬ (((i5.toUInt32 >>> ((4 : Int32) &&& 31).toUInt32).toInt32) = (0 : Int32))) :
    ∃ (T' : State), Stand p l e R s m args below meth c T' locs cells slots ∧ T'.heap = h0 ∧
      ∀ target, Steps p.tables e below (T'.setTop (mkF m 96 #[s0, s1, s2, s3, s4, .val (.int i5), s6, s7, s8, s9] [(.int (1 : Int32))])) target → Steps p.tables e below (T0.setTop (mkF m 76 #[s0, s1, s2, s3, s4, .val (.int i5), s6, s7, s8, s9] [])) target := by

  refine ⟨T0, X0, e0, fun target kt => ?_⟩
  show Steps p.tables e below (T0.setTop (mkF m 76 #[s0, s1, s2, s3, s4, .val (.int i5), s6, s7, s8, s9] [])) _
  refine XS.iload X0.here hx rfl (hb hby at_76) rfl ?_
  show Steps p.tables e below (T0.setTop (mkF m 78 #[s0, s1, s2, s3, s4, .val (.int i5), s6, s7, s8, s9] [(.int i5)])) _
  refine XS.bipush X0.here hx rfl (hb hby at_78) ?_
  show Steps p.tables e below (T0.setTop (mkF m 80 #[s0, s1, s2, s3, s4, .val (.int i5), s6, s7, s8, s9] [(.int (8 : Int32)), (.int i5)])) _
  refine XS.iushr X0.here hx rfl (hb hby at_80) rfl ?_
  show Steps p.tables e below (T0.setTop (mkF m 81 #[s0, s1, s2, s3, s4, .val (.int i5), s6, s7, s8, s9] [(.int ((i5.toUInt32 >>> ((8 : Int32) &&& 31).toUInt32).toInt32))])) _
  refine XS.ifNo X0.here hx rfl (hb hby at_81) rfl ((if0 _ _).trans (teq hc81).2) ?_
  show Steps p.tables e below (T0.setTop (mkF m 84 #[s0, s1, s2, s3, s4, .val (.int i5), s6, s7, s8, s9] [])) _
  refine XS.iload X0.here hx rfl (hb hby at_84) rfl ?_
  show Steps p.tables e below (T0.setTop (mkF m 86 #[s0, s1, s2, s3, s4, .val (.int i5), s6, s7, s8, s9] [(.int i5)])) _
  refine XS.iconst X0.here hx rfl (hb hby at_86) ?_
  show Steps p.tables e below (T0.setTop (mkF m 87 #[s0, s1, s2, s3, s4, .val (.int i5), s6, s7, s8, s9] [(.int (4 : Int32)), (.int i5)])) _
  refine XS.iushr X0.here hx rfl (hb hby at_87) rfl ?_
  show Steps p.tables e below (T0.setTop (mkF m 88 #[s0, s1, s2, s3, s4, .val (.int i5), s6, s7, s8, s9] [(.int ((i5.toUInt32 >>> ((4 : Int32) &&& 31).toUInt32).toInt32))])) _
  refine XS.ifNo X0.here hx rfl (hb hby at_88) rfl ((if0 _ _).trans (feq hc88).1) ?_
  show Steps p.tables e below (T0.setTop (mkF m 91 #[s0, s1, s2, s3, s4, .val (.int i5), s6, s7, s8, s9] [])) _
  refine XS.iconst X0.here hx rfl (hb hby at_91) ?_
  show Steps p.tables e below (T0.setTop (mkF m 92 #[s0, s1, s2, s3, s4, .val (.int i5), s6, s7, s8, s9] [(.int (1 : Int32))])) _
  refine XS.goto X0.here hx rfl (pc0 := 92) (pc' := 96) rfl (hb hby at_92) (by decide) (by decide) ?_
  exact kt
set_option maxRecDepth 65536 in
set_option maxHeartbeats 40000000 in
theorem p76 {p : Program} {l : Launch} {e : Env} {R : Room} {s : State} {m : MethodId} {args : Array Value} {below : List Frame} {meth : Method} {c : Code} {T0 : State} {locs : List Loc} {cells slots : Nat} {Z : State} {a0 : Array Value} {h0 : Heap} (s0 : Slot) (s1 : Slot) (s2 : Slot) (s3 : Slot) (s4 : Slot) (i5 : Int32) (s6 : Slot) (s7 : Slot) (s8 : Slot) (s9 : Slot)
    (X0 : Stand p l e R s m args below meth c T0 locs cells slots) (hx : p.tables.exec = Jvm.exec) (hZ : Z.Warmed39 s.vm) (hw : ∀ d ∈ tables_1, d.before a0 Z = true) (hby : c.code = code) (hml : c.maxLocals = 10) (hown : s.vm.findClass "com/example/tagsieve/tagsieve/dicom/TagIsPrivateCreatorPinLaw" = some m.cls) (e0 : T0.heap = h0) :
    ∃ (T' : State), Stand p l e R s m args below meth c T' locs cells slots ∧ T'.heap = h0 ∧
      ∀ target, Steps p.tables e below (T'.setTop (mkF m 96 #[s0, s1, s2, s3, s4, .val (.int i5), s6, s7, s8, s9] [(.int (own_two (((i5.toUInt32 >>> ((8 : Int32) &&& 31).toUInt32).toInt32) = (0 : Int32)) (¬ (((i5.toUInt32 >>> ((4 : Int32) &&& 31).toUInt32).toInt32) = (0 : Int32)))))])) target → Steps p.tables e below (T0.setTop (mkF m 76 #[s0, s1, s2, s3, s4, .val (.int i5), s6, s7, s8, s9] [])) target := by
  unfold own_two
  by_cases h1 : ((i5.toUInt32 >>> ((8 : Int32) &&& 31).toUInt32).toInt32) = (0 : Int32)
  · rw [if_pos h1]
    by_cases h2 : ((i5.toUInt32 >>> ((4 : Int32) &&& 31).toUInt32).toInt32) = (0 : Int32)
    · rw [if_neg (fun q => q h2)]
      exact p76b s0 s1 s2 s3 s4 i5 s6 s7 s8 s9 X0 hx hZ hw hby hml hown e0 h1 h2
    · rw [if_pos h2]
      exact p76c s0 s1 s2 s3 s4 i5 s6 s7 s8 s9 X0 hx hZ hw hby hml hown e0 h1 h2
  · rw [if_neg h1]
    exact p76a s0 s1 s2 s3 s4 i5 s6 s7 s8 s9 X0 hx hZ hw hby hml hown e0 h1
set_option maxRecDepth 65536 in
set_option maxHeartbeats 40000000 in
theorem p98a {p : Program} {l : Launch} {e : Env} {R : Room} {s : State} {m : MethodId} {args : Array Value} {below : List Frame} {meth : Method} {c : Code} {T0 : State} {locs : List Loc} {cells slots : Nat} {Z : State} {a0 : Array Value} {h0 : Heap} (s0 : Slot) (s1 : Slot) (s2 : Slot) (s3 : Slot) (s4 : Slot) (s5 : Slot) (s6 : Slot) (i7 : Int32) (s9 : Slot) (i8 : Int32)
    (X0 : Stand p l e R s m args below meth c T0 locs cells slots) (hx : p.tables.exec = Jvm.exec) (hZ : Z.Warmed39 s.vm) (hw : ∀ d ∈ tables_1, d.before a0 Z = true) (hby : c.code = code) (hml : c.maxLocals = 10) (hown : s.vm.findClass "com/example/tagsieve/tagsieve/dicom/TagIsPrivateCreatorPinLaw" = some m.cls) (e0 : T0.heap = h0) (hc100 : i7 = (0 : Int32)) :
    ∃ (T' : State), Stand p l e R s m args below meth c T' locs cells slots ∧ T'.heap = h0 ∧
      ∀ target, Steps p.tables e below (T'.setTop (mkF m 113 #[s0, s1, s2, s3, s4, s5, s6, .val (.int i7), .val (.int i8), s9] [(.int (0 : Int32))])) target → Steps p.tables e below (T0.setTop (mkF m 98 #[s0, s1, s2, s3, s4, s5, s6, .val (.int i7), .val (.int i8), s9] [])) target := by

  refine ⟨T0, X0, e0, fun target kt => ?_⟩
  show Steps p.tables e below (T0.setTop (mkF m 98 #[s0, s1, s2, s3, s4, s5, s6, .val (.int i7), .val (.int i8), s9] [])) _
  refine XS.iload X0.here hx rfl (hb hby at_98) rfl ?_
  show Steps p.tables e below (T0.setTop (mkF m 100 #[s0, s1, s2, s3, s4, s5, s6, .val (.int i7), .val (.int i8), s9] [(.int i7)])) _
  refine XS.ifYes X0.here hx rfl (pc0 := 100) (pc' := 112) rfl (hb hby at_100) rfl ((if0 _ _).trans (teq hc100).1) (by decide) (by decide) ?_
  show Steps p.tables e below (T0.setTop (mkF m 112 #[s0, s1, s2, s3, s4, s5, s6, .val (.int i7), .val (.int i8), s9] [])) _
  refine XS.iconst X0.here hx rfl (hb hby at_112) ?_
  exact kt
set_option maxRecDepth 65536 in
set_option maxHeartbeats 40000000 in
theorem p98b {p : Program} {l : Launch} {e : Env} {R : Room} {s : State} {m : MethodId} {args : Array Value} {below : List Frame} {meth : Method} {c : Code} {T0 : State} {locs : List Loc} {cells slots : Nat} {Z : State} {a0 : Array Value} {h0 : Heap} (s0 : Slot) (s1 : Slot) (s2 : Slot) (s3 : Slot) (s4 : Slot) (s5 : Slot) (s6 : Slot) (i7 : Int32) (s9 : Slot) (i8 : Int32)
    (X0 : Stand p l e R s m args below meth c T0 locs cells slots) (hx : p.tables.exec = Jvm.exec) (hZ : Z.Warmed39 s.vm) (hw : ∀ d ∈ tables_1, d.before a0 Z = true) (hby : c.code = code) (hml : c.maxLocals = 10) (hown : s.vm.findClass "com/example/tagsieve/tagsieve/dicom/TagIsPrivateCreatorPinLaw" = some m.cls) (e0 : T0.heap = h0) (hc100 : ¬ (i7 = (0 : Int32))) (hc105 : i8 = (0 : Int32)) :
    ∃ (T' : State), Stand p l e R s m args below meth c T' locs cells slots ∧ T'.heap = h0 ∧
      ∀ target, Steps p.tables e below (T'.setTop (mkF m 113 #[s0, s1, s2, s3, s4, s5, s6, .val (.int i7), .val (.int i8), s9] [(.int (0 : Int32))])) target → Steps p.tables e below (T0.setTop (mkF m 98 #[s0, s1, s2, s3, s4, s5, s6, .val (.int i7), .val (.int i8), s9] [])) target := by

  refine ⟨T0, X0, e0, fun target kt => ?_⟩
  show Steps p.tables e below (T0.setTop (mkF m 98 #[s0, s1, s2, s3, s4, s5, s6, .val (.int i7), .val (.int i8), s9] [])) _
  refine XS.iload X0.here hx rfl (hb hby at_98) rfl ?_
  show Steps p.tables e below (T0.setTop (mkF m 100 #[s0, s1, s2, s3, s4, s5, s6, .val (.int i7), .val (.int i8), s9] [(.int i7)])) _
  refine XS.ifNo X0.here hx rfl (hb hby at_100) rfl ((if0 _ _).trans (feq hc100).1) ?_
  show Steps p.tables e below (T0.setTop (mkF m 103 #[s0, s1, s2, s3, s4, s5, s6, .val (.int i7), .val (.int i8), s9] [])) _
  refine XS.iload X0.here hx rfl (hb hby at_103) rfl ?_
  show Steps p.tables e below (T0.setTop (mkF m 105 #[s0, s1, s2, s3, s4, s5, s6, .val (.int i7), .val (.int i8), s9] [(.int i8)])) _
  refine XS.ifYes X0.here hx rfl (pc0 := 105) (pc' := 112) rfl (hb hby at_105) rfl ((if0 _ _).trans (teq hc105).1) (by decide) (by decide) ?_
  show Steps p.tables e below (T0.setTop (mkF m 112 #[s0, s1, s2, s3, s4, s5, s6, .val (.int i7), .val (.int i8), s9] [])) _
  refine XS.iconst X0.here hx rfl (hb hby at_112) ?_
  exact kt
set_option maxRecDepth 65536 in
set_option maxHeartbeats 40000000 in
theorem p98c {p : Program} {l : Launch} {e : Env} {R : Room} {s : State} {m : MethodId} {args : Array Value} {below : List Frame} {meth : Method} {c : Code} {T0 : State} {locs : List Loc} {cells slots : Nat} {Z : State} {a0 : Array Value} {h0 : Heap} (s0 : Slot) (s1 : Slot) (s2 : Slot) (s3 : Slot) (s4 : Slot) (s5 : Slot) (s6 : Slot) (i7 : Int32) (s9 : Slot) (i8 : Int32)
    (X0 : Stand p l e R s m args below meth c T0 locs cells slots) (hx : p.tables.exec = Jvm.exec) (hZ : Z.Warmed39 s.vm) (hw : ∀ d ∈ tables_1, d.before a0 Z = true) (hby : c.code = code) (hml : c.maxLocals = 10) (hown : s.vm.findClass "com/example/tagsieve/tagsieve/dicom/TagIsPrivateCreatorPinLaw" = some m.cls) (e0 : T0.heap = h0) (hc100 : ¬ (i7 = (0 : Int32))) (hc105 : ¬ (i8 = (0 : Int32))) :
    ∃ (T' : State), Stand p l e R s m args below meth c T' locs cells slots ∧ T'.heap = h0 ∧
      ∀ target, Steps p.tables e below (T'.setTop (mkF m 113 #[s0, s1, s2, s3, s4, s5, s6, .val (.int i7), .val (.int i8), s9] [(.int (1 : Int32))])) target → Steps p.tables e below (T0.setTop (mkF m 98 #[s0, s1, s2, s3, s4, s5, s6, .val (.int i7), .val (.int i8), s9] [])) target := by

  refine ⟨T0, X0, e0, fun target kt => ?_⟩
  show Steps p.tables e below (T0.setTop (mkF m 98 #[s0, s1, s2, s3, s4, s5, s6, .val (.int i7), .val (.int i8), s9] [])) _
  refine XS.iload X0.here hx rfl (hb hby at_98) rfl ?_
  show Steps p.tables e below (T0.setTop (mkF m 100 #[s0, s1, s2, s3, s4, s5, s6, .val (.int i7), .val (.int i8), s9] [(.int i7)])) _
  refine XS.ifNo X0.here hx rfl (hb hby at_100) rfl ((if0 _ _).trans (feq hc100).1) ?_
  show Steps p.tables e below (T0.setTop (mkF m 103 #[s0, s1, s2, s3, s4, s5, s6, .val (.int i7), .val (.int i8), s9] [])) _
  refine XS.iload X0.here hx rfl (hb hby at_103) rfl ?_
  show Steps p.tables e below (T0.setTop (mkF m 105 #[s0, s1, s2, s3, s4, s5, s6, .val (.int i7), .val (.int i8), s9] [(.int i8)])) _
  refine XS.ifNo X0.here hx rfl (hb hby at_105) rfl ((if0 _ _).trans (feq hc105).1) ?_
  show Steps p.tables e below (T0.setTop (mkF m 108 #[s0, s1, s2, s3, s4, s5, s6, .val (.int i7), .val (.int i8), s9] [])) _
  refine XS.iconst X0.here hx rfl (hb hby at_108) ?_
  show Steps p.tables e below (T0.setTop (mkF m 109 #[s0, s1, s2, s3, s4, s5, s6, .val (.int i7), .val (.int i8), s9] [(.int (1 : Int32))])) _
  refine XS.goto X0.here hx rfl (pc0 := 109) (pc' := 113) rfl (hb hby at_109) (by decide) (by decide) ?_
  exact kt
set_option maxRecDepth 65536 in
set_option maxHeartbeats 40000000 in
theorem p98 {p : Program} {l : Launch} {e : Env} {R : Room} {s : State} {m : MethodId} {args : Array Value} {below : List Frame} {meth : Method} {c : Code} {T0 : State} {locs : List Loc} {cells slots : Nat} {Z : State} {a0 : Array Value} {h0 : Heap} (s0 : Slot) (s1 : Slot) (s2 : Slot) (s3 : Slot) (s4 : Slot) (s5 : Slot) (s6 : Slot) (i7 : Int32) (s9 : Slot) (i8 : Int32)
    (X0 : Stand p l e R s m args below meth c T0 locs cells slots) (hx : p.tables.exec = Jvm.exec) (hZ : Z.Warmed39 s.vm) (hw : ∀ d ∈ tables_1, d.before a0 Z = true) (hby : c.code = code) (hml : c.maxLocals = 10) (hown : s.vm.findClass "com/example/tagsieve/tagsieve/dicom/TagIsPrivateCreatorPinLaw" = some m.cls) (e0 : T0.heap = h0) :
    ∃ (T' : State), Stand p l e R s m args below meth c T' locs cells slots ∧ T'.heap = h0 ∧
      ∀ target, Steps p.tables e below (T'.setTop (mkF m 113 #[s0, s1, s2, s3, s4, s5, s6, .val (.int i7), .val (.int i8), s9] [(.int (own_two (¬ (i7 = (0 : Int32))) (¬ (i8 = (0 : Int32)))))])) target → Steps p.tables e below (T0.setTop (mkF m 98 #[s0, s1, s2, s3, s4, s5, s6, .val (.int i7), .val (.int i8), s9] [])) target := by
  unfold own_two
  by_cases h1 : i7 = (0 : Int32)
  · rw [if_neg (fun q => q h1)]
    exact p98a s0 s1 s2 s3 s4 s5 s6 i7 s9 i8 X0 hx hZ hw hby hml hown e0 h1
  · rw [if_pos h1]
    by_cases h2 : i8 = (0 : Int32)
    · rw [if_neg (fun q => q h2)]
      exact p98b s0 s1 s2 s3 s4 s5 s6 i7 s9 i8 X0 hx hZ hw hby hml hown e0 h1 h2
    · rw [if_pos h2]
      exact p98c s0 s1 s2 s3 s4 s5 s6 i7 s9 i8 X0 hx hZ hw hby hml hown e0 h1 h2
theorem pn_0 : plainName "com/example/tagsieve/tagsieve/dicom/TagIsPrivateCreatorPinLaw" = true := by first | (simp [plainName, overriddenIn]; done) | decide +kernel
theorem pd_0_0 : parseMethodDescriptor "(II)V" = some ⟨[.int, .int], none⟩ := by decide +kernel
theorem pd_0_2 : parseMethodDescriptor "()Z" = some ⟨[], some .boolean⟩ := by decide +kernel
theorem ef_0 (m : MethodId) (x0 : Int32) (x1 : Int32) (x2 : Int32) : entryFrame m #[(.int x0), (.int x1), (.int x2)] maxLocals = mkF m 0 #[.val (.int x0), .val (.int x1), .val (.int x2), .unset, .unset, .unset, .unset, .unset, .unset, .unset] [] := by first | (simp [entryFrame, mkF, argsToLocals, Value.category, maxLocals]; done) | rfl
def Q0 (Z : State) (p1 : Int32) (p2 : Int32) (p3 : Int32) (h0 : Heap) (n0 : Nat) (v : Option Value) (h : Heap) (L : List Loc) : Prop := v = some (.int (1 : Int32)) ∧ Fr n0 L
set_option maxRecDepth 65536 in
set_option maxHeartbeats 40000000 in
theorem rm0 (l : Launch) (Z : State) (a0 : Array Value) (hw : ∀ d ∈ tables_1, d.before a0 Z = true) (ws : List Jvm.Cond) (p1 : Int32) (p2 : Int32) (p3 : Int32) (h0 : Heap) (n0 : Nat) (Z0 : n0 ≤ h0.size) :
    MetFree l x (head1 (Jvm.Cond.code x code maxLocals ret :: ws) room_1) (fun a U => a = #[(.int p1), (.int p2), (.int p3)] ∧ Z.Warmed39 U.vm ∧ U.heap = h0) (fun _ _ _ _ _ => True) (fun _ U o U' => ∃ v L, o = .returned v ∧ Q0 Z p1 p2 p3 h0 n0 v U'.heap L ∧ FrameEnd U o U' L room_1.cells room_1.slots) := by
  refine MetFree.of_bodySF (plainFor_of_name pn_0) hisR ?_
  intro p e s m args below meth c s₁ Bd hml0 hP hK
  obtain ⟨rfl, hZ, hh⟩ := hP
  have hx := Bd.exec
  have hby := Bd.bytes
  have hml : c.maxLocals = 10 := hml0
  have hown : s.vm.findClass "com/example/tagsieve/tagsieve/dicom/TagIsPrivateCreatorPinLaw" = some m.cls := findClass_of_methodNamed Bd.named
  have hnm := (name_of_methodNamed Bd.named Bd.method).1
  have X0 : Stand p l e room_1 s m #[(.int p1), (.int p2), (.int p3)] below meth c s₁ [] 0 0 := Stand.of_body Bd
  have e0 : s₁.heap = h0 := by rw [← hh, Bd.state]; rfl
  have N0 := Fr.nil n0
  have pre0 : ∀ t, Steps p.tables e below (s₁.setTop (mkF m 0 #[.val (.int p1), .val (.int p2), .val (.int p3), .unset, .unset, .unset, .unset, .unset, .unset, .unset] [])) t → Steps p.tables e below (s₁.setTop (entryFrame m #[(.int p1), (.int p2), (.int p3)] maxLocals)) t := fun t k => castTop (ef_0 m p1 p2 p3) k
  obtain ⟨gr, h_gr⟩ : ∃ z : Int32, z = (p1 &&& (65535 : Int32)) := ⟨_, rfl⟩
  obtain ⟨md, h_md⟩ : ∃ z : Int32, z = (p3 &&& (3 : Int32)) := ⟨_, rfl⟩
  obtain ⟨el, h_el⟩ : ∃ z : Int32, z = own_el md p2 := ⟨_, rfl⟩
  obtain ⟨Ta, Xa, ea, sta⟩ := p10 (.val (.int p1)) p2 (.val (.int p3)) (.val (.int gr)) md X0 hx hZ hw hby hml hown e0
  rw [← h_el] at sta
  have hhg : (gr &&& (-65536 : Int32)) = (0 : Int32) := by
    obtain ⟨n, hn, en⟩ := own_and p1 16 (by decide) 65535 rfl
    rw [h_gr, en]; exact own_high n hn
  have hhe : (el &&& (-65536 : Int32)) = (0 : Int32) := by
    obtain ⟨n, hn, en⟩ := own_el16 md p2
    rw [h_el, en]; exact own_high n hn
  obtain ⟨T4, h4, X4, e4, E4, A4, D4, -, st4⟩ := newO Xa hx hZ hown (hw _ (List.mem_of_getElem? (i := 1) rfl)) (hw _ (List.mem_of_getElem? (i := 2) rfl)) (hw _ (List.mem_of_getElem? (i := 3) rfl)) ea (g := (mkF m 51 #[.val (.int p1), .val (.int p2), .val (.int p3), .val (.int gr), .val (.int md), .val (.int el), .unset, .unset, .unset, .unset] [])) rfl (hb hby at_51) (by decide) (by decide)
  obtain ⟨b4, g4⟩ : ∃ z, z = h0.size := ⟨_, rfl⟩
  rw [← g4] at A4 D4 st4
  have F_group_b4 : Fld Z h4 b4 "com/example/tagsieve/tagsieve/dicom/Tag" "group" "I" (.int (0 : Int32)) := D4 (Or.inr (hw _ (List.mem_of_getElem? (i := 17) rfl))) (ty := .int) (by decide)
  have F_element_b4 : Fld Z h4 b4 "com/example/tagsieve/tagsieve/dicom/Tag" "element" "I" (.int (0 : Int32)) := D4 (Or.inr (hw _ (List.mem_of_getElem? (i := 19) rfl))) (ty := .int) (by decide)
  have E_b4 := A4
  have g_b4 : n0 ≤ b4 := Nat.le_trans Z0 (Nat.le_of_eq g4.symm)
  have sz_b4 : h0.size ≤ b4 := (Nat.le_trans (Keep.refl h0 []).1 (Nat.le_of_eq g4.symm))
  have K4 : Keep h0 h4 [] := (Keep.refl h0 []).ext E4
  obtain ⟨_, _, ⟨T5, L5, k5, n5⟩, -, X5, ⟨Lc5, hQ5, l5, y5, z5⟩, st5⟩ := X4.specialBack hx (y := (⟨"com/example/tagsieve/tagsieve/dicom/Tag", "<init>", "(II)V"⟩ : MethodName)) rfl hown (mvT hZ (hw _ (List.mem_of_getElem? (i := 4) rfl))) (mvT hZ (hw _ (List.mem_of_getElem? (i := 5) rfl))) (mvT hZ (hw _ (List.mem_of_getElem? (i := 6) rfl))) (by decide) (backOf (W := 1) (rm1 l Z a0 hw [] b4 gr el (.int (0 : Int32)) (.int (0 : Int32)) h4 n0 (Nat.le_trans Z0 E4.1) E_b4 F_group_b4 g_b4 F_element_b4 hhg hhe) hZ (hw _ (List.mem_of_getElem? (i := 6) rfl)) (hw _ (List.mem_of_getElem? (i := 3) rfl)) (by decide) (by decide)) (g := (mkF m 58 #[.val (.int p1), .val (.int p2), .val (.int p3), .val (.int gr), .val (.int md), .val (.int el), .unset, .unset, .unset, .unset] [(.int el), (.int gr), (.ref b4), (.ref b4)])) rfl (by rw [hml]; rfl) (Steps.refl _) (a := b4) (argsL := [(.int gr), (.int el)]) (rest := [(.ref b4)]) (lenOf pd_0_0 rfl) rfl (by show 2 * 0 + _ ≤ _; exact Nat.le_of_eq rfl) (hb hby at_58) (fun _ _ => ⟨rfl, e4, (by decide : 1 + 0 ≤ _), (by decide : 2 + 0 ≤ _)⟩)
  dsimp only [Pt.U, Pt.locs, Pt.cells, Pt.slots] at X5 l5 y5 z5 st5 hQ5
  subst l5 y5 z5
  obtain ⟨rfl, N5q, Kq5, Ex5, Fg5, Fe5⟩ := hQ5
  have N5 := Fr.app N0 N5q
  obtain ⟨og, h_og⟩ : ∃ z : Int32, z = (if ¬ ((gr &&& (1 : Int32)) = (0 : Int32)) then (1 : Int32) else 0) := ⟨_, rfl⟩
  obtain ⟨Tb, Xb, eb, stb⟩ := p76 (.val (.int p1)) (.val (.int p2)) (.val (.int p3)) (.val (.int gr)) (.val (.int md)) el (.val (.ref b4)) (.val (.int og)) .unset .unset X5 hx hZ hw hby hml hown rfl
  obtain ⟨cr, h_cr⟩ : ∃ z : Int32, z = (own_two (((el.toUInt32 >>> ((8 : Int32) &&& 31).toUInt32).toInt32) = (0 : Int32)) (¬ (((el.toUInt32 >>> ((4 : Int32) &&& 31).toUInt32).toInt32) = (0 : Int32)))) := ⟨_, rfl⟩
  obtain ⟨Tc, Xc, ec, stc⟩ := p98 (.val (.int p1)) (.val (.int p2)) (.val (.int p3)) (.val (.int gr)) (.val (.int md)) (.val (.int el)) (.val (.ref b4)) og .unset cr Xb hx hZ hw hby hml hown eb
  obtain ⟨xp, h_xp⟩ : ∃ z : Int32, z = (own_two (¬ (og = (0 : Int32))) (¬ (cr = (0 : Int32)))) := ⟨_, rfl⟩
  obtain ⟨cq6, kq6, q6a, q6b, q6c⟩ := isOf hZ ec Ex5
  obtain ⟨_, _, ⟨T6, L6, k6, n6⟩, -, X6, ⟨Lc6, hQ6, l6, y6, z6⟩, st6⟩ := Xc.virtualBack hx (y := (⟨"com/example/tagsieve/tagsieve/dicom/Tag", "isPrivateCreator", "()Z"⟩ : MethodName)) (z := (⟨"com/example/tagsieve/tagsieve/dicom/Tag", "isPrivateCreator", "()Z"⟩ : MethodName)) hown (mvT hZ (hw _ (List.mem_of_getElem? (i := 20) rfl))) (mvT hZ (hw _ (List.mem_of_getElem? (i := 21) rfl))) (notFace_of_selects (args := #[]) (mvT hZ (hw _ (List.mem_of_getElem? (i := 23) rfl)))) (mvT hZ (hw _ (List.mem_of_getElem? (i := 23) rfl))) (mvT hZ (hw _ (List.mem_of_getElem? (i := 22) rfl))) (by decide) (backOf (W := 0) (rm4 l Z a0 hw [] b4 gr el T5.heap n0 (Nat.le_trans (Nat.le_trans Z0 E4.1) Kq5.1) Fg5 Fe5) hZ (hw _ (List.mem_of_getElem? (i := 24) rfl)) (hw _ (List.mem_of_getElem? (i := 3) rfl)) (by decide) (by decide)) q6a q6c (g := (mkF m 117 #[.val (.int p1), .val (.int p2), .val (.int p3), .val (.int gr), .val (.int md), .val (.int el), .val (.ref b4), .val (.int og), .val (.int cr), .val (.int xp)] [(.ref b4)])) rfl (by rw [hml]; rfl) (Steps.refl _) (argsL := []) (rest := []) (lenOf pd_0_2 rfl) rfl (by show 2 * 0 + _ ≤ _; exact Nat.le_of_eq rfl) (hb hby at_117) (fun _ _ => ⟨rfl, ec, (by decide : 1 + 0 ≤ _), (by decide : 2 + 0 ≤ _)⟩)
  dsimp only [Pt.U, Pt.locs, Pt.cells, Pt.slots] at X6 l6 y6 z6 st6 hQ6
  subst l6 y6 z6
  obtain ⟨rfl, N6q, e6⟩ := hQ6
  have N6 := Fr.app N5 N6q
  have hc122 : own_ipc gr el = xp := by
    subst h_xp h_cr h_og h_el h_gr
    exact own_law p1 p2 md
  obtain ⟨fs, hr, hrun, hended, hW, hsame⟩ := X6.leave (v := some (.int (1 : Int32))) (fun h => by rw [Bd.returns] at h; cases h)
  refine ⟨_, _, pre0 _ ?_, hrun, hended, _, _, rfl, ?_, ⟨_, rfl⟩, hW, hsame.mono (by decide) (by decide)⟩
  · show Steps p.tables e below (s₁.setTop (mkF m 0 #[.val (.int p1), .val (.int p2), .val (.int p3), .unset, .unset, .unset, .unset, .unset, .unset, .unset] [])) _
    refine XS.iloadN X0.here hx rfl (hb hby at_0) rfl ?_
    show Steps p.tables e below (s₁.setTop (mkF m 1 #[.val (.int p1), .val (.int p2), .val (.int p3), .unset, .unset, .unset, .unset, .unset, .unset, .unset] [(.int p1)])) _
    refine X0.ldcInt hx hown (mvT hZ (hw _ (List.mem_of_getElem? (i := 0) rfl))) (g := (mkF m 1 #[.val (.int p1), .val (.int p2), .val (.int p3), .unset, .unset, .unset, .unset, .unset, .unset, .unset] [(.int p1)])) rfl (hb hby at_1) _ ?_
    show Steps p.tables e below (s₁.setTop (mkF m 3 #[.val (.int p1), .val (.int p2), .val (.int p3), .unset, .unset, .unset, .unset, .unset, .unset, .unset] [(.int (65535 : Int32)), (.int p1)])) _
    refine XS.iand X0.here hx rfl (hb hby at_3) rfl ?_
    show Steps p.tables e below (s₁.setTop (mkF m 4 #[.val (.int p1), .val (.int p2), .val (.int p3), .unset, .unset, .unset, .unset, .unset, .unset, .unset] [(.int (p1 &&& (65535 : Int32)))])) _
    refine XS.istoreN X0.here hx rfl (hb hby at_4) (x := gr) (rest := []) (by subst h_gr; rfl) (l' := #[.val (.int p1), .val (.int p2), .val (.int p3), .val (.int gr), .unset, .unset, .unset, .unset, .unset, .unset]) rfl ?_
    show Steps p.tables e below (s₁.setTop (mkF m 5 #[.val (.int p1), .val (.int p2), .val (.int p3), .val (.int gr), .unset, .unset, .unset, .unset, .unset, .unset] [])) _
    refine XS.iloadN X0.here hx rfl (hb hby at_5) rfl ?_
    show Steps p.tables e below (s₁.setTop (mkF m 6 #[.val (.int p1), .val (.int p2), .val (.int p3), .val (.int gr), .unset, .unset, .unset, .unset, .unset, .unset] [(.int p3)])) _
    refine XS.iconst X0.here hx rfl (hb hby at_6) ?_
    show Steps p.tables e below (s₁.setTop (mkF m 7 #[.val (.int p1), .val (.int p2), .val (.int p3), .val (.int gr), .unset, .unset, .unset, .unset, .unset, .unset] [(.int (3 : Int32)), (.int p3)])) _
    refine XS.iand X0.here hx rfl (hb hby at_7) rfl ?_
    show Steps p.tables e below (s₁.setTop (mkF m 8 #[.val (.int p1), .val (.int p2), .val (.int p3), .val (.int gr), .unset, .unset, .unset, .unset, .unset, .unset] [(.int (p3 &&& (3 : Int32)))])) _
    refine XS.istore X0.here hx rfl (hb hby at_8) (x := md) (rest := []) (by subst h_md; rfl) (l' := #[.val (.int p1), .val (.int p2), .val (.int p3), .val (.int gr), .val (.int md), .unset, .unset, .unset, .unset, .unset]) rfl ?_
    show Steps p.tables e below (s₁.setTop (mkF m 10 #[.val (.int p1), .val (.int p2), .val (.int p3), .val (.int gr), .val (.int md), .unset, .unset, .unset, .unset, .unset] [])) _
    refine sta _ ?_
    show Steps p.tables e below (Ta.setTop (mkF m 51 #[.val (.int p1), .val (.int p2), .val (.int p3), .val (.int gr), .val (.int md), .val (.int el), .unset, .unset, .unset, .unset] [])) _
    refine st4 _ ?_
    show Steps p.tables e below (T4.setTop (mkF m 54 #[.val (.int p1), .val (.int p2), .val (.int p3), .val (.int gr), .val (.int md), .val (.int el), .unset, .unset, .unset, .unset] [(.ref b4)])) _
    refine XS.dup X4.here hx rfl (hb hby at_54) rfl rfl ?_
    show Steps p.tables e below (T4.setTop (mkF m 55 #[.val (.int p1), .val (.int p2), .val (.int p3), .val (.int gr), .val (.int md), .val (.int el), .unset, .unset, .unset, .unset] [(.ref b4), (.ref b4)])) _
    refine XS.iloadN X4.here hx rfl (hb hby at_55) rfl ?_
    show Steps p.tables e below (T4.setTop (mkF m 56 #[.val (.int p1), .val (.int p2), .val (.int p3), .val (.int gr), .val (.int md), .val (.int el), .unset, .unset, .unset, .unset] [(.int gr), (.ref b4), (.ref b4)])) _
    refine XS.iload X4.here hx rfl (hb hby at_56) rfl ?_
    show Steps p.tables e below (T4.setTop (mkF m 58 #[.val (.int p1), .val (.int p2), .val (.int p3), .val (.int gr), .val (.int md), .val (.int el), .unset, .unset, .unset, .unset] [(.int el), (.int gr), (.ref b4), (.ref b4)])) _
    refine st5.trans ?_
    show Steps p.tables e below (T5.setTop (mkF m 61 #[.val (.int p1), .val (.int p2), .val (.int p3), .val (.int gr), .val (.int md), .val (.int el), .unset, .unset, .unset, .unset] [(.ref b4)])) _
    refine XS.astore X5.here hx rfl (hb hby at_61) rfl rfl (l' := #[.val (.int p1), .val (.int p2), .val (.int p3), .val (.int gr), .val (.int md), .val (.int el), .val (.ref b4), .unset, .unset, .unset]) rfl ?_
    show Steps p.tables e below (T5.setTop (mkF m 63 #[.val (.int p1), .val (.int p2), .val (.int p3), .val (.int gr), .val (.int md), .val (.int el), .val (.ref b4), .unset, .unset, .unset] [])) _
    refine XS.iloadN X5.here hx rfl (hb hby at_63) rfl ?_
    show Steps p.tables e below (T5.setTop (mkF m 64 #[.val (.int p1), .val (.int p2), .val (.int p3), .val (.int gr), .val (.int md), .val (.int el), .val (.ref b4), .unset, .unset, .unset] [(.int gr)])) _
    refine XS.iconst X5.here hx rfl (hb hby at_64) ?_
    show Steps p.tables e below (T5.setTop (mkF m 65 #[.val (.int p1), .val (.int p2), .val (.int p3), .val (.int gr), .val (.int md), .val (.int el), .val (.ref b4), .unset, .unset, .unset] [(.int (1 : Int32)), (.int gr)])) _
    refine XS.iand X5.here hx rfl (hb hby at_65) rfl ?_
    show Steps p.tables e below (T5.setTop (mkF m 66 #[.val (.int p1), .val (.int p2), .val (.int p3), .val (.int gr), .val (.int md), .val (.int el), .val (.ref b4), .unset, .unset, .unset] [(.int (gr &&& (1 : Int32)))])) _
    refine own_tif_eq X5.here hx (hb hby at_66) (hb hby at_69) (hb hby at_70) (hb hby at_73) ?_
    show Steps p.tables e below (T5.setTop (mkF m 74 #[.val (.int p1), .val (.int p2), .val (.int p3), .val (.int gr), .val (.int md), .val (.int el), .val (.ref b4), .unset, .unset, .unset] [(.int (if ¬ ((gr &&& (1 : Int32)) = (0 : Int32)) then (1 : Int32) else 0))])) _
    refine XS.istore X5.here hx rfl (hb hby at_74) (x := og) (rest := []) (by subst h_og; rfl) (l' := #[.val (.int p1), .val (.int p2), .val (.int p3), .val (.int gr), .val (.int md), .val (.int el), .val (.ref b4), .val (.int og), .unset, .unset]) rfl ?_
    show Steps p.tables e below (T5.setTop (mkF m 76 #[.val (.int p1), .val (.int p2), .val (.int p3), .val (.int gr), .val (.int md), .val (.int el), .val (.ref b4), .val (.int og), .unset, .unset] [])) _
    refine stb _ ?_
    show Steps p.tables e below (Tb.setTop (mkF m 96 #[.val (.int p1), .val (.int p2), .val (.int p3), .val (.int gr), .val (.int md), .val (.int el), .val (.ref b4), .val (.int og), .unset, .unset] [(.int (own_two (((el.toUInt32 >>> ((8 : Int32) &&& 31).toUInt32).toInt32) = (0 : Int32)) (¬ (((el.toUInt32 >>> ((4 : Int32) &&& 31).toUInt32).toInt32) = (0 : Int32)))))])) _
    refine XS.istore Xb.here hx rfl (hb hby at_96) (x := cr) (rest := []) (by subst h_cr; rfl) (l' := #[.val (.int p1), .val (.int p2), .val (.int p3), .val (.int gr), .val (.int md), .val (.int el), .val (.ref b4), .val (.int og), .val (.int cr), .unset]) rfl ?_
    show Steps p.tables e below (Tb.setTop (mkF m 98 #[.val (.int p1), .val (.int p2), .val (.int p3), .val (.int gr), .val (.int md), .val (.int el), .val (.ref b4), .val (.int og), .val (.int cr), .unset] [])) _
    refine stc _ ?_
    show Steps p.tables e below (Tc.setTop (mkF m 113 #[.val (.int p1), .val (.int p2), .val (.int p3), .val (.int gr), .val (.int md), .val (.int el), .val (.ref b4), .val (.int og), .val (.int cr), .unset] [(.int (own_two (¬ (og = (0 : Int32))) (¬ (cr = (0 : Int32)))))])) _
    refine XS.istore Xc.here hx rfl (hb hby at_113) (x := xp) (rest := []) (by subst h_xp; rfl) (l' := #[.val (.int p1), .val (.int p2), .val (.int p3), .val (.int gr), .val (.int md), .val (.int el), .val (.ref b4), .val (.int og), .val (.int cr), .val (.int xp)]) rfl ?_
    show Steps p.tables e below (Tc.setTop (mkF m 115 #[.val (.int p1), .val (.int p2), .val (.int p3), .val (.int gr), .val (.int md), .val (.int el), .val (.ref b4), .val (.int og), .val (.int cr), .val (.int xp)] [])) _
    refine XS.aload Xc.here hx rfl (hb hby at_115) rfl rfl ?_
    show Steps p.tables e below (Tc.setTop (mkF m 117 #[.val (.int p1), .val (.int p2), .val (.int p3), .val (.int gr), .val (.int md), .val (.int el), .val (.ref b4), .val (.int og), .val (.int cr), .val (.int xp)] [(.ref b4)])) _
    refine st6.trans ?_
    show Steps p.tables e below (T6.setTop (mkF m 120 #[.val (.int p1), .val (.int p2), .val (.int p3), .val (.int gr), .val (.int md), .val (.int el), .val (.ref b4), .val (.int og), .val (.int cr), .val (.int xp)] [(.int (own_ipc gr el))])) _
    refine XS.iload X6.here hx rfl (hb hby at_120) rfl ?_
    show Steps p.tables e below (T6.setTop (mkF m 122 #[.val (.int p1), .val (.int p2), .val (.int p3), .val (.int gr), .val (.int md), .val (.int el), .val (.ref b4), .val (.int og), .val (.int cr), .val (.int xp)] [(.int xp), (.int (own_ipc gr el))])) _
    refine XS.icmpNo X6.here hx rfl (hb hby at_122) rfl (teq hc122).2 ?_
    show Steps p.tables e below (T6.setTop (mkF m 125 #[.val (.int p1), .val (.int p2), .val (.int p3), .val (.int gr), .val (.int md), .val (.int el), .val (.ref b4), .val (.int og), .val (.int cr), .val (.int xp)] [])) _
    refine XS.iconst X6.here hx rfl (hb hby at_125) ?_
    show Steps p.tables e below (T6.setTop (mkF m 126 #[.val (.int p1), .val (.int p2), .val (.int p3), .val (.int gr), .val (.int md), .val (.int el), .val (.ref b4), .val (.int og), .val (.int cr), .val (.int xp)] [(.int (1 : Int32))])) _
    refine XS.goto X6.here hx rfl (pc0 := 126) (pc' := 130) rfl (hb hby at_126) (by decide) (by decide) ?_
    show Steps p.tables e below (T6.setTop (mkF m 130 #[.val (.int p1), .val (.int p2), .val (.int p3), .val (.int gr), .val (.int md), .val (.int el), .val (.ref b4), .val (.int og), .val (.int cr), .val (.int xp)] [(.int (1 : Int32))])) _
    exact retN X6 hx (t := .boolean) Bd.returns (by simp) (hb hby at_130) hr
  · show Q0 Z p1 p2 p3 h0 n0 _ T6.heap _
    rw [e6]
    exact ⟨rfl, N6⟩
set_option maxRecDepth 65536 in
set_option maxHeartbeats 40000000 in
theorem comes_1 {Post : Tables → Env → Array Value → State → Outcome → State → Prop} (hpost : ∀ tb e args s v u, (limb_1_1.after args s (.returned v) u = true ∧ limb_1_2.after args s (.returned v) u = true ∧ True) → FrameEnd s (.returned v) u (Jvm.fieldLocs frame_1_writes args s ++ Jvm.arrayLocs frame_1_arrays args s ++ Jvm.staticLocs frame_1_statics s) 16 128 → Post tb e args s (.returned v) u) :
    ArmFor flags0 classFile x code maxLocals ret World_1 tables_1 room_1 Calls_1 rest_1 Pre_1 Post := by
  intro l hfl _ _ p e ha hc hk s m args below hf hA hF happ hP
  obtain ⟨hcalls, hrest, hpre⟩ := hP
  obtain ⟨-, -, -, hnamed, -, -, -, hat⟩ := (Spec.applies_iff hf).mp happ
  obtain ⟨hg, hn⟩ := and_e (Cond.before_iff.mp (show (Jvm.Cond.and given_1 narrow_1).before args s = true from hpre))
  obtain ⟨g7, g8⟩ := and_e hg
  obtain ⟨g9, g10⟩ := and_e g8
  obtain ⟨g11, g12⟩ := and_e g10
  obtain ⟨w0, w1, w2, rfl⟩ : ∃ w0 w1 w2 : Value, args = #[w0, w1, w2] := by
    have hs : args.size = 3 := by simpa [Cond.value, given_1] using g7
    obtain ⟨L⟩ := args
    match L, hs with
    | [w0, w1, w2], _ => exact ⟨w0, w1, w2, rfl⟩
  have hw := fun d (hd : d ∈ tables_1) => atoms_spec (ws := Jvm.Cond.code x code maxLocals ret :: tables_1) hat d (List.mem_cons_of_mem _ hd)
  have hfit : Fit s := fun {y c} hc i hi => by
    obtain ⟨ha, rfl⟩ := Array.getElem?_eq_some_iff.mp hc
    have q := List.all_eq_true.mp ((Array.all_eq_true_iff_forall_mem.mp hF) _ (Array.getElem_mem ha)) i (List.mem_range.mpr hi)
    simpa [Array.getElem?_eq_getElem hi] using q
  obtain ⟨i0, ei0⟩ := is_v g9
  obtain rfl : w0 = (.int i0) := Option.some.inj ei0
  obtain ⟨i1, ei1⟩ := is_v g11
  obtain rfl : w1 = (.int i1) := Option.some.inj ei1
  obtain ⟨i2, ei2⟩ := is_v g12
  obtain rfl : w2 = (.int i2) := Option.some.inj ei2
  obtain ⟨n, o, h1, h2, h3, _, L, rfl, ⟨rfl, N⟩, hq⟩ := rm0 l s _ hw tables_1 i0 i1 i2 s.heap s.heap.size (Nat.le_refl _) p e ha hc hk s m _ below hf ((Spec.applies_iff_loose hf).mp happ).1 ⟨rfl, State.Warmed39.refl s, rfl⟩ trivial
  refine ⟨n, _, h1, h2, h3, hpost _ _ _ _ _ _ ⟨Cond.after_iff.mpr rfl, Cond.after_iff.mpr (eq_i res_at (Term.int_eval (1)) rfl), trivial⟩ ⟨hq.1, hq.2.1, (hq.2.2.sift fun y hy => Or.inr (N y hy)).mono (by decide) (by decide)⟩⟩
theorem main_1_1 : Claimed_1_1 := comes_1 fun _ _ _ _ _ _ h hF => ⟨h.1, hF⟩
theorem main_1_2 : Claimed_1_2 := comes_1 fun _ _ _ _ _ _ h hF => ⟨h.2.1, hF⟩
end Jvm.Pilot.@@N@@
namespace Jvm.Pilot.@@N@@
open Jvm Jvm.ClassFile Sem Op Lib Jvm.Free Jvm.Stand Jvm.Pilot.@@N@@.Jvm.D
/-! MADE BY PROGRAM (witnessworld.py) out of the Statement's table words and the real class files: 12 classes; the members and pool entries that the words name. The judged class is class 1, her method 1. -/
namespace start1
open Jvm.ClassFile
def u (s : String) : CpInfo := .utf8 (stringToUtf16 s)
/-- a pool by its gaps: so many unusable entries, then the entry; so many at the end -/
def gap : Nat → List CpInfo → List CpInfo
  | 0, r => r
  | n + 1, r => .unusable :: gap n r
def poolList (es : List (Nat × CpInfo)) (last : Nat) : List CpInfo := es.foldr (fun e r => gap e.1 (e.2 :: r)) (gap last [])
def pool (es : List (Nat × CpInfo)) (last : Nat) : Array CpInfo := ⟨poolList es last⟩
def fileOf (pool : Array CpInfo) (this : Nat) (attrs : Array Attribute := #[]) (ms : Array MethodInfo := #[]) (fl : Nat := 33) (sup : Nat := 0) (ifs : Array Nat := #[]) (fds : Array FieldInfo := #[]) : ClassFile where
  minorVersion := 0
  majorVersion := 65
  constantPool := pool
  accessFlags := fl
  thisClass := this
  superClass := sup
  interfaces := ifs
  fields := fds
  methods := ms
  attributes := attrs
def plain (name : String) (sup : Option ClassId) : Class where
  name := name
  kind := .ordinary
  loader := none
  accessFlags := 33
  super := sup
  interfaces := #[]
  cf := none
  fields := #[]
  methods := #[]
  instanceTypes := #[]
  staticTypes := #[]
  resolved := #[]
  callSites := []
  init := .initialized
  statics := none
  mirror := none

def pool0 : Array CpInfo := pool [(5, u "<init>"), (0, u "()V"), (1, .class_ 10), (1, u "java/lang/Object")] 113

def k0c0 : Code := { maxStack := 0, maxLocals := 1, code := object_method_1_code, exceptionTable := #[], attributes := #[] }
def k0m0 : Method := { name := "<init>", desc := "()V", sig := { parameters := [], returnType := none }, accessFlags := 1, code := some k0c0 }
/-- java/lang/Object -/
def k0 : Class := { plain "java/lang/Object" none with
  accessFlags := 33
  interfaces := #[]
  cf := some (fileOf pool0 8 #[] #[{ accessFlags := 1, nameIndex := 5, descriptorIndex := 6, attributes := #[] }] 33 0 #[] #[])
  fields := #[]
  methods := #[k0m0]
  instanceTypes := #[]
  staticTypes := #[]
  resolved := Array.replicate 124 none
  statics := none }

def pool1 : Array CpInfo := pool [(2, .class_ 4), (1, u "java/lang/Object"), (0, u "<init>"), (0, u "()V"), (0, .integer 65535), (0, .class_ 9), (0, u "com/example/tagsieve/tagsieve/dicom/Tag"), (0, .methodref 8 11), (0, .nameAndType 5 12), (0, u "(II)V"), (0, .methodref 8 14), (0, .nameAndType 15 16), (0, u "isPrivateCreator"), (0, u "()Z"), (0, .class_ 18), (0, u "com/example/tagsieve/tagsieve/dicom/TagIsPrivateCreatorPinLaw"), (2, u "law"), (0, u "(III)Z")] 3

def k1m0 : Method := { name := "<init>", desc := "()V", sig := { parameters := [], returnType := none }, accessFlags := 2, code := none }
def k1c1 : Code := { maxStack := 4, maxLocals := 10, code := code, exceptionTable := #[], attributes := #[] }
def k1m1 : Method := { name := "law", desc := "(III)Z", sig := { parameters := [.int, .int, .int], returnType := some .boolean }, accessFlags := 9, code := some k1c1 }
/-- com/example/tagsieve/tagsieve/dicom/TagIsPrivateCreatorPinLaw -/
def k1 : Class := { plain "com/example/tagsieve/tagsieve/dicom/TagIsPrivateCreatorPinLaw" (some 0) with
  accessFlags := 49
  interfaces := #[]
  cf := some (fileOf pool1 17 #[] #[{ accessFlags := 2, nameIndex := 5, descriptorIndex := 6, attributes := #[] }, { accessFlags := 9, nameIndex := 21, descriptorIndex := 22, attributes := #[] }] 49 2 #[] #[])
  fields := #[]
  methods := #[k1m0, k1m1]
  instanceTypes := #[]
  staticTypes := #[]
  resolved := Array.replicate 26 none
  statics := none }

def pool2 : Array CpInfo := pool [(1, .methodref 2 3), (0, .class_ 4), (0, .nameAndType 5 6), (0, u "java/lang/Object"), (0, u "<init>"), (0, u "()V"), (0, .class_ 8), (0, u "java/lang/Record")] 13

def k2c0 : Code := { maxStack := 1, maxLocals := 1, code := jdk_30_method_1_code, exceptionTable := #[], attributes := #[] }
def k2m0 : Method := { name := "<init>", desc := "()V", sig := { parameters := [], returnType := none }, accessFlags := 4, code := some k2c0 }
/-- java/lang/Record -/
def k2 : Class := { plain "java/lang/Record" (some 0) with
  accessFlags := 1057
  interfaces := #[]
  cf := some (fileOf pool2 7 #[] #[{ accessFlags := 4, nameIndex := 5, descriptorIndex := 6, attributes := #[] }] 1057 2 #[] #[])
  fields := #[]
  methods := #[k2m0]
  instanceTypes := #[]
  staticTypes := #[]
  resolved := Array.replicate 22 none
  statics := none }

def pool3 : Array CpInfo := pool [(65, .class_ 66), (0, u "com/example/tagsieve/tagsieve/dicom/AttributeTag"), (21, .class_ 89), (0, u "java/lang/Object")] 49

/-- com/example/tagsieve/tagsieve/dicom/AttributeTag -/
def k3 : Class := { plain "com/example/tagsieve/tagsieve/dicom/AttributeTag" (some 0) with
  accessFlags := 1537
  interfaces := #[]
  cf := some (fileOf pool3 65 #[] #[] 1537 88 #[] #[])
  fields := #[]
  methods := #[]
  instanceTypes := #[]
  staticTypes := #[]
  resolved := Array.replicate 139 none
  statics := none }

def pool4 : Array CpInfo := pool [(1, .class_ 2), (0, u "java/lang/Comparable"), (0, .class_ 4), (0, u "java/lang/Object")] 7

/-- java/lang/Comparable -/
def k4 : Class := { plain "java/lang/Comparable" (some 0) with
  accessFlags := 1537
  interfaces := #[]
  cf := some (fileOf pool4 1 #[] #[] 1537 3 #[] #[])
  fields := #[]
  methods := #[]
  instanceTypes := #[]
  staticTypes := #[]
  resolved := Array.replicate 12 none
  statics := none }

def pool5 : Array CpInfo := pool [(1, .methodref 2 3), (0, .class_ 4), (0, .nameAndType 5 6), (0, u "java/lang/Record"), (0, u "<init>"), (0, u "()V"), (0, .integer 4294901760), (21, .fieldref 30 31), (0, .class_ 32), (0, .nameAndType 33 34), (0, u "com/example/tagsieve/tagsieve/dicom/Tag"), (0, u "group"), (0, u "I"), (0, .fieldref 30 36), (0, .nameAndType 37 34), (0, u "element"), (2, u "TEXT"), (0, u "Ljava/util/regex/Pattern;"), (11, u "()Z"), (13, u "(II)V"), (24, u "META_GROUP_LENGTH"), (0, u "Lcom/example/tagsieve/tagsieve/dicom/Tag;"), (2, u "TRANSFER_SYNTAX_UID"), (2, u "SPECIFIC_CHARACTER_SET"), (2, u "SOP_INSTANCE_UID"), (2, u "STUDY_INSTANCE_UID"), (2, u "SERIES_INSTANCE_UID"), (2, u "INSTANCE_NUMBER"), (2, u "PIXEL_REPRESENTATION"), (3, u "SHARED_FUNCTIONAL_GROUPS"), (3, u "PER_FRAME_FUNCTIONAL_GROUPS"), (2, u "PIXEL_DATA"), (4, u "ITEM"), (3, u "ITEM_DELIMITATION"), (3, u "SEQUENCE_DELIMITATION"), (6, .class_ 146), (0, u "com/example/tagsieve/tagsieve/dicom/AttributeTag"), (0, .class_ 148), (0, u "java/lang/Comparable"), (0, u "ITEM_GROUP"), (1, u "FIRST_PRIVATE_BLOCK"), (1, u "LAST_PRIVATE_BLOCK"), (14, u "isPrivateCreator")] 27

def k5c0 : Code := { maxStack := 7, maxLocals := 3, code := prog_61_method_1_code, exceptionTable := #[], attributes := #[] }
def k5m0 : Method := { name := "<init>", desc := "(II)V", sig := { parameters := [.int, .int], returnType := none }, accessFlags := 1, code := some k5c0 }
def k5c1 : Code := { maxStack := 2, maxLocals := 1, code := prog_61_method_5_code, exceptionTable := #[], attributes := #[] }
def k5m1 : Method := { name := "isPrivateCreator", desc := "()Z", sig := { parameters := [], returnType := some .boolean }, accessFlags := 0, code := some k5c1 }
/-- com/example/tagsieve/tagsieve/dicom/Tag -/
def k5 : Class := { plain "com/example/tagsieve/tagsieve/dicom/Tag" (some 2) with
  accessFlags := 49
  interfaces := #[3, 4]
  cf := some (fileOf pool5 30 #[] #[{ accessFlags := 1, nameIndex := 5, descriptorIndex := 67, attributes := #[] }, { accessFlags := 0, nameIndex := 168, descriptorIndex := 53, attributes := #[] }] 49 2 #[145, 147] #[{ accessFlags := 18, nameIndex := 33, descriptorIndex := 34, attributes := #[] }, { accessFlags := 18, nameIndex := 37, descriptorIndex := 34, attributes := #[] }, { accessFlags := 24, nameIndex := 92, descriptorIndex := 93, attributes := #[] }, { accessFlags := 24, nameIndex := 96, descriptorIndex := 93, attributes := #[] }, { accessFlags := 24, nameIndex := 99, descriptorIndex := 93, attributes := #[] }, { accessFlags := 25, nameIndex := 102, descriptorIndex := 93, attributes := #[] }, { accessFlags := 25, nameIndex := 105, descriptorIndex := 93, attributes := #[] }, { accessFlags := 25, nameIndex := 108, descriptorIndex := 93, attributes := #[] }, { accessFlags := 25, nameIndex := 111, descriptorIndex := 93, attributes := #[] }, { accessFlags := 24, nameIndex := 114, descriptorIndex := 93, attributes := #[] }, { accessFlags := 24, nameIndex := 118, descriptorIndex := 93, attributes := #[] }, { accessFlags := 24, nameIndex := 122, descriptorIndex := 93, attributes := #[] }, { accessFlags := 24, nameIndex := 125, descriptorIndex := 93, attributes := #[] }, { accessFlags := 24, nameIndex := 130, descriptorIndex := 93, attributes := #[] }, { accessFlags := 24, nameIndex := 134, descriptorIndex := 93, attributes := #[] }, { accessFlags := 24, nameIndex := 138, descriptorIndex := 93, attributes := #[] }, { accessFlags := 24, nameIndex := 149, descriptorIndex := 34, attributes := #[] }, { accessFlags := 24, nameIndex := 151, descriptorIndex := 34, attributes := #[] }, { accessFlags := 24, nameIndex := 153, descriptorIndex := 34, attributes := #[] }, { accessFlags := 26, nameIndex := 40, descriptorIndex := 41, attributes := #[] }])
  fields := #[{ name := "group", type := .int, accessFlags := 18, slot := 0, constantValue := 0 }, { name := "element", type := .int, accessFlags := 18, slot := 1, constantValue := 0 }, { name := "META_GROUP_LENGTH", type := (.object "com/example/tagsieve/tagsieve/dicom/Tag"), accessFlags := 24, slot := 0, constantValue := 0 }, { name := "TRANSFER_SYNTAX_UID", type := (.object "com/example/tagsieve/tagsieve/dicom/Tag"), accessFlags := 24, slot := 1, constantValue := 0 }, { name := "SPECIFIC_CHARACTER_SET", type := (.object "com/example/tagsieve/tagsieve/dicom/Tag"), accessFlags := 24, slot := 2, constantValue := 0 }, { name := "SOP_INSTANCE_UID", type := (.object "com/example/tagsieve/tagsieve/dicom/Tag"), accessFlags := 25, slot := 3, constantValue := 0 }, { name := "STUDY_INSTANCE_UID", type := (.object "com/example/tagsieve/tagsieve/dicom/Tag"), accessFlags := 25, slot := 4, constantValue := 0 }, { name := "SERIES_INSTANCE_UID", type := (.object "com/example/tagsieve/tagsieve/dicom/Tag"), accessFlags := 25, slot := 5, constantValue := 0 }, { name := "INSTANCE_NUMBER", type := (.object "com/example/tagsieve/tagsieve/dicom/Tag"), accessFlags := 25, slot := 6, constantValue := 0 }, { name := "PIXEL_REPRESENTATION", type := (.object "com/example/tagsieve/tagsieve/dicom/Tag"), accessFlags := 24, slot := 7, constantValue := 0 }, { name := "SHARED_FUNCTIONAL_GROUPS", type := (.object "com/example/tagsieve/tagsieve/dicom/Tag"), accessFlags := 24, slot := 8, constantValue := 0 }, { name := "PER_FRAME_FUNCTIONAL_GROUPS", type := (.object "com/example/tagsieve/tagsieve/dicom/Tag"), accessFlags := 24, slot := 9, constantValue := 0 }, { name := "PIXEL_DATA", type := (.object "com/example/tagsieve/tagsieve/dicom/Tag"), accessFlags := 24, slot := 10, constantValue := 0 }, { name := "ITEM", type := (.object "com/example/tagsieve/tagsieve/dicom/Tag"), accessFlags := 24, slot := 11, constantValue := 0 }, { name := "ITEM_DELIMITATION", type := (.object "com/example/tagsieve/tagsieve/dicom/Tag"), accessFlags := 24, slot := 12, constantValue := 0 }, { name := "SEQUENCE_DELIMITATION", type := (.object "com/example/tagsieve/tagsieve/dicom/Tag"), accessFlags := 24, slot := 13, constantValue := 0 }, { name := "ITEM_GROUP", type := .int, accessFlags := 24, slot := 14, constantValue := 0 }, { name := "FIRST_PRIVATE_BLOCK", type := .int, accessFlags := 24, slot := 15, constantValue := 0 }, { name := "LAST_PRIVATE_BLOCK", type := .int, accessFlags := 24, slot := 16, constantValue := 0 }, { name := "TEXT", type := (.object "java/util/regex/Pattern"), accessFlags := 26, slot := 17, constantValue := 0 }]
  methods := #[k5m0, k5m1]
  instanceTypes := #[.int, .int]
  staticTypes := #[(.object "com/example/tagsieve/tagsieve/dicom/Tag"), (.object "com/example/tagsieve/tagsieve/dicom/Tag"), (.object "com/example/tagsieve/tagsieve/dicom/Tag"), (.object "com/example/tagsieve/tagsieve/dicom/Tag"), (.object "com/example/tagsieve/tagsieve/dicom/Tag"), (.object "com/example/tagsieve/tagsieve/dicom/Tag"), (.object "com/example/tagsieve/tagsieve/dicom/Tag"), (.object "com/example/tagsieve/tagsieve/dicom/Tag"), (.object "com/example/tagsieve/tagsieve/dicom/Tag"), (.object "com/example/tagsieve/tagsieve/dicom/Tag"), (.object "com/example/tagsieve/tagsieve/dicom/Tag"), (.object "com/example/tagsieve/tagsieve/dicom/Tag"), (.object "com/example/tagsieve/tagsieve/dicom/Tag"), (.object "com/example/tagsieve/tagsieve/dicom/Tag"), .int, .int, .int, (.object "java/util/regex/Pattern")]
  resolved := Array.replicate 196 none
  statics := none }

def pool6 : Array CpInfo := pool [(1, u "java/lang/Cloneable"), (0, .class_ 1), (0, u "java/lang/Object"), (0, .class_ 3)] 3

/-- java/lang/Cloneable -/
def k6 : Class := { plain "java/lang/Cloneable" (some 0) with
  accessFlags := 1537
  interfaces := #[]
  cf := some (fileOf pool6 2 #[] #[] 1537 4 #[] #[])
  fields := #[]
  methods := #[]
  instanceTypes := #[]
  staticTypes := #[]
  resolved := Array.replicate 8 none
  statics := none }

def pool7 : Array CpInfo := pool [(1, u "java/io/Serializable"), (0, .class_ 1), (0, u "java/lang/Object"), (0, .class_ 3)] 3

/-- java/io/Serializable -/
def k7 : Class := { plain "java/io/Serializable" (some 0) with
  accessFlags := 1537
  interfaces := #[]
  cf := some (fileOf pool7 2 #[] #[] 1537 4 #[] #[])
  fields := #[]
  methods := #[]
  instanceTypes := #[]
  staticTypes := #[]
  resolved := Array.replicate 8 none
  statics := none }

/-- the primitive byte -/
def k8 : Class := { plain "byte" none with kind := .primitive 'B', accessFlags := 0x411 }
/-- [B -/
def k9 : Class := { plain "[B" (some 0) with kind := .array 8 .byte, interfaces := #[6, 7], accessFlags := 1041 }

/-- the primitive int -/
def k10 : Class := { plain "int" none with kind := .primitive 'I', accessFlags := 0x411 }
/-- [I -/
def k11 : Class := { plain "[I" (some 0) with kind := .array 10 .int, interfaces := #[6, 7], accessFlags := 1041 }

def heap : Heap := #[]
def classes : Array Class := #[k0, k1, k2, k3, k4, k5, k6, k7, k8, k9, k10, k11]
def interned : List (Array UInt16 × Addr) := []
def slotsUsed : Nat := 0
def theMethod : MethodId := ⟨1, 1⟩
def args0 : Array Value := #[.int 5, .int 20, .int 0]
def aboutOver (below : List Frame) : State where
  vm := { classes := classes, interned := interned.toArray }
  heap := heap
  slotsUsed := slotsUsed
  threads := #[{ frames := .invoking theMethod args0 :: below }]
def below0 : List Frame := [.native { method := ⟨0, 0⟩, args := #[] }]
def about1 : State := aboutOver below0
def p0 : Program := .bare "" "" ""
def e0 : Env := launch0.env 0 0 0
theorem w_frames : about1.frames = Frame.invoking theMethod args0 :: below0 := rfl
set_option maxRecDepth 65536 in
theorem w_args : argsFit about1.vm theMethod args0 = true := by decide +kernel
set_option maxRecDepth 65536 in
theorem w_heap : heapFits about1 = true := by decide +kernel
set_option maxRecDepth 65536 in
theorem w_runnable : about1.curStatus? = some .runnable := by decide +kernel
set_option maxRecDepth 65536 in
theorem w_alone : about1.alone = true := by decide +kernel
set_option maxRecDepth 65536 in
theorem w_named : about1.methodNamed? x = some theMethod := by decide +kernel
set_option maxRecDepth 65536 in
theorem w_hears : about1.hears theMethod below0 = true := by decide +kernel
set_option maxRecDepth 65536 in
theorem w_ripe : about1.ripe theMethod args0 below0 = true := by decide +kernel
theorem w_running : about1.status = .running := rfl
set_option maxRecDepth 65536 in
theorem w_room : about1.hasRoom e0.platform room_1 = true :=
  launch0.hasRoom_least _ room_1 (by decide +kernel) (by decide +kernel) (by decide +kernel) (by decide +kernel) (by decide +kernel) (by decide +kernel)
theorem allAtoms_all (ts : List Jvm.Cond) (a : Array Jvm.Value) (st : Jvm.State) : (allAtoms ts).before a st = ts.all (fun c => c.before a st) := by
  induction ts with
  | nil => rfl
  | cons c t ih =>
    show (Jvm.Cond.and c (allAtoms t)).before a st = _
    rw [Jvm.Cond.before_and, ih, List.all_cons]
def words1 : List Jvm.Cond := Jvm.Cond.code x code maxLocals ret :: tables_1
/-- a 'code' word, met by the world's own term for the bytes: nothing is compared byte by byte -/
theorem code_word {y : MethodName} {bytes : ByteArray} {mx : Nat} {rt : Option FieldType} {a : Array Value} {s : State} {m : MethodId} {meth : Method} {c : Code} (h1 : s.methodNamed? y = some m) (h2 : s.vm.method? m = some meth) (h3 : meth.code = some c) (h4 : c.code = bytes)
    (h5 : (c.maxLocals == mx && c.exceptionTable.isEmpty && decide (c.maxStack ≤ mostOperands) && decide (meth.sig.returnType = rt) && !meth.locks && decide (parseMethodDescriptor y.desc = some meth.sig)) = true) : (Jvm.Cond.code y bytes mx rt).before a s = true := by
  simp only [Bool.and_eq_true, beq_iff_eq, Bool.not_eq_true', decide_eq_true_eq] at h5
  obtain ⟨⟨⟨⟨⟨g1, g2⟩, g3⟩, g4⟩, g5⟩, g6⟩ := h5
  simp [Cond.before, Cond.holds, Cond.value, h1, h2, h3, h4, g1, g2, g3, g4, g5, g6]
def isCode : Jvm.Cond → Bool
  | .code _ _ _ _ => true
  | _ => false
theorem all_split {L : List Jvm.Cond} {P : Jvm.Cond → Bool} (h1 : L.all (fun c => isCode c || P c) = true) (h2 : ∀ c ∈ L.filter isCode, P c = true) : L.all P = true := by
  refine List.all_eq_true.mpr fun c hc => ?_
  have h := List.all_eq_true.mp h1 c hc
  rcases Bool.eq_false_or_eq_true (isCode c) with hi | hi
  · exact h2 c (List.mem_filter.mpr ⟨hc, hi⟩)
  · simpa [hi] using h
set_option maxRecDepth 65536 in
theorem w_c0 : (Jvm.Cond.code x code maxLocals ret).before args0 about1 = true := code_word (m := ⟨1, 1⟩) (meth := k1m1) (c := k1c1) (by decide +kernel) rfl rfl rfl (by decide +kernel)
set_option maxRecDepth 65536 in
theorem w_c1 : (Jvm.Cond.code ({ cls := "com/example/tagsieve/tagsieve/dicom/Tag", name := "<init>", desc := "(II)V" } : Jvm.MethodName) prog_61_method_1_code (3 : Nat) (Option.none : Option Jvm.ClassFile.FieldType)).before args0 about1 = true := code_word (m := ⟨5, 0⟩) (meth := k5m0) (c := k5c0) (by decide +kernel) rfl rfl rfl (by decide +kernel)
set_option maxRecDepth 65536 in
theorem w_c2 : (Jvm.Cond.code ({ cls := "java/lang/Record", name := "<init>", desc := "()V" } : Jvm.MethodName) jdk_30_method_1_code (1 : Nat) (Option.none : Option Jvm.ClassFile.FieldType)).before args0 about1 = true := code_word (m := ⟨2, 0⟩) (meth := k2m0) (c := k2c0) (by decide +kernel) rfl rfl rfl (by decide +kernel)
set_option maxRecDepth 65536 in
theorem w_c3 : (Jvm.Cond.code ({ cls := "java/lang/Object", name := "<init>", desc := "()V" } : Jvm.MethodName) object_method_1_code (1 : Nat) (Option.none : Option Jvm.ClassFile.FieldType)).before args0 about1 = true := code_word (m := ⟨0, 0⟩) (meth := k0m0) (c := k0c0) (by decide +kernel) rfl rfl rfl (by decide +kernel)
set_option maxRecDepth 65536 in
theorem w_c4 : (Jvm.Cond.code ({ cls := "com/example/tagsieve/tagsieve/dicom/Tag", name := "isPrivateCreator", desc := "()Z" } : Jvm.MethodName) prog_61_method_5_code (1 : Nat) (Option.some Jvm.ClassFile.FieldType.boolean)).before args0 about1 = true := code_word (m := ⟨5, 1⟩) (meth := k5m1) (c := k5c1) (by decide +kernel) rfl rfl rfl (by decide +kernel)
def codes1 : List Jvm.Cond := [Jvm.Cond.code x code maxLocals ret, Jvm.Cond.code ({ cls := "com/example/tagsieve/tagsieve/dicom/Tag", name := "<init>", desc := "(II)V" } : Jvm.MethodName) prog_61_method_1_code (3 : Nat) (Option.none : Option Jvm.ClassFile.FieldType), Jvm.Cond.code ({ cls := "java/lang/Record", name := "<init>", desc := "()V" } : Jvm.MethodName) jdk_30_method_1_code (1 : Nat) (Option.none : Option Jvm.ClassFile.FieldType), Jvm.Cond.code ({ cls := "java/lang/Object", name := "<init>", desc := "()V" } : Jvm.MethodName) object_method_1_code (1 : Nat) (Option.none : Option Jvm.ClassFile.FieldType), Jvm.Cond.code ({ cls := "com/example/tagsieve/tagsieve/dicom/Tag", name := "isPrivateCreator", desc := "()Z" } : Jvm.MethodName) prog_61_method_5_code (1 : Nat) (Option.some Jvm.ClassFile.FieldType.boolean)]
set_option maxRecDepth 65536 in
theorem codes_eq : words1.filter isCode = codes1 := rfl
theorem w_codes : ∀ c ∈ words1.filter isCode, c.before args0 about1 = true := by
  rw [codes_eq]
  intro c hc
  simp only [codes1, List.mem_cons, List.not_mem_nil, or_false] at hc
  rcases hc with rfl | rfl | rfl | rfl | rfl
  · exact w_c0
  · exact w_c1
  · exact w_c2
  · exact w_c3
  · exact w_c4
set_option maxRecDepth 65536 in
theorem w_t1 : (words1.take 24).all (fun c => isCode c || c.before args0 about1) = true := by decide +kernel
set_option maxRecDepth 65536 in
theorem w_t2 : (words1.drop 24).all (fun c => isCode c || c.before args0 about1) = true := by decide +kernel
theorem w_tables : (allAtoms (Jvm.Cond.code x code maxLocals ret :: tables_1)).before args0 about1 = true := by
  rw [allAtoms_all]
  show words1.all (fun c => c.before args0 about1) = true
  refine all_split ?_ w_codes
  rw [← List.take_append_drop 24 words1, List.all_append, w_t1, w_t2]
  rfl
set_option maxRecDepth 65536 in
theorem w_case : (Jvm.Cond.and given_1 narrow_1).before args0 about1 = true := by decide +kernel
theorem w_applies : (headSpec (Jvm.Cond.code x code maxLocals ret :: tables_1) room_1).applies x e0.platform about1 = true :=
  (Spec.applies_iff w_frames).mpr ⟨w_running, w_runnable, w_alone, w_named, w_hears, w_ripe, w_room, w_tables⟩
theorem atStart : AtStart classFile x code maxLocals ret World_1 tables_1 room_1 Calls_1 rest_1 Pre_1 launch0 p0 e0 about1 theMethod args0 below0 :=
  ⟨lists_1, trivial, launch0.admits_env _ _ _, launch0.least_env, fairChoices_fair.cas, fairChoices_fair.clock, w_frames, w_args, w_heap, w_applies, trivial, trivial, w_case⟩
end start1
theorem witness_1 : WitnessClaimed_1 := ⟨start1.p0, start1.e0, start1.about1, start1.theMethod, start1.args0, start1.below0, start1.atStart⟩
end Jvm.Pilot.@@N@@
