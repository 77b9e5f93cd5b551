import JvmDerived
import JvmDerived.Pilot.@@N@@Statement
import JvmDerived.Pilot.@@N@@Code
set_option linter.unusedVariables false
set_option linter.unusedSimpArgs false
namespace Jvm.RoadKit
open Sem ClassFile Op Lib Jvm.Stand Jvm.Free Jvm.LawKit
section New
variable {p : Program} {l : Launch} {e : Env} {R : Room} {s : State} {m : MethodId} {args : Array Value} {below : List Frame} {meth : Method} {c : Code} {T : State} {locs : List Loc} {cells slots : Nat}
theorem retI (X : Stand p l e R s m args below meth c T locs cells slots) (hx : p.tables.exec = Jvm.exec) {pc : Nat} {Ls : Array Slot} {z : Int32} {rest : List Value} (hret : meth.sig.returnType = some .int) (hd : decode c.code pc = .ok (.ireturn, 1)) {fs : List Frame}
    (hl : ∀ (f : JFrame) (acts : List Action), f.method = m → f.locked = none → f.entered = [] → (doReturn e (T.setTop f) acts (some (.int z))).1 = T.setFrames fs) : Steps p.tables e below (T.setTop (mkF m pc Ls (.int z :: rest))) (T.setFrames fs) := by
  have hm' : T.vm.method? m = some meth := X.method'
  have hn : narrow .int (.int z) = .int z := rfl
  show Steps p.tables e below (T.setTop { method := m, pc := pc, locals := Ls, stack := _ :: rest, locked := none }) _
  jvm_step X.here [X.here.top, hx, hd, hm', hret, hn]
  first | (intro acts; rw [hl _ acts rfl rfl rfl]) | rw [hl _ _ rfl rfl rfl]
  exact Steps.refl _
theorem retL (X : Stand p l e R s m args below meth c T locs cells slots) (hx : p.tables.exec = Jvm.exec) {pc : Nat} {Ls : Array Slot} {z : Int64} {rest : List Value} (hret : meth.sig.returnType = some .long) (hd : decode c.code pc = .ok (.lreturn, 1)) {fs : List Frame}
    (hl : ∀ (f : JFrame) (acts : List Action), f.method = m → f.locked = none → f.entered = [] → (doReturn e (T.setTop f) acts (some (.long z))).1 = T.setFrames fs) : Steps p.tables e below (T.setTop (mkF m pc Ls (.long z :: rest))) (T.setFrames fs) := by
  have hm' : T.vm.method? m = some meth := X.method'
  have hn : narrow .long (.long z) = .long z := rfl
  show Steps p.tables e below (T.setTop { method := m, pc := pc, locals := Ls, stack := _ :: rest, locked := none }) _
  jvm_step X.here [X.here.top, hx, hd, hm', hret, hn]
  first | (intro acts; rw [hl _ acts rfl rfl rfl]) | rw [hl _ _ rfl rfl rfl]
  exact Steps.refl _
end New
end Jvm.RoadKit
namespace Jvm.Pilot.@@N@@
open Jvm Jvm.ClassFile Sem Op Lib Jvm.Free Jvm.Stand Jvm.LawKit Jvm.RoadKit Bundle Jvm.Pilot.@@N@@.Jvm.D

theorem own_lt (a b : Nat) (ha : a < 2 ^ 31) (hb : b < 2 ^ 31) : Int32.ofNat a < Int32.ofNat b ↔ a < b := Int32.ofNat_lt_iff_lt ha hb
theorem own_ltL (a b : Nat) (ha : a < 2 ^ 63) (hb : b < 2 ^ 63) : lcmpW (Int64.ofNat a) (Int64.ofNat b) < (0 : Int32) ↔ a < b := (lw_lt _ _).trans (Int64.ofNat_lt_iff_lt ha hb)
theorem own_up (a : Nat) : Int32.ofNat a + (1 : Int32) = Int32.ofNat (a + 1) := (Int32.ofNat_add a 1).symm
theorem own_upL (a : Nat) : Int64.ofNat a + (1 : Int64) = Int64.ofNat (a + 1) := (Int64.ofNat_add a 1).symm
theorem own_cl (a : Nat) (h : a < 2 ^ 31) : (Int32.ofNat a).toNatClampNeg = a := Int32.toNatClampNeg_ofNat_of_lt h
theorem own_n0 (a : Nat) (h : a < 2 ^ 31) : ¬ Int32.ofNat a < 0 := by
  have : ¬ Int32.ofNat a < Int32.ofNat 0 := by rw [own_lt a 0 h (by decide)]; omega
  exact this
def own_b (A : Prop) [Decidable A] : Int32 := if A then 1 else 0
abbrev own_A (f : Nat → Int32) (v : Int32) (idx rs ps rb rows planes : Nat) : Prop := ∀ pl, pl < planes → ∀ r, r < rows → ∀ i, i < rb → f (idx + pl * ps + r * rs + i) = v
theorem d1_43 : decode prog_137_method_5_code 43 = .ok (.iload 18, 2) := by decide +kernel
theorem d1_45 : decode prog_137_method_5_code 45 = .ok (.iload 17, 2) := by decide +kernel
theorem d1_47 : decode prog_137_method_5_code 47 = .ok (.if_icmp .ge 20, 3) := by decide +kernel
theorem d1_50 : decode prog_137_method_5_code 50 = .ok (.aload_n 0, 1) := by decide +kernel
theorem d1_51 : decode prog_137_method_5_code 51 = .ok (.iload 18, 2) := by decide +kernel
theorem d1_53 : decode prog_137_method_5_code 53 = .ok (.baload, 1) := by decide +kernel
theorem d1_54 : decode prog_137_method_5_code 54 = .ok (.iload 11, 2) := by decide +kernel
theorem d1_56 : decode prog_137_method_5_code 56 = .ok (.if_icmp .eq 5, 3) := by decide +kernel
theorem d1_61 : decode prog_137_method_5_code 61 = .ok (.iinc 18 1, 3) := by decide +kernel
theorem d1_64 : decode prog_137_method_5_code 64 = .ok (.goto (-21), 3) := by decide +kernel
set_option maxRecDepth 65536 in
set_option maxHeartbeats 40000000 in
theorem own_i1 {p : Program} {l : Launch} {e : Env} {R : Room} {s : State} {m : MethodId} {args : Array Value} {below : List Frame} {meth : Method} {c : Code} {T0 : State} {locs : List Loc} {cells slots : Nat} {Z : State} {a0 : Array Value} {h0 : Heap} (o0 : Addr) (s1 : Slot) (s2 : Slot) (s3 : Slot) (s4 : Slot) (s5 : Slot) (s6 : Slot) (s7 : Slot) (s8 : Slot) (s9 : Slot) (s10 : Slot) (i11 : Int32) (s12 : Slot) (s13 : Slot) (s14 : Slot) (s15 : Slot) (s16 : Slot) (i17 : Int32) (i18 : Int32) (w9 : Int32) (cl_o0 : Cell)
    (X0 : Stand p l e R s m args below meth c T0 locs cells slots) (hx : p.tables.exec = Jvm.exec) (hZ : Z.Warmed39 s.vm) (hw : ∀ d ∈ tables_1, d.before a0 Z = true) (hby : c.code = prog_137_method_5_code) (hml : c.maxLocals = 19) (hown : s.vm.findClass "com/example/chunkwell/chunkwell/codecs/RowCopies" = some m.cls) (e0 : T0.heap = h0) (Ar_o0 : Arr Z h0 o0 cl_o0 .byte) (hin53 : ¬ (i18 < 0 ∨ cl_o0.slots.size ≤ (i18).toNatClampNeg)) (hat53 : cl_o0.slots[(i18).toNatClampNeg]? = some (.int w9)) (hc47 : i18 < i17) (hc56 : w9 = i11) :
    ∀ target, Steps p.tables e below (T0.setTop (mkF m 43 #[.val (.ref o0), s1, s2, s3, s4, s5, s6, s7, s8, s9, s10, .val (.int i11), s12, s13, s14, s15, s16, .val (.int i17), .val (.int (i18 + (1 : Int32)))] [])) target → Steps p.tables e below (T0.setTop (mkF m 43 #[.val (.ref o0), s1, s2, s3, s4, s5, s6, s7, s8, s9, s10, .val (.int i11), s12, s13, s14, s15, s16, .val (.int i17), .val (.int i18)] [])) target := by

  intro target kt
  show Steps p.tables e below (T0.setTop (mkF m 43 #[.val (.ref o0), s1, s2, s3, s4, s5, s6, s7, s8, s9, s10, .val (.int i11), s12, s13, s14, s15, s16, .val (.int i17), .val (.int i18)] [])) _
  refine XS.iload X0.here hx rfl (hb hby d1_43) rfl ?_
  show Steps p.tables e below (T0.setTop (mkF m 45 #[.val (.ref o0), s1, s2, s3, s4, s5, s6, s7, s8, s9, s10, .val (.int i11), s12, s13, s14, s15, s16, .val (.int i17), .val (.int i18)] [(.int i18)])) _
  refine XS.iload X0.here hx rfl (hb hby d1_45) rfl ?_
  show Steps p.tables e below (T0.setTop (mkF m 47 #[.val (.ref o0), s1, s2, s3, s4, s5, s6, s7, s8, s9, s10, .val (.int i11), s12, s13, s14, s15, s16, .val (.int i17), .val (.int i18)] [(.int i17), (.int i18)])) _
  refine XS.icmpNo X0.here hx rfl (hb hby d1_47) rfl (tlt hc47).2.1 ?_
  show Steps p.tables e below (T0.setTop (mkF m 50 #[.val (.ref o0), s1, s2, s3, s4, s5, s6, s7, s8, s9, s10, .val (.int i11), s12, s13, s14, s15, s16, .val (.int i17), .val (.int i18)] [])) _
  refine XS.aloadN X0.here hx rfl (hb hby d1_50) rfl rfl ?_
  show Steps p.tables e below (T0.setTop (mkF m 51 #[.val (.ref o0), s1, s2, s3, s4, s5, s6, s7, s8, s9, s10, .val (.int i11), s12, s13, s14, s15, s16, .val (.int i17), .val (.int i18)] [(.ref o0)])) _
  refine XS.iload X0.here hx rfl (hb hby d1_51) rfl ?_
  show Steps p.tables e below (T0.setTop (mkF m 53 #[.val (.ref o0), s1, s2, s3, s4, s5, s6, s7, s8, s9, s10, .val (.int i11), s12, s13, s14, s15, s16, .val (.int i17), .val (.int i18)] [(.int i18), (.ref o0)])) _
  refine X0.baloadBytes hx (j := i18) (v := (.int w9)) (by rw [e0]; exact Ar_o0.1) (State.isArrayOf_alike hZ.alike Ar_o0.2.1) Ar_o0.2.2 hin53 hat53 (g := (mkF m 53 #[.val (.ref o0), s1, s2, s3, s4, s5, s6, s7, s8, s9, s10, .val (.int i11), s12, s13, s14, s15, s16, .val (.int i17), .val (.int i18)] [(.int i18), (.ref o0)])) rfl rfl (hb hby d1_53) _ ?_
  show Steps p.tables e below (T0.setTop (mkF m 54 #[.val (.ref o0), s1, s2, s3, s4, s5, s6, s7, s8, s9, s10, .val (.int i11), s12, s13, s14, s15, s16, .val (.int i17), .val (.int i18)] [(.int w9)])) _
  refine XS.iload X0.here hx rfl (hb hby d1_54) rfl ?_
  show Steps p.tables e below (T0.setTop (mkF m 56 #[.val (.ref o0), s1, s2, s3, s4, s5, s6, s7, s8, s9, s10, .val (.int i11), s12, s13, s14, s15, s16, .val (.int i17), .val (.int i18)] [(.int i11), (.int w9)])) _
  refine XS.icmpYes X0.here hx rfl (pc0 := 56) (pc' := 61) rfl (hb hby d1_56) rfl (teq hc56).1 (by decide) (by decide) ?_
  show Steps p.tables e below (T0.setTop (mkF m 61 #[.val (.ref o0), s1, s2, s3, s4, s5, s6, s7, s8, s9, s10, .val (.int i11), s12, s13, s14, s15, s16, .val (.int i17), .val (.int i18)] [])) _
  refine XS.iinc X0.here hx rfl (hb hby d1_61) rfl (l' := #[.val (.ref o0), s1, s2, s3, s4, s5, s6, s7, s8, s9, s10, .val (.int i11), s12, s13, s14, s15, s16, .val (.int i17), .val (.int (i18 + (1 : Int32)))]) rfl ?_
  show Steps p.tables e below (T0.setTop (mkF m 64 #[.val (.ref o0), s1, s2, s3, s4, s5, s6, s7, s8, s9, s10, .val (.int i11), s12, s13, s14, s15, s16, .val (.int i17), .val (.int (i18 + (1 : Int32)))] [])) _
  refine XS.goto X0.here hx rfl (pc0 := 64) (pc' := 43) rfl (hb hby d1_64) (by decide) (by decide) ?_
  exact kt
set_option maxRecDepth 65536 in
set_option maxHeartbeats 40000000 in
theorem own_i2 {p : Program} {l : Launch} {e : Env} {R : Room} {s : State} {m : MethodId} {args : Array Value} {below : List Frame} {meth : Method} {c : Code} {T0 : State} {locs : List Loc} {cells slots : Nat} {Z : State} {a0 : Array Value} {h0 : Heap} (o0 : Addr) (s1 : Slot) (s2 : Slot) (s3 : Slot) (s4 : Slot) (s5 : Slot) (s6 : Slot) (s7 : Slot) (s8 : Slot) (s9 : Slot) (s10 : Slot) (i11 : Int32) (s12 : Slot) (s13 : Slot) (s14 : Slot) (s15 : Slot) (s16 : Slot) (i17 : Int32) (i18 : Int32) (w9 : Int32) (cl_o0 : Cell)
    (X0 : Stand p l e R s m args below meth c T0 locs cells slots) (hx : p.tables.exec = Jvm.exec) (hZ : Z.Warmed39 s.vm) (hw : ∀ d ∈ tables_1, d.before a0 Z = true) (hby : c.code = prog_137_method_5_code) (hml : c.maxLocals = 19) (hown : s.vm.findClass "com/example/chunkwell/chunkwell/codecs/RowCopies" = some m.cls) (e0 : T0.heap = h0) (Ar_o0 : Arr Z h0 o0 cl_o0 .byte) (hin53 : ¬ (i18 < 0 ∨ cl_o0.slots.size ≤ (i18).toNatClampNeg)) (hat53 : cl_o0.slots[(i18).toNatClampNeg]? = some (.int w9)) (hc47 : i18 < i17) (hc56 : ¬ (w9 = i11)) :
    ∀ target, Steps p.tables e below (T0.setTop (mkF m 59 #[.val (.ref o0), s1, s2, s3, s4, s5, s6, s7, s8, s9, s10, .val (.int i11), s12, s13, s14, s15, s16, .val (.int i17), .val (.int i18)] [])) target → Steps p.tables e below (T0.setTop (mkF m 43 #[.val (.ref o0), s1, s2, s3, s4, s5, s6, s7, s8, s9, s10, .val (.int i11), s12, s13, s14, s15, s16, .val (.int i17), .val (.int i18)] [])) target := by

  intro target kt
  show Steps p.tables e below (T0.setTop (mkF m 43 #[.val (.ref o0), s1, s2, s3, s4, s5, s6, s7, s8, s9, s10, .val (.int i11), s12, s13, s14, s15, s16, .val (.int i17), .val (.int i18)] [])) _
  refine XS.iload X0.here hx rfl (hb hby d1_43) rfl ?_
  show Steps p.tables e below (T0.setTop (mkF m 45 #[.val (.ref o0), s1, s2, s3, s4, s5, s6, s7, s8, s9, s10, .val (.int i11), s12, s13, s14, s15, s16, .val (.int i17), .val (.int i18)] [(.int i18)])) _
  refine XS.iload X0.here hx rfl (hb hby d1_45) rfl ?_
  show Steps p.tables e below (T0.setTop (mkF m 47 #[.val (.ref o0), s1, s2, s3, s4, s5, s6, s7, s8, s9, s10, .val (.int i11), s12, s13, s14, s15, s16, .val (.int i17), .val (.int i18)] [(.int i17), (.int i18)])) _
  refine XS.icmpNo X0.here hx rfl (hb hby d1_47) rfl (tlt hc47).2.1 ?_
  show Steps p.tables e below (T0.setTop (mkF m 50 #[.val (.ref o0), s1, s2, s3, s4, s5, s6, s7, s8, s9, s10, .val (.int i11), s12, s13, s14, s15, s16, .val (.int i17), .val (.int i18)] [])) _
  refine XS.aloadN X0.here hx rfl (hb hby d1_50) rfl rfl ?_
  show Steps p.tables e below (T0.setTop (mkF m 51 #[.val (.ref o0), s1, s2, s3, s4, s5, s6, s7, s8, s9, s10, .val (.int i11), s12, s13, s14, s15, s16, .val (.int i17), .val (.int i18)] [(.ref o0)])) _
  refine XS.iload X0.here hx rfl (hb hby d1_51) rfl ?_
  show Steps p.tables e below (T0.setTop (mkF m 53 #[.val (.ref o0), s1, s2, s3, s4, s5, s6, s7, s8, s9, s10, .val (.int i11), s12, s13, s14, s15, s16, .val (.int i17), .val (.int i18)] [(.int i18), (.ref o0)])) _
  refine X0.baloadBytes hx (j := i18) (v := (.int w9)) (by rw [e0]; exact Ar_o0.1) (State.isArrayOf_alike hZ.alike Ar_o0.2.1) Ar_o0.2.2 hin53 hat53 (g := (mkF m 53 #[.val (.ref o0), s1, s2, s3, s4, s5, s6, s7, s8, s9, s10, .val (.int i11), s12, s13, s14, s15, s16, .val (.int i17), .val (.int i18)] [(.int i18), (.ref o0)])) rfl rfl (hb hby d1_53) _ ?_
  show Steps p.tables e below (T0.setTop (mkF m 54 #[.val (.ref o0), s1, s2, s3, s4, s5, s6, s7, s8, s9, s10, .val (.int i11), s12, s13, s14, s15, s16, .val (.int i17), .val (.int i18)] [(.int w9)])) _
  refine XS.iload X0.here hx rfl (hb hby d1_54) rfl ?_
  show Steps p.tables e below (T0.setTop (mkF m 56 #[.val (.ref o0), s1, s2, s3, s4, s5, s6, s7, s8, s9, s10, .val (.int i11), s12, s13, s14, s15, s16, .val (.int i17), .val (.int i18)] [(.int i11), (.int w9)])) _
  refine XS.icmpNo X0.here hx rfl (hb hby d1_56) rfl (feq hc56).1 ?_
  exact kt
theorem d1_67 : decode prog_137_method_5_code 67 = .ok (.lload 14, 2) := by decide +kernel
theorem d1_69 : decode prog_137_method_5_code 69 = .ok (.lload_n 3, 1) := by decide +kernel
theorem d1_70 : decode prog_137_method_5_code 70 = .ok (.ladd, 1) := by decide +kernel
theorem d1_71 : decode prog_137_method_5_code 71 = .ok (.lstore 14, 2) := by decide +kernel
theorem d1_73 : decode prog_137_method_5_code 73 = .ok (.iinc 16 1, 3) := by decide +kernel
theorem d1_76 : decode prog_137_method_5_code 76 = .ok (.goto (-53), 3) := by decide +kernel
set_option maxRecDepth 65536 in
set_option maxHeartbeats 40000000 in
theorem own_i3 {p : Program} {l : Launch} {e : Env} {R : Room} {s : State} {m : MethodId} {args : Array Value} {below : List Frame} {meth : Method} {c : Code} {T0 : State} {locs : List Loc} {cells slots : Nat} {Z : State} {a0 : Array Value} {h0 : Heap} (s0 : Slot) (s1 : Slot) (s2 : Slot) (j3 : Int64) (s5 : Slot) (s6 : Slot) (s7 : Slot) (s8 : Slot) (s9 : Slot) (s10 : Slot) (s11 : Slot) (s12 : Slot) (s13 : Slot) (j14 : Int64) (i16 : Int32) (i17 : Int32) (i18 : Int32)
    (X0 : Stand p l e R s m args below meth c T0 locs cells slots) (hx : p.tables.exec = Jvm.exec) (hZ : Z.Warmed39 s.vm) (hw : ∀ d ∈ tables_1, d.before a0 Z = true) (hby : c.code = prog_137_method_5_code) (hml : c.maxLocals = 19) (hown : s.vm.findClass "com/example/chunkwell/chunkwell/codecs/RowCopies" = some m.cls) (e0 : T0.heap = h0) (hc47 : ¬ (i18 < i17)) :
    ∀ target, Steps p.tables e below (T0.setTop (mkF m 23 #[s0, s1, s2, .val (.long j3), .second, s5, s6, s7, s8, s9, s10, s11, s12, s13, .val (.long (j14 + j3)), .second, .val (.int (i16 + (1 : Int32))), .val (.int i17), .val (.int i18)] [])) target → Steps p.tables e below (T0.setTop (mkF m 43 #[s0, s1, s2, .val (.long j3), .second, s5, s6, s7, s8, s9, s10, s11, s12, s13, .val (.long j14), .second, .val (.int i16), .val (.int i17), .val (.int i18)] [])) target := by

  intro target kt
  show Steps p.tables e below (T0.setTop (mkF m 43 #[s0, s1, s2, .val (.long j3), .second, s5, s6, s7, s8, s9, s10, s11, s12, s13, .val (.long j14), .second, .val (.int i16), .val (.int i17), .val (.int i18)] [])) _
  refine XS.iload X0.here hx rfl (hb hby d1_43) rfl ?_
  show Steps p.tables e below (T0.setTop (mkF m 45 #[s0, s1, s2, .val (.long j3), .second, s5, s6, s7, s8, s9, s10, s11, s12, s13, .val (.long j14), .second, .val (.int i16), .val (.int i17), .val (.int i18)] [(.int i18)])) _
  refine XS.iload X0.here hx rfl (hb hby d1_45) rfl ?_
  show Steps p.tables e below (T0.setTop (mkF m 47 #[s0, s1, s2, .val (.long j3), .second, s5, s6, s7, s8, s9, s10, s11, s12, s13, .val (.long j14), .second, .val (.int i16), .val (.int i17), .val (.int i18)] [(.int i17), (.int i18)])) _
  refine XS.icmpYes X0.here hx rfl (pc0 := 47) (pc' := 67) rfl (hb hby d1_47) rfl (flt hc47).2.1 (by decide) (by decide) ?_
  show Steps p.tables e below (T0.setTop (mkF m 67 #[s0, s1, s2, .val (.long j3), .second, s5, s6, s7, s8, s9, s10, s11, s12, s13, .val (.long j14), .second, .val (.int i16), .val (.int i17), .val (.int i18)] [])) _
  refine XS.lload X0.here hx rfl (hb hby d1_67) rfl ?_
  show Steps p.tables e below (T0.setTop (mkF m 69 #[s0, s1, s2, .val (.long j3), .second, s5, s6, s7, s8, s9, s10, s11, s12, s13, .val (.long j14), .second, .val (.int i16), .val (.int i17), .val (.int i18)] [(.long j14)])) _
  refine XS.lloadN X0.here hx rfl (hb hby d1_69) rfl ?_
  show Steps p.tables e below (T0.setTop (mkF m 70 #[s0, s1, s2, .val (.long j3), .second, s5, s6, s7, s8, s9, s10, s11, s12, s13, .val (.long j14), .second, .val (.int i16), .val (.int i17), .val (.int i18)] [(.long j3), (.long j14)])) _
  refine XS.ladd X0.here hx rfl (hb hby d1_70) rfl ?_
  show Steps p.tables e below (T0.setTop (mkF m 71 #[s0, s1, s2, .val (.long j3), .second, s5, s6, s7, s8, s9, s10, s11, s12, s13, .val (.long j14), .second, .val (.int i16), .val (.int i17), .val (.int i18)] [(.long (j14 + j3))])) _
  refine XS.lstore X0.here hx rfl (hb hby d1_71) rfl (l' := #[s0, s1, s2, .val (.long j3), .second, s5, s6, s7, s8, s9, s10, s11, s12, s13, .val (.long (j14 + j3)), .second, .val (.int i16), .val (.int i17), .val (.int i18)]) rfl ?_
  show Steps p.tables e below (T0.setTop (mkF m 73 #[s0, s1, s2, .val (.long j3), .second, s5, s6, s7, s8, s9, s10, s11, s12, s13, .val (.long (j14 + j3)), .second, .val (.int i16), .val (.int i17), .val (.int i18)] [])) _
  refine XS.iinc X0.here hx rfl (hb hby d1_73) rfl (l' := #[s0, s1, s2, .val (.long j3), .second, s5, s6, s7, s8, s9, s10, s11, s12, s13, .val (.long (j14 + j3)), .second, .val (.int (i16 + (1 : Int32))), .val (.int i17), .val (.int i18)]) rfl ?_
  show Steps p.tables e below (T0.setTop (mkF m 76 #[s0, s1, s2, .val (.long j3), .second, s5, s6, s7, s8, s9, s10, s11, s12, s13, .val (.long (j14 + j3)), .second, .val (.int (i16 + (1 : Int32))), .val (.int i17), .val (.int i18)] [])) _
  refine XS.goto X0.here hx rfl (pc0 := 76) (pc' := 23) rfl (hb hby d1_76) (by decide) (by decide) ?_
  exact kt
theorem d1_23 : decode prog_137_method_5_code 23 = .ok (.iload 16, 2) := by decide +kernel
theorem d1_25 : decode prog_137_method_5_code 25 = .ok (.iload 8, 2) := by decide +kernel
theorem d1_27 : decode prog_137_method_5_code 27 = .ok (.if_icmp .ge 52, 3) := by decide +kernel
theorem d1_30 : decode prog_137_method_5_code 30 = .ok (.lload 14, 2) := by decide +kernel
theorem d1_32 : decode prog_137_method_5_code 32 = .ok (.l2i, 1) := by decide +kernel
theorem d1_33 : decode prog_137_method_5_code 33 = .ok (.iload 7, 2) := by decide +kernel
theorem d1_35 : decode prog_137_method_5_code 35 = .ok (.iadd, 1) := by decide +kernel
theorem d1_36 : decode prog_137_method_5_code 36 = .ok (.istore 17, 2) := by decide +kernel
theorem d1_38 : decode prog_137_method_5_code 38 = .ok (.lload 14, 2) := by decide +kernel
theorem d1_40 : decode prog_137_method_5_code 40 = .ok (.l2i, 1) := by decide +kernel
theorem d1_41 : decode prog_137_method_5_code 41 = .ok (.istore 18, 2) := by decide +kernel
theorem os1_36_own_r1 {s0 : Slot} {s1 : Slot} {s2 : Slot} {s3 : Slot} {s4 : Slot} {s5 : Slot} {s6 : Slot} {z7 : Value} {z8 : Value} {s9 : Slot} {s10 : Slot} {s11 : Slot} {s12 : Slot} {s13 : Slot} {z14 : Value} {z16 : Value} {s17 : Slot} {s18 : Slot} {v : Int32} (h : One s17) : storeLocals #[s0, s1, s2, s3, s4, s5, s6, .val z7, .val z8, s9, s10, s11, s12, s13, .val z14, .second, .val z16, s17, s18] 17 (.int v) = some #[s0, s1, s2, s3, s4, s5, s6, .val z7, .val z8, s9, s10, s11, s12, s13, .val z14, .second, .val z16, .val (.int v), s18] := by
  rcases h with rfl | ⟨w, rfl, hw⟩
  · rfl
  · cases w <;> first | rfl | (simp [Value.category] at hw)
theorem os1_41_own_r1 {s0 : Slot} {s1 : Slot} {s2 : Slot} {s3 : Slot} {s4 : Slot} {s5 : Slot} {s6 : Slot} {z7 : Value} {z8 : Value} {s9 : Slot} {s10 : Slot} {s11 : Slot} {s12 : Slot} {s13 : Slot} {z14 : Value} {z16 : Value} {z17 : Value} {s18 : Slot} {v : Int32} (h : One s18) : storeLocals #[s0, s1, s2, s3, s4, s5, s6, .val z7, .val z8, s9, s10, s11, s12, s13, .val z14, .second, .val z16, .val z17, s18] 18 (.int v) = some #[s0, s1, s2, s3, s4, s5, s6, .val z7, .val z8, s9, s10, s11, s12, s13, .val z14, .second, .val z16, .val z17, .val (.int v)] := by
  rcases h with rfl | ⟨w, rfl, hw⟩
  · rfl
  · cases w <;> first | rfl | (simp [Value.category] at hw)
set_option maxRecDepth 65536 in
set_option maxHeartbeats 40000000 in
theorem own_r1 {p : Program} {l : Launch} {e : Env} {R : Room} {s : State} {m : MethodId} {args : Array Value} {below : List Frame} {meth : Method} {c : Code} {T0 : State} {locs : List Loc} {cells slots : Nat} {Z : State} {a0 : Array Value} {h0 : Heap} (s0 : Slot) (s1 : Slot) (s2 : Slot) (s3 : Slot) (s4 : Slot) (s5 : Slot) (s6 : Slot) (i7 : Int32) (i8 : Int32) (s9 : Slot) (s10 : Slot) (s11 : Slot) (s12 : Slot) (s13 : Slot) (j14 : Int64) (i16 : Int32) (s17 : Slot) (s18 : Slot)
    (X0 : Stand p l e R s m args below meth c T0 locs cells slots) (hx : p.tables.exec = Jvm.exec) (hZ : Z.Warmed39 s.vm) (hw : ∀ d ∈ tables_1, d.before a0 Z = true) (hby : c.code = prog_137_method_5_code) (hml : c.maxLocals = 19) (hown : s.vm.findClass "com/example/chunkwell/chunkwell/codecs/RowCopies" = some m.cls) (e0 : T0.heap = h0) (hs17 : One s17) (hs18 : One s18) (hc27 : i16 < i8) :
    ∀ target, Steps p.tables e below (T0.setTop (mkF m 43 #[s0, s1, s2, s3, s4, s5, s6, .val (.int i7), .val (.int i8), s9, s10, s11, s12, s13, .val (.long j14), .second, .val (.int i16), .val (.int ((j14.toInt32) + i7)), .val (.int (j14.toInt32))] [])) target → Steps p.tables e below (T0.setTop (mkF m 23 #[s0, s1, s2, s3, s4, s5, s6, .val (.int i7), .val (.int i8), s9, s10, s11, s12, s13, .val (.long j14), .second, .val (.int i16), s17, s18] [])) target := by

  intro target kt
  show Steps p.tables e below (T0.setTop (mkF m 23 #[s0, s1, s2, s3, s4, s5, s6, .val (.int i7), .val (.int i8), s9, s10, s11, s12, s13, .val (.long j14), .second, .val (.int i16), s17, s18] [])) _
  refine XS.iload X0.here hx rfl (hb hby d1_23) rfl ?_
  show Steps p.tables e below (T0.setTop (mkF m 25 #[s0, s1, s2, s3, s4, s5, s6, .val (.int i7), .val (.int i8), s9, s10, s11, s12, s13, .val (.long j14), .second, .val (.int i16), s17, s18] [(.int i16)])) _
  refine XS.iload X0.here hx rfl (hb hby d1_25) rfl ?_
  show Steps p.tables e below (T0.setTop (mkF m 27 #[s0, s1, s2, s3, s4, s5, s6, .val (.int i7), .val (.int i8), s9, s10, s11, s12, s13, .val (.long j14), .second, .val (.int i16), s17, s18] [(.int i8), (.int i16)])) _
  refine XS.icmpNo X0.here hx rfl (hb hby d1_27) rfl (tlt hc27).2.1 ?_
  show Steps p.tables e below (T0.setTop (mkF m 30 #[s0, s1, s2, s3, s4, s5, s6, .val (.int i7), .val (.int i8), s9, s10, s11, s12, s13, .val (.long j14), .second, .val (.int i16), s17, s18] [])) _
  refine XS.lload X0.here hx rfl (hb hby d1_30) rfl ?_
  show Steps p.tables e below (T0.setTop (mkF m 32 #[s0, s1, s2, s3, s4, s5, s6, .val (.int i7), .val (.int i8), s9, s10, s11, s12, s13, .val (.long j14), .second, .val (.int i16), s17, s18] [(.long j14)])) _
  refine XS.l2i X0.here hx rfl (hb hby d1_32) rfl ?_
  show Steps p.tables e below (T0.setTop (mkF m 33 #[s0, s1, s2, s3, s4, s5, s6, .val (.int i7), .val (.int i8), s9, s10, s11, s12, s13, .val (.long j14), .second, .val (.int i16), s17, s18] [(.int (j14.toInt32))])) _
  refine XS.iload X0.here hx rfl (hb hby d1_33) rfl ?_
  show Steps p.tables e below (T0.setTop (mkF m 35 #[s0, s1, s2, s3, s4, s5, s6, .val (.int i7), .val (.int i8), s9, s10, s11, s12, s13, .val (.long j14), .second, .val (.int i16), s17, s18] [(.int i7), (.int (j14.toInt32))])) _
  refine XS.iadd X0.here hx rfl (hb hby d1_35) rfl ?_
  show Steps p.tables e below (T0.setTop (mkF m 36 #[s0, s1, s2, s3, s4, s5, s6, .val (.int i7), .val (.int i8), s9, s10, s11, s12, s13, .val (.long j14), .second, .val (.int i16), s17, s18] [(.int ((j14.toInt32) + i7))])) _
  refine XS.istore X0.here hx rfl (hb hby d1_36) rfl (l' := #[s0, s1, s2, s3, s4, s5, s6, .val (.int i7), .val (.int i8), s9, s10, s11, s12, s13, .val (.long j14), .second, .val (.int i16), .val (.int ((j14.toInt32) + i7)), s18]) (os1_36_own_r1 hs17) ?_
  show Steps p.tables e below (T0.setTop (mkF m 38 #[s0, s1, s2, s3, s4, s5, s6, .val (.int i7), .val (.int i8), s9, s10, s11, s12, s13, .val (.long j14), .second, .val (.int i16), .val (.int ((j14.toInt32) + i7)), s18] [])) _
  refine XS.lload X0.here hx rfl (hb hby d1_38) rfl ?_
  show Steps p.tables e below (T0.setTop (mkF m 40 #[s0, s1, s2, s3, s4, s5, s6, .val (.int i7), .val (.int i8), s9, s10, s11, s12, s13, .val (.long j14), .second, .val (.int i16), .val (.int ((j14.toInt32) + i7)), s18] [(.long j14)])) _
  refine XS.l2i X0.here hx rfl (hb hby d1_40) rfl ?_
  show Steps p.tables e below (T0.setTop (mkF m 41 #[s0, s1, s2, s3, s4, s5, s6, .val (.int i7), .val (.int i8), s9, s10, s11, s12, s13, .val (.long j14), .second, .val (.int i16), .val (.int ((j14.toInt32) + i7)), s18] [(.int (j14.toInt32))])) _
  refine XS.istore X0.here hx rfl (hb hby d1_41) rfl (l' := #[s0, s1, s2, s3, s4, s5, s6, .val (.int i7), .val (.int i8), s9, s10, s11, s12, s13, .val (.long j14), .second, .val (.int i16), .val (.int ((j14.toInt32) + i7)), .val (.int (j14.toInt32))]) (os1_41_own_r1 hs18) ?_
  exact kt
theorem d1_79 : decode prog_137_method_5_code 79 = .ok (.lload 12, 2) := by decide +kernel
theorem d1_81 : decode prog_137_method_5_code 81 = .ok (.lconst 1, 1) := by decide +kernel
theorem d1_82 : decode prog_137_method_5_code 82 = .ok (.ladd, 1) := by decide +kernel
theorem d1_83 : decode prog_137_method_5_code 83 = .ok (.lstore 12, 2) := by decide +kernel
theorem d1_85 : decode prog_137_method_5_code 85 = .ok (.goto (-82), 3) := by decide +kernel
set_option maxRecDepth 65536 in
set_option maxHeartbeats 40000000 in
theorem own_r2 {p : Program} {l : Launch} {e : Env} {R : Room} {s : State} {m : MethodId} {args : Array Value} {below : List Frame} {meth : Method} {c : Code} {T0 : State} {locs : List Loc} {cells slots : Nat} {Z : State} {a0 : Array Value} {h0 : Heap} (s0 : Slot) (s1 : Slot) (s2 : Slot) (s3 : Slot) (s4 : Slot) (s5 : Slot) (s6 : Slot) (s7 : Slot) (i8 : Int32) (s9 : Slot) (s10 : Slot) (s11 : Slot) (j12 : Int64) (s14 : Slot) (s15 : Slot) (i16 : Int32) (s17 : Slot) (s18 : Slot)
    (X0 : Stand p l e R s m args below meth c T0 locs cells slots) (hx : p.tables.exec = Jvm.exec) (hZ : Z.Warmed39 s.vm) (hw : ∀ d ∈ tables_1, d.before a0 Z = true) (hby : c.code = prog_137_method_5_code) (hml : c.maxLocals = 19) (hown : s.vm.findClass "com/example/chunkwell/chunkwell/codecs/RowCopies" = some m.cls) (e0 : T0.heap = h0) (hc27 : ¬ (i16 < i8)) :
    ∀ target, Steps p.tables e below (T0.setTop (mkF m 3 #[s0, s1, s2, s3, s4, s5, s6, s7, .val (.int i8), s9, s10, s11, .val (.long (j12 + (1 : Int64))), .second, s14, s15, .val (.int i16), s17, s18] [])) target → Steps p.tables e below (T0.setTop (mkF m 23 #[s0, s1, s2, s3, s4, s5, s6, s7, .val (.int i8), s9, s10, s11, .val (.long j12), .second, s14, s15, .val (.int i16), s17, s18] [])) target := by

  intro target kt
  show Steps p.tables e below (T0.setTop (mkF m 23 #[s0, s1, s2, s3, s4, s5, s6, s7, .val (.int i8), s9, s10, s11, .val (.long j12), .second, s14, s15, .val (.int i16), s17, s18] [])) _
  refine XS.iload X0.here hx rfl (hb hby d1_23) rfl ?_
  show Steps p.tables e below (T0.setTop (mkF m 25 #[s0, s1, s2, s3, s4, s5, s6, s7, .val (.int i8), s9, s10, s11, .val (.long j12), .second, s14, s15, .val (.int i16), s17, s18] [(.int i16)])) _
  refine XS.iload X0.here hx rfl (hb hby d1_25) rfl ?_
  show Steps p.tables e below (T0.setTop (mkF m 27 #[s0, s1, s2, s3, s4, s5, s6, s7, .val (.int i8), s9, s10, s11, .val (.long j12), .second, s14, s15, .val (.int i16), s17, s18] [(.int i8), (.int i16)])) _
  refine XS.icmpYes X0.here hx rfl (pc0 := 27) (pc' := 79) rfl (hb hby d1_27) rfl (flt hc27).2.1 (by decide) (by decide) ?_
  show Steps p.tables e below (T0.setTop (mkF m 79 #[s0, s1, s2, s3, s4, s5, s6, s7, .val (.int i8), s9, s10, s11, .val (.long j12), .second, s14, s15, .val (.int i16), s17, s18] [])) _
  refine XS.lload X0.here hx rfl (hb hby d1_79) rfl ?_
  show Steps p.tables e below (T0.setTop (mkF m 81 #[s0, s1, s2, s3, s4, s5, s6, s7, .val (.int i8), s9, s10, s11, .val (.long j12), .second, s14, s15, .val (.int i16), s17, s18] [(.long j12)])) _
  refine XS.lconst X0.here hx rfl (hb hby d1_81) ?_
  show Steps p.tables e below (T0.setTop (mkF m 82 #[s0, s1, s2, s3, s4, s5, s6, s7, .val (.int i8), s9, s10, s11, .val (.long j12), .second, s14, s15, .val (.int i16), s17, s18] [(.long (1 : Int64)), (.long j12)])) _
  refine XS.ladd X0.here hx rfl (hb hby d1_82) rfl ?_
  show Steps p.tables e below (T0.setTop (mkF m 83 #[s0, s1, s2, s3, s4, s5, s6, s7, .val (.int i8), s9, s10, s11, .val (.long j12), .second, s14, s15, .val (.int i16), s17, s18] [(.long (j12 + (1 : Int64)))])) _
  refine XS.lstore X0.here hx rfl (hb hby d1_83) rfl (l' := #[s0, s1, s2, s3, s4, s5, s6, s7, .val (.int i8), s9, s10, s11, .val (.long (j12 + (1 : Int64))), .second, s14, s15, .val (.int i16), s17, s18]) rfl ?_
  show Steps p.tables e below (T0.setTop (mkF m 85 #[s0, s1, s2, s3, s4, s5, s6, s7, .val (.int i8), s9, s10, s11, .val (.long (j12 + (1 : Int64))), .second, s14, s15, .val (.int i16), s17, s18] [])) _
  refine XS.goto X0.here hx rfl (pc0 := 85) (pc' := 3) rfl (hb hby d1_85) (by decide) (by decide) ?_
  exact kt
theorem d1_3 : decode prog_137_method_5_code 3 = .ok (.lload 12, 2) := by decide +kernel
theorem d1_5 : decode prog_137_method_5_code 5 = .ok (.lload 9, 2) := by decide +kernel
theorem d1_7 : decode prog_137_method_5_code 7 = .ok (.lcmp, 1) := by decide +kernel
theorem d1_8 : decode prog_137_method_5_code 8 = .ok (.ifCond .ge 80, 3) := by decide +kernel
theorem d1_11 : decode prog_137_method_5_code 11 = .ok (.lload_n 1, 1) := by decide +kernel
theorem d1_12 : decode prog_137_method_5_code 12 = .ok (.lload 12, 2) := by decide +kernel
theorem d1_14 : decode prog_137_method_5_code 14 = .ok (.lload 5, 2) := by decide +kernel
theorem d1_16 : decode prog_137_method_5_code 16 = .ok (.lmul, 1) := by decide +kernel
theorem d1_17 : decode prog_137_method_5_code 17 = .ok (.ladd, 1) := by decide +kernel
theorem d1_18 : decode prog_137_method_5_code 18 = .ok (.lstore 14, 2) := by decide +kernel
theorem d1_20 : decode prog_137_method_5_code 20 = .ok (.iconst 0, 1) := by decide +kernel
theorem d1_21 : decode prog_137_method_5_code 21 = .ok (.istore 16, 2) := by decide +kernel
theorem os1_21_own_p1u {s0 : Slot} {z1 : Value} {s3 : Slot} {s4 : Slot} {z5 : Value} {s7 : Slot} {s8 : Slot} {z9 : Value} {s11 : Slot} {z12 : Value} {z14 : Value} {s16 : Slot} {s17 : Slot} {s18 : Slot} {v : Int32} (h : One s16) : storeLocals #[s0, .val z1, .second, s3, s4, .val z5, .second, s7, s8, .val z9, .second, s11, .val z12, .second, .val z14, .second, s16, s17, s18] 16 (.int v) = some #[s0, .val z1, .second, s3, s4, .val z5, .second, s7, s8, .val z9, .second, s11, .val z12, .second, .val z14, .second, .val (.int v), s17, s18] := by
  rcases h with rfl | ⟨w, rfl, hw⟩
  · rfl
  · cases w <;> first | rfl | (simp [Value.category] at hw)
set_option maxRecDepth 65536 in
set_option maxHeartbeats 40000000 in
theorem own_p1u {p : Program} {l : Launch} {e : Env} {R : Room} {s : State} {m : MethodId} {args : Array Value} {below : List Frame} {meth : Method} {c : Code} {T0 : State} {locs : List Loc} {cells slots : Nat} {Z : State} {a0 : Array Value} {h0 : Heap} (s0 : Slot) (j1 : Int64) (s3 : Slot) (s4 : Slot) (j5 : Int64) (s7 : Slot) (s8 : Slot) (j9 : Int64) (s11 : Slot) (j12 : Int64) (s16 : Slot) (s17 : Slot) (s18 : Slot)
    (X0 : Stand p l e R s m args below meth c T0 locs cells slots) (hx : p.tables.exec = Jvm.exec) (hZ : Z.Warmed39 s.vm) (hw : ∀ d ∈ tables_1, d.before a0 Z = true) (hby : c.code = prog_137_method_5_code) (hml : c.maxLocals = 19) (hown : s.vm.findClass "com/example/chunkwell/chunkwell/codecs/RowCopies" = some m.cls) (e0 : T0.heap = h0) (hs16 : One s16) (hc8 : (lcmpW j12 j9) < (0 : Int32)) :
    ∀ target, Steps p.tables e below (T0.setTop (mkF m 23 #[s0, .val (.long j1), .second, s3, s4, .val (.long j5), .second, s7, s8, .val (.long j9), .second, s11, .val (.long j12), .second, .val (.long (j1 + (j12 * j5))), .second, .val (.int (0 : Int32)), s17, s18] [])) target → Steps p.tables e below (T0.setTop (mkF m 3 #[s0, .val (.long j1), .second, s3, s4, .val (.long j5), .second, s7, s8, .val (.long j9), .second, s11, .val (.long j12), .second, .unset, .unset, s16, s17, s18] [])) target := by

  intro target kt
  show Steps p.tables e below (T0.setTop (mkF m 3 #[s0, .val (.long j1), .second, s3, s4, .val (.long j5), .second, s7, s8, .val (.long j9), .second, s11, .val (.long j12), .second, .unset, .unset, s16, s17, s18] [])) _
  refine XS.lload X0.here hx rfl (hb hby d1_3) rfl ?_
  show Steps p.tables e below (T0.setTop (mkF m 5 #[s0, .val (.long j1), .second, s3, s4, .val (.long j5), .second, s7, s8, .val (.long j9), .second, s11, .val (.long j12), .second, .unset, .unset, s16, s17, s18] [(.long j12)])) _
  refine XS.lload X0.here hx rfl (hb hby d1_5) rfl ?_
  show Steps p.tables e below (T0.setTop (mkF m 7 #[s0, .val (.long j1), .second, s3, s4, .val (.long j5), .second, s7, s8, .val (.long j9), .second, s11, .val (.long j12), .second, .unset, .unset, s16, s17, s18] [(.long j9), (.long j12)])) _
  refine XS.lcmp X0.here hx rfl (hb hby d1_7) rfl ?_
  show Steps p.tables e below (T0.setTop (mkF m 8 #[s0, .val (.long j1), .second, s3, s4, .val (.long j5), .second, s7, s8, .val (.long j9), .second, s11, .val (.long j12), .second, .unset, .unset, s16, s17, s18] [(.int (lcmpW j12 j9))])) _
  refine XS.ifNo X0.here hx rfl (hb hby d1_8) rfl ((if0 _ _).trans (tlt hc8).2.1) ?_
  show Steps p.tables e below (T0.setTop (mkF m 11 #[s0, .val (.long j1), .second, s3, s4, .val (.long j5), .second, s7, s8, .val (.long j9), .second, s11, .val (.long j12), .second, .unset, .unset, s16, s17, s18] [])) _
  refine XS.lloadN X0.here hx rfl (hb hby d1_11) rfl ?_
  show Steps p.tables e below (T0.setTop (mkF m 12 #[s0, .val (.long j1), .second, s3, s4, .val (.long j5), .second, s7, s8, .val (.long j9), .second, s11, .val (.long j12), .second, .unset, .unset, s16, s17, s18] [(.long j1)])) _
  refine XS.lload X0.here hx rfl (hb hby d1_12) rfl ?_
  show Steps p.tables e below (T0.setTop (mkF m 14 #[s0, .val (.long j1), .second, s3, s4, .val (.long j5), .second, s7, s8, .val (.long j9), .second, s11, .val (.long j12), .second, .unset, .unset, s16, s17, s18] [(.long j12), (.long j1)])) _
  refine XS.lload X0.here hx rfl (hb hby d1_14) rfl ?_
  show Steps p.tables e below (T0.setTop (mkF m 16 #[s0, .val (.long j1), .second, s3, s4, .val (.long j5), .second, s7, s8, .val (.long j9), .second, s11, .val (.long j12), .second, .unset, .unset, s16, s17, s18] [(.long j5), (.long j12), (.long j1)])) _
  refine XS.lmul X0.here hx rfl (hb hby d1_16) rfl ?_
  show Steps p.tables e below (T0.setTop (mkF m 17 #[s0, .val (.long j1), .second, s3, s4, .val (.long j5), .second, s7, s8, .val (.long j9), .second, s11, .val (.long j12), .second, .unset, .unset, s16, s17, s18] [(.long (j12 * j5)), (.long j1)])) _
  refine XS.ladd X0.here hx rfl (hb hby d1_17) rfl ?_
  show Steps p.tables e below (T0.setTop (mkF m 18 #[s0, .val (.long j1), .second, s3, s4, .val (.long j5), .second, s7, s8, .val (.long j9), .second, s11, .val (.long j12), .second, .unset, .unset, s16, s17, s18] [(.long (j1 + (j12 * j5)))])) _
  refine XS.lstore X0.here hx rfl (hb hby d1_18) rfl (l' := #[s0, .val (.long j1), .second, s3, s4, .val (.long j5), .second, s7, s8, .val (.long j9), .second, s11, .val (.long j12), .second, .val (.long (j1 + (j12 * j5))), .second, s16, s17, s18]) rfl ?_
  show Steps p.tables e below (T0.setTop (mkF m 20 #[s0, .val (.long j1), .second, s3, s4, .val (.long j5), .second, s7, s8, .val (.long j9), .second, s11, .val (.long j12), .second, .val (.long (j1 + (j12 * j5))), .second, s16, s17, s18] [])) _
  refine XS.iconst X0.here hx rfl (hb hby d1_20) ?_
  show Steps p.tables e below (T0.setTop (mkF m 21 #[s0, .val (.long j1), .second, s3, s4, .val (.long j5), .second, s7, s8, .val (.long j9), .second, s11, .val (.long j12), .second, .val (.long (j1 + (j12 * j5))), .second, s16, s17, s18] [(.int (0 : Int32))])) _
  refine XS.istore X0.here hx rfl (hb hby d1_21) rfl (l' := #[s0, .val (.long j1), .second, s3, s4, .val (.long j5), .second, s7, s8, .val (.long j9), .second, s11, .val (.long j12), .second, .val (.long (j1 + (j12 * j5))), .second, .val (.int (0 : Int32)), s17, s18]) (os1_21_own_p1u hs16) ?_
  exact kt
theorem os1_21_own_p1j {s0 : Slot} {z1 : Value} {s3 : Slot} {s4 : Slot} {z5 : Value} {s7 : Slot} {s8 : Slot} {z9 : Value} {s11 : Slot} {z12 : Value} {z14 : Value} {s16 : Slot} {s17 : Slot} {s18 : Slot} {v : Int32} (h : One s16) : storeLocals #[s0, .val z1, .second, s3, s4, .val z5, .second, s7, s8, .val z9, .second, s11, .val z12, .second, .val z14, .second, s16, s17, s18] 16 (.int v) = some #[s0, .val z1, .second, s3, s4, .val z5, .second, s7, s8, .val z9, .second, s11, .val z12, .second, .val z14, .second, .val (.int v), s17, s18] := by
  rcases h with rfl | ⟨w, rfl, hw⟩
  · rfl
  · cases w <;> first | rfl | (simp [Value.category] at hw)
set_option maxRecDepth 65536 in
set_option maxHeartbeats 40000000 in
theorem own_p1j {p : Program} {l : Launch} {e : Env} {R : Room} {s : State} {m : MethodId} {args : Array Value} {below : List Frame} {meth : Method} {c : Code} {T0 : State} {locs : List Loc} {cells slots : Nat} {Z : State} {a0 : Array Value} {h0 : Heap} (s0 : Slot) (j1 : Int64) (s3 : Slot) (s4 : Slot) (j5 : Int64) (s7 : Slot) (s8 : Slot) (j9 : Int64) (s11 : Slot) (j12 : Int64) (s16 : Slot) (s17 : Slot) (s18 : Slot) (j14 : Int64)
    (X0 : Stand p l e R s m args below meth c T0 locs cells slots) (hx : p.tables.exec = Jvm.exec) (hZ : Z.Warmed39 s.vm) (hw : ∀ d ∈ tables_1, d.before a0 Z = true) (hby : c.code = prog_137_method_5_code) (hml : c.maxLocals = 19) (hown : s.vm.findClass "com/example/chunkwell/chunkwell/codecs/RowCopies" = some m.cls) (e0 : T0.heap = h0) (hs16 : One s16) (hc8 : (lcmpW j12 j9) < (0 : Int32)) :
    ∀ target, Steps p.tables e below (T0.setTop (mkF m 23 #[s0, .val (.long j1), .second, s3, s4, .val (.long j5), .second, s7, s8, .val (.long j9), .second, s11, .val (.long j12), .second, .val (.long (j1 + (j12 * j5))), .second, .val (.int (0 : Int32)), s17, s18] [])) target → Steps p.tables e below (T0.setTop (mkF m 3 #[s0, .val (.long j1), .second, s3, s4, .val (.long j5), .second, s7, s8, .val (.long j9), .second, s11, .val (.long j12), .second, .val (.long j14), .second, s16, s17, s18] [])) target := by

  intro target kt
  show Steps p.tables e below (T0.setTop (mkF m 3 #[s0, .val (.long j1), .second, s3, s4, .val (.long j5), .second, s7, s8, .val (.long j9), .second, s11, .val (.long j12), .second, .val (.long j14), .second, s16, s17, s18] [])) _
  refine XS.lload X0.here hx rfl (hb hby d1_3) rfl ?_
  show Steps p.tables e below (T0.setTop (mkF m 5 #[s0, .val (.long j1), .second, s3, s4, .val (.long j5), .second, s7, s8, .val (.long j9), .second, s11, .val (.long j12), .second, .val (.long j14), .second, s16, s17, s18] [(.long j12)])) _
  refine XS.lload X0.here hx rfl (hb hby d1_5) rfl ?_
  show Steps p.tables e below (T0.setTop (mkF m 7 #[s0, .val (.long j1), .second, s3, s4, .val (.long j5), .second, s7, s8, .val (.long j9), .second, s11, .val (.long j12), .second, .val (.long j14), .second, s16, s17, s18] [(.long j9), (.long j12)])) _
  refine XS.lcmp X0.here hx rfl (hb hby d1_7) rfl ?_
  show Steps p.tables e below (T0.setTop (mkF m 8 #[s0, .val (.long j1), .second, s3, s4, .val (.long j5), .second, s7, s8, .val (.long j9), .second, s11, .val (.long j12), .second, .val (.long j14), .second, s16, s17, s18] [(.int (lcmpW j12 j9))])) _
  refine XS.ifNo X0.here hx rfl (hb hby d1_8) rfl ((if0 _ _).trans (tlt hc8).2.1) ?_
  show Steps p.tables e below (T0.setTop (mkF m 11 #[s0, .val (.long j1), .second, s3, s4, .val (.long j5), .second, s7, s8, .val (.long j9), .second, s11, .val (.long j12), .second, .val (.long j14), .second, s16, s17, s18] [])) _
  refine XS.lloadN X0.here hx rfl (hb hby d1_11) rfl ?_
  show Steps p.tables e below (T0.setTop (mkF m 12 #[s0, .val (.long j1), .second, s3, s4, .val (.long j5), .second, s7, s8, .val (.long j9), .second, s11, .val (.long j12), .second, .val (.long j14), .second, s16, s17, s18] [(.long j1)])) _
  refine XS.lload X0.here hx rfl (hb hby d1_12) rfl ?_
  show Steps p.tables e below (T0.setTop (mkF m 14 #[s0, .val (.long j1), .second, s3, s4, .val (.long j5), .second, s7, s8, .val (.long j9), .second, s11, .val (.long j12), .second, .val (.long j14), .second, s16, s17, s18] [(.long j12), (.long j1)])) _
  refine XS.lload X0.here hx rfl (hb hby d1_14) rfl ?_
  show Steps p.tables e below (T0.setTop (mkF m 16 #[s0, .val (.long j1), .second, s3, s4, .val (.long j5), .second, s7, s8, .val (.long j9), .second, s11, .val (.long j12), .second, .val (.long j14), .second, s16, s17, s18] [(.long j5), (.long j12), (.long j1)])) _
  refine XS.lmul X0.here hx rfl (hb hby d1_16) rfl ?_
  show Steps p.tables e below (T0.setTop (mkF m 17 #[s0, .val (.long j1), .second, s3, s4, .val (.long j5), .second, s7, s8, .val (.long j9), .second, s11, .val (.long j12), .second, .val (.long j14), .second, s16, s17, s18] [(.long (j12 * j5)), (.long j1)])) _
  refine XS.ladd X0.here hx rfl (hb hby d1_17) rfl ?_
  show Steps p.tables e below (T0.setTop (mkF m 18 #[s0, .val (.long j1), .second, s3, s4, .val (.long j5), .second, s7, s8, .val (.long j9), .second, s11, .val (.long j12), .second, .val (.long j14), .second, s16, s17, s18] [(.long (j1 + (j12 * j5)))])) _
  refine XS.lstore X0.here hx rfl (hb hby d1_18) rfl (l' := #[s0, .val (.long j1), .second, s3, s4, .val (.long j5), .second, s7, s8, .val (.long j9), .second, s11, .val (.long j12), .second, .val (.long (j1 + (j12 * j5))), .second, s16, s17, s18]) rfl ?_
  show Steps p.tables e below (T0.setTop (mkF m 20 #[s0, .val (.long j1), .second, s3, s4, .val (.long j5), .second, s7, s8, .val (.long j9), .second, s11, .val (.long j12), .second, .val (.long (j1 + (j12 * j5))), .second, s16, s17, s18] [])) _
  refine XS.iconst X0.here hx rfl (hb hby d1_20) ?_
  show Steps p.tables e below (T0.setTop (mkF m 21 #[s0, .val (.long j1), .second, s3, s4, .val (.long j5), .second, s7, s8, .val (.long j9), .second, s11, .val (.long j12), .second, .val (.long (j1 + (j12 * j5))), .second, s16, s17, s18] [(.int (0 : Int32))])) _
  refine XS.istore X0.here hx rfl (hb hby d1_21) rfl (l' := #[s0, .val (.long j1), .second, s3, s4, .val (.long j5), .second, s7, s8, .val (.long j9), .second, s11, .val (.long j12), .second, .val (.long (j1 + (j12 * j5))), .second, .val (.int (0 : Int32)), s17, s18]) (os1_21_own_p1j hs16) ?_
  exact kt
set_option maxRecDepth 65536 in
set_option maxHeartbeats 40000000 in
theorem own_p2 {p : Program} {l : Launch} {e : Env} {R : Room} {s : State} {m : MethodId} {args : Array Value} {below : List Frame} {meth : Method} {c : Code} {T0 : State} {locs : List Loc} {cells slots : Nat} {Z : State} {a0 : Array Value} {h0 : Heap} (s0 : Slot) (s1 : Slot) (s2 : Slot) (s3 : Slot) (s4 : Slot) (s5 : Slot) (s6 : Slot) (s7 : Slot) (s8 : Slot) (j9 : Int64) (s11 : Slot) (j12 : Int64) (s14 : Slot) (s15 : Slot) (s16 : Slot) (s17 : Slot) (s18 : Slot)
    (X0 : Stand p l e R s m args below meth c T0 locs cells slots) (hx : p.tables.exec = Jvm.exec) (hZ : Z.Warmed39 s.vm) (hw : ∀ d ∈ tables_1, d.before a0 Z = true) (hby : c.code = prog_137_method_5_code) (hml : c.maxLocals = 19) (hown : s.vm.findClass "com/example/chunkwell/chunkwell/codecs/RowCopies" = some m.cls) (e0 : T0.heap = h0) (hc8 : ¬ ((lcmpW j12 j9) < (0 : Int32))) :
    ∀ target, Steps p.tables e below (T0.setTop (mkF m 88 #[s0, s1, s2, s3, s4, s5, s6, s7, s8, .val (.long j9), .second, s11, .val (.long j12), .second, s14, s15, s16, s17, s18] [])) target → Steps p.tables e below (T0.setTop (mkF m 3 #[s0, s1, s2, s3, s4, s5, s6, s7, s8, .val (.long j9), .second, s11, .val (.long j12), .second, s14, s15, s16, s17, s18] [])) target := by

  intro target kt
  show Steps p.tables e below (T0.setTop (mkF m 3 #[s0, s1, s2, s3, s4, s5, s6, s7, s8, .val (.long j9), .second, s11, .val (.long j12), .second, s14, s15, s16, s17, s18] [])) _
  refine XS.lload X0.here hx rfl (hb hby d1_3) rfl ?_
  show Steps p.tables e below (T0.setTop (mkF m 5 #[s0, s1, s2, s3, s4, s5, s6, s7, s8, .val (.long j9), .second, s11, .val (.long j12), .second, s14, s15, s16, s17, s18] [(.long j12)])) _
  refine XS.lload X0.here hx rfl (hb hby d1_5) rfl ?_
  show Steps p.tables e below (T0.setTop (mkF m 7 #[s0, s1, s2, s3, s4, s5, s6, s7, s8, .val (.long j9), .second, s11, .val (.long j12), .second, s14, s15, s16, s17, s18] [(.long j9), (.long j12)])) _
  refine XS.lcmp X0.here hx rfl (hb hby d1_7) rfl ?_
  show Steps p.tables e below (T0.setTop (mkF m 8 #[s0, s1, s2, s3, s4, s5, s6, s7, s8, .val (.long j9), .second, s11, .val (.long j12), .second, s14, s15, s16, s17, s18] [(.int (lcmpW j12 j9))])) _
  refine XS.ifYes X0.here hx rfl (pc0 := 8) (pc' := 88) rfl (hb hby d1_8) rfl ((if0 _ _).trans (flt hc8).2.1) (by decide) (by decide) ?_
  exact kt
set_option maxRecDepth 65536 in
set_option maxHeartbeats 40000000 in
theorem own_inner {p : Program} {l : Launch} {e : Env} {R : Room} {s : State} {m : MethodId} {args : Array Value} {below : List Frame} {meth : Method} {c : Code} {T0 : State} {locs : List Loc} {cells slots : Nat} {Z : State} {a0 : Array Value} {h0 : Heap} (o : Addr) (cl : Cell) (Ar : Arr Z h0 o cl .byte) (hsz : cl.slots.size = 24) (f : Nat → Int32) (hf : ∀ j, j < 24 → cl.slots[j]? = some (.int (f j))) (s1 s2 s3 s4 s5 s6 s7 s8 s9 s10 s12 s13 s14 s15 s16 : Slot) (v : Int32) (en : Nat) (hen : en ≤ 24)
    (X0 : Stand p l e R s m args below meth c T0 locs cells slots) (hx : p.tables.exec = Jvm.exec) (hZ : Z.Warmed39 s.vm) (hw : ∀ d ∈ tables_1, d.before a0 Z = true) (hby : c.code = prog_137_method_5_code) (hml : c.maxLocals = 19) (hown : s.vm.findClass "com/example/chunkwell/chunkwell/codecs/RowCopies" = some m.cls) (e0 : T0.heap = h0) (k : Nat) : ∀ (a : Nat), a + k = en →
    ((∃ i, a ≤ i ∧ i < en ∧ ¬ f i = v ∧ ∃ (Ls : Array Slot), ∀ target, Steps p.tables e below (T0.setTop (mkF m 59 Ls [])) target → Steps p.tables e below (T0.setTop (mkF m 43 #[.val (.ref o), s1, s2, s3, s4, s5, s6, s7, s8, s9, s10, .val (.int v), s12, s13, s14, s15, s16, .val (.int (Int32.ofNat en)), .val (.int (Int32.ofNat a))] [])) target) ∨
     ((∀ i, a ≤ i → i < en → f i = v) ∧ ∀ target, Steps p.tables e below (T0.setTop (mkF m 43 #[.val (.ref o), s1, s2, s3, s4, s5, s6, s7, s8, s9, s10, .val (.int v), s12, s13, s14, s15, s16, .val (.int (Int32.ofNat en)), .val (.int (Int32.ofNat en))] [])) target → Steps p.tables e below (T0.setTop (mkF m 43 #[.val (.ref o), s1, s2, s3, s4, s5, s6, s7, s8, s9, s10, .val (.int v), s12, s13, s14, s15, s16, .val (.int (Int32.ofNat en)), .val (.int (Int32.ofNat a))] [])) target)) := by
  induction k with
  | zero =>
    intro a ha
    have : a = en := by omega
    subst this
    exact Or.inr ⟨fun i h1 h2 => absurd h2 (by omega), fun target h => h⟩
  | succ k ih =>
    intro a ha
    have hlt : Int32.ofNat a < Int32.ofNat en := (own_lt a en (by omega) (by omega)).mpr (by omega)
    have hcl : (Int32.ofNat a).toNatClampNeg = a := own_cl a (by omega)
    have hin : ¬ (Int32.ofNat a < 0 ∨ cl.slots.size ≤ (Int32.ofNat a).toNatClampNeg) := by
      rw [hcl, hsz]
      rintro (q | q)
      · exact own_n0 a (by omega) q
      · omega
    have hat : cl.slots[(Int32.ofNat a).toNatClampNeg]? = some (.int (f a)) := by
      rw [hcl]; exact hf a (by omega)
    by_cases hv : f a = v
    · have turn := own_i1 o s1 s2 s3 s4 s5 s6 s7 s8 s9 s10 v s12 s13 s14 s15 s16 (Int32.ofNat en) (Int32.ofNat a) (f a) cl X0 hx hZ hw hby hml hown e0 Ar hin hat hlt hv
      rw [own_up] at turn
      rcases ih (a + 1) (by omega) with ⟨i, h1, h2, h3, Ls, h4⟩ | ⟨h1, h2⟩
      · exact Or.inl ⟨i, by omega, h2, h3, Ls, fun target h => turn target (h4 target h)⟩
      · refine Or.inr ⟨fun i q1 q2 => ?_, fun target h => turn target (h2 target h)⟩
        by_cases hi : i = a
        · rw [hi]; exact hv
        · exact h1 i (by omega) q2
    · exact Or.inl ⟨a, Nat.le_refl a, by omega, hv, _, own_i2 o s1 s2 s3 s4 s5 s6 s7 s8 s9 s10 v s12 s13 s14 s15 s16 (Int32.ofNat en) (Int32.ofNat a) (f a) cl X0 hx hZ hw hby hml hown e0 Ar hin hat hlt hv⟩
set_option maxRecDepth 65536 in
set_option maxHeartbeats 40000000 in
theorem own_rows {p : Program} {l : Launch} {e : Env} {R : Room} {s : State} {m : MethodId} {args : Array Value} {below : List Frame} {meth : Method} {c : Code} {T0 : State} {locs : List Loc} {cells slots : Nat} {Z : State} {a0 : Array Value} {h0 : Heap} (o : Addr) (cl : Cell) (Ar : Arr Z h0 o cl .byte) (hsz : cl.slots.size = 24) (f : Nat → Int32) (hf : ∀ j, j < 24 → cl.slots[j]? = some (.int (f j))) (s1 s2 s5 s6 s9 s10 s12 s13 : Slot) (v : Int32) (rs rb rows : Nat) (hrows : rows < 4) (hrb : rb < 4)
    (X0 : Stand p l e R s m args below meth c T0 locs cells slots) (hx : p.tables.exec = Jvm.exec) (hZ : Z.Warmed39 s.vm) (hw : ∀ d ∈ tables_1, d.before a0 Z = true) (hby : c.code = prog_137_method_5_code) (hml : c.maxLocals = 19) (hown : s.vm.findClass "com/example/chunkwell/chunkwell/codecs/RowCopies" = some m.cls) (e0 : T0.heap = h0) (k : Nat) : ∀ (r sx : Nat) (s17 s18 : Slot), r + k = rows → sx + k * rs + rb ≤ 24 → One s17 → One s18 →
    ((∃ j, j < k ∧ ∃ i, i < rb ∧ ¬ f (sx + j * rs + i) = v ∧ ∃ (Ls : Array Slot), ∀ target, Steps p.tables e below (T0.setTop (mkF m 59 Ls [])) target → Steps p.tables e below (T0.setTop (mkF m 23 #[.val (.ref o), s1, s2, .val (.long (Int64.ofNat rs)), .second, s5, s6, .val (.int (Int32.ofNat rb)), .val (.int (Int32.ofNat rows)), s9, s10, .val (.int v), s12, s13, .val (.long (Int64.ofNat sx)), .second, .val (.int (Int32.ofNat r)), s17, s18] [])) target) ∨
     ((∀ j, j < k → ∀ i, i < rb → f (sx + j * rs + i) = v) ∧ ∃ (sy : Nat) (t17 t18 : Slot), One t17 ∧ One t18 ∧ ∀ target, Steps p.tables e below (T0.setTop (mkF m 23 #[.val (.ref o), s1, s2, .val (.long (Int64.ofNat rs)), .second, s5, s6, .val (.int (Int32.ofNat rb)), .val (.int (Int32.ofNat rows)), s9, s10, .val (.int v), s12, s13, .val (.long (Int64.ofNat sy)), .second, .val (.int (Int32.ofNat rows)), t17, t18] [])) target → Steps p.tables e below (T0.setTop (mkF m 23 #[.val (.ref o), s1, s2, .val (.long (Int64.ofNat rs)), .second, s5, s6, .val (.int (Int32.ofNat rb)), .val (.int (Int32.ofNat rows)), s9, s10, .val (.int v), s12, s13, .val (.long (Int64.ofNat sx)), .second, .val (.int (Int32.ofNat r)), s17, s18] [])) target)) := by
  induction k with
  | zero =>
    intro r sx s17 s18 hr hb h17 h18
    have : r = rows := by omega
    subst this
    exact Or.inr ⟨fun j h1 => absurd h1 (by omega), sx, s17, s18, h17, h18, fun target h => h⟩
  | succ k ih =>
    intro r sx s17 s18 hr hb h17 h18
    rw [Nat.succ_mul] at hb
    have hlt : Int32.ofNat r < Int32.ofNat rows := (own_lt r rows (by omega) (by omega)).mpr (by omega)
    have go := own_r1 (.val (.ref o)) s1 s2 (.val (.long (Int64.ofNat rs))) .second s5 s6 (Int32.ofNat rb) (Int32.ofNat rows) s9 s10 (.val (.int v)) s12 s13 (Int64.ofNat sx) (Int32.ofNat r) s17 s18 X0 hx hZ hw hby hml hown e0 h17 h18 hlt
    rw [Int64.toInt32_ofNat', ← Int32.ofNat_add] at go
    rcases own_inner o cl Ar hsz f hf s1 s2 (.val (.long (Int64.ofNat rs))) .second s5 s6 (.val (.int (Int32.ofNat rb))) (.val (.int (Int32.ofNat rows))) s9 s10 s12 s13 (.val (.long (Int64.ofNat sx))) .second (.val (.int (Int32.ofNat r))) v (sx + rb) (by omega) X0 hx hZ hw hby hml hown e0 rb sx rfl with ⟨i, h1, h2, h3, Ls, h4⟩ | ⟨h1, h2⟩
    · refine Or.inl ⟨0, by omega, i - sx, by omega, ?_, Ls, fun target h => go target (h4 target h)⟩
      have : sx + 0 * rs + (i - sx) = i := by omega
      rw [this]; exact h3
    · have out := own_i3 (.val (.ref o)) s1 s2 (Int64.ofNat rs) s5 s6 (.val (.int (Int32.ofNat rb))) (.val (.int (Int32.ofNat rows))) s9 s10 (.val (.int v)) s12 s13 (Int64.ofNat sx) (Int32.ofNat r) (Int32.ofNat (sx + rb)) (Int32.ofNat (sx + rb)) X0 hx hZ hw hby hml hown e0 (fun q => absurd ((own_lt _ _ (by omega) (by omega)).mp q) (by omega))
      rw [own_up, ← Int64.ofNat_add] at out
      have hrow : ∀ i, i < rb → f (sx + i) = v := fun i hi => h1 (sx + i) (by omega) (by omega)
      rcases ih (r + 1) (sx + rs) (.val (.int (Int32.ofNat (sx + rb)))) (.val (.int (Int32.ofNat (sx + rb)))) (by omega) (by omega) (One.val rfl) (One.val rfl) with ⟨j, q1, i, q2, q3, Ls, q4⟩ | ⟨q1, sy, t17, t18, q2, q3, q4⟩
      · refine Or.inl ⟨j + 1, by omega, i, q2, ?_, Ls, fun target h => go target (h2 target (out target (q4 target h)))⟩
        have : sx + (j + 1) * rs + i = sx + rs + j * rs + i := by rw [Nat.succ_mul]; omega
        rw [this]; exact q3
      · refine Or.inr ⟨fun j hj i hi => ?_, sy, t17, t18, q2, q3, fun target h => go target (h2 target (out target (q4 target h)))⟩
        cases j with
        | zero => rw [Nat.zero_mul]; exact hrow i hi
        | succ j =>
          have : sx + (j + 1) * rs + i = sx + rs + j * rs + i := by rw [Nat.succ_mul]; omega
          rw [this]; exact q1 j (by omega) i hi
set_option maxRecDepth 65536 in
set_option maxHeartbeats 40000000 in
theorem own_planes {p : Program} {l : Launch} {e : Env} {R : Room} {s : State} {m : MethodId} {args : Array Value} {below : List Frame} {meth : Method} {c : Code} {T0 : State} {locs : List Loc} {cells slots : Nat} {Z : State} {a0 : Array Value} {h0 : Heap} (o : Addr) (cl : Cell) (Ar : Arr Z h0 o cl .byte) (hsz : cl.slots.size = 24) (f : Nat → Int32) (hf : ∀ j, j < 24 → cl.slots[j]? = some (.int (f j))) (v : Int32) (idx rs ps rb rows planes : Nat) (hrows : rows < 4) (hrb : rb < 4) (hidx : idx < 4) (hrs : rs < 4) (hps : ps < 4) (hpl : planes < 4)
    (X0 : Stand p l e R s m args below meth c T0 locs cells slots) (hx : p.tables.exec = Jvm.exec) (hZ : Z.Warmed39 s.vm) (hw : ∀ d ∈ tables_1, d.before a0 Z = true) (hby : c.code = prog_137_method_5_code) (hml : c.maxLocals = 19) (hown : s.vm.findClass "com/example/chunkwell/chunkwell/codecs/RowCopies" = some m.cls) (e0 : T0.heap = h0) (k : Nat) : ∀ (pl : Nat) (s14 s15 s16 s17 s18 : Slot), pl + k = planes → ((s14 = .unset ∧ s15 = .unset) ∨ ∃ z, s14 = .val (.long z) ∧ s15 = .second) → One s16 → One s17 → One s18 →
    ((∃ d, d < k ∧ ∃ r, r < rows ∧ ∃ i, i < rb ∧ ¬ f (idx + (pl + d) * ps + r * rs + i) = v ∧ ∃ (Ls : Array Slot), ∀ target, Steps p.tables e below (T0.setTop (mkF m 59 Ls [])) target → Steps p.tables e below (T0.setTop (mkF m 3 #[.val (.ref o), .val (.long (Int64.ofNat idx)), .second, .val (.long (Int64.ofNat rs)), .second, .val (.long (Int64.ofNat ps)), .second, .val (.int (Int32.ofNat rb)), .val (.int (Int32.ofNat rows)), .val (.long (Int64.ofNat planes)), .second, .val (.int v), .val (.long (Int64.ofNat pl)), .second, s14, s15, s16, s17, s18] [])) target) ∨
     ((∀ d, d < k → ∀ r, r < rows → ∀ i, i < rb → f (idx + (pl + d) * ps + r * rs + i) = v) ∧ ∃ (t14 t15 t16 t17 t18 : Slot), ∀ target, Steps p.tables e below (T0.setTop (mkF m 3 #[.val (.ref o), .val (.long (Int64.ofNat idx)), .second, .val (.long (Int64.ofNat rs)), .second, .val (.long (Int64.ofNat ps)), .second, .val (.int (Int32.ofNat rb)), .val (.int (Int32.ofNat rows)), .val (.long (Int64.ofNat planes)), .second, .val (.int v), .val (.long (Int64.ofNat planes)), .second, t14, t15, t16, t17, t18] [])) target → Steps p.tables e below (T0.setTop (mkF m 3 #[.val (.ref o), .val (.long (Int64.ofNat idx)), .second, .val (.long (Int64.ofNat rs)), .second, .val (.long (Int64.ofNat ps)), .second, .val (.int (Int32.ofNat rb)), .val (.int (Int32.ofNat rows)), .val (.long (Int64.ofNat planes)), .second, .val (.int v), .val (.long (Int64.ofNat pl)), .second, s14, s15, s16, s17, s18] [])) target)) := by
  induction k with
  | zero =>
    intro pl s14 s15 s16 s17 s18 hp hs h16 h17 h18
    have : pl = planes := by omega
    subst this
    exact Or.inr ⟨fun d h1 => absurd h1 (by omega), s14, s15, s16, s17, s18, fun target h => h⟩
  | succ k ih =>
    intro pl s14 s15 s16 s17 s18 hp hs h16 h17 h18
    have hlt : lcmpW (Int64.ofNat pl) (Int64.ofNat planes) < (0 : Int32) := (own_ltL pl planes (by omega) (by omega)).mpr (by omega)
    have go : ∀ target, Steps p.tables e below (T0.setTop (mkF m 23 #[.val (.ref o), .val (.long (Int64.ofNat idx)), .second, .val (.long (Int64.ofNat rs)), .second, .val (.long (Int64.ofNat ps)), .second, .val (.int (Int32.ofNat rb)), .val (.int (Int32.ofNat rows)), .val (.long (Int64.ofNat planes)), .second, .val (.int v), .val (.long (Int64.ofNat pl)), .second, .val (.long (Int64.ofNat (idx + pl * ps))), .second, .val (.int (Int32.ofNat 0)), s17, s18] [])) target → Steps p.tables e below (T0.setTop (mkF m 3 #[.val (.ref o), .val (.long (Int64.ofNat idx)), .second, .val (.long (Int64.ofNat rs)), .second, .val (.long (Int64.ofNat ps)), .second, .val (.int (Int32.ofNat rb)), .val (.int (Int32.ofNat rows)), .val (.long (Int64.ofNat planes)), .second, .val (.int v), .val (.long (Int64.ofNat pl)), .second, s14, s15, s16, s17, s18] [])) target := by
      rw [Int64.ofNat_add, Int64.ofNat_mul]
      rcases hs with ⟨rfl, rfl⟩ | ⟨z, rfl, rfl⟩
      · exact own_p1u (.val (.ref o)) (Int64.ofNat idx) (.val (.long (Int64.ofNat rs))) .second (Int64.ofNat ps) (.val (.int (Int32.ofNat rb))) (.val (.int (Int32.ofNat rows))) (Int64.ofNat planes) (.val (.int v)) (Int64.ofNat pl) s16 s17 s18 X0 hx hZ hw hby hml hown e0 h16 hlt
      · exact own_p1j (.val (.ref o)) (Int64.ofNat idx) (.val (.long (Int64.ofNat rs))) .second (Int64.ofNat ps) (.val (.int (Int32.ofNat rb))) (.val (.int (Int32.ofNat rows))) (Int64.ofNat planes) (.val (.int v)) (Int64.ofNat pl) s16 s17 s18 z X0 hx hZ hw hby hml hown e0 h16 hlt
    have hm1 : pl * ps ≤ 2 * 3 := Nat.mul_le_mul (by omega) (by omega)
    have hm2 : rows * rs ≤ 3 * 3 := Nat.mul_le_mul (by omega) (by omega)
    rcases own_rows o cl Ar hsz f hf (.val (.long (Int64.ofNat idx))) .second (.val (.long (Int64.ofNat ps))) .second (.val (.long (Int64.ofNat planes))) .second (.val (.long (Int64.ofNat pl))) .second v rs rb rows hrows hrb X0 hx hZ hw hby hml hown e0 rows 0 (idx + pl * ps) s17 s18 (by omega) (by omega) h17 h18 with ⟨r, h1, i, h2, h3, Ls, h4⟩ | ⟨h1, sy, t17, t18, g17, g18, h2⟩
    · exact Or.inl ⟨0, by omega, r, h1, i, h2, h3, Ls, fun target h => go target (h4 target h)⟩
    · have out := own_r2 (.val (.ref o)) (.val (.long (Int64.ofNat idx))) .second (.val (.long (Int64.ofNat rs))) .second (.val (.long (Int64.ofNat ps))) .second (.val (.int (Int32.ofNat rb))) (Int32.ofNat rows) (.val (.long (Int64.ofNat planes))) .second (.val (.int v)) (Int64.ofNat pl) (.val (.long (Int64.ofNat sy))) .second (Int32.ofNat rows) t17 t18 X0 hx hZ hw hby hml hown e0 (fun q => absurd ((own_lt _ _ (by omega) (by omega)).mp q) (by omega))
      rw [own_upL] at out
      rcases ih (pl + 1) (.val (.long (Int64.ofNat sy))) .second (.val (.int (Int32.ofNat rows))) t17 t18 (by omega) (Or.inr ⟨_, rfl, rfl⟩) (One.val rfl) g17 g18 with ⟨d, q1, r, q2, i, q3, q4, Ls, q5⟩ | ⟨q1, t14, t15, t16, u17, u18, q2⟩
      · refine Or.inl ⟨d + 1, by omega, r, q2, i, q3, ?_, Ls, fun target h => go target (h2 target (out target (q5 target h)))⟩
        have : pl + (d + 1) = pl + 1 + d := by omega
        rw [this]; exact q4
      · refine Or.inr ⟨fun d hd r hr i hi => ?_, t14, t15, t16, u17, u18, fun target h => go target (h2 target (out target (q2 target h)))⟩
        cases d with
        | zero => exact h1 r hr i hi
        | succ d =>
          have : pl + (d + 1) = pl + 1 + d := by omega
          rw [this]; exact q1 d (by omega) r hr i hi
theorem d1_0 : decode prog_137_method_5_code 0 = .ok (.lconst 0, 1) := by decide +kernel
theorem d1_1 : decode prog_137_method_5_code 1 = .ok (.lstore 12, 2) := by decide +kernel
theorem d1_88 : decode prog_137_method_5_code 88 = .ok (.iconst 1, 1) := by decide +kernel
theorem d1_89 : decode prog_137_method_5_code 89 = .ok (.ireturn, 1) := by decide +kernel
theorem pn_1 : plainName "com/example/chunkwell/chunkwell/codecs/RowCopies" = true := by first | (simp [plainName, overriddenIn]; done) | decide +kernel
theorem ef_1 (m : MethodId) (x0 : Addr) (x1 : Int64) (x2 : Int64) (x3 : Int64) (x4 : Int32) (x5 : Int32) (x6 : Int64) (x7 : Int32) : entryFrame m #[(.ref x0), (.long x1), (.long x2), (.long x3), (.int x4), (.int x5), (.long x6), (.int x7)] 19 = mkF m 0 #[.val (.ref x0), .val (.long x1), .second, .val (.long x2), .second, .val (.long x3), .second, .val (.int x4), .val (.int x5), .val (.long x6), .second, .val (.int x7), .unset, .unset, .unset, .unset, .unset, .unset, .unset] [] := by first | (simp [entryFrame, mkF, argsToLocals, Value.category]; done) | rfl
theorem d1_59 : decode prog_137_method_5_code 59 = .ok (.iconst 0, 1) := by decide +kernel
theorem d1_60 : decode prog_137_method_5_code 60 = .ok (.ireturn, 1) := by decide +kernel
def Q1 (Z : State) (a1 : Addr) (p8 : Int32) (cl : Cell) (f : Nat → Int32) (idx rs ps rb rows planes : Nat) (h0 : Heap) (n0 : Nat) (v : Option Value) (h : Heap) (L : List Loc) : Prop := v = some (.int (own_b (own_A f p8 idx rs ps rb rows planes))) ∧ Fr n0 L ∧ h = h0
set_option maxRecDepth 65536 in
set_option maxHeartbeats 40000000 in
theorem rm1 (l : Launch) (Z : State) (a0 : Array Value) (hw : ∀ d ∈ tables_1, d.before a0 Z = true) (ws : List Jvm.Cond) (a1 : Addr) (p8 : Int32) (cl : Cell) (f : Nat → Int32) (idx rs ps rb rows planes : Nat) (h0 : Heap) (n0 : Nat) (Z0 : n0 ≤ h0.size) (Ar : Arr Z h0 a1 cl .byte) (hsz : cl.slots.size = 24) (hf : ∀ j, j < 24 → cl.slots[j]? = some (.int (f j))) (hrows : rows < 4) (hrb : rb < 4) (hidx : idx < 4) (hrs : rs < 4) (hps : ps < 4) (hpl : planes < 4) :
    MetFree l (⟨"com/example/chunkwell/chunkwell/codecs/RowCopies", "eachByteIs", "([BJJJIIJB)Z"⟩ : MethodName) (head1 (Jvm.Cond.code (⟨"com/example/chunkwell/chunkwell/codecs/RowCopies", "eachByteIs", "([BJJJIIJB)Z"⟩ : MethodName) prog_137_method_5_code 19 (some .boolean) :: ws) ({ frames := 0, cells := 0, slots := 0, locals := 0 } : Room)) (fun a U => a = #[(.ref a1), (.long (Int64.ofNat idx)), (.long (Int64.ofNat rs)), (.long (Int64.ofNat ps)), (.int (Int32.ofNat rb)), (.int (Int32.ofNat rows)), (.long (Int64.ofNat planes)), (.int p8)] ∧ Z.Warmed39 U.vm ∧ U.heap = h0) (fun _ _ _ _ _ => True) (fun _ U o U' => ∃ v L, o = .returned v ∧ Q1 Z a1 p8 cl f idx rs ps rb rows planes h0 n0 v U'.heap L ∧ FrameEnd U o U' L ({ frames := 0, cells := 0, slots := 0, locals := 0 } : Room).cells ({ frames := 0, cells := 0, slots := 0, locals := 0 } : Room).slots) := by
  refine MetFree.of_bodySF (plainFor_of_name pn_1) hisR ?_
  intro p e s m args below meth c s₁ Bd hml0 hP hK
  obtain ⟨rfl, hZ, hh⟩ := hP
  have hx := Bd.exec
  have hby := Bd.bytes
  have hml : c.maxLocals = 19 := hml0
  have hown : s.vm.findClass "com/example/chunkwell/chunkwell/codecs/RowCopies" = some m.cls := findClass_of_methodNamed Bd.named
  have hnm := (name_of_methodNamed Bd.named Bd.method).1
  have X0 : Stand p l e ({ frames := 0, cells := 0, slots := 0, locals := 0 } : Room) s m #[(.ref a1), (.long (Int64.ofNat idx)), (.long (Int64.ofNat rs)), (.long (Int64.ofNat ps)), (.int (Int32.ofNat rb)), (.int (Int32.ofNat rows)), (.long (Int64.ofNat planes)), (.int p8)] below meth c s₁ [] 0 0 := Stand.of_body Bd
  have e0 : s₁.heap = h0 := by rw [← hh, Bd.state]; rfl
  have N0 := Fr.nil n0
  have pre0 : ∀ t, Steps p.tables e below (s₁.setTop (mkF m 0 #[.val (.ref a1), .val (.long (Int64.ofNat idx)), .second, .val (.long (Int64.ofNat rs)), .second, .val (.long (Int64.ofNat ps)), .second, .val (.int (Int32.ofNat rb)), .val (.int (Int32.ofNat rows)), .val (.long (Int64.ofNat planes)), .second, .val (.int p8), .unset, .unset, .unset, .unset, .unset, .unset, .unset] [])) t → Steps p.tables e below (s₁.setTop (entryFrame m #[(.ref a1), (.long (Int64.ofNat idx)), (.long (Int64.ofNat rs)), (.long (Int64.ofNat ps)), (.int (Int32.ofNat rb)), (.int (Int32.ofNat rows)), (.long (Int64.ofNat planes)), (.int p8)] 19)) t := fun t k => castTop (ef_1 m a1 (Int64.ofNat idx) (Int64.ofNat rs) (Int64.ofNat ps) (Int32.ofNat rb) (Int32.ofNat rows) (Int64.ofNat planes) p8) k
  rcases own_planes a1 cl Ar hsz f hf p8 idx rs ps rb rows planes hrows hrb hidx hrs hps hpl X0 hx hZ hw hby hml hown e0 planes 0 .unset .unset .unset .unset .unset (by omega) (Or.inl ⟨rfl, rfl⟩) One.u One.u One.u with ⟨d, h1, r, h2, i, h3, h4, Ls, h5⟩ | ⟨h1, t14, t15, t16, t17, t18, h2⟩
  · have hA : ¬ own_A f p8 idx rs ps rb rows planes := fun q => h4 (by rw [Nat.zero_add]; exact q d h1 r h2 i h3)
    obtain ⟨fs, hr, hrun, hended, hW, hsame⟩ := X0.leave (v := some (.int (0 : Int32))) (fun h => by rw [Bd.returns] at h; cases h)
    refine ⟨_, _, pre0 _ ?_, hrun, hended, _, _, rfl, ?_, ⟨_, rfl⟩, hW, hsame.mono (by decide) (by decide)⟩
    · show Steps p.tables e below (s₁.setTop (mkF m 0 #[.val (.ref a1), .val (.long (Int64.ofNat idx)), .second, .val (.long (Int64.ofNat rs)), .second, .val (.long (Int64.ofNat ps)), .second, .val (.int (Int32.ofNat rb)), .val (.int (Int32.ofNat rows)), .val (.long (Int64.ofNat planes)), .second, .val (.int p8), .unset, .unset, .unset, .unset, .unset, .unset, .unset] [])) _
      refine XS.lconst X0.here hx rfl (hb hby d1_0) ?_
      refine XS.lstore X0.here hx rfl (hb hby d1_1) rfl (l' := #[.val (.ref a1), .val (.long (Int64.ofNat idx)), .second, .val (.long (Int64.ofNat rs)), .second, .val (.long (Int64.ofNat ps)), .second, .val (.int (Int32.ofNat rb)), .val (.int (Int32.ofNat rows)), .val (.long (Int64.ofNat planes)), .second, .val (.int p8), .val (.long (Int64.ofNat 0)), .second, .unset, .unset, .unset, .unset, .unset]) rfl ?_
      show Steps p.tables e below (s₁.setTop (mkF m 3 #[.val (.ref a1), .val (.long (Int64.ofNat idx)), .second, .val (.long (Int64.ofNat rs)), .second, .val (.long (Int64.ofNat ps)), .second, .val (.int (Int32.ofNat rb)), .val (.int (Int32.ofNat rows)), .val (.long (Int64.ofNat planes)), .second, .val (.int p8), .val (.long (Int64.ofNat 0)), .second, .unset, .unset, .unset, .unset, .unset] [])) _
      refine h5 _ ?_
      refine XS.iconst X0.here hx rfl (hb hby d1_59) ?_
      show Steps p.tables e below (s₁.setTop (mkF m 60 Ls [(.int (0 : Int32))])) _
      exact retN X0 hx (t := .boolean) Bd.returns (by simp) (hb hby d1_60) hr
    · show Q1 Z a1 p8 cl f idx rs ps rb rows planes h0 n0 _ s₁.heap _
      rw [e0]
      exact ⟨by rw [own_b, if_neg hA], N0, rfl⟩
  · have hA : own_A f p8 idx rs ps rb rows planes := fun d hd r hr i hi => by have := h1 d hd r hr i hi; rw [Nat.zero_add] at this; exact this
    obtain ⟨fs, hr, hrun, hended, hW, hsame⟩ := X0.leave (v := some (.int (1 : Int32))) (fun h => by rw [Bd.returns] at h; cases h)
    refine ⟨_, _, pre0 _ ?_, hrun, hended, _, _, rfl, ?_, ⟨_, rfl⟩, hW, hsame.mono (by decide) (by decide)⟩
    · show Steps p.tables e below (s₁.setTop (mkF m 0 #[.val (.ref a1), .val (.long (Int64.ofNat idx)), .second, .val (.long (Int64.ofNat rs)), .second, .val (.long (Int64.ofNat ps)), .second, .val (.int (Int32.ofNat rb)), .val (.int (Int32.ofNat rows)), .val (.long (Int64.ofNat planes)), .second, .val (.int p8), .unset, .unset, .unset, .unset, .unset, .unset, .unset] [])) _
      refine XS.lconst X0.here hx rfl (hb hby d1_0) ?_
      refine XS.lstore X0.here hx rfl (hb hby d1_1) rfl (l' := #[.val (.ref a1), .val (.long (Int64.ofNat idx)), .second, .val (.long (Int64.ofNat rs)), .second, .val (.long (Int64.ofNat ps)), .second, .val (.int (Int32.ofNat rb)), .val (.int (Int32.ofNat rows)), .val (.long (Int64.ofNat planes)), .second, .val (.int p8), .val (.long (Int64.ofNat 0)), .second, .unset, .unset, .unset, .unset, .unset]) rfl ?_
      show Steps p.tables e below (s₁.setTop (mkF m 3 #[.val (.ref a1), .val (.long (Int64.ofNat idx)), .second, .val (.long (Int64.ofNat rs)), .second, .val (.long (Int64.ofNat ps)), .second, .val (.int (Int32.ofNat rb)), .val (.int (Int32.ofNat rows)), .val (.long (Int64.ofNat planes)), .second, .val (.int p8), .val (.long (Int64.ofNat 0)), .second, .unset, .unset, .unset, .unset, .unset] [])) _
      refine h2 _ ?_
      refine own_p2 _ _ _ _ _ _ _ _ _ _ _ _ _ _ _ _ _ X0 hx hZ hw hby hml hown e0 (fun q => absurd ((own_ltL _ _ (by omega) (by omega)).mp q) (by omega)) _ ?_
      refine XS.iconst X0.here hx rfl (hb hby d1_88) ?_
      exact retN X0 hx (t := .boolean) Bd.returns (by simp) (hb hby d1_89) hr
    · show Q1 Z a1 p8 cl f idx rs ps rb rows planes h0 n0 _ s₁.heap _
      rw [e0]
      exact ⟨by rw [own_b, if_pos hA], N0, rfl⟩
def own_c1 (s rb q : Int32) : Int32 := if q < s then (0 : Int32) else if q < (s + rb) then ((0 : Int32) ||| (1 : Int32)) else (0 : Int32)
def own_c2 (c s rb q : Int32) : Int32 := if rb < (2 : Int32) then (if s = q then c else (c ||| (2 : Int32))) else (c ||| (2 : Int32))
def own_row (p r rows planes rb idx rs ps q : Int32) : Int32 := if p < planes then (if r < rows then (if rb = (0 : Int32) then (0 : Int32) else own_c2 (own_c1 ((idx + (p * ps)) + (r * rs)) rb q) ((idx + (p * ps)) + (r * rs)) rb q) else (0 : Int32)) else (0 : Int32)
theorem d2_0 : decode method_3_code 0 = .ok (.iload_n 0, 1) := by decide +kernel
theorem d2_1 : decode method_3_code 1 = .ok (.iload_n 3, 1) := by decide +kernel
theorem d2_2 : decode method_3_code 2 = .ok (.if_icmp .ge 13, 3) := by decide +kernel
theorem d2_15 : decode method_3_code 15 = .ok (.iconst 0, 1) := by decide +kernel
theorem d2_16 : decode method_3_code 16 = .ok (.ireturn, 1) := by decide +kernel
theorem pn_2 : plainName "com/example/chunkwell/chunkwell/codecs/RowCopiesEachByteIsPinLaw" = true := by first | (simp [plainName, overriddenIn]; done) | decide +kernel
theorem ef_2 (m : MethodId) (x0 : Int32) (x1 : Int32) (x2 : Int32) (x3 : Int32) (x4 : Int32) (x5 : Int32) (x6 : Int32) (x7 : Int32) (x8 : Int32) : entryFrame m #[(.int x0), (.int x1), (.int x2), (.int x3), (.int x4), (.int x5), (.int x6), (.int x7), (.int x8)] 11 = mkF m 0 #[.val (.int x0), .val (.int x1), .val (.int x2), .val (.int x3), .val (.int x4), .val (.int x5), .val (.int x6), .val (.int x7), .val (.int x8), .unset, .unset] [] := by first | (simp [entryFrame, mkF, argsToLocals, Value.category]; done) | rfl
def Q2 (Z : State) (p1 : Int32) (p2 : Int32) (p3 : Int32) (p4 : Int32) (p5 : Int32) (p6 : Int32) (p7 : Int32) (p8 : Int32) (p9 : Int32) (h0 : Heap) (n0 : Nat) (v : Option Value) (h : Heap) (L : List Loc) : Prop := v = some (.int (own_row p1 p2 p3 p4 p5 p6 p7 p8 p9)) ∧ Fr n0 L ∧ h = h0
set_option maxRecDepth 65536 in
set_option maxHeartbeats 40000000 in
theorem rm2_0 (l : Launch) (Z : State) (a0 : Array Value) (hw : ∀ d ∈ tables_1, d.before a0 Z = true) (ws : List Jvm.Cond) (p1 : Int32) (p2 : Int32) (p3 : Int32) (p4 : Int32) (p5 : Int32) (p6 : Int32) (p7 : Int32) (p8 : Int32) (p9 : Int32) (h0 : Heap) (n0 : Nat) (Z0 : n0 ≤ h0.size) (hc2 : ¬ (p1 < p4)) :
    MetFree l (⟨"com/example/chunkwell/chunkwell/codecs/RowCopiesEachByteIsPinLaw", "row", "(IIIIIIIII)I"⟩ : MethodName) (head1 (Jvm.Cond.code (⟨"com/example/chunkwell/chunkwell/codecs/RowCopiesEachByteIsPinLaw", "row", "(IIIIIIIII)I"⟩ : MethodName) method_3_code 11 (some .int) :: ws) ({ frames := 0, cells := 0, slots := 0, locals := 0 } : Room)) (fun a U => a = #[(.int p1), (.int p2), (.int p3), (.int p4), (.int p5), (.int p6), (.int p7), (.int p8), (.int p9)] ∧ Z.Warmed39 U.vm ∧ U.heap = h0) (fun _ _ _ _ _ => True) (fun _ U o U' => ∃ v L, o = .returned v ∧ Q2 Z p1 p2 p3 p4 p5 p6 p7 p8 p9 h0 n0 v U'.heap L ∧ FrameEnd U o U' L ({ frames := 0, cells := 0, slots := 0, locals := 0 } : Room).cells ({ frames := 0, cells := 0, slots := 0, locals := 0 } : Room).slots) := by
  refine MetFree.of_bodySF (plainFor_of_name pn_2) hisR ?_
  intro p e s m args below meth c s₁ Bd hml0 hP hK
  obtain ⟨rfl, hZ, hh⟩ := hP
  have hx := Bd.exec
  have hby := Bd.bytes
  have hml : c.maxLocals = 11 := hml0
  have hown : s.vm.findClass "com/example/chunkwell/chunkwell/codecs/RowCopiesEachByteIsPinLaw" = some m.cls := findClass_of_methodNamed Bd.named
  have hnm := (name_of_methodNamed Bd.named Bd.method).1
  have X0 : Stand p l e ({ frames := 0, cells := 0, slots := 0, locals := 0 } : Room) s m #[(.int p1), (.int p2), (.int p3), (.int p4), (.int p5), (.int p6), (.int p7), (.int p8), (.int p9)] below meth c s₁ [] 0 0 := Stand.of_body Bd
  have e0 : s₁.heap = h0 := by rw [← hh, Bd.state]; rfl
  have N0 := Fr.nil n0
  have pre0 : ∀ t, Steps p.tables e below (s₁.setTop (mkF m 0 #[.val (.int p1), .val (.int p2), .val (.int p3), .val (.int p4), .val (.int p5), .val (.int p6), .val (.int p7), .val (.int p8), .val (.int p9), .unset, .unset] [])) t → Steps p.tables e below (s₁.setTop (entryFrame m #[(.int p1), (.int p2), (.int p3), (.int p4), (.int p5), (.int p6), (.int p7), (.int p8), (.int p9)] 11)) t := fun t k => castTop (ef_2 m p1 p2 p3 p4 p5 p6 p7 p8 p9) k

  obtain ⟨fs, hr, hrun, hended, hW, hsame⟩ := X0.leave (v := some (.int (0 : Int32))) (fun h => by rw [Bd.returns] at h; cases h)
  refine ⟨_, _, pre0 _ ?_, hrun, hended, _, _, rfl, ?_, ⟨_, rfl⟩, hW, hsame.mono (by decide) (by decide)⟩
  · show Steps p.tables e below (s₁.setTop (mkF m 0 #[.val (.int p1), .val (.int p2), .val (.int p3), .val (.int p4), .val (.int p5), .val (.int p6), .val (.int p7), .val (.int p8), .val (.int p9), .unset, .unset] [])) _
    refine XS.iloadN X0.here hx rfl (hb hby d2_0) rfl ?_
    show Steps p.tables e below (s₁.setTop (mkF m 1 #[.val (.int p1), .val (.int p2), .val (.int p3), .val (.int p4), .val (.int p5), .val (.int p6), .val (.int p7), .val (.int p8), .val (.int p9), .unset, .unset] [(.int p1)])) _
    refine XS.iloadN X0.here hx rfl (hb hby d2_1) rfl ?_
    show Steps p.tables e below (s₁.setTop (mkF m 2 #[.val (.int p1), .val (.int p2), .val (.int p3), .val (.int p4), .val (.int p5), .val (.int p6), .val (.int p7), .val (.int p8), .val (.int p9), .unset, .unset] [(.int p4), (.int p1)])) _
    refine XS.icmpYes X0.here hx rfl (pc0 := 2) (pc' := 15) rfl (hb hby d2_2) rfl (flt hc2).2.1 (by decide) (by decide) ?_
    show Steps p.tables e below (s₁.setTop (mkF m 15 #[.val (.int p1), .val (.int p2), .val (.int p3), .val (.int p4), .val (.int p5), .val (.int p6), .val (.int p7), .val (.int p8), .val (.int p9), .unset, .unset] [])) _
    refine XS.iconst X0.here hx rfl (hb hby d2_15) ?_
    show Steps p.tables e below (s₁.setTop (mkF m 16 #[.val (.int p1), .val (.int p2), .val (.int p3), .val (.int p4), .val (.int p5), .val (.int p6), .val (.int p7), .val (.int p8), .val (.int p9), .unset, .unset] [(.int (0 : Int32))])) _
    exact retI X0 hx Bd.returns (hb hby d2_16) hr
  · show Q2 Z p1 p2 p3 p4 p5 p6 p7 p8 p9 h0 n0 _ s₁.heap _
    rw [e0]
    exact ⟨by rw [own_row, if_neg hc2], N0, rfl⟩
theorem d2_5 : decode method_3_code 5 = .ok (.iload_n 1, 1) := by decide +kernel
theorem d2_6 : decode method_3_code 6 = .ok (.iload_n 2, 1) := by decide +kernel
theorem d2_7 : decode method_3_code 7 = .ok (.if_icmp .ge 8, 3) := by decide +kernel

set_option maxRecDepth 65536 in
set_option maxHeartbeats 40000000 in
theorem rm2_1 (l : Launch) (Z : State) (a0 : Array Value) (hw : ∀ d ∈ tables_1, d.before a0 Z = true) (ws : List Jvm.Cond) (p1 : Int32) (p2 : Int32) (p3 : Int32) (p4 : Int32) (p5 : Int32) (p6 : Int32) (p7 : Int32) (p8 : Int32) (p9 : Int32) (h0 : Heap) (n0 : Nat) (Z0 : n0 ≤ h0.size) (hc2 : p1 < p4) (hc7 : ¬ (p2 < p3)) :
    MetFree l (⟨"com/example/chunkwell/chunkwell/codecs/RowCopiesEachByteIsPinLaw", "row", "(IIIIIIIII)I"⟩ : MethodName) (head1 (Jvm.Cond.code (⟨"com/example/chunkwell/chunkwell/codecs/RowCopiesEachByteIsPinLaw", "row", "(IIIIIIIII)I"⟩ : MethodName) method_3_code 11 (some .int) :: ws) ({ frames := 0, cells := 0, slots := 0, locals := 0 } : Room)) (fun a U => a = #[(.int p1), (.int p2), (.int p3), (.int p4), (.int p5), (.int p6), (.int p7), (.int p8), (.int p9)] ∧ Z.Warmed39 U.vm ∧ U.heap = h0) (fun _ _ _ _ _ => True) (fun _ U o U' => ∃ v L, o = .returned v ∧ Q2 Z p1 p2 p3 p4 p5 p6 p7 p8 p9 h0 n0 v U'.heap L ∧ FrameEnd U o U' L ({ frames := 0, cells := 0, slots := 0, locals := 0 } : Room).cells ({ frames := 0, cells := 0, slots := 0, locals := 0 } : Room).slots) := by
  refine MetFree.of_bodySF (plainFor_of_name pn_2) hisR ?_
  intro p e s m args below meth c s₁ Bd hml0 hP hK
  obtain ⟨rfl, hZ, hh⟩ := hP
  have hx := Bd.exec
  have hby := Bd.bytes
  have hml : c.maxLocals = 11 := hml0
  have hown : s.vm.findClass "com/example/chunkwell/chunkwell/codecs/RowCopiesEachByteIsPinLaw" = some m.cls := findClass_of_methodNamed Bd.named
  have hnm := (name_of_methodNamed Bd.named Bd.method).1
  have X0 : Stand p l e ({ frames := 0, cells := 0, slots := 0, locals := 0 } : Room) s m #[(.int p1), (.int p2), (.int p3), (.int p4), (.int p5), (.int p6), (.int p7), (.int p8), (.int p9)] below meth c s₁ [] 0 0 := Stand.of_body Bd
  have e0 : s₁.heap = h0 := by rw [← hh, Bd.state]; rfl
  have N0 := Fr.nil n0
  have pre0 : ∀ t, Steps p.tables e below (s₁.setTop (mkF m 0 #[.val (.int p1), .val (.int p2), .val (.int p3), .val (.int p4), .val (.int p5), .val (.int p6), .val (.int p7), .val (.int p8), .val (.int p9), .unset, .unset] [])) t → Steps p.tables e below (s₁.setTop (entryFrame m #[(.int p1), (.int p2), (.int p3), (.int p4), (.int p5), (.int p6), (.int p7), (.int p8), (.int p9)] 11)) t := fun t k => castTop (ef_2 m p1 p2 p3 p4 p5 p6 p7 p8 p9) k

  obtain ⟨fs, hr, hrun, hended, hW, hsame⟩ := X0.leave (v := some (.int (0 : Int32))) (fun h => by rw [Bd.returns] at h; cases h)
  refine ⟨_, _, pre0 _ ?_, hrun, hended, _, _, rfl, ?_, ⟨_, rfl⟩, hW, hsame.mono (by decide) (by decide)⟩
  · show Steps p.tables e below (s₁.setTop (mkF m 0 #[.val (.int p1), .val (.int p2), .val (.int p3), .val (.int p4), .val (.int p5), .val (.int p6), .val (.int p7), .val (.int p8), .val (.int p9), .unset, .unset] [])) _
    refine XS.iloadN X0.here hx rfl (hb hby d2_0) rfl ?_
    show Steps p.tables e below (s₁.setTop (mkF m 1 #[.val (.int p1), .val (.int p2), .val (.int p3), .val (.int p4), .val (.int p5), .val (.int p6), .val (.int p7), .val (.int p8), .val (.int p9), .unset, .unset] [(.int p1)])) _
    refine XS.iloadN X0.here hx rfl (hb hby d2_1) rfl ?_
    show Steps p.tables e below (s₁.setTop (mkF m 2 #[.val (.int p1), .val (.int p2), .val (.int p3), .val (.int p4), .val (.int p5), .val (.int p6), .val (.int p7), .val (.int p8), .val (.int p9), .unset, .unset] [(.int p4), (.int p1)])) _
    refine XS.icmpNo X0.here hx rfl (hb hby d2_2) rfl (tlt hc2).2.1 ?_
    show Steps p.tables e below (s₁.setTop (mkF m 5 #[.val (.int p1), .val (.int p2), .val (.int p3), .val (.int p4), .val (.int p5), .val (.int p6), .val (.int p7), .val (.int p8), .val (.int p9), .unset, .unset] [])) _
    refine XS.iloadN X0.here hx rfl (hb hby d2_5) rfl ?_
    show Steps p.tables e below (s₁.setTop (mkF m 6 #[.val (.int p1), .val (.int p2), .val (.int p3), .val (.int p4), .val (.int p5), .val (.int p6), .val (.int p7), .val (.int p8), .val (.int p9), .unset, .unset] [(.int p2)])) _
    refine XS.iloadN X0.here hx rfl (hb hby d2_6) rfl ?_
    show Steps p.tables e below (s₁.setTop (mkF m 7 #[.val (.int p1), .val (.int p2), .val (.int p3), .val (.int p4), .val (.int p5), .val (.int p6), .val (.int p7), .val (.int p8), .val (.int p9), .unset, .unset] [(.int p3), (.int p2)])) _
    refine XS.icmpYes X0.here hx rfl (pc0 := 7) (pc' := 15) rfl (hb hby d2_7) rfl (flt hc7).2.1 (by decide) (by decide) ?_
    show Steps p.tables e below (s₁.setTop (mkF m 15 #[.val (.int p1), .val (.int p2), .val (.int p3), .val (.int p4), .val (.int p5), .val (.int p6), .val (.int p7), .val (.int p8), .val (.int p9), .unset, .unset] [])) _
    refine XS.iconst X0.here hx rfl (hb hby d2_15) ?_
    show Steps p.tables e below (s₁.setTop (mkF m 16 #[.val (.int p1), .val (.int p2), .val (.int p3), .val (.int p4), .val (.int p5), .val (.int p6), .val (.int p7), .val (.int p8), .val (.int p9), .unset, .unset] [(.int (0 : Int32))])) _
    exact retI X0 hx Bd.returns (hb hby d2_16) hr
  · show Q2 Z p1 p2 p3 p4 p5 p6 p7 p8 p9 h0 n0 _ s₁.heap _
    rw [e0]
    exact ⟨by rw [own_row, if_pos hc2, if_neg hc7], N0, rfl⟩
theorem d2_10 : decode method_3_code 10 = .ok (.iload 4, 2) := by decide +kernel
theorem d2_12 : decode method_3_code 12 = .ok (.ifCond .ne 5, 3) := by decide +kernel

set_option maxRecDepth 65536 in
set_option maxHeartbeats 40000000 in
theorem rm2_2 (l : Launch) (Z : State) (a0 : Array Value) (hw : ∀ d ∈ tables_1, d.before a0 Z = true) (ws : List Jvm.Cond) (p1 : Int32) (p2 : Int32) (p3 : Int32) (p4 : Int32) (p5 : Int32) (p6 : Int32) (p7 : Int32) (p8 : Int32) (p9 : Int32) (h0 : Heap) (n0 : Nat) (Z0 : n0 ≤ h0.size) (hc2 : p1 < p4) (hc7 : p2 < p3) (hc12 : p5 = (0 : Int32)) :
    MetFree l (⟨"com/example/chunkwell/chunkwell/codecs/RowCopiesEachByteIsPinLaw", "row", "(IIIIIIIII)I"⟩ : MethodName) (head1 (Jvm.Cond.code (⟨"com/example/chunkwell/chunkwell/codecs/RowCopiesEachByteIsPinLaw", "row", "(IIIIIIIII)I"⟩ : MethodName) method_3_code 11 (some .int) :: ws) ({ frames := 0, cells := 0, slots := 0, locals := 0 } : Room)) (fun a U => a = #[(.int p1), (.int p2), (.int p3), (.int p4), (.int p5), (.int p6), (.int p7), (.int p8), (.int p9)] ∧ Z.Warmed39 U.vm ∧ U.heap = h0) (fun _ _ _ _ _ => True) (fun _ U o U' => ∃ v L, o = .returned v ∧ Q2 Z p1 p2 p3 p4 p5 p6 p7 p8 p9 h0 n0 v U'.heap L ∧ FrameEnd U o U' L ({ frames := 0, cells := 0, slots := 0, locals := 0 } : Room).cells ({ frames := 0, cells := 0, slots := 0, locals := 0 } : Room).slots) := by
  refine MetFree.of_bodySF (plainFor_of_name pn_2) hisR ?_
  intro p e s m args below meth c s₁ Bd hml0 hP hK
  obtain ⟨rfl, hZ, hh⟩ := hP
  have hx := Bd.exec
  have hby := Bd.bytes
  have hml : c.maxLocals = 11 := hml0
  have hown : s.vm.findClass "com/example/chunkwell/chunkwell/codecs/RowCopiesEachByteIsPinLaw" = some m.cls := findClass_of_methodNamed Bd.named
  have hnm := (name_of_methodNamed Bd.named Bd.method).1
  have X0 : Stand p l e ({ frames := 0, cells := 0, slots := 0, locals := 0 } : Room) s m #[(.int p1), (.int p2), (.int p3), (.int p4), (.int p5), (.int p6), (.int p7), (.int p8), (.int p9)] below meth c s₁ [] 0 0 := Stand.of_body Bd
  have e0 : s₁.heap = h0 := by rw [← hh, Bd.state]; rfl
  have N0 := Fr.nil n0
  have pre0 : ∀ t, Steps p.tables e below (s₁.setTop (mkF m 0 #[.val (.int p1), .val (.int p2), .val (.int p3), .val (.int p4), .val (.int p5), .val (.int p6), .val (.int p7), .val (.int p8), .val (.int p9), .unset, .unset] [])) t → Steps p.tables e below (s₁.setTop (entryFrame m #[(.int p1), (.int p2), (.int p3), (.int p4), (.int p5), (.int p6), (.int p7), (.int p8), (.int p9)] 11)) t := fun t k => castTop (ef_2 m p1 p2 p3 p4 p5 p6 p7 p8 p9) k

  obtain ⟨fs, hr, hrun, hended, hW, hsame⟩ := X0.leave (v := some (.int (0 : Int32))) (fun h => by rw [Bd.returns] at h; cases h)
  refine ⟨_, _, pre0 _ ?_, hrun, hended, _, _, rfl, ?_, ⟨_, rfl⟩, hW, hsame.mono (by decide) (by decide)⟩
  · show Steps p.tables e below (s₁.setTop (mkF m 0 #[.val (.int p1), .val (.int p2), .val (.int p3), .val (.int p4), .val (.int p5), .val (.int p6), .val (.int p7), .val (.int p8), .val (.int p9), .unset, .unset] [])) _
    refine XS.iloadN X0.here hx rfl (hb hby d2_0) rfl ?_
    show Steps p.tables e below (s₁.setTop (mkF m 1 #[.val (.int p1), .val (.int p2), .val (.int p3), .val (.int p4), .val (.int p5), .val (.int p6), .val (.int p7), .val (.int p8), .val (.int p9), .unset, .unset] [(.int p1)])) _
    refine XS.iloadN X0.here hx rfl (hb hby d2_1) rfl ?_
    show Steps p.tables e below (s₁.setTop (mkF m 2 #[.val (.int p1), .val (.int p2), .val (.int p3), .val (.int p4), .val (.int p5), .val (.int p6), .val (.int p7), .val (.int p8), .val (.int p9), .unset, .unset] [(.int p4), (.int p1)])) _
    refine XS.icmpNo X0.here hx rfl (hb hby d2_2) rfl (tlt hc2).2.1 ?_
    show Steps p.tables e below (s₁.setTop (mkF m 5 #[.val (.int p1), .val (.int p2), .val (.int p3), .val (.int p4), .val (.int p5), .val (.int p6), .val (.int p7), .val (.int p8), .val (.int p9), .unset, .unset] [])) _
    refine XS.iloadN X0.here hx rfl (hb hby d2_5) rfl ?_
    show Steps p.tables e below (s₁.setTop (mkF m 6 #[.val (.int p1), .val (.int p2), .val (.int p3), .val (.int p4), .val (.int p5), .val (.int p6), .val (.int p7), .val (.int p8), .val (.int p9), .unset, .unset] [(.int p2)])) _
    refine XS.iloadN X0.here hx rfl (hb hby d2_6) rfl ?_
    show Steps p.tables e below (s₁.setTop (mkF m 7 #[.val (.int p1), .val (.int p2), .val (.int p3), .val (.int p4), .val (.int p5), .val (.int p6), .val (.int p7), .val (.int p8), .val (.int p9), .unset, .unset] [(.int p3), (.int p2)])) _
    refine XS.icmpNo X0.here hx rfl (hb hby d2_7) rfl (tlt hc7).2.1 ?_
    show Steps p.tables e below (s₁.setTop (mkF m 10 #[.val (.int p1), .val (.int p2), .val (.int p3), .val (.int p4), .val (.int p5), .val (.int p6), .val (.int p7), .val (.int p8), .val (.int p9), .unset, .unset] [])) _
    refine XS.iload X0.here hx rfl (hb hby d2_10) rfl ?_
    show Steps p.tables e below (s₁.setTop (mkF m 12 #[.val (.int p1), .val (.int p2), .val (.int p3), .val (.int p4), .val (.int p5), .val (.int p6), .val (.int p7), .val (.int p8), .val (.int p9), .unset, .unset] [(.int p5)])) _
    refine XS.ifNo X0.here hx rfl (hb hby d2_12) rfl ((if0 _ _).trans (teq hc12).2) ?_
    show Steps p.tables e below (s₁.setTop (mkF m 15 #[.val (.int p1), .val (.int p2), .val (.int p3), .val (.int p4), .val (.int p5), .val (.int p6), .val (.int p7), .val (.int p8), .val (.int p9), .unset, .unset] [])) _
    refine XS.iconst X0.here hx rfl (hb hby d2_15) ?_
    show Steps p.tables e below (s₁.setTop (mkF m 16 #[.val (.int p1), .val (.int p2), .val (.int p3), .val (.int p4), .val (.int p5), .val (.int p6), .val (.int p7), .val (.int p8), .val (.int p9), .unset, .unset] [(.int (0 : Int32))])) _
    exact retI X0 hx Bd.returns (hb hby d2_16) hr
  · show Q2 Z p1 p2 p3 p4 p5 p6 p7 p8 p9 h0 n0 _ s₁.heap _
    rw [e0]
    exact ⟨by rw [own_row, if_pos hc2, if_pos hc7, if_pos hc12], N0, rfl⟩
theorem d2_17 : decode method_3_code 17 = .ok (.iload 5, 2) := by decide +kernel
theorem d2_19 : decode method_3_code 19 = .ok (.iload_n 0, 1) := by decide +kernel
theorem d2_20 : decode method_3_code 20 = .ok (.iload 7, 2) := by decide +kernel
theorem d2_22 : decode method_3_code 22 = .ok (.imul, 1) := by decide +kernel
theorem d2_23 : decode method_3_code 23 = .ok (.iadd, 1) := by decide +kernel
theorem d2_24 : decode method_3_code 24 = .ok (.iload_n 1, 1) := by decide +kernel
theorem d2_25 : decode method_3_code 25 = .ok (.iload 6, 2) := by decide +kernel
theorem d2_27 : decode method_3_code 27 = .ok (.imul, 1) := by decide +kernel
theorem d2_28 : decode method_3_code 28 = .ok (.iadd, 1) := by decide +kernel
theorem d2_29 : decode method_3_code 29 = .ok (.istore 9, 2) := by decide +kernel
theorem d2_31 : decode method_3_code 31 = .ok (.iconst 0, 1) := by decide +kernel
theorem d2_32 : decode method_3_code 32 = .ok (.istore 10, 2) := by decide +kernel
theorem d2_34 : decode method_3_code 34 = .ok (.iload 9, 2) := by decide +kernel
theorem d2_36 : decode method_3_code 36 = .ok (.iload 8, 2) := by decide +kernel
theorem d2_38 : decode method_3_code 38 = .ok (.if_icmp .gt 19, 3) := by decide +kernel
theorem d2_57 : decode method_3_code 57 = .ok (.iload 4, 2) := by decide +kernel
theorem d2_59 : decode method_3_code 59 = .ok (.iconst 2, 1) := by decide +kernel
theorem d2_60 : decode method_3_code 60 = .ok (.if_icmp .ge 10, 3) := by decide +kernel
theorem d2_70 : decode method_3_code 70 = .ok (.iload 10, 2) := by decide +kernel
theorem d2_72 : decode method_3_code 72 = .ok (.iconst 2, 1) := by decide +kernel
theorem d2_73 : decode method_3_code 73 = .ok (.ior, 1) := by decide +kernel
theorem d2_74 : decode method_3_code 74 = .ok (.istore 10, 2) := by decide +kernel
theorem d2_76 : decode method_3_code 76 = .ok (.iload 10, 2) := by decide +kernel
theorem d2_78 : decode method_3_code 78 = .ok (.ireturn, 1) := by decide +kernel

set_option maxRecDepth 65536 in
set_option maxHeartbeats 40000000 in
theorem rm2_3 (l : Launch) (Z : State) (a0 : Array Value) (hw : ∀ d ∈ tables_1, d.before a0 Z = true) (ws : List Jvm.Cond) (p1 : Int32) (p2 : Int32) (p3 : Int32) (p4 : Int32) (p5 : Int32) (p6 : Int32) (p7 : Int32) (p8 : Int32) (p9 : Int32) (h0 : Heap) (n0 : Nat) (Z0 : n0 ≤ h0.size) (hc2 : p1 < p4) (hc7 : p2 < p3) (hc12 : ¬ (p5 = (0 : Int32))) (hc38 : p9 < ((p6 + (p1 * p8)) + (p2 * p7))) (hc60 : ¬ (p5 < (2 : Int32))) :
    MetFree l (⟨"com/example/chunkwell/chunkwell/codecs/RowCopiesEachByteIsPinLaw", "row", "(IIIIIIIII)I"⟩ : MethodName) (head1 (Jvm.Cond.code (⟨"com/example/chunkwell/chunkwell/codecs/RowCopiesEachByteIsPinLaw", "row", "(IIIIIIIII)I"⟩ : MethodName) method_3_code 11 (some .int) :: ws) ({ frames := 0, cells := 0, slots := 0, locals := 0 } : Room)) (fun a U => a = #[(.int p1), (.int p2), (.int p3), (.int p4), (.int p5), (.int p6), (.int p7), (.int p8), (.int p9)] ∧ Z.Warmed39 U.vm ∧ U.heap = h0) (fun _ _ _ _ _ => True) (fun _ U o U' => ∃ v L, o = .returned v ∧ Q2 Z p1 p2 p3 p4 p5 p6 p7 p8 p9 h0 n0 v U'.heap L ∧ FrameEnd U o U' L ({ frames := 0, cells := 0, slots := 0, locals := 0 } : Room).cells ({ frames := 0, cells := 0, slots := 0, locals := 0 } : Room).slots) := by
  refine MetFree.of_bodySF (plainFor_of_name pn_2) hisR ?_
  intro p e s m args below meth c s₁ Bd hml0 hP hK
  obtain ⟨rfl, hZ, hh⟩ := hP
  have hx := Bd.exec
  have hby := Bd.bytes
  have hml : c.maxLocals = 11 := hml0
  have hown : s.vm.findClass "com/example/chunkwell/chunkwell/codecs/RowCopiesEachByteIsPinLaw" = some m.cls := findClass_of_methodNamed Bd.named
  have hnm := (name_of_methodNamed Bd.named Bd.method).1
  have X0 : Stand p l e ({ frames := 0, cells := 0, slots := 0, locals := 0 } : Room) s m #[(.int p1), (.int p2), (.int p3), (.int p4), (.int p5), (.int p6), (.int p7), (.int p8), (.int p9)] below meth c s₁ [] 0 0 := Stand.of_body Bd
  have e0 : s₁.heap = h0 := by rw [← hh, Bd.state]; rfl
  have N0 := Fr.nil n0
  have pre0 : ∀ t, Steps p.tables e below (s₁.setTop (mkF m 0 #[.val (.int p1), .val (.int p2), .val (.int p3), .val (.int p4), .val (.int p5), .val (.int p6), .val (.int p7), .val (.int p8), .val (.int p9), .unset, .unset] [])) t → Steps p.tables e below (s₁.setTop (entryFrame m #[(.int p1), (.int p2), (.int p3), (.int p4), (.int p5), (.int p6), (.int p7), (.int p8), (.int p9)] 11)) t := fun t k => castTop (ef_2 m p1 p2 p3 p4 p5 p6 p7 p8 p9) k

  obtain ⟨fs, hr, hrun, hended, hW, hsame⟩ := X0.leave (v := some (.int ((0 : Int32) ||| (2 : Int32)))) (fun h => by rw [Bd.returns] at h; cases h)
  refine ⟨_, _, pre0 _ ?_, hrun, hended, _, _, rfl, ?_, ⟨_, rfl⟩, hW, hsame.mono (by decide) (by decide)⟩
  · show Steps p.tables e below (s₁.setTop (mkF m 0 #[.val (.int p1), .val (.int p2), .val (.int p3), .val (.int p4), .val (.int p5), .val (.int p6), .val (.int p7), .val (.int p8), .val (.int p9), .unset, .unset] [])) _
    refine XS.iloadN X0.here hx rfl (hb hby d2_0) rfl ?_
    show Steps p.tables e below (s₁.setTop (mkF m 1 #[.val (.int p1), .val (.int p2), .val (.int p3), .val (.int p4), .val (.int p5), .val (.int p6), .val (.int p7), .val (.int p8), .val (.int p9), .unset, .unset] [(.int p1)])) _
    refine XS.iloadN X0.here hx rfl (hb hby d2_1) rfl ?_
    show Steps p.tables e below (s₁.setTop (mkF m 2 #[.val (.int p1), .val (.int p2), .val (.int p3), .val (.int p4), .val (.int p5), .val (.int p6), .val (.int p7), .val (.int p8), .val (.int p9), .unset, .unset] [(.int p4), (.int p1)])) _
    refine XS.icmpNo X0.here hx rfl (hb hby d2_2) rfl (tlt hc2).2.1 ?_
    show Steps p.tables e below (s₁.setTop (mkF m 5 #[.val (.int p1), .val (.int p2), .val (.int p3), .val (.int p4), .val (.int p5), .val (.int p6), .val (.int p7), .val (.int p8), .val (.int p9), .unset, .unset] [])) _
    refine XS.iloadN X0.here hx rfl (hb hby d2_5) rfl ?_
    show Steps p.tables e below (s₁.setTop (mkF m 6 #[.val (.int p1), .val (.int p2), .val (.int p3), .val (.int p4), .val (.int p5), .val (.int p6), .val (.int p7), .val (.int p8), .val (.int p9), .unset, .unset] [(.int p2)])) _
    refine XS.iloadN X0.here hx rfl (hb hby d2_6) rfl ?_
    show Steps p.tables e below (s₁.setTop (mkF m 7 #[.val (.int p1), .val (.int p2), .val (.int p3), .val (.int p4), .val (.int p5), .val (.int p6), .val (.int p7), .val (.int p8), .val (.int p9), .unset, .unset] [(.int p3), (.int p2)])) _
    refine XS.icmpNo X0.here hx rfl (hb hby d2_7) rfl (tlt hc7).2.1 ?_
    show Steps p.tables e below (s₁.setTop (mkF m 10 #[.val (.int p1), .val (.int p2), .val (.int p3), .val (.int p4), .val (.int p5), .val (.int p6), .val (.int p7), .val (.int p8), .val (.int p9), .unset, .unset] [])) _
    refine XS.iload X0.here hx rfl (hb hby d2_10) rfl ?_
    show Steps p.tables e below (s₁.setTop (mkF m 12 #[.val (.int p1), .val (.int p2), .val (.int p3), .val (.int p4), .val (.int p5), .val (.int p6), .val (.int p7), .val (.int p8), .val (.int p9), .unset, .unset] [(.int p5)])) _
    refine XS.ifYes X0.here hx rfl (pc0 := 12) (pc' := 17) rfl (hb hby d2_12) rfl ((if0 _ _).trans (feq hc12).2) (by decide) (by decide) ?_
    show Steps p.tables e below (s₁.setTop (mkF m 17 #[.val (.int p1), .val (.int p2), .val (.int p3), .val (.int p4), .val (.int p5), .val (.int p6), .val (.int p7), .val (.int p8), .val (.int p9), .unset, .unset] [])) _
    refine XS.iload X0.here hx rfl (hb hby d2_17) rfl ?_
    show Steps p.tables e below (s₁.setTop (mkF m 19 #[.val (.int p1), .val (.int p2), .val (.int p3), .val (.int p4), .val (.int p5), .val (.int p6), .val (.int p7), .val (.int p8), .val (.int p9), .unset, .unset] [(.int p6)])) _
    refine XS.iloadN X0.here hx rfl (hb hby d2_19) rfl ?_
    show Steps p.tables e below (s₁.setTop (mkF m 20 #[.val (.int p1), .val (.int p2), .val (.int p3), .val (.int p4), .val (.int p5), .val (.int p6), .val (.int p7), .val (.int p8), .val (.int p9), .unset, .unset] [(.int p1), (.int p6)])) _
    refine XS.iload X0.here hx rfl (hb hby d2_20) rfl ?_
    show Steps p.tables e below (s₁.setTop (mkF m 22 #[.val (.int p1), .val (.int p2), .val (.int p3), .val (.int p4), .val (.int p5), .val (.int p6), .val (.int p7), .val (.int p8), .val (.int p9), .unset, .unset] [(.int p8), (.int p1), (.int p6)])) _
    refine XS.imul X0.here hx rfl (hb hby d2_22) rfl ?_
    show Steps p.tables e below (s₁.setTop (mkF m 23 #[.val (.int p1), .val (.int p2), .val (.int p3), .val (.int p4), .val (.int p5), .val (.int p6), .val (.int p7), .val (.int p8), .val (.int p9), .unset, .unset] [(.int (p1 * p8)), (.int p6)])) _
    refine XS.iadd X0.here hx rfl (hb hby d2_23) rfl ?_
    show Steps p.tables e below (s₁.setTop (mkF m 24 #[.val (.int p1), .val (.int p2), .val (.int p3), .val (.int p4), .val (.int p5), .val (.int p6), .val (.int p7), .val (.int p8), .val (.int p9), .unset, .unset] [(.int (p6 + (p1 * p8)))])) _
    refine XS.iloadN X0.here hx rfl (hb hby d2_24) rfl ?_
    show Steps p.tables e below (s₁.setTop (mkF m 25 #[.val (.int p1), .val (.int p2), .val (.int p3), .val (.int p4), .val (.int p5), .val (.int p6), .val (.int p7), .val (.int p8), .val (.int p9), .unset, .unset] [(.int p2), (.int (p6 + (p1 * p8)))])) _
    refine XS.iload X0.here hx rfl (hb hby d2_25) rfl ?_
    show Steps p.tables e below (s₁.setTop (mkF m 27 #[.val (.int p1), .val (.int p2), .val (.int p3), .val (.int p4), .val (.int p5), .val (.int p6), .val (.int p7), .val (.int p8), .val (.int p9), .unset, .unset] [(.int p7), (.int p2), (.int (p6 + (p1 * p8)))])) _
    refine XS.imul X0.here hx rfl (hb hby d2_27) rfl ?_
    show Steps p.tables e below (s₁.setTop (mkF m 28 #[.val (.int p1), .val (.int p2), .val (.int p3), .val (.int p4), .val (.int p5), .val (.int p6), .val (.int p7), .val (.int p8), .val (.int p9), .unset, .unset] [(.int (p2 * p7)), (.int (p6 + (p1 * p8)))])) _
    refine XS.iadd X0.here hx rfl (hb hby d2_28) rfl ?_
    show Steps p.tables e below (s₁.setTop (mkF m 29 #[.val (.int p1), .val (.int p2), .val (.int p3), .val (.int p4), .val (.int p5), .val (.int p6), .val (.int p7), .val (.int p8), .val (.int p9), .unset, .unset] [(.int ((p6 + (p1 * p8)) + (p2 * p7)))])) _
    refine XS.istore X0.here hx rfl (hb hby d2_29) rfl (l' := #[.val (.int p1), .val (.int p2), .val (.int p3), .val (.int p4), .val (.int p5), .val (.int p6), .val (.int p7), .val (.int p8), .val (.int p9), .val (.int ((p6 + (p1 * p8)) + (p2 * p7))), .unset]) rfl ?_
    show Steps p.tables e below (s₁.setTop (mkF m 31 #[.val (.int p1), .val (.int p2), .val (.int p3), .val (.int p4), .val (.int p5), .val (.int p6), .val (.int p7), .val (.int p8), .val (.int p9), .val (.int ((p6 + (p1 * p8)) + (p2 * p7))), .unset] [])) _
    refine XS.iconst X0.here hx rfl (hb hby d2_31) ?_
    show Steps p.tables e below (s₁.setTop (mkF m 32 #[.val (.int p1), .val (.int p2), .val (.int p3), .val (.int p4), .val (.int p5), .val (.int p6), .val (.int p7), .val (.int p8), .val (.int p9), .val (.int ((p6 + (p1 * p8)) + (p2 * p7))), .unset] [(.int (0 : Int32))])) _
    refine XS.istore X0.here hx rfl (hb hby d2_32) rfl (l' := #[.val (.int p1), .val (.int p2), .val (.int p3), .val (.int p4), .val (.int p5), .val (.int p6), .val (.int p7), .val (.int p8), .val (.int p9), .val (.int ((p6 + (p1 * p8)) + (p2 * p7))), .val (.int (0 : Int32))]) rfl ?_
    show Steps p.tables e below (s₁.setTop (mkF m 34 #[.val (.int p1), .val (.int p2), .val (.int p3), .val (.int p4), .val (.int p5), .val (.int p6), .val (.int p7), .val (.int p8), .val (.int p9), .val (.int ((p6 + (p1 * p8)) + (p2 * p7))), .val (.int (0 : Int32))] [])) _
    refine XS.iload X0.here hx rfl (hb hby d2_34) rfl ?_
    show Steps p.tables e below (s₁.setTop (mkF m 36 #[.val (.int p1), .val (.int p2), .val (.int p3), .val (.int p4), .val (.int p5), .val (.int p6), .val (.int p7), .val (.int p8), .val (.int p9), .val (.int ((p6 + (p1 * p8)) + (p2 * p7))), .val (.int (0 : Int32))] [(.int ((p6 + (p1 * p8)) + (p2 * p7)))])) _
    refine XS.iload X0.here hx rfl (hb hby d2_36) rfl ?_
    show Steps p.tables e below (s₁.setTop (mkF m 38 #[.val (.int p1), .val (.int p2), .val (.int p3), .val (.int p4), .val (.int p5), .val (.int p6), .val (.int p7), .val (.int p8), .val (.int p9), .val (.int ((p6 + (p1 * p8)) + (p2 * p7))), .val (.int (0 : Int32))] [(.int p9), (.int ((p6 + (p1 * p8)) + (p2 * p7)))])) _
    refine XS.icmpYes X0.here hx rfl (pc0 := 38) (pc' := 57) rfl (hb hby d2_38) rfl (tlt hc38).2.2.1 (by decide) (by decide) ?_
    show Steps p.tables e below (s₁.setTop (mkF m 57 #[.val (.int p1), .val (.int p2), .val (.int p3), .val (.int p4), .val (.int p5), .val (.int p6), .val (.int p7), .val (.int p8), .val (.int p9), .val (.int ((p6 + (p1 * p8)) + (p2 * p7))), .val (.int (0 : Int32))] [])) _
    refine XS.iload X0.here hx rfl (hb hby d2_57) rfl ?_
    show Steps p.tables e below (s₁.setTop (mkF m 59 #[.val (.int p1), .val (.int p2), .val (.int p3), .val (.int p4), .val (.int p5), .val (.int p6), .val (.int p7), .val (.int p8), .val (.int p9), .val (.int ((p6 + (p1 * p8)) + (p2 * p7))), .val (.int (0 : Int32))] [(.int p5)])) _
    refine XS.iconst X0.here hx rfl (hb hby d2_59) ?_
    show Steps p.tables e below (s₁.setTop (mkF m 60 #[.val (.int p1), .val (.int p2), .val (.int p3), .val (.int p4), .val (.int p5), .val (.int p6), .val (.int p7), .val (.int p8), .val (.int p9), .val (.int ((p6 + (p1 * p8)) + (p2 * p7))), .val (.int (0 : Int32))] [(.int (2 : Int32)), (.int p5)])) _
    refine XS.icmpYes X0.here hx rfl (pc0 := 60) (pc' := 70) rfl (hb hby d2_60) rfl (flt hc60).2.1 (by decide) (by decide) ?_
    show Steps p.tables e below (s₁.setTop (mkF m 70 #[.val (.int p1), .val (.int p2), .val (.int p3), .val (.int p4), .val (.int p5), .val (.int p6), .val (.int p7), .val (.int p8), .val (.int p9), .val (.int ((p6 + (p1 * p8)) + (p2 * p7))), .val (.int (0 : Int32))] [])) _
    refine XS.iload X0.here hx rfl (hb hby d2_70) rfl ?_
    show Steps p.tables e below (s₁.setTop (mkF m 72 #[.val (.int p1), .val (.int p2), .val (.int p3), .val (.int p4), .val (.int p5), .val (.int p6), .val (.int p7), .val (.int p8), .val (.int p9), .val (.int ((p6 + (p1 * p8)) + (p2 * p7))), .val (.int (0 : Int32))] [(.int (0 : Int32))])) _
    refine XS.iconst X0.here hx rfl (hb hby d2_72) ?_
    show Steps p.tables e below (s₁.setTop (mkF m 73 #[.val (.int p1), .val (.int p2), .val (.int p3), .val (.int p4), .val (.int p5), .val (.int p6), .val (.int p7), .val (.int p8), .val (.int p9), .val (.int ((p6 + (p1 * p8)) + (p2 * p7))), .val (.int (0 : Int32))] [(.int (2 : Int32)), (.int (0 : Int32))])) _
    refine XS.ior X0.here hx rfl (hb hby d2_73) rfl ?_
    show Steps p.tables e below (s₁.setTop (mkF m 74 #[.val (.int p1), .val (.int p2), .val (.int p3), .val (.int p4), .val (.int p5), .val (.int p6), .val (.int p7), .val (.int p8), .val (.int p9), .val (.int ((p6 + (p1 * p8)) + (p2 * p7))), .val (.int (0 : Int32))] [(.int ((0 : Int32) ||| (2 : Int32)))])) _
    refine XS.istore X0.here hx rfl (hb hby d2_74) rfl (l' := #[.val (.int p1), .val (.int p2), .val (.int p3), .val (.int p4), .val (.int p5), .val (.int p6), .val (.int p7), .val (.int p8), .val (.int p9), .val (.int ((p6 + (p1 * p8)) + (p2 * p7))), .val (.int ((0 : Int32) ||| (2 : Int32)))]) rfl ?_
    show Steps p.tables e below (s₁.setTop (mkF m 76 #[.val (.int p1), .val (.int p2), .val (.int p3), .val (.int p4), .val (.int p5), .val (.int p6), .val (.int p7), .val (.int p8), .val (.int p9), .val (.int ((p6 + (p1 * p8)) + (p2 * p7))), .val (.int ((0 : Int32) ||| (2 : Int32)))] [])) _
    refine XS.iload X0.here hx rfl (hb hby d2_76) rfl ?_
    show Steps p.tables e below (s₁.setTop (mkF m 78 #[.val (.int p1), .val (.int p2), .val (.int p3), .val (.int p4), .val (.int p5), .val (.int p6), .val (.int p7), .val (.int p8), .val (.int p9), .val (.int ((p6 + (p1 * p8)) + (p2 * p7))), .val (.int ((0 : Int32) ||| (2 : Int32)))] [(.int ((0 : Int32) ||| (2 : Int32)))])) _
    exact retI X0 hx Bd.returns (hb hby d2_78) hr
  · show Q2 Z p1 p2 p3 p4 p5 p6 p7 p8 p9 h0 n0 _ s₁.heap _
    rw [e0]
    exact ⟨by rw [own_row, if_pos hc2, if_pos hc7, if_neg hc12, own_c2, if_neg hc60, own_c1, if_pos hc38], N0, rfl⟩
theorem d2_63 : decode method_3_code 63 = .ok (.iload 9, 2) := by decide +kernel
theorem d2_65 : decode method_3_code 65 = .ok (.iload 8, 2) := by decide +kernel
theorem d2_67 : decode method_3_code 67 = .ok (.if_icmp .eq 9, 3) := by decide +kernel

set_option maxRecDepth 65536 in
set_option maxHeartbeats 40000000 in
theorem rm2_4 (l : Launch) (Z : State) (a0 : Array Value) (hw : ∀ d ∈ tables_1, d.before a0 Z = true) (ws : List Jvm.Cond) (p1 : Int32) (p2 : Int32) (p3 : Int32) (p4 : Int32) (p5 : Int32) (p6 : Int32) (p7 : Int32) (p8 : Int32) (p9 : Int32) (h0 : Heap) (n0 : Nat) (Z0 : n0 ≤ h0.size) (hc2 : p1 < p4) (hc7 : p2 < p3) (hc12 : ¬ (p5 = (0 : Int32))) (hc38 : p9 < ((p6 + (p1 * p8)) + (p2 * p7))) (hc60 : p5 < (2 : Int32)) (hc67 : ((p6 + (p1 * p8)) + (p2 * p7)) = p9) :
    MetFree l (⟨"com/example/chunkwell/chunkwell/codecs/RowCopiesEachByteIsPinLaw", "row", "(IIIIIIIII)I"⟩ : MethodName) (head1 (Jvm.Cond.code (⟨"com/example/chunkwell/chunkwell/codecs/RowCopiesEachByteIsPinLaw", "row", "(IIIIIIIII)I"⟩ : MethodName) method_3_code 11 (some .int) :: ws) ({ frames := 0, cells := 0, slots := 0, locals := 0 } : Room)) (fun a U => a = #[(.int p1), (.int p2), (.int p3), (.int p4), (.int p5), (.int p6), (.int p7), (.int p8), (.int p9)] ∧ Z.Warmed39 U.vm ∧ U.heap = h0) (fun _ _ _ _ _ => True) (fun _ U o U' => ∃ v L, o = .returned v ∧ Q2 Z p1 p2 p3 p4 p5 p6 p7 p8 p9 h0 n0 v U'.heap L ∧ FrameEnd U o U' L ({ frames := 0, cells := 0, slots := 0, locals := 0 } : Room).cells ({ frames := 0, cells := 0, slots := 0, locals := 0 } : Room).slots) := by
  refine MetFree.of_bodySF (plainFor_of_name pn_2) hisR ?_
  intro p e s m args below meth c s₁ Bd hml0 hP hK
  obtain ⟨rfl, hZ, hh⟩ := hP
  have hx := Bd.exec
  have hby := Bd.bytes
  have hml : c.maxLocals = 11 := hml0
  have hown : s.vm.findClass "com/example/chunkwell/chunkwell/codecs/RowCopiesEachByteIsPinLaw" = some m.cls := findClass_of_methodNamed Bd.named
  have hnm := (name_of_methodNamed Bd.named Bd.method).1
  have X0 : Stand p l e ({ frames := 0, cells := 0, slots := 0, locals := 0 } : Room) s m #[(.int p1), (.int p2), (.int p3), (.int p4), (.int p5), (.int p6), (.int p7), (.int p8), (.int p9)] below meth c s₁ [] 0 0 := Stand.of_body Bd
  have e0 : s₁.heap = h0 := by rw [← hh, Bd.state]; rfl
  have N0 := Fr.nil n0
  have pre0 : ∀ t, Steps p.tables e below (s₁.setTop (mkF m 0 #[.val (.int p1), .val (.int p2), .val (.int p3), .val (.int p4), .val (.int p5), .val (.int p6), .val (.int p7), .val (.int p8), .val (.int p9), .unset, .unset] [])) t → Steps p.tables e below (s₁.setTop (entryFrame m #[(.int p1), (.int p2), (.int p3), (.int p4), (.int p5), (.int p6), (.int p7), (.int p8), (.int p9)] 11)) t := fun t k => castTop (ef_2 m p1 p2 p3 p4 p5 p6 p7 p8 p9) k

  obtain ⟨fs, hr, hrun, hended, hW, hsame⟩ := X0.leave (v := some (.int (0 : Int32))) (fun h => by rw [Bd.returns] at h; cases h)
  refine ⟨_, _, pre0 _ ?_, hrun, hended, _, _, rfl, ?_, ⟨_, rfl⟩, hW, hsame.mono (by decide) (by decide)⟩
  · show Steps p.tables e below (s₁.setTop (mkF m 0 #[.val (.int p1), .val (.int p2), .val (.int p3), .val (.int p4), .val (.int p5), .val (.int p6), .val (.int p7), .val (.int p8), .val (.int p9), .unset, .unset] [])) _
    refine XS.iloadN X0.here hx rfl (hb hby d2_0) rfl ?_
    show Steps p.tables e below (s₁.setTop (mkF m 1 #[.val (.int p1), .val (.int p2), .val (.int p3), .val (.int p4), .val (.int p5), .val (.int p6), .val (.int p7), .val (.int p8), .val (.int p9), .unset, .unset] [(.int p1)])) _
    refine XS.iloadN X0.here hx rfl (hb hby d2_1) rfl ?_
    show Steps p.tables e below (s₁.setTop (mkF m 2 #[.val (.int p1), .val (.int p2), .val (.int p3), .val (.int p4), .val (.int p5), .val (.int p6), .val (.int p7), .val (.int p8), .val (.int p9), .unset, .unset] [(.int p4), (.int p1)])) _
    refine XS.icmpNo X0.here hx rfl (hb hby d2_2) rfl (tlt hc2).2.1 ?_
    show Steps p.tables e below (s₁.setTop (mkF m 5 #[.val (.int p1), .val (.int p2), .val (.int p3), .val (.int p4), .val (.int p5), .val (.int p6), .val (.int p7), .val (.int p8), .val (.int p9), .unset, .unset] [])) _
    refine XS.iloadN X0.here hx rfl (hb hby d2_5) rfl ?_
    show Steps p.tables e below (s₁.setTop (mkF m 6 #[.val (.int p1), .val (.int p2), .val (.int p3), .val (.int p4), .val (.int p5), .val (.int p6), .val (.int p7), .val (.int p8), .val (.int p9), .unset, .unset] [(.int p2)])) _
    refine XS.iloadN X0.here hx rfl (hb hby d2_6) rfl ?_
    show Steps p.tables e below (s₁.setTop (mkF m 7 #[.val (.int p1), .val (.int p2), .val (.int p3), .val (.int p4), .val (.int p5), .val (.int p6), .val (.int p7), .val (.int p8), .val (.int p9), .unset, .unset] [(.int p3), (.int p2)])) _
    refine XS.icmpNo X0.here hx rfl (hb hby d2_7) rfl (tlt hc7).2.1 ?_
    show Steps p.tables e below (s₁.setTop (mkF m 10 #[.val (.int p1), .val (.int p2), .val (.int p3), .val (.int p4), .val (.int p5), .val (.int p6), .val (.int p7), .val (.int p8), .val (.int p9), .unset, .unset] [])) _
    refine XS.iload X0.here hx rfl (hb hby d2_10) rfl ?_
    show Steps p.tables e below (s₁.setTop (mkF m 12 #[.val (.int p1), .val (.int p2), .val (.int p3), .val (.int p4), .val (.int p5), .val (.int p6), .val (.int p7), .val (.int p8), .val (.int p9), .unset, .unset] [(.int p5)])) _
    refine XS.ifYes X0.here hx rfl (pc0 := 12) (pc' := 17) rfl (hb hby d2_12) rfl ((if0 _ _).trans (feq hc12).2) (by decide) (by decide) ?_
    show Steps p.tables e below (s₁.setTop (mkF m 17 #[.val (.int p1), .val (.int p2), .val (.int p3), .val (.int p4), .val (.int p5), .val (.int p6), .val (.int p7), .val (.int p8), .val (.int p9), .unset, .unset] [])) _
    refine XS.iload X0.here hx rfl (hb hby d2_17) rfl ?_
    show Steps p.tables e below (s₁.setTop (mkF m 19 #[.val (.int p1), .val (.int p2), .val (.int p3), .val (.int p4), .val (.int p5), .val (.int p6), .val (.int p7), .val (.int p8), .val (.int p9), .unset, .unset] [(.int p6)])) _
    refine XS.iloadN X0.here hx rfl (hb hby d2_19) rfl ?_
    show Steps p.tables e below (s₁.setTop (mkF m 20 #[.val (.int p1), .val (.int p2), .val (.int p3), .val (.int p4), .val (.int p5), .val (.int p6), .val (.int p7), .val (.int p8), .val (.int p9), .unset, .unset] [(.int p1), (.int p6)])) _
    refine XS.iload X0.here hx rfl (hb hby d2_20) rfl ?_
    show Steps p.tables e below (s₁.setTop (mkF m 22 #[.val (.int p1), .val (.int p2), .val (.int p3), .val (.int p4), .val (.int p5), .val (.int p6), .val (.int p7), .val (.int p8), .val (.int p9), .unset, .unset] [(.int p8), (.int p1), (.int p6)])) _
    refine XS.imul X0.here hx rfl (hb hby d2_22) rfl ?_
    show Steps p.tables e below (s₁.setTop (mkF m 23 #[.val (.int p1), .val (.int p2), .val (.int p3), .val (.int p4), .val (.int p5), .val (.int p6), .val (.int p7), .val (.int p8), .val (.int p9), .unset, .unset] [(.int (p1 * p8)), (.int p6)])) _
    refine XS.iadd X0.here hx rfl (hb hby d2_23) rfl ?_
    show Steps p.tables e below (s₁.setTop (mkF m 24 #[.val (.int p1), .val (.int p2), .val (.int p3), .val (.int p4), .val (.int p5), .val (.int p6), .val (.int p7), .val (.int p8), .val (.int p9), .unset, .unset] [(.int (p6 + (p1 * p8)))])) _
    refine XS.iloadN X0.here hx rfl (hb hby d2_24) rfl ?_
    show Steps p.tables e below (s₁.setTop (mkF m 25 #[.val (.int p1), .val (.int p2), .val (.int p3), .val (.int p4), .val (.int p5), .val (.int p6), .val (.int p7), .val (.int p8), .val (.int p9), .unset, .unset] [(.int p2), (.int (p6 + (p1 * p8)))])) _
    refine XS.iload X0.here hx rfl (hb hby d2_25) rfl ?_
    show Steps p.tables e below (s₁.setTop (mkF m 27 #[.val (.int p1), .val (.int p2), .val (.int p3), .val (.int p4), .val (.int p5), .val (.int p6), .val (.int p7), .val (.int p8), .val (.int p9), .unset, .unset] [(.int p7), (.int p2), (.int (p6 + (p1 * p8)))])) _
    refine XS.imul X0.here hx rfl (hb hby d2_27) rfl ?_
    show Steps p.tables e below (s₁.setTop (mkF m 28 #[.val (.int p1), .val (.int p2), .val (.int p3), .val (.int p4), .val (.int p5), .val (.int p6), .val (.int p7), .val (.int p8), .val (.int p9), .unset, .unset] [(.int (p2 * p7)), (.int (p6 + (p1 * p8)))])) _
    refine XS.iadd X0.here hx rfl (hb hby d2_28) rfl ?_
    show Steps p.tables e below (s₁.setTop (mkF m 29 #[.val (.int p1), .val (.int p2), .val (.int p3), .val (.int p4), .val (.int p5), .val (.int p6), .val (.int p7), .val (.int p8), .val (.int p9), .unset, .unset] [(.int ((p6 + (p1 * p8)) + (p2 * p7)))])) _
    refine XS.istore X0.here hx rfl (hb hby d2_29) rfl (l' := #[.val (.int p1), .val (.int p2), .val (.int p3), .val (.int p4), .val (.int p5), .val (.int p6), .val (.int p7), .val (.int p8), .val (.int p9), .val (.int ((p6 + (p1 * p8)) + (p2 * p7))), .unset]) rfl ?_
    show Steps p.tables e below (s₁.setTop (mkF m 31 #[.val (.int p1), .val (.int p2), .val (.int p3), .val (.int p4), .val (.int p5), .val (.int p6), .val (.int p7), .val (.int p8), .val (.int p9), .val (.int ((p6 + (p1 * p8)) + (p2 * p7))), .unset] [])) _
    refine XS.iconst X0.here hx rfl (hb hby d2_31) ?_
    show Steps p.tables e below (s₁.setTop (mkF m 32 #[.val (.int p1), .val (.int p2), .val (.int p3), .val (.int p4), .val (.int p5), .val (.int p6), .val (.int p7), .val (.int p8), .val (.int p9), .val (.int ((p6 + (p1 * p8)) + (p2 * p7))), .unset] [(.int (0 : Int32))])) _
    refine XS.istore X0.here hx rfl (hb hby d2_32) rfl (l' := #[.val (.int p1), .val (.int p2), .val (.int p3), .val (.int p4), .val (.int p5), .val (.int p6), .val (.int p7), .val (.int p8), .val (.int p9), .val (.int ((p6 + (p1 * p8)) + (p2 * p7))), .val (.int (0 : Int32))]) rfl ?_
    show Steps p.tables e below (s₁.setTop (mkF m 34 #[.val (.int p1), .val (.int p2), .val (.int p3), .val (.int p4), .val (.int p5), .val (.int p6), .val (.int p7), .val (.int p8), .val (.int p9), .val (.int ((p6 + (p1 * p8)) + (p2 * p7))), .val (.int (0 : Int32))] [])) _
    refine XS.iload X0.here hx rfl (hb hby d2_34) rfl ?_
    show Steps p.tables e below (s₁.setTop (mkF m 36 #[.val (.int p1), .val (.int p2), .val (.int p3), .val (.int p4), .val (.int p5), .val (.int p6), .val (.int p7), .val (.int p8), .val (.int p9), .val (.int ((p6 + (p1 * p8)) + (p2 * p7))), .val (.int (0 : Int32))] [(.int ((p6 + (p1 * p8)) + (p2 * p7)))])) _
    refine XS.iload X0.here hx rfl (hb hby d2_36) rfl ?_
    show Steps p.tables e below (s₁.setTop (mkF m 38 #[.val (.int p1), .val (.int p2), .val (.int p3), .val (.int p4), .val (.int p5), .val (.int p6), .val (.int p7), .val (.int p8), .val (.int p9), .val (.int ((p6 + (p1 * p8)) + (p2 * p7))), .val (.int (0 : Int32))] [(.int p9), (.int ((p6 + (p1 * p8)) + (p2 * p7)))])) _
    refine XS.icmpYes X0.here hx rfl (pc0 := 38) (pc' := 57) rfl (hb hby d2_38) rfl (tlt hc38).2.2.1 (by decide) (by decide) ?_
    show Steps p.tables e below (s₁.setTop (mkF m 57 #[.val (.int p1), .val (.int p2), .val (.int p3), .val (.int p4), .val (.int p5), .val (.int p6), .val (.int p7), .val (.int p8), .val (.int p9), .val (.int ((p6 + (p1 * p8)) + (p2 * p7))), .val (.int (0 : Int32))] [])) _
    refine XS.iload X0.here hx rfl (hb hby d2_57) rfl ?_
    show Steps p.tables e below (s₁.setTop (mkF m 59 #[.val (.int p1), .val (.int p2), .val (.int p3), .val (.int p4), .val (.int p5), .val (.int p6), .val (.int p7), .val (.int p8), .val (.int p9), .val (.int ((p6 + (p1 * p8)) + (p2 * p7))), .val (.int (0 : Int32))] [(.int p5)])) _
    refine XS.iconst X0.here hx rfl (hb hby d2_59) ?_
    show Steps p.tables e below (s₁.setTop (mkF m 60 #[.val (.int p1), .val (.int p2), .val (.int p3), .val (.int p4), .val (.int p5), .val (.int p6), .val (.int p7), .val (.int p8), .val (.int p9), .val (.int ((p6 + (p1 * p8)) + (p2 * p7))), .val (.int (0 : Int32))] [(.int (2 : Int32)), (.int p5)])) _
    refine XS.icmpNo X0.here hx rfl (hb hby d2_60) rfl (tlt hc60).2.1 ?_
    show Steps p.tables e below (s₁.setTop (mkF m 63 #[.val (.int p1), .val (.int p2), .val (.int p3), .val (.int p4), .val (.int p5), .val (.int p6), .val (.int p7), .val (.int p8), .val (.int p9), .val (.int ((p6 + (p1 * p8)) + (p2 * p7))), .val (.int (0 : Int32))] [])) _
    refine XS.iload X0.here hx rfl (hb hby d2_63) rfl ?_
    show Steps p.tables e below (s₁.setTop (mkF m 65 #[.val (.int p1), .val (.int p2), .val (.int p3), .val (.int p4), .val (.int p5), .val (.int p6), .val (.int p7), .val (.int p8), .val (.int p9), .val (.int ((p6 + (p1 * p8)) + (p2 * p7))), .val (.int (0 : Int32))] [(.int ((p6 + (p1 * p8)) + (p2 * p7)))])) _
    refine XS.iload X0.here hx rfl (hb hby d2_65) rfl ?_
    show Steps p.tables e below (s₁.setTop (mkF m 67 #[.val (.int p1), .val (.int p2), .val (.int p3), .val (.int p4), .val (.int p5), .val (.int p6), .val (.int p7), .val (.int p8), .val (.int p9), .val (.int ((p6 + (p1 * p8)) + (p2 * p7))), .val (.int (0 : Int32))] [(.int p9), (.int ((p6 + (p1 * p8)) + (p2 * p7)))])) _
    refine XS.icmpYes X0.here hx rfl (pc0 := 67) (pc' := 76) rfl (hb hby d2_67) rfl (teq hc67).1 (by decide) (by decide) ?_
    show Steps p.tables e below (s₁.setTop (mkF m 76 #[.val (.int p1), .val (.int p2), .val (.int p3), .val (.int p4), .val (.int p5), .val (.int p6), .val (.int p7), .val (.int p8), .val (.int p9), .val (.int ((p6 + (p1 * p8)) + (p2 * p7))), .val (.int (0 : Int32))] [])) _
    refine XS.iload X0.here hx rfl (hb hby d2_76) rfl ?_
    show Steps p.tables e below (s₁.setTop (mkF m 78 #[.val (.int p1), .val (.int p2), .val (.int p3), .val (.int p4), .val (.int p5), .val (.int p6), .val (.int p7), .val (.int p8), .val (.int p9), .val (.int ((p6 + (p1 * p8)) + (p2 * p7))), .val (.int (0 : Int32))] [(.int (0 : Int32))])) _
    exact retI X0 hx Bd.returns (hb hby d2_78) hr
  · show Q2 Z p1 p2 p3 p4 p5 p6 p7 p8 p9 h0 n0 _ s₁.heap _
    rw [e0]
    exact ⟨by rw [own_row, if_pos hc2, if_pos hc7, if_neg hc12, own_c2, if_pos hc60, if_pos hc67, own_c1, if_pos hc38], N0, rfl⟩

set_option maxRecDepth 65536 in
set_option maxHeartbeats 40000000 in
theorem rm2_5 (l : Launch) (Z : State) (a0 : Array Value) (hw : ∀ d ∈ tables_1, d.before a0 Z = true) (ws : List Jvm.Cond) (p1 : Int32) (p2 : Int32) (p3 : Int32) (p4 : Int32) (p5 : Int32) (p6 : Int32) (p7 : Int32) (p8 : Int32) (p9 : Int32) (h0 : Heap) (n0 : Nat) (Z0 : n0 ≤ h0.size) (hc2 : p1 < p4) (hc7 : p2 < p3) (hc12 : ¬ (p5 = (0 : Int32))) (hc38 : p9 < ((p6 + (p1 * p8)) + (p2 * p7))) (hc60 : p5 < (2 : Int32)) (hc67 : ¬ (((p6 + (p1 * p8)) + (p2 * p7)) = p9)) :
    MetFree l (⟨"com/example/chunkwell/chunkwell/codecs/RowCopiesEachByteIsPinLaw", "row", "(IIIIIIIII)I"⟩ : MethodName) (head1 (Jvm.Cond.code (⟨"com/example/chunkwell/chunkwell/codecs/RowCopiesEachByteIsPinLaw", "row", "(IIIIIIIII)I"⟩ : MethodName) method_3_code 11 (some .int) :: ws) ({ frames := 0, cells := 0, slots := 0, locals := 0 } : Room)) (fun a U => a = #[(.int p1), (.int p2), (.int p3), (.int p4), (.int p5), (.int p6), (.int p7), (.int p8), (.int p9)] ∧ Z.Warmed39 U.vm ∧ U.heap = h0) (fun _ _ _ _ _ => True) (fun _ U o U' => ∃ v L, o = .returned v ∧ Q2 Z p1 p2 p3 p4 p5 p6 p7 p8 p9 h0 n0 v U'.heap L ∧ FrameEnd U o U' L ({ frames := 0, cells := 0, slots := 0, locals := 0 } : Room).cells ({ frames := 0, cells := 0, slots := 0, locals := 0 } : Room).slots) := by
  refine MetFree.of_bodySF (plainFor_of_name pn_2) hisR ?_
  intro p e s m args below meth c s₁ Bd hml0 hP hK
  obtain ⟨rfl, hZ, hh⟩ := hP
  have hx := Bd.exec
  have hby := Bd.bytes
  have hml : c.maxLocals = 11 := hml0
  have hown : s.vm.findClass "com/example/chunkwell/chunkwell/codecs/RowCopiesEachByteIsPinLaw" = some m.cls := findClass_of_methodNamed Bd.named
  have hnm := (name_of_methodNamed Bd.named Bd.method).1
  have X0 : Stand p l e ({ frames := 0, cells := 0, slots := 0, locals := 0 } : Room) s m #[(.int p1), (.int p2), (.int p3), (.int p4), (.int p5), (.int p6), (.int p7), (.int p8), (.int p9)] below meth c s₁ [] 0 0 := Stand.of_body Bd
  have e0 : s₁.heap = h0 := by rw [← hh, Bd.state]; rfl
  have N0 := Fr.nil n0
  have pre0 : ∀ t, Steps p.tables e below (s₁.setTop (mkF m 0 #[.val (.int p1), .val (.int p2), .val (.int p3), .val (.int p4), .val (.int p5), .val (.int p6), .val (.int p7), .val (.int p8), .val (.int p9), .unset, .unset] [])) t → Steps p.tables e below (s₁.setTop (entryFrame m #[(.int p1), (.int p2), (.int p3), (.int p4), (.int p5), (.int p6), (.int p7), (.int p8), (.int p9)] 11)) t := fun t k => castTop (ef_2 m p1 p2 p3 p4 p5 p6 p7 p8 p9) k

  obtain ⟨fs, hr, hrun, hended, hW, hsame⟩ := X0.leave (v := some (.int ((0 : Int32) ||| (2 : Int32)))) (fun h => by rw [Bd.returns] at h; cases h)
  refine ⟨_, _, pre0 _ ?_, hrun, hended, _, _, rfl, ?_, ⟨_, rfl⟩, hW, hsame.mono (by decide) (by decide)⟩
  · show Steps p.tables e below (s₁.setTop (mkF m 0 #[.val (.int p1), .val (.int p2), .val (.int p3), .val (.int p4), .val (.int p5), .val (.int p6), .val (.int p7), .val (.int p8), .val (.int p9), .unset, .unset] [])) _
    refine XS.iloadN X0.here hx rfl (hb hby d2_0) rfl ?_
    show Steps p.tables e below (s₁.setTop (mkF m 1 #[.val (.int p1), .val (.int p2), .val (.int p3), .val (.int p4), .val (.int p5), .val (.int p6), .val (.int p7), .val (.int p8), .val (.int p9), .unset, .unset] [(.int p1)])) _
    refine XS.iloadN X0.here hx rfl (hb hby d2_1) rfl ?_
    show Steps p.tables e below (s₁.setTop (mkF m 2 #[.val (.int p1), .val (.int p2), .val (.int p3), .val (.int p4), .val (.int p5), .val (.int p6), .val (.int p7), .val (.int p8), .val (.int p9), .unset, .unset] [(.int p4), (.int p1)])) _
    refine XS.icmpNo X0.here hx rfl (hb hby d2_2) rfl (tlt hc2).2.1 ?_
    show Steps p.tables e below (s₁.setTop (mkF m 5 #[.val (.int p1), .val (.int p2), .val (.int p3), .val (.int p4), .val (.int p5), .val (.int p6), .val (.int p7), .val (.int p8), .val (.int p9), .unset, .unset] [])) _
    refine XS.iloadN X0.here hx rfl (hb hby d2_5) rfl ?_
    show Steps p.tables e below (s₁.setTop (mkF m 6 #[.val (.int p1), .val (.int p2), .val (.int p3), .val (.int p4), .val (.int p5), .val (.int p6), .val (.int p7), .val (.int p8), .val (.int p9), .unset, .unset] [(.int p2)])) _
    refine XS.iloadN X0.here hx rfl (hb hby d2_6) rfl ?_
    show Steps p.tables e below (s₁.setTop (mkF m 7 #[.val (.int p1), .val (.int p2), .val (.int p3), .val (.int p4), .val (.int p5), .val (.int p6), .val (.int p7), .val (.int p8), .val (.int p9), .unset, .unset] [(.int p3), (.int p2)])) _
    refine XS.icmpNo X0.here hx rfl (hb hby d2_7) rfl (tlt hc7).2.1 ?_
    show Steps p.tables e below (s₁.setTop (mkF m 10 #[.val (.int p1), .val (.int p2), .val (.int p3), .val (.int p4), .val (.int p5), .val (.int p6), .val (.int p7), .val (.int p8), .val (.int p9), .unset, .unset] [])) _
    refine XS.iload X0.here hx rfl (hb hby d2_10) rfl ?_
    show Steps p.tables e below (s₁.setTop (mkF m 12 #[.val (.int p1), .val (.int p2), .val (.int p3), .val (.int p4), .val (.int p5), .val (.int p6), .val (.int p7), .val (.int p8), .val (.int p9), .unset, .unset] [(.int p5)])) _
    refine XS.ifYes X0.here hx rfl (pc0 := 12) (pc' := 17) rfl (hb hby d2_12) rfl ((if0 _ _).trans (feq hc12).2) (by decide) (by decide) ?_
    show Steps p.tables e below (s₁.setTop (mkF m 17 #[.val (.int p1), .val (.int p2), .val (.int p3), .val (.int p4), .val (.int p5), .val (.int p6), .val (.int p7), .val (.int p8), .val (.int p9), .unset, .unset] [])) _
    refine XS.iload X0.here hx rfl (hb hby d2_17) rfl ?_
    show Steps p.tables e below (s₁.setTop (mkF m 19 #[.val (.int p1), .val (.int p2), .val (.int p3), .val (.int p4), .val (.int p5), .val (.int p6), .val (.int p7), .val (.int p8), .val (.int p9), .unset, .unset] [(.int p6)])) _
    refine XS.iloadN X0.here hx rfl (hb hby d2_19) rfl ?_
    show Steps p.tables e below (s₁.setTop (mkF m 20 #[.val (.int p1), .val (.int p2), .val (.int p3), .val (.int p4), .val (.int p5), .val (.int p6), .val (.int p7), .val (.int p8), .val (.int p9), .unset, .unset] [(.int p1), (.int p6)])) _
    refine XS.iload X0.here hx rfl (hb hby d2_20) rfl ?_
    show Steps p.tables e below (s₁.setTop (mkF m 22 #[.val (.int p1), .val (.int p2), .val (.int p3), .val (.int p4), .val (.int p5), .val (.int p6), .val (.int p7), .val (.int p8), .val (.int p9), .unset, .unset] [(.int p8), (.int p1), (.int p6)])) _
    refine XS.imul X0.here hx rfl (hb hby d2_22) rfl ?_
    show Steps p.tables e below (s₁.setTop (mkF m 23 #[.val (.int p1), .val (.int p2), .val (.int p3), .val (.int p4), .val (.int p5), .val (.int p6), .val (.int p7), .val (.int p8), .val (.int p9), .unset, .unset] [(.int (p1 * p8)), (.int p6)])) _
    refine XS.iadd X0.here hx rfl (hb hby d2_23) rfl ?_
    show Steps p.tables e below (s₁.setTop (mkF m 24 #[.val (.int p1), .val (.int p2), .val (.int p3), .val (.int p4), .val (.int p5), .val (.int p6), .val (.int p7), .val (.int p8), .val (.int p9), .unset, .unset] [(.int (p6 + (p1 * p8)))])) _
    refine XS.iloadN X0.here hx rfl (hb hby d2_24) rfl ?_
    show Steps p.tables e below (s₁.setTop (mkF m 25 #[.val (.int p1), .val (.int p2), .val (.int p3), .val (.int p4), .val (.int p5), .val (.int p6), .val (.int p7), .val (.int p8), .val (.int p9), .unset, .unset] [(.int p2), (.int (p6 + (p1 * p8)))])) _
    refine XS.iload X0.here hx rfl (hb hby d2_25) rfl ?_
    show Steps p.tables e below (s₁.setTop (mkF m 27 #[.val (.int p1), .val (.int p2), .val (.int p3), .val (.int p4), .val (.int p5), .val (.int p6), .val (.int p7), .val (.int p8), .val (.int p9), .unset, .unset] [(.int p7), (.int p2), (.int (p6 + (p1 * p8)))])) _
    refine XS.imul X0.here hx rfl (hb hby d2_27) rfl ?_
    show Steps p.tables e below (s₁.setTop (mkF m 28 #[.val (.int p1), .val (.int p2), .val (.int p3), .val (.int p4), .val (.int p5), .val (.int p6), .val (.int p7), .val (.int p8), .val (.int p9), .unset, .unset] [(.int (p2 * p7)), (.int (p6 + (p1 * p8)))])) _
    refine XS.iadd X0.here hx rfl (hb hby d2_28) rfl ?_
    show Steps p.tables e below (s₁.setTop (mkF m 29 #[.val (.int p1), .val (.int p2), .val (.int p3), .val (.int p4), .val (.int p5), .val (.int p6), .val (.int p7), .val (.int p8), .val (.int p9), .unset, .unset] [(.int ((p6 + (p1 * p8)) + (p2 * p7)))])) _
    refine XS.istore X0.here hx rfl (hb hby d2_29) rfl (l' := #[.val (.int p1), .val (.int p2), .val (.int p3), .val (.int p4), .val (.int p5), .val (.int p6), .val (.int p7), .val (.int p8), .val (.int p9), .val (.int ((p6 + (p1 * p8)) + (p2 * p7))), .unset]) rfl ?_
    show Steps p.tables e below (s₁.setTop (mkF m 31 #[.val (.int p1), .val (.int p2), .val (.int p3), .val (.int p4), .val (.int p5), .val (.int p6), .val (.int p7), .val (.int p8), .val (.int p9), .val (.int ((p6 + (p1 * p8)) + (p2 * p7))), .unset] [])) _
    refine XS.iconst X0.here hx rfl (hb hby d2_31) ?_
    show Steps p.tables e below (s₁.setTop (mkF m 32 #[.val (.int p1), .val (.int p2), .val (.int p3), .val (.int p4), .val (.int p5), .val (.int p6), .val (.int p7), .val (.int p8), .val (.int p9), .val (.int ((p6 + (p1 * p8)) + (p2 * p7))), .unset] [(.int (0 : Int32))])) _
    refine XS.istore X0.here hx rfl (hb hby d2_32) rfl (l' := #[.val (.int p1), .val (.int p2), .val (.int p3), .val (.int p4), .val (.int p5), .val (.int p6), .val (.int p7), .val (.int p8), .val (.int p9), .val (.int ((p6 + (p1 * p8)) + (p2 * p7))), .val (.int (0 : Int32))]) rfl ?_
    show Steps p.tables e below (s₁.setTop (mkF m 34 #[.val (.int p1), .val (.int p2), .val (.int p3), .val (.int p4), .val (.int p5), .val (.int p6), .val (.int p7), .val (.int p8), .val (.int p9), .val (.int ((p6 + (p1 * p8)) + (p2 * p7))), .val (.int (0 : Int32))] [])) _
    refine XS.iload X0.here hx rfl (hb hby d2_34) rfl ?_
    show Steps p.tables e below (s₁.setTop (mkF m 36 #[.val (.int p1), .val (.int p2), .val (.int p3), .val (.int p4), .val (.int p5), .val (.int p6), .val (.int p7), .val (.int p8), .val (.int p9), .val (.int ((p6 + (p1 * p8)) + (p2 * p7))), .val (.int (0 : Int32))] [(.int ((p6 + (p1 * p8)) + (p2 * p7)))])) _
    refine XS.iload X0.here hx rfl (hb hby d2_36) rfl ?_
    show Steps p.tables e below (s₁.setTop (mkF m 38 #[.val (.int p1), .val (.int p2), .val (.int p3), .val (.int p4), .val (.int p5), .val (.int p6), .val (.int p7), .val (.int p8), .val (.int p9), .val (.int ((p6 + (p1 * p8)) + (p2 * p7))), .val (.int (0 : Int32))] [(.int p9), (.int ((p6 + (p1 * p8)) + (p2 * p7)))])) _
    refine XS.icmpYes X0.here hx rfl (pc0 := 38) (pc' := 57) rfl (hb hby d2_38) rfl (tlt hc38).2.2.1 (by decide) (by decide) ?_
    show Steps p.tables e below (s₁.setTop (mkF m 57 #[.val (.int p1), .val (.int p2), .val (.int p3), .val (.int p4), .val (.int p5), .val (.int p6), .val (.int p7), .val (.int p8), .val (.int p9), .val (.int ((p6 + (p1 * p8)) + (p2 * p7))), .val (.int (0 : Int32))] [])) _
    refine XS.iload X0.here hx rfl (hb hby d2_57) rfl ?_
    show Steps p.tables e below (s₁.setTop (mkF m 59 #[.val (.int p1), .val (.int p2), .val (.int p3), .val (.int p4), .val (.int p5), .val (.int p6), .val (.int p7), .val (.int p8), .val (.int p9), .val (.int ((p6 + (p1 * p8)) + (p2 * p7))), .val (.int (0 : Int32))] [(.int p5)])) _
    refine XS.iconst X0.here hx rfl (hb hby d2_59) ?_
    show Steps p.tables e below (s₁.setTop (mkF m 60 #[.val (.int p1), .val (.int p2), .val (.int p3), .val (.int p4), .val (.int p5), .val (.int p6), .val (.int p7), .val (.int p8), .val (.int p9), .val (.int ((p6 + (p1 * p8)) + (p2 * p7))), .val (.int (0 : Int32))] [(.int (2 : Int32)), (.int p5)])) _
    refine XS.icmpNo X0.here hx rfl (hb hby d2_60) rfl (tlt hc60).2.1 ?_
    show Steps p.tables e below (s₁.setTop (mkF m 63 #[.val (.int p1), .val (.int p2), .val (.int p3), .val (.int p4), .val (.int p5), .val (.int p6), .val (.int p7), .val (.int p8), .val (.int p9), .val (.int ((p6 + (p1 * p8)) + (p2 * p7))), .val (.int (0 : Int32))] [])) _
    refine XS.iload X0.here hx rfl (hb hby d2_63) rfl ?_
    show Steps p.tables e below (s₁.setTop (mkF m 65 #[.val (.int p1), .val (.int p2), .val (.int p3), .val (.int p4), .val (.int p5), .val (.int p6), .val (.int p7), .val (.int p8), .val (.int p9), .val (.int ((p6 + (p1 * p8)) + (p2 * p7))), .val (.int (0 : Int32))] [(.int ((p6 + (p1 * p8)) + (p2 * p7)))])) _
    refine XS.iload X0.here hx rfl (hb hby d2_65) rfl ?_
    show Steps p.tables e below (s₁.setTop (mkF m 67 #[.val (.int p1), .val (.int p2), .val (.int p3), .val (.int p4), .val (.int p5), .val (.int p6), .val (.int p7), .val (.int p8), .val (.int p9), .val (.int ((p6 + (p1 * p8)) + (p2 * p7))), .val (.int (0 : Int32))] [(.int p9), (.int ((p6 + (p1 * p8)) + (p2 * p7)))])) _
    refine XS.icmpNo X0.here hx rfl (hb hby d2_67) rfl (feq hc67).1 ?_
    show Steps p.tables e below (s₁.setTop (mkF m 70 #[.val (.int p1), .val (.int p2), .val (.int p3), .val (.int p4), .val (.int p5), .val (.int p6), .val (.int p7), .val (.int p8), .val (.int p9), .val (.int ((p6 + (p1 * p8)) + (p2 * p7))), .val (.int (0 : Int32))] [])) _
    refine XS.iload X0.here hx rfl (hb hby d2_70) rfl ?_
    show Steps p.tables e below (s₁.setTop (mkF m 72 #[.val (.int p1), .val (.int p2), .val (.int p3), .val (.int p4), .val (.int p5), .val (.int p6), .val (.int p7), .val (.int p8), .val (.int p9), .val (.int ((p6 + (p1 * p8)) + (p2 * p7))), .val (.int (0 : Int32))] [(.int (0 : Int32))])) _
    refine XS.iconst X0.here hx rfl (hb hby d2_72) ?_
    show Steps p.tables e below (s₁.setTop (mkF m 73 #[.val (.int p1), .val (.int p2), .val (.int p3), .val (.int p4), .val (.int p5), .val (.int p6), .val (.int p7), .val (.int p8), .val (.int p9), .val (.int ((p6 + (p1 * p8)) + (p2 * p7))), .val (.int (0 : Int32))] [(.int (2 : Int32)), (.int (0 : Int32))])) _
    refine XS.ior X0.here hx rfl (hb hby d2_73) rfl ?_
    show Steps p.tables e below (s₁.setTop (mkF m 74 #[.val (.int p1), .val (.int p2), .val (.int p3), .val (.int p4), .val (.int p5), .val (.int p6), .val (.int p7), .val (.int p8), .val (.int p9), .val (.int ((p6 + (p1 * p8)) + (p2 * p7))), .val (.int (0 : Int32))] [(.int ((0 : Int32) ||| (2 : Int32)))])) _
    refine XS.istore X0.here hx rfl (hb hby d2_74) rfl (l' := #[.val (.int p1), .val (.int p2), .val (.int p3), .val (.int p4), .val (.int p5), .val (.int p6), .val (.int p7), .val (.int p8), .val (.int p9), .val (.int ((p6 + (p1 * p8)) + (p2 * p7))), .val (.int ((0 : Int32) ||| (2 : Int32)))]) rfl ?_
    show Steps p.tables e below (s₁.setTop (mkF m 76 #[.val (.int p1), .val (.int p2), .val (.int p3), .val (.int p4), .val (.int p5), .val (.int p6), .val (.int p7), .val (.int p8), .val (.int p9), .val (.int ((p6 + (p1 * p8)) + (p2 * p7))), .val (.int ((0 : Int32) ||| (2 : Int32)))] [])) _
    refine XS.iload X0.here hx rfl (hb hby d2_76) rfl ?_
    show Steps p.tables e below (s₁.setTop (mkF m 78 #[.val (.int p1), .val (.int p2), .val (.int p3), .val (.int p4), .val (.int p5), .val (.int p6), .val (.int p7), .val (.int p8), .val (.int p9), .val (.int ((p6 + (p1 * p8)) + (p2 * p7))), .val (.int ((0 : Int32) ||| (2 : Int32)))] [(.int ((0 : Int32) ||| (2 : Int32)))])) _
    exact retI X0 hx Bd.returns (hb hby d2_78) hr
  · show Q2 Z p1 p2 p3 p4 p5 p6 p7 p8 p9 h0 n0 _ s₁.heap _
    rw [e0]
    exact ⟨by rw [own_row, if_pos hc2, if_pos hc7, if_neg hc12, own_c2, if_pos hc60, if_neg hc67, own_c1, if_pos hc38], N0, rfl⟩
theorem d2_41 : decode method_3_code 41 = .ok (.iload 8, 2) := by decide +kernel
theorem d2_43 : decode method_3_code 43 = .ok (.iload 9, 2) := by decide +kernel
theorem d2_45 : decode method_3_code 45 = .ok (.iload 4, 2) := by decide +kernel
theorem d2_47 : decode method_3_code 47 = .ok (.iadd, 1) := by decide +kernel
theorem d2_48 : decode method_3_code 48 = .ok (.if_icmp .ge 9, 3) := by decide +kernel

set_option maxRecDepth 65536 in
set_option maxHeartbeats 40000000 in
theorem rm2_6 (l : Launch) (Z : State) (a0 : Array Value) (hw : ∀ d ∈ tables_1, d.before a0 Z = true) (ws : List Jvm.Cond) (p1 : Int32) (p2 : Int32) (p3 : Int32) (p4 : Int32) (p5 : Int32) (p6 : Int32) (p7 : Int32) (p8 : Int32) (p9 : Int32) (h0 : Heap) (n0 : Nat) (Z0 : n0 ≤ h0.size) (hc2 : p1 < p4) (hc7 : p2 < p3) (hc12 : ¬ (p5 = (0 : Int32))) (hc38 : ¬ (p9 < ((p6 + (p1 * p8)) + (p2 * p7)))) (hc48 : ¬ (p9 < (((p6 + (p1 * p8)) + (p2 * p7)) + p5))) (hc60 : ¬ (p5 < (2 : Int32))) :
    MetFree l (⟨"com/example/chunkwell/chunkwell/codecs/RowCopiesEachByteIsPinLaw", "row", "(IIIIIIIII)I"⟩ : MethodName) (head1 (Jvm.Cond.code (⟨"com/example/chunkwell/chunkwell/codecs/RowCopiesEachByteIsPinLaw", "row", "(IIIIIIIII)I"⟩ : MethodName) method_3_code 11 (some .int) :: ws) ({ frames := 0, cells := 0, slots := 0, locals := 0 } : Room)) (fun a U => a = #[(.int p1), (.int p2), (.int p3), (.int p4), (.int p5), (.int p6), (.int p7), (.int p8), (.int p9)] ∧ Z.Warmed39 U.vm ∧ U.heap = h0) (fun _ _ _ _ _ => True) (fun _ U o U' => ∃ v L, o = .returned v ∧ Q2 Z p1 p2 p3 p4 p5 p6 p7 p8 p9 h0 n0 v U'.heap L ∧ FrameEnd U o U' L ({ frames := 0, cells := 0, slots := 0, locals := 0 } : Room).cells ({ frames := 0, cells := 0, slots := 0, locals := 0 } : Room).slots) := by
  refine MetFree.of_bodySF (plainFor_of_name pn_2) hisR ?_
  intro p e s m args below meth c s₁ Bd hml0 hP hK
  obtain ⟨rfl, hZ, hh⟩ := hP
  have hx := Bd.exec
  have hby := Bd.bytes
  have hml : c.maxLocals = 11 := hml0
  have hown : s.vm.findClass "com/example/chunkwell/chunkwell/codecs/RowCopiesEachByteIsPinLaw" = some m.cls := findClass_of_methodNamed Bd.named
  have hnm := (name_of_methodNamed Bd.named Bd.method).1
  have X0 : Stand p l e ({ frames := 0, cells := 0, slots := 0, locals := 0 } : Room) s m #[(.int p1), (.int p2), (.int p3), (.int p4), (.int p5), (.int p6), (.int p7), (.int p8), (.int p9)] below meth c s₁ [] 0 0 := Stand.of_body Bd
  have e0 : s₁.heap = h0 := by rw [← hh, Bd.state]; rfl
  have N0 := Fr.nil n0
  have pre0 : ∀ t, Steps p.tables e below (s₁.setTop (mkF m 0 #[.val (.int p1), .val (.int p2), .val (.int p3), .val (.int p4), .val (.int p5), .val (.int p6), .val (.int p7), .val (.int p8), .val (.int p9), .unset, .unset] [])) t → Steps p.tables e below (s₁.setTop (entryFrame m #[(.int p1), (.int p2), (.int p3), (.int p4), (.int p5), (.int p6), (.int p7), (.int p8), (.int p9)] 11)) t := fun t k => castTop (ef_2 m p1 p2 p3 p4 p5 p6 p7 p8 p9) k

  obtain ⟨fs, hr, hrun, hended, hW, hsame⟩ := X0.leave (v := some (.int ((0 : Int32) ||| (2 : Int32)))) (fun h => by rw [Bd.returns] at h; cases h)
  refine ⟨_, _, pre0 _ ?_, hrun, hended, _, _, rfl, ?_, ⟨_, rfl⟩, hW, hsame.mono (by decide) (by decide)⟩
  · show Steps p.tables e below (s₁.setTop (mkF m 0 #[.val (.int p1), .val (.int p2), .val (.int p3), .val (.int p4), .val (.int p5), .val (.int p6), .val (.int p7), .val (.int p8), .val (.int p9), .unset, .unset] [])) _
    refine XS.iloadN X0.here hx rfl (hb hby d2_0) rfl ?_
    show Steps p.tables e below (s₁.setTop (mkF m 1 #[.val (.int p1), .val (.int p2), .val (.int p3), .val (.int p4), .val (.int p5), .val (.int p6), .val (.int p7), .val (.int p8), .val (.int p9), .unset, .unset] [(.int p1)])) _
    refine XS.iloadN X0.here hx rfl (hb hby d2_1) rfl ?_
    show Steps p.tables e below (s₁.setTop (mkF m 2 #[.val (.int p1), .val (.int p2), .val (.int p3), .val (.int p4), .val (.int p5), .val (.int p6), .val (.int p7), .val (.int p8), .val (.int p9), .unset, .unset] [(.int p4), (.int p1)])) _
    refine XS.icmpNo X0.here hx rfl (hb hby d2_2) rfl (tlt hc2).2.1 ?_
    show Steps p.tables e below (s₁.setTop (mkF m 5 #[.val (.int p1), .val (.int p2), .val (.int p3), .val (.int p4), .val (.int p5), .val (.int p6), .val (.int p7), .val (.int p8), .val (.int p9), .unset, .unset] [])) _
    refine XS.iloadN X0.here hx rfl (hb hby d2_5) rfl ?_
    show Steps p.tables e below (s₁.setTop (mkF m 6 #[.val (.int p1), .val (.int p2), .val (.int p3), .val (.int p4), .val (.int p5), .val (.int p6), .val (.int p7), .val (.int p8), .val (.int p9), .unset, .unset] [(.int p2)])) _
    refine XS.iloadN X0.here hx rfl (hb hby d2_6) rfl ?_
    show Steps p.tables e below (s₁.setTop (mkF m 7 #[.val (.int p1), .val (.int p2), .val (.int p3), .val (.int p4), .val (.int p5), .val (.int p6), .val (.int p7), .val (.int p8), .val (.int p9), .unset, .unset] [(.int p3), (.int p2)])) _
    refine XS.icmpNo X0.here hx rfl (hb hby d2_7) rfl (tlt hc7).2.1 ?_
    show Steps p.tables e below (s₁.setTop (mkF m 10 #[.val (.int p1), .val (.int p2), .val (.int p3), .val (.int p4), .val (.int p5), .val (.int p6), .val (.int p7), .val (.int p8), .val (.int p9), .unset, .unset] [])) _
    refine XS.iload X0.here hx rfl (hb hby d2_10) rfl ?_
    show Steps p.tables e below (s₁.setTop (mkF m 12 #[.val (.int p1), .val (.int p2), .val (.int p3), .val (.int p4), .val (.int p5), .val (.int p6), .val (.int p7), .val (.int p8), .val (.int p9), .unset, .unset] [(.int p5)])) _
    refine XS.ifYes X0.here hx rfl (pc0 := 12) (pc' := 17) rfl (hb hby d2_12) rfl ((if0 _ _).trans (feq hc12).2) (by decide) (by decide) ?_
    show Steps p.tables e below (s₁.setTop (mkF m 17 #[.val (.int p1), .val (.int p2), .val (.int p3), .val (.int p4), .val (.int p5), .val (.int p6), .val (.int p7), .val (.int p8), .val (.int p9), .unset, .unset] [])) _
    refine XS.iload X0.here hx rfl (hb hby d2_17) rfl ?_
    show Steps p.tables e below (s₁.setTop (mkF m 19 #[.val (.int p1), .val (.int p2), .val (.int p3), .val (.int p4), .val (.int p5), .val (.int p6), .val (.int p7), .val (.int p8), .val (.int p9), .unset, .unset] [(.int p6)])) _
    refine XS.iloadN X0.here hx rfl (hb hby d2_19) rfl ?_
    show Steps p.tables e below (s₁.setTop (mkF m 20 #[.val (.int p1), .val (.int p2), .val (.int p3), .val (.int p4), .val (.int p5), .val (.int p6), .val (.int p7), .val (.int p8), .val (.int p9), .unset, .unset] [(.int p1), (.int p6)])) _
    refine XS.iload X0.here hx rfl (hb hby d2_20) rfl ?_
    show Steps p.tables e below (s₁.setTop (mkF m 22 #[.val (.int p1), .val (.int p2), .val (.int p3), .val (.int p4), .val (.int p5), .val (.int p6), .val (.int p7), .val (.int p8), .val (.int p9), .unset, .unset] [(.int p8), (.int p1), (.int p6)])) _
    refine XS.imul X0.here hx rfl (hb hby d2_22) rfl ?_
    show Steps p.tables e below (s₁.setTop (mkF m 23 #[.val (.int p1), .val (.int p2), .val (.int p3), .val (.int p4), .val (.int p5), .val (.int p6), .val (.int p7), .val (.int p8), .val (.int p9), .unset, .unset] [(.int (p1 * p8)), (.int p6)])) _
    refine XS.iadd X0.here hx rfl (hb hby d2_23) rfl ?_
    show Steps p.tables e below (s₁.setTop (mkF m 24 #[.val (.int p1), .val (.int p2), .val (.int p3), .val (.int p4), .val (.int p5), .val (.int p6), .val (.int p7), .val (.int p8), .val (.int p9), .unset, .unset] [(.int (p6 + (p1 * p8)))])) _
    refine XS.iloadN X0.here hx rfl (hb hby d2_24) rfl ?_
    show Steps p.tables e below (s₁.setTop (mkF m 25 #[.val (.int p1), .val (.int p2), .val (.int p3), .val (.int p4), .val (.int p5), .val (.int p6), .val (.int p7), .val (.int p8), .val (.int p9), .unset, .unset] [(.int p2), (.int (p6 + (p1 * p8)))])) _
    refine XS.iload X0.here hx rfl (hb hby d2_25) rfl ?_
    show Steps p.tables e below (s₁.setTop (mkF m 27 #[.val (.int p1), .val (.int p2), .val (.int p3), .val (.int p4), .val (.int p5), .val (.int p6), .val (.int p7), .val (.int p8), .val (.int p9), .unset, .unset] [(.int p7), (.int p2), (.int (p6 + (p1 * p8)))])) _
    refine XS.imul X0.here hx rfl (hb hby d2_27) rfl ?_
    show Steps p.tables e below (s₁.setTop (mkF m 28 #[.val (.int p1), .val (.int p2), .val (.int p3), .val (.int p4), .val (.int p5), .val (.int p6), .val (.int p7), .val (.int p8), .val (.int p9), .unset, .unset] [(.int (p2 * p7)), (.int (p6 + (p1 * p8)))])) _
    refine XS.iadd X0.here hx rfl (hb hby d2_28) rfl ?_
    show Steps p.tables e below (s₁.setTop (mkF m 29 #[.val (.int p1), .val (.int p2), .val (.int p3), .val (.int p4), .val (.int p5), .val (.int p6), .val (.int p7), .val (.int p8), .val (.int p9), .unset, .unset] [(.int ((p6 + (p1 * p8)) + (p2 * p7)))])) _
    refine XS.istore X0.here hx rfl (hb hby d2_29) rfl (l' := #[.val (.int p1), .val (.int p2), .val (.int p3), .val (.int p4), .val (.int p5), .val (.int p6), .val (.int p7), .val (.int p8), .val (.int p9), .val (.int ((p6 + (p1 * p8)) + (p2 * p7))), .unset]) rfl ?_
    show Steps p.tables e below (s₁.setTop (mkF m 31 #[.val (.int p1), .val (.int p2), .val (.int p3), .val (.int p4), .val (.int p5), .val (.int p6), .val (.int p7), .val (.int p8), .val (.int p9), .val (.int ((p6 + (p1 * p8)) + (p2 * p7))), .unset] [])) _
    refine XS.iconst X0.here hx rfl (hb hby d2_31) ?_
    show Steps p.tables e below (s₁.setTop (mkF m 32 #[.val (.int p1), .val (.int p2), .val (.int p3), .val (.int p4), .val (.int p5), .val (.int p6), .val (.int p7), .val (.int p8), .val (.int p9), .val (.int ((p6 + (p1 * p8)) + (p2 * p7))), .unset] [(.int (0 : Int32))])) _
    refine XS.istore X0.here hx rfl (hb hby d2_32) rfl (l' := #[.val (.int p1), .val (.int p2), .val (.int p3), .val (.int p4), .val (.int p5), .val (.int p6), .val (.int p7), .val (.int p8), .val (.int p9), .val (.int ((p6 + (p1 * p8)) + (p2 * p7))), .val (.int (0 : Int32))]) rfl ?_
    show Steps p.tables e below (s₁.setTop (mkF m 34 #[.val (.int p1), .val (.int p2), .val (.int p3), .val (.int p4), .val (.int p5), .val (.int p6), .val (.int p7), .val (.int p8), .val (.int p9), .val (.int ((p6 + (p1 * p8)) + (p2 * p7))), .val (.int (0 : Int32))] [])) _
    refine XS.iload X0.here hx rfl (hb hby d2_34) rfl ?_
    show Steps p.tables e below (s₁.setTop (mkF m 36 #[.val (.int p1), .val (.int p2), .val (.int p3), .val (.int p4), .val (.int p5), .val (.int p6), .val (.int p7), .val (.int p8), .val (.int p9), .val (.int ((p6 + (p1 * p8)) + (p2 * p7))), .val (.int (0 : Int32))] [(.int ((p6 + (p1 * p8)) + (p2 * p7)))])) _
    refine XS.iload X0.here hx rfl (hb hby d2_36) rfl ?_
    show Steps p.tables e below (s₁.setTop (mkF m 38 #[.val (.int p1), .val (.int p2), .val (.int p3), .val (.int p4), .val (.int p5), .val (.int p6), .val (.int p7), .val (.int p8), .val (.int p9), .val (.int ((p6 + (p1 * p8)) + (p2 * p7))), .val (.int (0 : Int32))] [(.int p9), (.int ((p6 + (p1 * p8)) + (p2 * p7)))])) _
    refine XS.icmpNo X0.here hx rfl (hb hby d2_38) rfl (flt hc38).2.2.1 ?_
    show Steps p.tables e below (s₁.setTop (mkF m 41 #[.val (.int p1), .val (.int p2), .val (.int p3), .val (.int p4), .val (.int p5), .val (.int p6), .val (.int p7), .val (.int p8), .val (.int p9), .val (.int ((p6 + (p1 * p8)) + (p2 * p7))), .val (.int (0 : Int32))] [])) _
    refine XS.iload X0.here hx rfl (hb hby d2_41) rfl ?_
    show Steps p.tables e below (s₁.setTop (mkF m 43 #[.val (.int p1), .val (.int p2), .val (.int p3), .val (.int p4), .val (.int p5), .val (.int p6), .val (.int p7), .val (.int p8), .val (.int p9), .val (.int ((p6 + (p1 * p8)) + (p2 * p7))), .val (.int (0 : Int32))] [(.int p9)])) _
    refine XS.iload X0.here hx rfl (hb hby d2_43) rfl ?_
    show Steps p.tables e below (s₁.setTop (mkF m 45 #[.val (.int p1), .val (.int p2), .val (.int p3), .val (.int p4), .val (.int p5), .val (.int p6), .val (.int p7), .val (.int p8), .val (.int p9), .val (.int ((p6 + (p1 * p8)) + (p2 * p7))), .val (.int (0 : Int32))] [(.int ((p6 + (p1 * p8)) + (p2 * p7))), (.int p9)])) _
    refine XS.iload X0.here hx rfl (hb hby d2_45) rfl ?_
    show Steps p.tables e below (s₁.setTop (mkF m 47 #[.val (.int p1), .val (.int p2), .val (.int p3), .val (.int p4), .val (.int p5), .val (.int p6), .val (.int p7), .val (.int p8), .val (.int p9), .val (.int ((p6 + (p1 * p8)) + (p2 * p7))), .val (.int (0 : Int32))] [(.int p5), (.int ((p6 + (p1 * p8)) + (p2 * p7))), (.int p9)])) _
    refine XS.iadd X0.here hx rfl (hb hby d2_47) rfl ?_
    show Steps p.tables e below (s₁.setTop (mkF m 48 #[.val (.int p1), .val (.int p2), .val (.int p3), .val (.int p4), .val (.int p5), .val (.int p6), .val (.int p7), .val (.int p8), .val (.int p9), .val (.int ((p6 + (p1 * p8)) + (p2 * p7))), .val (.int (0 : Int32))] [(.int (((p6 + (p1 * p8)) + (p2 * p7)) + p5)), (.int p9)])) _
    refine XS.icmpYes X0.here hx rfl (pc0 := 48) (pc' := 57) rfl (hb hby d2_48) rfl (flt hc48).2.1 (by decide) (by decide) ?_
    show Steps p.tables e below (s₁.setTop (mkF m 57 #[.val (.int p1), .val (.int p2), .val (.int p3), .val (.int p4), .val (.int p5), .val (.int p6), .val (.int p7), .val (.int p8), .val (.int p9), .val (.int ((p6 + (p1 * p8)) + (p2 * p7))), .val (.int (0 : Int32))] [])) _
    refine XS.iload X0.here hx rfl (hb hby d2_57) rfl ?_
    show Steps p.tables e below (s₁.setTop (mkF m 59 #[.val (.int p1), .val (.int p2), .val (.int p3), .val (.int p4), .val (.int p5), .val (.int p6), .val (.int p7), .val (.int p8), .val (.int p9), .val (.int ((p6 + (p1 * p8)) + (p2 * p7))), .val (.int (0 : Int32))] [(.int p5)])) _
    refine XS.iconst X0.here hx rfl (hb hby d2_59) ?_
    show Steps p.tables e below (s₁.setTop (mkF m 60 #[.val (.int p1), .val (.int p2), .val (.int p3), .val (.int p4), .val (.int p5), .val (.int p6), .val (.int p7), .val (.int p8), .val (.int p9), .val (.int ((p6 + (p1 * p8)) + (p2 * p7))), .val (.int (0 : Int32))] [(.int (2 : Int32)), (.int p5)])) _
    refine XS.icmpYes X0.here hx rfl (pc0 := 60) (pc' := 70) rfl (hb hby d2_60) rfl (flt hc60).2.1 (by decide) (by decide) ?_
    show Steps p.tables e below (s₁.setTop (mkF m 70 #[.val (.int p1), .val (.int p2), .val (.int p3), .val (.int p4), .val (.int p5), .val (.int p6), .val (.int p7), .val (.int p8), .val (.int p9), .val (.int ((p6 + (p1 * p8)) + (p2 * p7))), .val (.int (0 : Int32))] [])) _
    refine XS.iload X0.here hx rfl (hb hby d2_70) rfl ?_
    show Steps p.tables e below (s₁.setTop (mkF m 72 #[.val (.int p1), .val (.int p2), .val (.int p3), .val (.int p4), .val (.int p5), .val (.int p6), .val (.int p7), .val (.int p8), .val (.int p9), .val (.int ((p6 + (p1 * p8)) + (p2 * p7))), .val (.int (0 : Int32))] [(.int (0 : Int32))])) _
    refine XS.iconst X0.here hx rfl (hb hby d2_72) ?_
    show Steps p.tables e below (s₁.setTop (mkF m 73 #[.val (.int p1), .val (.int p2), .val (.int p3), .val (.int p4), .val (.int p5), .val (.int p6), .val (.int p7), .val (.int p8), .val (.int p9), .val (.int ((p6 + (p1 * p8)) + (p2 * p7))), .val (.int (0 : Int32))] [(.int (2 : Int32)), (.int (0 : Int32))])) _
    refine XS.ior X0.here hx rfl (hb hby d2_73) rfl ?_
    show Steps p.tables e below (s₁.setTop (mkF m 74 #[.val (.int p1), .val (.int p2), .val (.int p3), .val (.int p4), .val (.int p5), .val (.int p6), .val (.int p7), .val (.int p8), .val (.int p9), .val (.int ((p6 + (p1 * p8)) + (p2 * p7))), .val (.int (0 : Int32))] [(.int ((0 : Int32) ||| (2 : Int32)))])) _
    refine XS.istore X0.here hx rfl (hb hby d2_74) rfl (l' := #[.val (.int p1), .val (.int p2), .val (.int p3), .val (.int p4), .val (.int p5), .val (.int p6), .val (.int p7), .val (.int p8), .val (.int p9), .val (.int ((p6 + (p1 * p8)) + (p2 * p7))), .val (.int ((0 : Int32) ||| (2 : Int32)))]) rfl ?_
    show Steps p.tables e below (s₁.setTop (mkF m 76 #[.val (.int p1), .val (.int p2), .val (.int p3), .val (.int p4), .val (.int p5), .val (.int p6), .val (.int p7), .val (.int p8), .val (.int p9), .val (.int ((p6 + (p1 * p8)) + (p2 * p7))), .val (.int ((0 : Int32) ||| (2 : Int32)))] [])) _
    refine XS.iload X0.here hx rfl (hb hby d2_76) rfl ?_
    show Steps p.tables e below (s₁.setTop (mkF m 78 #[.val (.int p1), .val (.int p2), .val (.int p3), .val (.int p4), .val (.int p5), .val (.int p6), .val (.int p7), .val (.int p8), .val (.int p9), .val (.int ((p6 + (p1 * p8)) + (p2 * p7))), .val (.int ((0 : Int32) ||| (2 : Int32)))] [(.int ((0 : Int32) ||| (2 : Int32)))])) _
    exact retI X0 hx Bd.returns (hb hby d2_78) hr
  · show Q2 Z p1 p2 p3 p4 p5 p6 p7 p8 p9 h0 n0 _ s₁.heap _
    rw [e0]
    exact ⟨by rw [own_row, if_pos hc2, if_pos hc7, if_neg hc12, own_c2, if_neg hc60, own_c1, if_neg hc38, if_neg hc48], N0, rfl⟩

set_option maxRecDepth 65536 in
set_option maxHeartbeats 40000000 in
theorem rm2_7 (l : Launch) (Z : State) (a0 : Array Value) (hw : ∀ d ∈ tables_1, d.before a0 Z = true) (ws : List Jvm.Cond) (p1 : Int32) (p2 : Int32) (p3 : Int32) (p4 : Int32) (p5 : Int32) (p6 : Int32) (p7 : Int32) (p8 : Int32) (p9 : Int32) (h0 : Heap) (n0 : Nat) (Z0 : n0 ≤ h0.size) (hc2 : p1 < p4) (hc7 : p2 < p3) (hc12 : ¬ (p5 = (0 : Int32))) (hc38 : ¬ (p9 < ((p6 + (p1 * p8)) + (p2 * p7)))) (hc48 : ¬ (p9 < (((p6 + (p1 * p8)) + (p2 * p7)) + p5))) (hc60 : p5 < (2 : Int32)) (hc67 : ((p6 + (p1 * p8)) + (p2 * p7)) = p9) :
    MetFree l (⟨"com/example/chunkwell/chunkwell/codecs/RowCopiesEachByteIsPinLaw", "row", "(IIIIIIIII)I"⟩ : MethodName) (head1 (Jvm.Cond.code (⟨"com/example/chunkwell/chunkwell/codecs/RowCopiesEachByteIsPinLaw", "row", "(IIIIIIIII)I"⟩ : MethodName) method_3_code 11 (some .int) :: ws) ({ frames := 0, cells := 0, slots := 0, locals := 0 } : Room)) (fun a U => a = #[(.int p1), (.int p2), (.int p3), (.int p4), (.int p5), (.int p6), (.int p7), (.int p8), (.int p9)] ∧ Z.Warmed39 U.vm ∧ U.heap = h0) (fun _ _ _ _ _ => True) (fun _ U o U' => ∃ v L, o = .returned v ∧ Q2 Z p1 p2 p3 p4 p5 p6 p7 p8 p9 h0 n0 v U'.heap L ∧ FrameEnd U o U' L ({ frames := 0, cells := 0, slots := 0, locals := 0 } : Room).cells ({ frames := 0, cells := 0, slots := 0, locals := 0 } : Room).slots) := by
  refine MetFree.of_bodySF (plainFor_of_name pn_2) hisR ?_
  intro p e s m args below meth c s₁ Bd hml0 hP hK
  obtain ⟨rfl, hZ, hh⟩ := hP
  have hx := Bd.exec
  have hby := Bd.bytes
  have hml : c.maxLocals = 11 := hml0
  have hown : s.vm.findClass "com/example/chunkwell/chunkwell/codecs/RowCopiesEachByteIsPinLaw" = some m.cls := findClass_of_methodNamed Bd.named
  have hnm := (name_of_methodNamed Bd.named Bd.method).1
  have X0 : Stand p l e ({ frames := 0, cells := 0, slots := 0, locals := 0 } : Room) s m #[(.int p1), (.int p2), (.int p3), (.int p4), (.int p5), (.int p6), (.int p7), (.int p8), (.int p9)] below meth c s₁ [] 0 0 := Stand.of_body Bd
  have e0 : s₁.heap = h0 := by rw [← hh, Bd.state]; rfl
  have N0 := Fr.nil n0
  have pre0 : ∀ t, Steps p.tables e below (s₁.setTop (mkF m 0 #[.val (.int p1), .val (.int p2), .val (.int p3), .val (.int p4), .val (.int p5), .val (.int p6), .val (.int p7), .val (.int p8), .val (.int p9), .unset, .unset] [])) t → Steps p.tables e below (s₁.setTop (entryFrame m #[(.int p1), (.int p2), (.int p3), (.int p4), (.int p5), (.int p6), (.int p7), (.int p8), (.int p9)] 11)) t := fun t k => castTop (ef_2 m p1 p2 p3 p4 p5 p6 p7 p8 p9) k

  obtain ⟨fs, hr, hrun, hended, hW, hsame⟩ := X0.leave (v := some (.int (0 : Int32))) (fun h => by rw [Bd.returns] at h; cases h)
  refine ⟨_, _, pre0 _ ?_, hrun, hended, _, _, rfl, ?_, ⟨_, rfl⟩, hW, hsame.mono (by decide) (by decide)⟩
  · show Steps p.tables e below (s₁.setTop (mkF m 0 #[.val (.int p1), .val (.int p2), .val (.int p3), .val (.int p4), .val (.int p5), .val (.int p6), .val (.int p7), .val (.int p8), .val (.int p9), .unset, .unset] [])) _
    refine XS.iloadN X0.here hx rfl (hb hby d2_0) rfl ?_
    show Steps p.tables e below (s₁.setTop (mkF m 1 #[.val (.int p1), .val (.int p2), .val (.int p3), .val (.int p4), .val (.int p5), .val (.int p6), .val (.int p7), .val (.int p8), .val (.int p9), .unset, .unset] [(.int p1)])) _
    refine XS.iloadN X0.here hx rfl (hb hby d2_1) rfl ?_
    show Steps p.tables e below (s₁.setTop (mkF m 2 #[.val (.int p1), .val (.int p2), .val (.int p3), .val (.int p4), .val (.int p5), .val (.int p6), .val (.int p7), .val (.int p8), .val (.int p9), .unset, .unset] [(.int p4), (.int p1)])) _
    refine XS.icmpNo X0.here hx rfl (hb hby d2_2) rfl (tlt hc2).2.1 ?_
    show Steps p.tables e below (s₁.setTop (mkF m 5 #[.val (.int p1), .val (.int p2), .val (.int p3), .val (.int p4), .val (.int p5), .val (.int p6), .val (.int p7), .val (.int p8), .val (.int p9), .unset, .unset] [])) _
    refine XS.iloadN X0.here hx rfl (hb hby d2_5) rfl ?_
    show Steps p.tables e below (s₁.setTop (mkF m 6 #[.val (.int p1), .val (.int p2), .val (.int p3), .val (.int p4), .val (.int p5), .val (.int p6), .val (.int p7), .val (.int p8), .val (.int p9), .unset, .unset] [(.int p2)])) _
    refine XS.iloadN X0.here hx rfl (hb hby d2_6) rfl ?_
    show Steps p.tables e below (s₁.setTop (mkF m 7 #[.val (.int p1), .val (.int p2), .val (.int p3), .val (.int p4), .val (.int p5), .val (.int p6), .val (.int p7), .val (.int p8), .val (.int p9), .unset, .unset] [(.int p3), (.int p2)])) _
    refine XS.icmpNo X0.here hx rfl (hb hby d2_7) rfl (tlt hc7).2.1 ?_
    show Steps p.tables e below (s₁.setTop (mkF m 10 #[.val (.int p1), .val (.int p2), .val (.int p3), .val (.int p4), .val (.int p5), .val (.int p6), .val (.int p7), .val (.int p8), .val (.int p9), .unset, .unset] [])) _
    refine XS.iload X0.here hx rfl (hb hby d2_10) rfl ?_
    show Steps p.tables e below (s₁.setTop (mkF m 12 #[.val (.int p1), .val (.int p2), .val (.int p3), .val (.int p4), .val (.int p5), .val (.int p6), .val (.int p7), .val (.int p8), .val (.int p9), .unset, .unset] [(.int p5)])) _
    refine XS.ifYes X0.here hx rfl (pc0 := 12) (pc' := 17) rfl (hb hby d2_12) rfl ((if0 _ _).trans (feq hc12).2) (by decide) (by decide) ?_
    show Steps p.tables e below (s₁.setTop (mkF m 17 #[.val (.int p1), .val (.int p2), .val (.int p3), .val (.int p4), .val (.int p5), .val (.int p6), .val (.int p7), .val (.int p8), .val (.int p9), .unset, .unset] [])) _
    refine XS.iload X0.here hx rfl (hb hby d2_17) rfl ?_
    show Steps p.tables e below (s₁.setTop (mkF m 19 #[.val (.int p1), .val (.int p2), .val (.int p3), .val (.int p4), .val (.int p5), .val (.int p6), .val (.int p7), .val (.int p8), .val (.int p9), .unset, .unset] [(.int p6)])) _
    refine XS.iloadN X0.here hx rfl (hb hby d2_19) rfl ?_
    show Steps p.tables e below (s₁.setTop (mkF m 20 #[.val (.int p1), .val (.int p2), .val (.int p3), .val (.int p4), .val (.int p5), .val (.int p6), .val (.int p7), .val (.int p8), .val (.int p9), .unset, .unset] [(.int p1), (.int p6)])) _
    refine XS.iload X0.here hx rfl (hb hby d2_20) rfl ?_
    show Steps p.tables e below (s₁.setTop (mkF m 22 #[.val (.int p1), .val (.int p2), .val (.int p3), .val (.int p4), .val (.int p5), .val (.int p6), .val (.int p7), .val (.int p8), .val (.int p9), .unset, .unset] [(.int p8), (.int p1), (.int p6)])) _
    refine XS.imul X0.here hx rfl (hb hby d2_22) rfl ?_
    show Steps p.tables e below (s₁.setTop (mkF m 23 #[.val (.int p1), .val (.int p2), .val (.int p3), .val (.int p4), .val (.int p5), .val (.int p6), .val (.int p7), .val (.int p8), .val (.int p9), .unset, .unset] [(.int (p1 * p8)), (.int p6)])) _
    refine XS.iadd X0.here hx rfl (hb hby d2_23) rfl ?_
    show Steps p.tables e below (s₁.setTop (mkF m 24 #[.val (.int p1), .val (.int p2), .val (.int p3), .val (.int p4), .val (.int p5), .val (.int p6), .val (.int p7), .val (.int p8), .val (.int p9), .unset, .unset] [(.int (p6 + (p1 * p8)))])) _
    refine XS.iloadN X0.here hx rfl (hb hby d2_24) rfl ?_
    show Steps p.tables e below (s₁.setTop (mkF m 25 #[.val (.int p1), .val (.int p2), .val (.int p3), .val (.int p4), .val (.int p5), .val (.int p6), .val (.int p7), .val (.int p8), .val (.int p9), .unset, .unset] [(.int p2), (.int (p6 + (p1 * p8)))])) _
    refine XS.iload X0.here hx rfl (hb hby d2_25) rfl ?_
    show Steps p.tables e below (s₁.setTop (mkF m 27 #[.val (.int p1), .val (.int p2), .val (.int p3), .val (.int p4), .val (.int p5), .val (.int p6), .val (.int p7), .val (.int p8), .val (.int p9), .unset, .unset] [(.int p7), (.int p2), (.int (p6 + (p1 * p8)))])) _
    refine XS.imul X0.here hx rfl (hb hby d2_27) rfl ?_
    show Steps p.tables e below (s₁.setTop (mkF m 28 #[.val (.int p1), .val (.int p2), .val (.int p3), .val (.int p4), .val (.int p5), .val (.int p6), .val (.int p7), .val (.int p8), .val (.int p9), .unset, .unset] [(.int (p2 * p7)), (.int (p6 + (p1 * p8)))])) _
    refine XS.iadd X0.here hx rfl (hb hby d2_28) rfl ?_
    show Steps p.tables e below (s₁.setTop (mkF m 29 #[.val (.int p1), .val (.int p2), .val (.int p3), .val (.int p4), .val (.int p5), .val (.int p6), .val (.int p7), .val (.int p8), .val (.int p9), .unset, .unset] [(.int ((p6 + (p1 * p8)) + (p2 * p7)))])) _
    refine XS.istore X0.here hx rfl (hb hby d2_29) rfl (l' := #[.val (.int p1), .val (.int p2), .val (.int p3), .val (.int p4), .val (.int p5), .val (.int p6), .val (.int p7), .val (.int p8), .val (.int p9), .val (.int ((p6 + (p1 * p8)) + (p2 * p7))), .unset]) rfl ?_
    show Steps p.tables e below (s₁.setTop (mkF m 31 #[.val (.int p1), .val (.int p2), .val (.int p3), .val (.int p4), .val (.int p5), .val (.int p6), .val (.int p7), .val (.int p8), .val (.int p9), .val (.int ((p6 + (p1 * p8)) + (p2 * p7))), .unset] [])) _
    refine XS.iconst X0.here hx rfl (hb hby d2_31) ?_
    show Steps p.tables e below (s₁.setTop (mkF m 32 #[.val (.int p1), .val (.int p2), .val (.int p3), .val (.int p4), .val (.int p5), .val (.int p6), .val (.int p7), .val (.int p8), .val (.int p9), .val (.int ((p6 + (p1 * p8)) + (p2 * p7))), .unset] [(.int (0 : Int32))])) _
    refine XS.istore X0.here hx rfl (hb hby d2_32) rfl (l' := #[.val (.int p1), .val (.int p2), .val (.int p3), .val (.int p4), .val (.int p5), .val (.int p6), .val (.int p7), .val (.int p8), .val (.int p9), .val (.int ((p6 + (p1 * p8)) + (p2 * p7))), .val (.int (0 : Int32))]) rfl ?_
    show Steps p.tables e below (s₁.setTop (mkF m 34 #[.val (.int p1), .val (.int p2), .val (.int p3), .val (.int p4), .val (.int p5), .val (.int p6), .val (.int p7), .val (.int p8), .val (.int p9), .val (.int ((p6 + (p1 * p8)) + (p2 * p7))), .val (.int (0 : Int32))] [])) _
    refine XS.iload X0.here hx rfl (hb hby d2_34) rfl ?_
    show Steps p.tables e below (s₁.setTop (mkF m 36 #[.val (.int p1), .val (.int p2), .val (.int p3), .val (.int p4), .val (.int p5), .val (.int p6), .val (.int p7), .val (.int p8), .val (.int p9), .val (.int ((p6 + (p1 * p8)) + (p2 * p7))), .val (.int (0 : Int32))] [(.int ((p6 + (p1 * p8)) + (p2 * p7)))])) _
    refine XS.iload X0.here hx rfl (hb hby d2_36) rfl ?_
    show Steps p.tables e below (s₁.setTop (mkF m 38 #[.val (.int p1), .val (.int p2), .val (.int p3), .val (.int p4), .val (.int p5), .val (.int p6), .val (.int p7), .val (.int p8), .val (.int p9), .val (.int ((p6 + (p1 * p8)) + (p2 * p7))), .val (.int (0 : Int32))] [(.int p9), (.int ((p6 + (p1 * p8)) + (p2 * p7)))])) _
    refine XS.icmpNo X0.here hx rfl (hb hby d2_38) rfl (flt hc38).2.2.1 ?_
    show Steps p.tables e below (s₁.setTop (mkF m 41 #[.val (.int p1), .val (.int p2), .val (.int p3), .val (.int p4), .val (.int p5), .val (.int p6), .val (.int p7), .val (.int p8), .val (.int p9), .val (.int ((p6 + (p1 * p8)) + (p2 * p7))), .val (.int (0 : Int32))] [])) _
    refine XS.iload X0.here hx rfl (hb hby d2_41) rfl ?_
    show Steps p.tables e below (s₁.setTop (mkF m 43 #[.val (.int p1), .val (.int p2), .val (.int p3), .val (.int p4), .val (.int p5), .val (.int p6), .val (.int p7), .val (.int p8), .val (.int p9), .val (.int ((p6 + (p1 * p8)) + (p2 * p7))), .val (.int (0 : Int32))] [(.int p9)])) _
    refine XS.iload X0.here hx rfl (hb hby d2_43) rfl ?_
    show Steps p.tables e below (s₁.setTop (mkF m 45 #[.val (.int p1), .val (.int p2), .val (.int p3), .val (.int p4), .val (.int p5), .val (.int p6), .val (.int p7), .val (.int p8), .val (.int p9), .val (.int ((p6 + (p1 * p8)) + (p2 * p7))), .val (.int (0 : Int32))] [(.int ((p6 + (p1 * p8)) + (p2 * p7))), (.int p9)])) _
    refine XS.iload X0.here hx rfl (hb hby d2_45) rfl ?_
    show Steps p.tables e below (s₁.setTop (mkF m 47 #[.val (.int p1), .val (.int p2), .val (.int p3), .val (.int p4), .val (.int p5), .val (.int p6), .val (.int p7), .val (.int p8), .val (.int p9), .val (.int ((p6 + (p1 * p8)) + (p2 * p7))), .val (.int (0 : Int32))] [(.int p5), (.int ((p6 + (p1 * p8)) + (p2 * p7))), (.int p9)])) _
    refine XS.iadd X0.here hx rfl (hb hby d2_47) rfl ?_
    show Steps p.tables e below (s₁.setTop (mkF m 48 #[.val (.int p1), .val (.int p2), .val (.int p3), .val (.int p4), .val (.int p5), .val (.int p6), .val (.int p7), .val (.int p8), .val (.int p9), .val (.int ((p6 + (p1 * p8)) + (p2 * p7))), .val (.int (0 : Int32))] [(.int (((p6 + (p1 * p8)) + (p2 * p7)) + p5)), (.int p9)])) _
    refine XS.icmpYes X0.here hx rfl (pc0 := 48) (pc' := 57) rfl (hb hby d2_48) rfl (flt hc48).2.1 (by decide) (by decide) ?_
    show Steps p.tables e below (s₁.setTop (mkF m 57 #[.val (.int p1), .val (.int p2), .val (.int p3), .val (.int p4), .val (.int p5), .val (.int p6), .val (.int p7), .val (.int p8), .val (.int p9), .val (.int ((p6 + (p1 * p8)) + (p2 * p7))), .val (.int (0 : Int32))] [])) _
    refine XS.iload X0.here hx rfl (hb hby d2_57) rfl ?_
    show Steps p.tables e below (s₁.setTop (mkF m 59 #[.val (.int p1), .val (.int p2), .val (.int p3), .val (.int p4), .val (.int p5), .val (.int p6), .val (.int p7), .val (.int p8), .val (.int p9), .val (.int ((p6 + (p1 * p8)) + (p2 * p7))), .val (.int (0 : Int32))] [(.int p5)])) _
    refine XS.iconst X0.here hx rfl (hb hby d2_59) ?_
    show Steps p.tables e below (s₁.setTop (mkF m 60 #[.val (.int p1), .val (.int p2), .val (.int p3), .val (.int p4), .val (.int p5), .val (.int p6), .val (.int p7), .val (.int p8), .val (.int p9), .val (.int ((p6 + (p1 * p8)) + (p2 * p7))), .val (.int (0 : Int32))] [(.int (2 : Int32)), (.int p5)])) _
    refine XS.icmpNo X0.here hx rfl (hb hby d2_60) rfl (tlt hc60).2.1 ?_
    show Steps p.tables e below (s₁.setTop (mkF m 63 #[.val (.int p1), .val (.int p2), .val (.int p3), .val (.int p4), .val (.int p5), .val (.int p6), .val (.int p7), .val (.int p8), .val (.int p9), .val (.int ((p6 + (p1 * p8)) + (p2 * p7))), .val (.int (0 : Int32))] [])) _
    refine XS.iload X0.here hx rfl (hb hby d2_63) rfl ?_
    show Steps p.tables e below (s₁.setTop (mkF m 65 #[.val (.int p1), .val (.int p2), .val (.int p3), .val (.int p4), .val (.int p5), .val (.int p6), .val (.int p7), .val (.int p8), .val (.int p9), .val (.int ((p6 + (p1 * p8)) + (p2 * p7))), .val (.int (0 : Int32))] [(.int ((p6 + (p1 * p8)) + (p2 * p7)))])) _
    refine XS.iload X0.here hx rfl (hb hby d2_65) rfl ?_
    show Steps p.tables e below (s₁.setTop (mkF m 67 #[.val (.int p1), .val (.int p2), .val (.int p3), .val (.int p4), .val (.int p5), .val (.int p6), .val (.int p7), .val (.int p8), .val (.int p9), .val (.int ((p6 + (p1 * p8)) + (p2 * p7))), .val (.int (0 : Int32))] [(.int p9), (.int ((p6 + (p1 * p8)) + (p2 * p7)))])) _
    refine XS.icmpYes X0.here hx rfl (pc0 := 67) (pc' := 76) rfl (hb hby d2_67) rfl (teq hc67).1 (by decide) (by decide) ?_
    show Steps p.tables e below (s₁.setTop (mkF m 76 #[.val (.int p1), .val (.int p2), .val (.int p3), .val (.int p4), .val (.int p5), .val (.int p6), .val (.int p7), .val (.int p8), .val (.int p9), .val (.int ((p6 + (p1 * p8)) + (p2 * p7))), .val (.int (0 : Int32))] [])) _
    refine XS.iload X0.here hx rfl (hb hby d2_76) rfl ?_
    show Steps p.tables e below (s₁.setTop (mkF m 78 #[.val (.int p1), .val (.int p2), .val (.int p3), .val (.int p4), .val (.int p5), .val (.int p6), .val (.int p7), .val (.int p8), .val (.int p9), .val (.int ((p6 + (p1 * p8)) + (p2 * p7))), .val (.int (0 : Int32))] [(.int (0 : Int32))])) _
    exact retI X0 hx Bd.returns (hb hby d2_78) hr
  · show Q2 Z p1 p2 p3 p4 p5 p6 p7 p8 p9 h0 n0 _ s₁.heap _
    rw [e0]
    exact ⟨by rw [own_row, if_pos hc2, if_pos hc7, if_neg hc12, own_c2, if_pos hc60, if_pos hc67, own_c1, if_neg hc38, if_neg hc48], N0, rfl⟩

set_option maxRecDepth 65536 in
set_option maxHeartbeats 40000000 in
theorem rm2_8 (l : Launch) (Z : State) (a0 : Array Value) (hw : ∀ d ∈ tables_1, d.before a0 Z = true) (ws : List Jvm.Cond) (p1 : Int32) (p2 : Int32) (p3 : Int32) (p4 : Int32) (p5 : Int32) (p6 : Int32) (p7 : Int32) (p8 : Int32) (p9 : Int32) (h0 : Heap) (n0 : Nat) (Z0 : n0 ≤ h0.size) (hc2 : p1 < p4) (hc7 : p2 < p3) (hc12 : ¬ (p5 = (0 : Int32))) (hc38 : ¬ (p9 < ((p6 + (p1 * p8)) + (p2 * p7)))) (hc48 : ¬ (p9 < (((p6 + (p1 * p8)) + (p2 * p7)) + p5))) (hc60 : p5 < (2 : Int32)) (hc67 : ¬ (((p6 + (p1 * p8)) + (p2 * p7)) = p9)) :
    MetFree l (⟨"com/example/chunkwell/chunkwell/codecs/RowCopiesEachByteIsPinLaw", "row", "(IIIIIIIII)I"⟩ : MethodName) (head1 (Jvm.Cond.code (⟨"com/example/chunkwell/chunkwell/codecs/RowCopiesEachByteIsPinLaw", "row", "(IIIIIIIII)I"⟩ : MethodName) method_3_code 11 (some .int) :: ws) ({ frames := 0, cells := 0, slots := 0, locals := 0 } : Room)) (fun a U => a = #[(.int p1), (.int p2), (.int p3), (.int p4), (.int p5), (.int p6), (.int p7), (.int p8), (.int p9)] ∧ Z.Warmed39 U.vm ∧ U.heap = h0) (fun _ _ _ _ _ => True) (fun _ U o U' => ∃ v L, o = .returned v ∧ Q2 Z p1 p2 p3 p4 p5 p6 p7 p8 p9 h0 n0 v U'.heap L ∧ FrameEnd U o U' L ({ frames := 0, cells := 0, slots := 0, locals := 0 } : Room).cells ({ frames := 0, cells := 0, slots := 0, locals := 0 } : Room).slots) := by
  refine MetFree.of_bodySF (plainFor_of_name pn_2) hisR ?_
  intro p e s m args below meth c s₁ Bd hml0 hP hK
  obtain ⟨rfl, hZ, hh⟩ := hP
  have hx := Bd.exec
  have hby := Bd.bytes
  have hml : c.maxLocals = 11 := hml0
  have hown : s.vm.findClass "com/example/chunkwell/chunkwell/codecs/RowCopiesEachByteIsPinLaw" = some m.cls := findClass_of_methodNamed Bd.named
  have hnm := (name_of_methodNamed Bd.named Bd.method).1
  have X0 : Stand p l e ({ frames := 0, cells := 0, slots := 0, locals := 0 } : Room) s m #[(.int p1), (.int p2), (.int p3), (.int p4), (.int p5), (.int p6), (.int p7), (.int p8), (.int p9)] below meth c s₁ [] 0 0 := Stand.of_body Bd
  have e0 : s₁.heap = h0 := by rw [← hh, Bd.state]; rfl
  have N0 := Fr.nil n0
  have pre0 : ∀ t, Steps p.tables e below (s₁.setTop (mkF m 0 #[.val (.int p1), .val (.int p2), .val (.int p3), .val (.int p4), .val (.int p5), .val (.int p6), .val (.int p7), .val (.int p8), .val (.int p9), .unset, .unset] [])) t → Steps p.tables e below (s₁.setTop (entryFrame m #[(.int p1), (.int p2), (.int p3), (.int p4), (.int p5), (.int p6), (.int p7), (.int p8), (.int p9)] 11)) t := fun t k => castTop (ef_2 m p1 p2 p3 p4 p5 p6 p7 p8 p9) k

  obtain ⟨fs, hr, hrun, hended, hW, hsame⟩ := X0.leave (v := some (.int ((0 : Int32) ||| (2 : Int32)))) (fun h => by rw [Bd.returns] at h; cases h)
  refine ⟨_, _, pre0 _ ?_, hrun, hended, _, _, rfl, ?_, ⟨_, rfl⟩, hW, hsame.mono (by decide) (by decide)⟩
  · show Steps p.tables e below (s₁.setTop (mkF m 0 #[.val (.int p1), .val (.int p2), .val (.int p3), .val (.int p4), .val (.int p5), .val (.int p6), .val (.int p7), .val (.int p8), .val (.int p9), .unset, .unset] [])) _
    refine XS.iloadN X0.here hx rfl (hb hby d2_0) rfl ?_
    show Steps p.tables e below (s₁.setTop (mkF m 1 #[.val (.int p1), .val (.int p2), .val (.int p3), .val (.int p4), .val (.int p5), .val (.int p6), .val (.int p7), .val (.int p8), .val (.int p9), .unset, .unset] [(.int p1)])) _
    refine XS.iloadN X0.here hx rfl (hb hby d2_1) rfl ?_
    show Steps p.tables e below (s₁.setTop (mkF m 2 #[.val (.int p1), .val (.int p2), .val (.int p3), .val (.int p4), .val (.int p5), .val (.int p6), .val (.int p7), .val (.int p8), .val (.int p9), .unset, .unset] [(.int p4), (.int p1)])) _
    refine XS.icmpNo X0.here hx rfl (hb hby d2_2) rfl (tlt hc2).2.1 ?_
    show Steps p.tables e below (s₁.setTop (mkF m 5 #[.val (.int p1), .val (.int p2), .val (.int p3), .val (.int p4), .val (.int p5), .val (.int p6), .val (.int p7), .val (.int p8), .val (.int p9), .unset, .unset] [])) _
    refine XS.iloadN X0.here hx rfl (hb hby d2_5) rfl ?_
    show Steps p.tables e below (s₁.setTop (mkF m 6 #[.val (.int p1), .val (.int p2), .val (.int p3), .val (.int p4), .val (.int p5), .val (.int p6), .val (.int p7), .val (.int p8), .val (.int p9), .unset, .unset] [(.int p2)])) _
    refine XS.iloadN X0.here hx rfl (hb hby d2_6) rfl ?_
    show Steps p.tables e below (s₁.setTop (mkF m 7 #[.val (.int p1), .val (.int p2), .val (.int p3), .val (.int p4), .val (.int p5), .val (.int p6), .val (.int p7), .val (.int p8), .val (.int p9), .unset, .unset] [(.int p3), (.int p2)])) _
    refine XS.icmpNo X0.here hx rfl (hb hby d2_7) rfl (tlt hc7).2.1 ?_
    show Steps p.tables e below (s₁.setTop (mkF m 10 #[.val (.int p1), .val (.int p2), .val (.int p3), .val (.int p4), .val (.int p5), .val (.int p6), .val (.int p7), .val (.int p8), .val (.int p9), .unset, .unset] [])) _
    refine XS.iload X0.here hx rfl (hb hby d2_10) rfl ?_
    show Steps p.tables e below (s₁.setTop (mkF m 12 #[.val (.int p1), .val (.int p2), .val (.int p3), .val (.int p4), .val (.int p5), .val (.int p6), .val (.int p7), .val (.int p8), .val (.int p9), .unset, .unset] [(.int p5)])) _
    refine XS.ifYes X0.here hx rfl (pc0 := 12) (pc' := 17) rfl (hb hby d2_12) rfl ((if0 _ _).trans (feq hc12).2) (by decide) (by decide) ?_
    show Steps p.tables e below (s₁.setTop (mkF m 17 #[.val (.int p1), .val (.int p2), .val (.int p3), .val (.int p4), .val (.int p5), .val (.int p6), .val (.int p7), .val (.int p8), .val (.int p9), .unset, .unset] [])) _
    refine XS.iload X0.here hx rfl (hb hby d2_17) rfl ?_
    show Steps p.tables e below (s₁.setTop (mkF m 19 #[.val (.int p1), .val (.int p2), .val (.int p3), .val (.int p4), .val (.int p5), .val (.int p6), .val (.int p7), .val (.int p8), .val (.int p9), .unset, .unset] [(.int p6)])) _
    refine XS.iloadN X0.here hx rfl (hb hby d2_19) rfl ?_
    show Steps p.tables e below (s₁.setTop (mkF m 20 #[.val (.int p1), .val (.int p2), .val (.int p3), .val (.int p4), .val (.int p5), .val (.int p6), .val (.int p7), .val (.int p8), .val (.int p9), .unset, .unset] [(.int p1), (.int p6)])) _
    refine XS.iload X0.here hx rfl (hb hby d2_20) rfl ?_
    show Steps p.tables e below (s₁.setTop (mkF m 22 #[.val (.int p1), .val (.int p2), .val (.int p3), .val (.int p4), .val (.int p5), .val (.int p6), .val (.int p7), .val (.int p8), .val (.int p9), .unset, .unset] [(.int p8), (.int p1), (.int p6)])) _
    refine XS.imul X0.here hx rfl (hb hby d2_22) rfl ?_
    show Steps p.tables e below (s₁.setTop (mkF m 23 #[.val (.int p1), .val (.int p2), .val (.int p3), .val (.int p4), .val (.int p5), .val (.int p6), .val (.int p7), .val (.int p8), .val (.int p9), .unset, .unset] [(.int (p1 * p8)), (.int p6)])) _
    refine XS.iadd X0.here hx rfl (hb hby d2_23) rfl ?_
    show Steps p.tables e below (s₁.setTop (mkF m 24 #[.val (.int p1), .val (.int p2), .val (.int p3), .val (.int p4), .val (.int p5), .val (.int p6), .val (.int p7), .val (.int p8), .val (.int p9), .unset, .unset] [(.int (p6 + (p1 * p8)))])) _
    refine XS.iloadN X0.here hx rfl (hb hby d2_24) rfl ?_
    show Steps p.tables e below (s₁.setTop (mkF m 25 #[.val (.int p1), .val (.int p2), .val (.int p3), .val (.int p4), .val (.int p5), .val (.int p6), .val (.int p7), .val (.int p8), .val (.int p9), .unset, .unset] [(.int p2), (.int (p6 + (p1 * p8)))])) _
    refine XS.iload X0.here hx rfl (hb hby d2_25) rfl ?_
    show Steps p.tables e below (s₁.setTop (mkF m 27 #[.val (.int p1), .val (.int p2), .val (.int p3), .val (.int p4), .val (.int p5), .val (.int p6), .val (.int p7), .val (.int p8), .val (.int p9), .unset, .unset] [(.int p7), (.int p2), (.int (p6 + (p1 * p8)))])) _
    refine XS.imul X0.here hx rfl (hb hby d2_27) rfl ?_
    show Steps p.tables e below (s₁.setTop (mkF m 28 #[.val (.int p1), .val (.int p2), .val (.int p3), .val (.int p4), .val (.int p5), .val (.int p6), .val (.int p7), .val (.int p8), .val (.int p9), .unset, .unset] [(.int (p2 * p7)), (.int (p6 + (p1 * p8)))])) _
    refine XS.iadd X0.here hx rfl (hb hby d2_28) rfl ?_
    show Steps p.tables e below (s₁.setTop (mkF m 29 #[.val (.int p1), .val (.int p2), .val (.int p3), .val (.int p4), .val (.int p5), .val (.int p6), .val (.int p7), .val (.int p8), .val (.int p9), .unset, .unset] [(.int ((p6 + (p1 * p8)) + (p2 * p7)))])) _
    refine XS.istore X0.here hx rfl (hb hby d2_29) rfl (l' := #[.val (.int p1), .val (.int p2), .val (.int p3), .val (.int p4), .val (.int p5), .val (.int p6), .val (.int p7), .val (.int p8), .val (.int p9), .val (.int ((p6 + (p1 * p8)) + (p2 * p7))), .unset]) rfl ?_
    show Steps p.tables e below (s₁.setTop (mkF m 31 #[.val (.int p1), .val (.int p2), .val (.int p3), .val (.int p4), .val (.int p5), .val (.int p6), .val (.int p7), .val (.int p8), .val (.int p9), .val (.int ((p6 + (p1 * p8)) + (p2 * p7))), .unset] [])) _
    refine XS.iconst X0.here hx rfl (hb hby d2_31) ?_
    show Steps p.tables e below (s₁.setTop (mkF m 32 #[.val (.int p1), .val (.int p2), .val (.int p3), .val (.int p4), .val (.int p5), .val (.int p6), .val (.int p7), .val (.int p8), .val (.int p9), .val (.int ((p6 + (p1 * p8)) + (p2 * p7))), .unset] [(.int (0 : Int32))])) _
    refine XS.istore X0.here hx rfl (hb hby d2_32) rfl (l' := #[.val (.int p1), .val (.int p2), .val (.int p3), .val (.int p4), .val (.int p5), .val (.int p6), .val (.int p7), .val (.int p8), .val (.int p9), .val (.int ((p6 + (p1 * p8)) + (p2 * p7))), .val (.int (0 : Int32))]) rfl ?_
    show Steps p.tables e below (s₁.setTop (mkF m 34 #[.val (.int p1), .val (.int p2), .val (.int p3), .val (.int p4), .val (.int p5), .val (.int p6), .val (.int p7), .val (.int p8), .val (.int p9), .val (.int ((p6 + (p1 * p8)) + (p2 * p7))), .val (.int (0 : Int32))] [])) _
    refine XS.iload X0.here hx rfl (hb hby d2_34) rfl ?_
    show Steps p.tables e below (s₁.setTop (mkF m 36 #[.val (.int p1), .val (.int p2), .val (.int p3), .val (.int p4), .val (.int p5), .val (.int p6), .val (.int p7), .val (.int p8), .val (.int p9), .val (.int ((p6 + (p1 * p8)) + (p2 * p7))), .val (.int (0 : Int32))] [(.int ((p6 + (p1 * p8)) + (p2 * p7)))])) _
    refine XS.iload X0.here hx rfl (hb hby d2_36) rfl ?_
    show Steps p.tables e below (s₁.setTop (mkF m 38 #[.val (.int p1), .val (.int p2), .val (.int p3), .val (.int p4), .val (.int p5), .val (.int p6), .val (.int p7), .val (.int p8), .val (.int p9), .val (.int ((p6 + (p1 * p8)) + (p2 * p7))), .val (.int (0 : Int32))] [(.int p9), (.int ((p6 + (p1 * p8)) + (p2 * p7)))])) _
    refine XS.icmpNo X0.here hx rfl (hb hby d2_38) rfl (flt hc38).2.2.1 ?_
    show Steps p.tables e below (s₁.setTop (mkF m 41 #[.val (.int p1), .val (.int p2), .val (.int p3), .val (.int p4), .val (.int p5), .val (.int p6), .val (.int p7), .val (.int p8), .val (.int p9), .val (.int ((p6 + (p1 * p8)) + (p2 * p7))), .val (.int (0 : Int32))] [])) _
    refine XS.iload X0.here hx rfl (hb hby d2_41) rfl ?_
    show Steps p.tables e below (s₁.setTop (mkF m 43 #[.val (.int p1), .val (.int p2), .val (.int p3), .val (.int p4), .val (.int p5), .val (.int p6), .val (.int p7), .val (.int p8), .val (.int p9), .val (.int ((p6 + (p1 * p8)) + (p2 * p7))), .val (.int (0 : Int32))] [(.int p9)])) _
    refine XS.iload X0.here hx rfl (hb hby d2_43) rfl ?_
    show Steps p.tables e below (s₁.setTop (mkF m 45 #[.val (.int p1), .val (.int p2), .val (.int p3), .val (.int p4), .val (.int p5), .val (.int p6), .val (.int p7), .val (.int p8), .val (.int p9), .val (.int ((p6 + (p1 * p8)) + (p2 * p7))), .val (.int (0 : Int32))] [(.int ((p6 + (p1 * p8)) + (p2 * p7))), (.int p9)])) _
    refine XS.iload X0.here hx rfl (hb hby d2_45) rfl ?_
    show Steps p.tables e below (s₁.setTop (mkF m 47 #[.val (.int p1), .val (.int p2), .val (.int p3), .val (.int p4), .val (.int p5), .val (.int p6), .val (.int p7), .val (.int p8), .val (.int p9), .val (.int ((p6 + (p1 * p8)) + (p2 * p7))), .val (.int (0 : Int32))] [(.int p5), (.int ((p6 + (p1 * p8)) + (p2 * p7))), (.int p9)])) _
    refine XS.iadd X0.here hx rfl (hb hby d2_47) rfl ?_
    show Steps p.tables e below (s₁.setTop (mkF m 48 #[.val (.int p1), .val (.int p2), .val (.int p3), .val (.int p4), .val (.int p5), .val (.int p6), .val (.int p7), .val (.int p8), .val (.int p9), .val (.int ((p6 + (p1 * p8)) + (p2 * p7))), .val (.int (0 : Int32))] [(.int (((p6 + (p1 * p8)) + (p2 * p7)) + p5)), (.int p9)])) _
    refine XS.icmpYes X0.here hx rfl (pc0 := 48) (pc' := 57) rfl (hb hby d2_48) rfl (flt hc48).2.1 (by decide) (by decide) ?_
    show Steps p.tables e below (s₁.setTop (mkF m 57 #[.val (.int p1), .val (.int p2), .val (.int p3), .val (.int p4), .val (.int p5), .val (.int p6), .val (.int p7), .val (.int p8), .val (.int p9), .val (.int ((p6 + (p1 * p8)) + (p2 * p7))), .val (.int (0 : Int32))] [])) _
    refine XS.iload X0.here hx rfl (hb hby d2_57) rfl ?_
    show Steps p.tables e below (s₁.setTop (mkF m 59 #[.val (.int p1), .val (.int p2), .val (.int p3), .val (.int p4), .val (.int p5), .val (.int p6), .val (.int p7), .val (.int p8), .val (.int p9), .val (.int ((p6 + (p1 * p8)) + (p2 * p7))), .val (.int (0 : Int32))] [(.int p5)])) _
    refine XS.iconst X0.here hx rfl (hb hby d2_59) ?_
    show Steps p.tables e below (s₁.setTop (mkF m 60 #[.val (.int p1), .val (.int p2), .val (.int p3), .val (.int p4), .val (.int p5), .val (.int p6), .val (.int p7), .val (.int p8), .val (.int p9), .val (.int ((p6 + (p1 * p8)) + (p2 * p7))), .val (.int (0 : Int32))] [(.int (2 : Int32)), (.int p5)])) _
    refine XS.icmpNo X0.here hx rfl (hb hby d2_60) rfl (tlt hc60).2.1 ?_
    show Steps p.tables e below (s₁.setTop (mkF m 63 #[.val (.int p1), .val (.int p2), .val (.int p3), .val (.int p4), .val (.int p5), .val (.int p6), .val (.int p7), .val (.int p8), .val (.int p9), .val (.int ((p6 + (p1 * p8)) + (p2 * p7))), .val (.int (0 : Int32))] [])) _
    refine XS.iload X0.here hx rfl (hb hby d2_63) rfl ?_
    show Steps p.tables e below (s₁.setTop (mkF m 65 #[.val (.int p1), .val (.int p2), .val (.int p3), .val (.int p4), .val (.int p5), .val (.int p6), .val (.int p7), .val (.int p8), .val (.int p9), .val (.int ((p6 + (p1 * p8)) + (p2 * p7))), .val (.int (0 : Int32))] [(.int ((p6 + (p1 * p8)) + (p2 * p7)))])) _
    refine XS.iload X0.here hx rfl (hb hby d2_65) rfl ?_
    show Steps p.tables e below (s₁.setTop (mkF m 67 #[.val (.int p1), .val (.int p2), .val (.int p3), .val (.int p4), .val (.int p5), .val (.int p6), .val (.int p7), .val (.int p8), .val (.int p9), .val (.int ((p6 + (p1 * p8)) + (p2 * p7))), .val (.int (0 : Int32))] [(.int p9), (.int ((p6 + (p1 * p8)) + (p2 * p7)))])) _
    refine XS.icmpNo X0.here hx rfl (hb hby d2_67) rfl (feq hc67).1 ?_
    show Steps p.tables e below (s₁.setTop (mkF m 70 #[.val (.int p1), .val (.int p2), .val (.int p3), .val (.int p4), .val (.int p5), .val (.int p6), .val (.int p7), .val (.int p8), .val (.int p9), .val (.int ((p6 + (p1 * p8)) + (p2 * p7))), .val (.int (0 : Int32))] [])) _
    refine XS.iload X0.here hx rfl (hb hby d2_70) rfl ?_
    show Steps p.tables e below (s₁.setTop (mkF m 72 #[.val (.int p1), .val (.int p2), .val (.int p3), .val (.int p4), .val (.int p5), .val (.int p6), .val (.int p7), .val (.int p8), .val (.int p9), .val (.int ((p6 + (p1 * p8)) + (p2 * p7))), .val (.int (0 : Int32))] [(.int (0 : Int32))])) _
    refine XS.iconst X0.here hx rfl (hb hby d2_72) ?_
    show Steps p.tables e below (s₁.setTop (mkF m 73 #[.val (.int p1), .val (.int p2), .val (.int p3), .val (.int p4), .val (.int p5), .val (.int p6), .val (.int p7), .val (.int p8), .val (.int p9), .val (.int ((p6 + (p1 * p8)) + (p2 * p7))), .val (.int (0 : Int32))] [(.int (2 : Int32)), (.int (0 : Int32))])) _
    refine XS.ior X0.here hx rfl (hb hby d2_73) rfl ?_
    show Steps p.tables e below (s₁.setTop (mkF m 74 #[.val (.int p1), .val (.int p2), .val (.int p3), .val (.int p4), .val (.int p5), .val (.int p6), .val (.int p7), .val (.int p8), .val (.int p9), .val (.int ((p6 + (p1 * p8)) + (p2 * p7))), .val (.int (0 : Int32))] [(.int ((0 : Int32) ||| (2 : Int32)))])) _
    refine XS.istore X0.here hx rfl (hb hby d2_74) rfl (l' := #[.val (.int p1), .val (.int p2), .val (.int p3), .val (.int p4), .val (.int p5), .val (.int p6), .val (.int p7), .val (.int p8), .val (.int p9), .val (.int ((p6 + (p1 * p8)) + (p2 * p7))), .val (.int ((0 : Int32) ||| (2 : Int32)))]) rfl ?_
    show Steps p.tables e below (s₁.setTop (mkF m 76 #[.val (.int p1), .val (.int p2), .val (.int p3), .val (.int p4), .val (.int p5), .val (.int p6), .val (.int p7), .val (.int p8), .val (.int p9), .val (.int ((p6 + (p1 * p8)) + (p2 * p7))), .val (.int ((0 : Int32) ||| (2 : Int32)))] [])) _
    refine XS.iload X0.here hx rfl (hb hby d2_76) rfl ?_
    show Steps p.tables e below (s₁.setTop (mkF m 78 #[.val (.int p1), .val (.int p2), .val (.int p3), .val (.int p4), .val (.int p5), .val (.int p6), .val (.int p7), .val (.int p8), .val (.int p9), .val (.int ((p6 + (p1 * p8)) + (p2 * p7))), .val (.int ((0 : Int32) ||| (2 : Int32)))] [(.int ((0 : Int32) ||| (2 : Int32)))])) _
    exact retI X0 hx Bd.returns (hb hby d2_78) hr
  · show Q2 Z p1 p2 p3 p4 p5 p6 p7 p8 p9 h0 n0 _ s₁.heap _
    rw [e0]
    exact ⟨by rw [own_row, if_pos hc2, if_pos hc7, if_neg hc12, own_c2, if_pos hc60, if_neg hc67, own_c1, if_neg hc38, if_neg hc48], N0, rfl⟩
theorem d2_51 : decode method_3_code 51 = .ok (.iload 10, 2) := by decide +kernel
theorem d2_53 : decode method_3_code 53 = .ok (.iconst 1, 1) := by decide +kernel
theorem d2_54 : decode method_3_code 54 = .ok (.ior, 1) := by decide +kernel
theorem d2_55 : decode method_3_code 55 = .ok (.istore 10, 2) := by decide +kernel

set_option maxRecDepth 65536 in
set_option maxHeartbeats 40000000 in
theorem rm2_9 (l : Launch) (Z : State) (a0 : Array Value) (hw : ∀ d ∈ tables_1, d.before a0 Z = true) (ws : List Jvm.Cond) (p1 : Int32) (p2 : Int32) (p3 : Int32) (p4 : Int32) (p5 : Int32) (p6 : Int32) (p7 : Int32) (p8 : Int32) (p9 : Int32) (h0 : Heap) (n0 : Nat) (Z0 : n0 ≤ h0.size) (hc2 : p1 < p4) (hc7 : p2 < p3) (hc12 : ¬ (p5 = (0 : Int32))) (hc38 : ¬ (p9 < ((p6 + (p1 * p8)) + (p2 * p7)))) (hc48 : p9 < (((p6 + (p1 * p8)) + (p2 * p7)) + p5)) (hc60 : ¬ (p5 < (2 : Int32))) :
    MetFree l (⟨"com/example/chunkwell/chunkwell/codecs/RowCopiesEachByteIsPinLaw", "row", "(IIIIIIIII)I"⟩ : MethodName) (head1 (Jvm.Cond.code (⟨"com/example/chunkwell/chunkwell/codecs/RowCopiesEachByteIsPinLaw", "row", "(IIIIIIIII)I"⟩ : MethodName) method_3_code 11 (some .int) :: ws) ({ frames := 0, cells := 0, slots := 0, locals := 0 } : Room)) (fun a U => a = #[(.int p1), (.int p2), (.int p3), (.int p4), (.int p5), (.int p6), (.int p7), (.int p8), (.int p9)] ∧ Z.Warmed39 U.vm ∧ U.heap = h0) (fun _ _ _ _ _ => True) (fun _ U o U' => ∃ v L, o = .returned v ∧ Q2 Z p1 p2 p3 p4 p5 p6 p7 p8 p9 h0 n0 v U'.heap L ∧ FrameEnd U o U' L ({ frames := 0, cells := 0, slots := 0, locals := 0 } : Room).cells ({ frames := 0, cells := 0, slots := 0, locals := 0 } : Room).slots) := by
  refine MetFree.of_bodySF (plainFor_of_name pn_2) hisR ?_
  intro p e s m args below meth c s₁ Bd hml0 hP hK
  obtain ⟨rfl, hZ, hh⟩ := hP
  have hx := Bd.exec
  have hby := Bd.bytes
  have hml : c.maxLocals = 11 := hml0
  have hown : s.vm.findClass "com/example/chunkwell/chunkwell/codecs/RowCopiesEachByteIsPinLaw" = some m.cls := findClass_of_methodNamed Bd.named
  have hnm := (name_of_methodNamed Bd.named Bd.method).1
  have X0 : Stand p l e ({ frames := 0, cells := 0, slots := 0, locals := 0 } : Room) s m #[(.int p1), (.int p2), (.int p3), (.int p4), (.int p5), (.int p6), (.int p7), (.int p8), (.int p9)] below meth c s₁ [] 0 0 := Stand.of_body Bd
  have e0 : s₁.heap = h0 := by rw [← hh, Bd.state]; rfl
  have N0 := Fr.nil n0
  have pre0 : ∀ t, Steps p.tables e below (s₁.setTop (mkF m 0 #[.val (.int p1), .val (.int p2), .val (.int p3), .val (.int p4), .val (.int p5), .val (.int p6), .val (.int p7), .val (.int p8), .val (.int p9), .unset, .unset] [])) t → Steps p.tables e below (s₁.setTop (entryFrame m #[(.int p1), (.int p2), (.int p3), (.int p4), (.int p5), (.int p6), (.int p7), (.int p8), (.int p9)] 11)) t := fun t k => castTop (ef_2 m p1 p2 p3 p4 p5 p6 p7 p8 p9) k

  obtain ⟨fs, hr, hrun, hended, hW, hsame⟩ := X0.leave (v := some (.int (((0 : Int32) ||| (1 : Int32)) ||| (2 : Int32)))) (fun h => by rw [Bd.returns] at h; cases h)
  refine ⟨_, _, pre0 _ ?_, hrun, hended, _, _, rfl, ?_, ⟨_, rfl⟩, hW, hsame.mono (by decide) (by decide)⟩
  · show Steps p.tables e below (s₁.setTop (mkF m 0 #[.val (.int p1), .val (.int p2), .val (.int p3), .val (.int p4), .val (.int p5), .val (.int p6), .val (.int p7), .val (.int p8), .val (.int p9), .unset, .unset] [])) _
    refine XS.iloadN X0.here hx rfl (hb hby d2_0) rfl ?_
    show Steps p.tables e below (s₁.setTop (mkF m 1 #[.val (.int p1), .val (.int p2), .val (.int p3), .val (.int p4), .val (.int p5), .val (.int p6), .val (.int p7), .val (.int p8), .val (.int p9), .unset, .unset] [(.int p1)])) _
    refine XS.iloadN X0.here hx rfl (hb hby d2_1) rfl ?_
    show Steps p.tables e below (s₁.setTop (mkF m 2 #[.val (.int p1), .val (.int p2), .val (.int p3), .val (.int p4), .val (.int p5), .val (.int p6), .val (.int p7), .val (.int p8), .val (.int p9), .unset, .unset] [(.int p4), (.int p1)])) _
    refine XS.icmpNo X0.here hx rfl (hb hby d2_2) rfl (tlt hc2).2.1 ?_
    show Steps p.tables e below (s₁.setTop (mkF m 5 #[.val (.int p1), .val (.int p2), .val (.int p3), .val (.int p4), .val (.int p5), .val (.int p6), .val (.int p7), .val (.int p8), .val (.int p9), .unset, .unset] [])) _
    refine XS.iloadN X0.here hx rfl (hb hby d2_5) rfl ?_
    show Steps p.tables e below (s₁.setTop (mkF m 6 #[.val (.int p1), .val (.int p2), .val (.int p3), .val (.int p4), .val (.int p5), .val (.int p6), .val (.int p7), .val (.int p8), .val (.int p9), .unset, .unset] [(.int p2)])) _
    refine XS.iloadN X0.here hx rfl (hb hby d2_6) rfl ?_
    show Steps p.tables e below (s₁.setTop (mkF m 7 #[.val (.int p1), .val (.int p2), .val (.int p3), .val (.int p4), .val (.int p5), .val (.int p6), .val (.int p7), .val (.int p8), .val (.int p9), .unset, .unset] [(.int p3), (.int p2)])) _
    refine XS.icmpNo X0.here hx rfl (hb hby d2_7) rfl (tlt hc7).2.1 ?_
    show Steps p.tables e below (s₁.setTop (mkF m 10 #[.val (.int p1), .val (.int p2), .val (.int p3), .val (.int p4), .val (.int p5), .val (.int p6), .val (.int p7), .val (.int p8), .val (.int p9), .unset, .unset] [])) _
    refine XS.iload X0.here hx rfl (hb hby d2_10) rfl ?_
    show Steps p.tables e below (s₁.setTop (mkF m 12 #[.val (.int p1), .val (.int p2), .val (.int p3), .val (.int p4), .val (.int p5), .val (.int p6), .val (.int p7), .val (.int p8), .val (.int p9), .unset, .unset] [(.int p5)])) _
    refine XS.ifYes X0.here hx rfl (pc0 := 12) (pc' := 17) rfl (hb hby d2_12) rfl ((if0 _ _).trans (feq hc12).2) (by decide) (by decide) ?_
    show Steps p.tables e below (s₁.setTop (mkF m 17 #[.val (.int p1), .val (.int p2), .val (.int p3), .val (.int p4), .val (.int p5), .val (.int p6), .val (.int p7), .val (.int p8), .val (.int p9), .unset, .unset] [])) _
    refine XS.iload X0.here hx rfl (hb hby d2_17) rfl ?_
    show Steps p.tables e below (s₁.setTop (mkF m 19 #[.val (.int p1), .val (.int p2), .val (.int p3), .val (.int p4), .val (.int p5), .val (.int p6), .val (.int p7), .val (.int p8), .val (.int p9), .unset, .unset] [(.int p6)])) _
    refine XS.iloadN X0.here hx rfl (hb hby d2_19) rfl ?_
    show Steps p.tables e below (s₁.setTop (mkF m 20 #[.val (.int p1), .val (.int p2), .val (.int p3), .val (.int p4), .val (.int p5), .val (.int p6), .val (.int p7), .val (.int p8), .val (.int p9), .unset, .unset] [(.int p1), (.int p6)])) _
    refine XS.iload X0.here hx rfl (hb hby d2_20) rfl ?_
    show Steps p.tables e below (s₁.setTop (mkF m 22 #[.val (.int p1), .val (.int p2), .val (.int p3), .val (.int p4), .val (.int p5), .val (.int p6), .val (.int p7), .val (.int p8), .val (.int p9), .unset, .unset] [(.int p8), (.int p1), (.int p6)])) _
    refine XS.imul X0.here hx rfl (hb hby d2_22) rfl ?_
    show Steps p.tables e below (s₁.setTop (mkF m 23 #[.val (.int p1), .val (.int p2), .val (.int p3), .val (.int p4), .val (.int p5), .val (.int p6), .val (.int p7), .val (.int p8), .val (.int p9), .unset, .unset] [(.int (p1 * p8)), (.int p6)])) _
    refine XS.iadd X0.here hx rfl (hb hby d2_23) rfl ?_
    show Steps p.tables e below (s₁.setTop (mkF m 24 #[.val (.int p1), .val (.int p2), .val (.int p3), .val (.int p4), .val (.int p5), .val (.int p6), .val (.int p7), .val (.int p8), .val (.int p9), .unset, .unset] [(.int (p6 + (p1 * p8)))])) _
    refine XS.iloadN X0.here hx rfl (hb hby d2_24) rfl ?_
    show Steps p.tables e below (s₁.setTop (mkF m 25 #[.val (.int p1), .val (.int p2), .val (.int p3), .val (.int p4), .val (.int p5), .val (.int p6), .val (.int p7), .val (.int p8), .val (.int p9), .unset, .unset] [(.int p2), (.int (p6 + (p1 * p8)))])) _
    refine XS.iload X0.here hx rfl (hb hby d2_25) rfl ?_
    show Steps p.tables e below (s₁.setTop (mkF m 27 #[.val (.int p1), .val (.int p2), .val (.int p3), .val (.int p4), .val (.int p5), .val (.int p6), .val (.int p7), .val (.int p8), .val (.int p9), .unset, .unset] [(.int p7), (.int p2), (.int (p6 + (p1 * p8)))])) _
    refine XS.imul X0.here hx rfl (hb hby d2_27) rfl ?_
    show Steps p.tables e below (s₁.setTop (mkF m 28 #[.val (.int p1), .val (.int p2), .val (.int p3), .val (.int p4), .val (.int p5), .val (.int p6), .val (.int p7), .val (.int p8), .val (.int p9), .unset, .unset] [(.int (p2 * p7)), (.int (p6 + (p1 * p8)))])) _
    refine XS.iadd X0.here hx rfl (hb hby d2_28) rfl ?_
    show Steps p.tables e below (s₁.setTop (mkF m 29 #[.val (.int p1), .val (.int p2), .val (.int p3), .val (.int p4), .val (.int p5), .val (.int p6), .val (.int p7), .val (.int p8), .val (.int p9), .unset, .unset] [(.int ((p6 + (p1 * p8)) + (p2 * p7)))])) _
    refine XS.istore X0.here hx rfl (hb hby d2_29) rfl (l' := #[.val (.int p1), .val (.int p2), .val (.int p3), .val (.int p4), .val (.int p5), .val (.int p6), .val (.int p7), .val (.int p8), .val (.int p9), .val (.int ((p6 + (p1 * p8)) + (p2 * p7))), .unset]) rfl ?_
    show Steps p.tables e below (s₁.setTop (mkF m 31 #[.val (.int p1), .val (.int p2), .val (.int p3), .val (.int p4), .val (.int p5), .val (.int p6), .val (.int p7), .val (.int p8), .val (.int p9), .val (.int ((p6 + (p1 * p8)) + (p2 * p7))), .unset] [])) _
    refine XS.iconst X0.here hx rfl (hb hby d2_31) ?_
    show Steps p.tables e below (s₁.setTop (mkF m 32 #[.val (.int p1), .val (.int p2), .val (.int p3), .val (.int p4), .val (.int p5), .val (.int p6), .val (.int p7), .val (.int p8), .val (.int p9), .val (.int ((p6 + (p1 * p8)) + (p2 * p7))), .unset] [(.int (0 : Int32))])) _
    refine XS.istore X0.here hx rfl (hb hby d2_32) rfl (l' := #[.val (.int p1), .val (.int p2), .val (.int p3), .val (.int p4), .val (.int p5), .val (.int p6), .val (.int p7), .val (.int p8), .val (.int p9), .val (.int ((p6 + (p1 * p8)) + (p2 * p7))), .val (.int (0 : Int32))]) rfl ?_
    show Steps p.tables e below (s₁.setTop (mkF m 34 #[.val (.int p1), .val (.int p2), .val (.int p3), .val (.int p4), .val (.int p5), .val (.int p6), .val (.int p7), .val (.int p8), .val (.int p9), .val (.int ((p6 + (p1 * p8)) + (p2 * p7))), .val (.int (0 : Int32))] [])) _
    refine XS.iload X0.here hx rfl (hb hby d2_34) rfl ?_
    show Steps p.tables e below (s₁.setTop (mkF m 36 #[.val (.int p1), .val (.int p2), .val (.int p3), .val (.int p4), .val (.int p5), .val (.int p6), .val (.int p7), .val (.int p8), .val (.int p9), .val (.int ((p6 + (p1 * p8)) + (p2 * p7))), .val (.int (0 : Int32))] [(.int ((p6 + (p1 * p8)) + (p2 * p7)))])) _
    refine XS.iload X0.here hx rfl (hb hby d2_36) rfl ?_
    show Steps p.tables e below (s₁.setTop (mkF m 38 #[.val (.int p1), .val (.int p2), .val (.int p3), .val (.int p4), .val (.int p5), .val (.int p6), .val (.int p7), .val (.int p8), .val (.int p9), .val (.int ((p6 + (p1 * p8)) + (p2 * p7))), .val (.int (0 : Int32))] [(.int p9), (.int ((p6 + (p1 * p8)) + (p2 * p7)))])) _
    refine XS.icmpNo X0.here hx rfl (hb hby d2_38) rfl (flt hc38).2.2.1 ?_
    show Steps p.tables e below (s₁.setTop (mkF m 41 #[.val (.int p1), .val (.int p2), .val (.int p3), .val (.int p4), .val (.int p5), .val (.int p6), .val (.int p7), .val (.int p8), .val (.int p9), .val (.int ((p6 + (p1 * p8)) + (p2 * p7))), .val (.int (0 : Int32))] [])) _
    refine XS.iload X0.here hx rfl (hb hby d2_41) rfl ?_
    show Steps p.tables e below (s₁.setTop (mkF m 43 #[.val (.int p1), .val (.int p2), .val (.int p3), .val (.int p4), .val (.int p5), .val (.int p6), .val (.int p7), .val (.int p8), .val (.int p9), .val (.int ((p6 + (p1 * p8)) + (p2 * p7))), .val (.int (0 : Int32))] [(.int p9)])) _
    refine XS.iload X0.here hx rfl (hb hby d2_43) rfl ?_
    show Steps p.tables e below (s₁.setTop (mkF m 45 #[.val (.int p1), .val (.int p2), .val (.int p3), .val (.int p4), .val (.int p5), .val (.int p6), .val (.int p7), .val (.int p8), .val (.int p9), .val (.int ((p6 + (p1 * p8)) + (p2 * p7))), .val (.int (0 : Int32))] [(.int ((p6 + (p1 * p8)) + (p2 * p7))), (.int p9)])) _
    refine XS.iload X0.here hx rfl (hb hby d2_45) rfl ?_
    show Steps p.tables e below (s₁.setTop (mkF m 47 #[.val (.int p1), .val (.int p2), .val (.int p3), .val (.int p4), .val (.int p5), .val (.int p6), .val (.int p7), .val (.int p8), .val (.int p9), .val (.int ((p6 + (p1 * p8)) + (p2 * p7))), .val (.int (0 : Int32))] [(.int p5), (.int ((p6 + (p1 * p8)) + (p2 * p7))), (.int p9)])) _
    refine XS.iadd X0.here hx rfl (hb hby d2_47) rfl ?_
    show Steps p.tables e below (s₁.setTop (mkF m 48 #[.val (.int p1), .val (.int p2), .val (.int p3), .val (.int p4), .val (.int p5), .val (.int p6), .val (.int p7), .val (.int p8), .val (.int p9), .val (.int ((p6 + (p1 * p8)) + (p2 * p7))), .val (.int (0 : Int32))] [(.int (((p6 + (p1 * p8)) + (p2 * p7)) + p5)), (.int p9)])) _
    refine XS.icmpNo X0.here hx rfl (hb hby d2_48) rfl (tlt hc48).2.1 ?_
    show Steps p.tables e below (s₁.setTop (mkF m 51 #[.val (.int p1), .val (.int p2), .val (.int p3), .val (.int p4), .val (.int p5), .val (.int p6), .val (.int p7), .val (.int p8), .val (.int p9), .val (.int ((p6 + (p1 * p8)) + (p2 * p7))), .val (.int (0 : Int32))] [])) _
    refine XS.iload X0.here hx rfl (hb hby d2_51) rfl ?_
    show Steps p.tables e below (s₁.setTop (mkF m 53 #[.val (.int p1), .val (.int p2), .val (.int p3), .val (.int p4), .val (.int p5), .val (.int p6), .val (.int p7), .val (.int p8), .val (.int p9), .val (.int ((p6 + (p1 * p8)) + (p2 * p7))), .val (.int (0 : Int32))] [(.int (0 : Int32))])) _
    refine XS.iconst X0.here hx rfl (hb hby d2_53) ?_
    show Steps p.tables e below (s₁.setTop (mkF m 54 #[.val (.int p1), .val (.int p2), .val (.int p3), .val (.int p4), .val (.int p5), .val (.int p6), .val (.int p7), .val (.int p8), .val (.int p9), .val (.int ((p6 + (p1 * p8)) + (p2 * p7))), .val (.int (0 : Int32))] [(.int (1 : Int32)), (.int (0 : Int32))])) _
    refine XS.ior X0.here hx rfl (hb hby d2_54) rfl ?_
    show Steps p.tables e below (s₁.setTop (mkF m 55 #[.val (.int p1), .val (.int p2), .val (.int p3), .val (.int p4), .val (.int p5), .val (.int p6), .val (.int p7), .val (.int p8), .val (.int p9), .val (.int ((p6 + (p1 * p8)) + (p2 * p7))), .val (.int (0 : Int32))] [(.int ((0 : Int32) ||| (1 : Int32)))])) _
    refine XS.istore X0.here hx rfl (hb hby d2_55) rfl (l' := #[.val (.int p1), .val (.int p2), .val (.int p3), .val (.int p4), .val (.int p5), .val (.int p6), .val (.int p7), .val (.int p8), .val (.int p9), .val (.int ((p6 + (p1 * p8)) + (p2 * p7))), .val (.int ((0 : Int32) ||| (1 : Int32)))]) rfl ?_
    show Steps p.tables e below (s₁.setTop (mkF m 57 #[.val (.int p1), .val (.int p2), .val (.int p3), .val (.int p4), .val (.int p5), .val (.int p6), .val (.int p7), .val (.int p8), .val (.int p9), .val (.int ((p6 + (p1 * p8)) + (p2 * p7))), .val (.int ((0 : Int32) ||| (1 : Int32)))] [])) _
    refine XS.iload X0.here hx rfl (hb hby d2_57) rfl ?_
    show Steps p.tables e below (s₁.setTop (mkF m 59 #[.val (.int p1), .val (.int p2), .val (.int p3), .val (.int p4), .val (.int p5), .val (.int p6), .val (.int p7), .val (.int p8), .val (.int p9), .val (.int ((p6 + (p1 * p8)) + (p2 * p7))), .val (.int ((0 : Int32) ||| (1 : Int32)))] [(.int p5)])) _
    refine XS.iconst X0.here hx rfl (hb hby d2_59) ?_
    show Steps p.tables e below (s₁.setTop (mkF m 60 #[.val (.int p1), .val (.int p2), .val (.int p3), .val (.int p4), .val (.int p5), .val (.int p6), .val (.int p7), .val (.int p8), .val (.int p9), .val (.int ((p6 + (p1 * p8)) + (p2 * p7))), .val (.int ((0 : Int32) ||| (1 : Int32)))] [(.int (2 : Int32)), (.int p5)])) _
    refine XS.icmpYes X0.here hx rfl (pc0 := 60) (pc' := 70) rfl (hb hby d2_60) rfl (flt hc60).2.1 (by decide) (by decide) ?_
    show Steps p.tables e below (s₁.setTop (mkF m 70 #[.val (.int p1), .val (.int p2), .val (.int p3), .val (.int p4), .val (.int p5), .val (.int p6), .val (.int p7), .val (.int p8), .val (.int p9), .val (.int ((p6 + (p1 * p8)) + (p2 * p7))), .val (.int ((0 : Int32) ||| (1 : Int32)))] [])) _
    refine XS.iload X0.here hx rfl (hb hby d2_70) rfl ?_
    show Steps p.tables e below (s₁.setTop (mkF m 72 #[.val (.int p1), .val (.int p2), .val (.int p3), .val (.int p4), .val (.int p5), .val (.int p6), .val (.int p7), .val (.int p8), .val (.int p9), .val (.int ((p6 + (p1 * p8)) + (p2 * p7))), .val (.int ((0 : Int32) ||| (1 : Int32)))] [(.int ((0 : Int32) ||| (1 : Int32)))])) _
    refine XS.iconst X0.here hx rfl (hb hby d2_72) ?_
    show Steps p.tables e below (s₁.setTop (mkF m 73 #[.val (.int p1), .val (.int p2), .val (.int p3), .val (.int p4), .val (.int p5), .val (.int p6), .val (.int p7), .val (.int p8), .val (.int p9), .val (.int ((p6 + (p1 * p8)) + (p2 * p7))), .val (.int ((0 : Int32) ||| (1 : Int32)))] [(.int (2 : Int32)), (.int ((0 : Int32) ||| (1 : Int32)))])) _
    refine XS.ior X0.here hx rfl (hb hby d2_73) rfl ?_
    show Steps p.tables e below (s₁.setTop (mkF m 74 #[.val (.int p1), .val (.int p2), .val (.int p3), .val (.int p4), .val (.int p5), .val (.int p6), .val (.int p7), .val (.int p8), .val (.int p9), .val (.int ((p6 + (p1 * p8)) + (p2 * p7))), .val (.int ((0 : Int32) ||| (1 : Int32)))] [(.int (((0 : Int32) ||| (1 : Int32)) ||| (2 : Int32)))])) _
    refine XS.istore X0.here hx rfl (hb hby d2_74) rfl (l' := #[.val (.int p1), .val (.int p2), .val (.int p3), .val (.int p4), .val (.int p5), .val (.int p6), .val (.int p7), .val (.int p8), .val (.int p9), .val (.int ((p6 + (p1 * p8)) + (p2 * p7))), .val (.int (((0 : Int32) ||| (1 : Int32)) ||| (2 : Int32)))]) rfl ?_
    show Steps p.tables e below (s₁.setTop (mkF m 76 #[.val (.int p1), .val (.int p2), .val (.int p3), .val (.int p4), .val (.int p5), .val (.int p6), .val (.int p7), .val (.int p8), .val (.int p9), .val (.int ((p6 + (p1 * p8)) + (p2 * p7))), .val (.int (((0 : Int32) ||| (1 : Int32)) ||| (2 : Int32)))] [])) _
    refine XS.iload X0.here hx rfl (hb hby d2_76) rfl ?_
    show Steps p.tables e below (s₁.setTop (mkF m 78 #[.val (.int p1), .val (.int p2), .val (.int p3), .val (.int p4), .val (.int p5), .val (.int p6), .val (.int p7), .val (.int p8), .val (.int p9), .val (.int ((p6 + (p1 * p8)) + (p2 * p7))), .val (.int (((0 : Int32) ||| (1 : Int32)) ||| (2 : Int32)))] [(.int (((0 : Int32) ||| (1 : Int32)) ||| (2 : Int32)))])) _
    exact retI X0 hx Bd.returns (hb hby d2_78) hr
  · show Q2 Z p1 p2 p3 p4 p5 p6 p7 p8 p9 h0 n0 _ s₁.heap _
    rw [e0]
    exact ⟨by rw [own_row, if_pos hc2, if_pos hc7, if_neg hc12, own_c2, if_neg hc60, own_c1, if_neg hc38, if_pos hc48], N0, rfl⟩

set_option maxRecDepth 65536 in
set_option maxHeartbeats 40000000 in
theorem rm2_10 (l : Launch) (Z : State) (a0 : Array Value) (hw : ∀ d ∈ tables_1, d.before a0 Z = true) (ws : List Jvm.Cond) (p1 : Int32) (p2 : Int32) (p3 : Int32) (p4 : Int32) (p5 : Int32) (p6 : Int32) (p7 : Int32) (p8 : Int32) (p9 : Int32) (h0 : Heap) (n0 : Nat) (Z0 : n0 ≤ h0.size) (hc2 : p1 < p4) (hc7 : p2 < p3) (hc12 : ¬ (p5 = (0 : Int32))) (hc38 : ¬ (p9 < ((p6 + (p1 * p8)) + (p2 * p7)))) (hc48 : p9 < (((p6 + (p1 * p8)) + (p2 * p7)) + p5)) (hc60 : p5 < (2 : Int32)) (hc67 : ((p6 + (p1 * p8)) + (p2 * p7)) = p9) :
    MetFree l (⟨"com/example/chunkwell/chunkwell/codecs/RowCopiesEachByteIsPinLaw", "row", "(IIIIIIIII)I"⟩ : MethodName) (head1 (Jvm.Cond.code (⟨"com/example/chunkwell/chunkwell/codecs/RowCopiesEachByteIsPinLaw", "row", "(IIIIIIIII)I"⟩ : MethodName) method_3_code 11 (some .int) :: ws) ({ frames := 0, cells := 0, slots := 0, locals := 0 } : Room)) (fun a U => a = #[(.int p1), (.int p2), (.int p3), (.int p4), (.int p5), (.int p6), (.int p7), (.int p8), (.int p9)] ∧ Z.Warmed39 U.vm ∧ U.heap = h0) (fun _ _ _ _ _ => True) (fun _ U o U' => ∃ v L, o = .returned v ∧ Q2 Z p1 p2 p3 p4 p5 p6 p7 p8 p9 h0 n0 v U'.heap L ∧ FrameEnd U o U' L ({ frames := 0, cells := 0, slots := 0, locals := 0 } : Room).cells ({ frames := 0, cells := 0, slots := 0, locals := 0 } : Room).slots) := by
  refine MetFree.of_bodySF (plainFor_of_name pn_2) hisR ?_
  intro p e s m args below meth c s₁ Bd hml0 hP hK
  obtain ⟨rfl, hZ, hh⟩ := hP
  have hx := Bd.exec
  have hby := Bd.bytes
  have hml : c.maxLocals = 11 := hml0
  have hown : s.vm.findClass "com/example/chunkwell/chunkwell/codecs/RowCopiesEachByteIsPinLaw" = some m.cls := findClass_of_methodNamed Bd.named
  have hnm := (name_of_methodNamed Bd.named Bd.method).1
  have X0 : Stand p l e ({ frames := 0, cells := 0, slots := 0, locals := 0 } : Room) s m #[(.int p1), (.int p2), (.int p3), (.int p4), (.int p5), (.int p6), (.int p7), (.int p8), (.int p9)] below meth c s₁ [] 0 0 := Stand.of_body Bd
  have e0 : s₁.heap = h0 := by rw [← hh, Bd.state]; rfl
  have N0 := Fr.nil n0
  have pre0 : ∀ t, Steps p.tables e below (s₁.setTop (mkF m 0 #[.val (.int p1), .val (.int p2), .val (.int p3), .val (.int p4), .val (.int p5), .val (.int p6), .val (.int p7), .val (.int p8), .val (.int p9), .unset, .unset] [])) t → Steps p.tables e below (s₁.setTop (entryFrame m #[(.int p1), (.int p2), (.int p3), (.int p4), (.int p5), (.int p6), (.int p7), (.int p8), (.int p9)] 11)) t := fun t k => castTop (ef_2 m p1 p2 p3 p4 p5 p6 p7 p8 p9) k

  obtain ⟨fs, hr, hrun, hended, hW, hsame⟩ := X0.leave (v := some (.int ((0 : Int32) ||| (1 : Int32)))) (fun h => by rw [Bd.returns] at h; cases h)
  refine ⟨_, _, pre0 _ ?_, hrun, hended, _, _, rfl, ?_, ⟨_, rfl⟩, hW, hsame.mono (by decide) (by decide)⟩
  · show Steps p.tables e below (s₁.setTop (mkF m 0 #[.val (.int p1), .val (.int p2), .val (.int p3), .val (.int p4), .val (.int p5), .val (.int p6), .val (.int p7), .val (.int p8), .val (.int p9), .unset, .unset] [])) _
    refine XS.iloadN X0.here hx rfl (hb hby d2_0) rfl ?_
    show Steps p.tables e below (s₁.setTop (mkF m 1 #[.val (.int p1), .val (.int p2), .val (.int p3), .val (.int p4), .val (.int p5), .val (.int p6), .val (.int p7), .val (.int p8), .val (.int p9), .unset, .unset] [(.int p1)])) _
    refine XS.iloadN X0.here hx rfl (hb hby d2_1) rfl ?_
    show Steps p.tables e below (s₁.setTop (mkF m 2 #[.val (.int p1), .val (.int p2), .val (.int p3), .val (.int p4), .val (.int p5), .val (.int p6), .val (.int p7), .val (.int p8), .val (.int p9), .unset, .unset] [(.int p4), (.int p1)])) _
    refine XS.icmpNo X0.here hx rfl (hb hby d2_2) rfl (tlt hc2).2.1 ?_
    show Steps p.tables e below (s₁.setTop (mkF m 5 #[.val (.int p1), .val (.int p2), .val (.int p3), .val (.int p4), .val (.int p5), .val (.int p6), .val (.int p7), .val (.int p8), .val (.int p9), .unset, .unset] [])) _
    refine XS.iloadN X0.here hx rfl (hb hby d2_5) rfl ?_
    show Steps p.tables e below (s₁.setTop (mkF m 6 #[.val (.int p1), .val (.int p2), .val (.int p3), .val (.int p4), .val (.int p5), .val (.int p6), .val (.int p7), .val (.int p8), .val (.int p9), .unset, .unset] [(.int p2)])) _
    refine XS.iloadN X0.here hx rfl (hb hby d2_6) rfl ?_
    show Steps p.tables e below (s₁.setTop (mkF m 7 #[.val (.int p1), .val (.int p2), .val (.int p3), .val (.int p4), .val (.int p5), .val (.int p6), .val (.int p7), .val (.int p8), .val (.int p9), .unset, .unset] [(.int p3), (.int p2)])) _
    refine XS.icmpNo X0.here hx rfl (hb hby d2_7) rfl (tlt hc7).2.1 ?_
    show Steps p.tables e below (s₁.setTop (mkF m 10 #[.val (.int p1), .val (.int p2), .val (.int p3), .val (.int p4), .val (.int p5), .val (.int p6), .val (.int p7), .val (.int p8), .val (.int p9), .unset, .unset] [])) _
    refine XS.iload X0.here hx rfl (hb hby d2_10) rfl ?_
    show Steps p.tables e below (s₁.setTop (mkF m 12 #[.val (.int p1), .val (.int p2), .val (.int p3), .val (.int p4), .val (.int p5), .val (.int p6), .val (.int p7), .val (.int p8), .val (.int p9), .unset, .unset] [(.int p5)])) _
    refine XS.ifYes X0.here hx rfl (pc0 := 12) (pc' := 17) rfl (hb hby d2_12) rfl ((if0 _ _).trans (feq hc12).2) (by decide) (by decide) ?_
    show Steps p.tables e below (s₁.setTop (mkF m 17 #[.val (.int p1), .val (.int p2), .val (.int p3), .val (.int p4), .val (.int p5), .val (.int p6), .val (.int p7), .val (.int p8), .val (.int p9), .unset, .unset] [])) _
    refine XS.iload X0.here hx rfl (hb hby d2_17) rfl ?_
    show Steps p.tables e below (s₁.setTop (mkF m 19 #[.val (.int p1), .val (.int p2), .val (.int p3), .val (.int p4), .val (.int p5), .val (.int p6), .val (.int p7), .val (.int p8), .val (.int p9), .unset, .unset] [(.int p6)])) _
    refine XS.iloadN X0.here hx rfl (hb hby d2_19) rfl ?_
    show Steps p.tables e below (s₁.setTop (mkF m 20 #[.val (.int p1), .val (.int p2), .val (.int p3), .val (.int p4), .val (.int p5), .val (.int p6), .val (.int p7), .val (.int p8), .val (.int p9), .unset, .unset] [(.int p1), (.int p6)])) _
    refine XS.iload X0.here hx rfl (hb hby d2_20) rfl ?_
    show Steps p.tables e below (s₁.setTop (mkF m 22 #[.val (.int p1), .val (.int p2), .val (.int p3), .val (.int p4), .val (.int p5), .val (.int p6), .val (.int p7), .val (.int p8), .val (.int p9), .unset, .unset] [(.int p8), (.int p1), (.int p6)])) _
    refine XS.imul X0.here hx rfl (hb hby d2_22) rfl ?_
    show Steps p.tables e below (s₁.setTop (mkF m 23 #[.val (.int p1), .val (.int p2), .val (.int p3), .val (.int p4), .val (.int p5), .val (.int p6), .val (.int p7), .val (.int p8), .val (.int p9), .unset, .unset] [(.int (p1 * p8)), (.int p6)])) _
    refine XS.iadd X0.here hx rfl (hb hby d2_23) rfl ?_
    show Steps p.tables e below (s₁.setTop (mkF m 24 #[.val (.int p1), .val (.int p2), .val (.int p3), .val (.int p4), .val (.int p5), .val (.int p6), .val (.int p7), .val (.int p8), .val (.int p9), .unset, .unset] [(.int (p6 + (p1 * p8)))])) _
    refine XS.iloadN X0.here hx rfl (hb hby d2_24) rfl ?_
    show Steps p.tables e below (s₁.setTop (mkF m 25 #[.val (.int p1), .val (.int p2), .val (.int p3), .val (.int p4), .val (.int p5), .val (.int p6), .val (.int p7), .val (.int p8), .val (.int p9), .unset, .unset] [(.int p2), (.int (p6 + (p1 * p8)))])) _
    refine XS.iload X0.here hx rfl (hb hby d2_25) rfl ?_
    show Steps p.tables e below (s₁.setTop (mkF m 27 #[.val (.int p1), .val (.int p2), .val (.int p3), .val (.int p4), .val (.int p5), .val (.int p6), .val (.int p7), .val (.int p8), .val (.int p9), .unset, .unset] [(.int p7), (.int p2), (.int (p6 + (p1 * p8)))])) _
    refine XS.imul X0.here hx rfl (hb hby d2_27) rfl ?_
    show Steps p.tables e below (s₁.setTop (mkF m 28 #[.val (.int p1), .val (.int p2), .val (.int p3), .val (.int p4), .val (.int p5), .val (.int p6), .val (.int p7), .val (.int p8), .val (.int p9), .unset, .unset] [(.int (p2 * p7)), (.int (p6 + (p1 * p8)))])) _
    refine XS.iadd X0.here hx rfl (hb hby d2_28) rfl ?_
    show Steps p.tables e below (s₁.setTop (mkF m 29 #[.val (.int p1), .val (.int p2), .val (.int p3), .val (.int p4), .val (.int p5), .val (.int p6), .val (.int p7), .val (.int p8), .val (.int p9), .unset, .unset] [(.int ((p6 + (p1 * p8)) + (p2 * p7)))])) _
    refine XS.istore X0.here hx rfl (hb hby d2_29) rfl (l' := #[.val (.int p1), .val (.int p2), .val (.int p3), .val (.int p4), .val (.int p5), .val (.int p6), .val (.int p7), .val (.int p8), .val (.int p9), .val (.int ((p6 + (p1 * p8)) + (p2 * p7))), .unset]) rfl ?_
    show Steps p.tables e below (s₁.setTop (mkF m 31 #[.val (.int p1), .val (.int p2), .val (.int p3), .val (.int p4), .val (.int p5), .val (.int p6), .val (.int p7), .val (.int p8), .val (.int p9), .val (.int ((p6 + (p1 * p8)) + (p2 * p7))), .unset] [])) _
    refine XS.iconst X0.here hx rfl (hb hby d2_31) ?_
    show Steps p.tables e below (s₁.setTop (mkF m 32 #[.val (.int p1), .val (.int p2), .val (.int p3), .val (.int p4), .val (.int p5), .val (.int p6), .val (.int p7), .val (.int p8), .val (.int p9), .val (.int ((p6 + (p1 * p8)) + (p2 * p7))), .unset] [(.int (0 : Int32))])) _
    refine XS.istore X0.here hx rfl (hb hby d2_32) rfl (l' := #[.val (.int p1), .val (.int p2), .val (.int p3), .val (.int p4), .val (.int p5), .val (.int p6), .val (.int p7), .val (.int p8), .val (.int p9), .val (.int ((p6 + (p1 * p8)) + (p2 * p7))), .val (.int (0 : Int32))]) rfl ?_
    show Steps p.tables e below (s₁.setTop (mkF m 34 #[.val (.int p1), .val (.int p2), .val (.int p3), .val (.int p4), .val (.int p5), .val (.int p6), .val (.int p7), .val (.int p8), .val (.int p9), .val (.int ((p6 + (p1 * p8)) + (p2 * p7))), .val (.int (0 : Int32))] [])) _
    refine XS.iload X0.here hx rfl (hb hby d2_34) rfl ?_
    show Steps p.tables e below (s₁.setTop (mkF m 36 #[.val (.int p1), .val (.int p2), .val (.int p3), .val (.int p4), .val (.int p5), .val (.int p6), .val (.int p7), .val (.int p8), .val (.int p9), .val (.int ((p6 + (p1 * p8)) + (p2 * p7))), .val (.int (0 : Int32))] [(.int ((p6 + (p1 * p8)) + (p2 * p7)))])) _
    refine XS.iload X0.here hx rfl (hb hby d2_36) rfl ?_
    show Steps p.tables e below (s₁.setTop (mkF m 38 #[.val (.int p1), .val (.int p2), .val (.int p3), .val (.int p4), .val (.int p5), .val (.int p6), .val (.int p7), .val (.int p8), .val (.int p9), .val (.int ((p6 + (p1 * p8)) + (p2 * p7))), .val (.int (0 : Int32))] [(.int p9), (.int ((p6 + (p1 * p8)) + (p2 * p7)))])) _
    refine XS.icmpNo X0.here hx rfl (hb hby d2_38) rfl (flt hc38).2.2.1 ?_
    show Steps p.tables e below (s₁.setTop (mkF m 41 #[.val (.int p1), .val (.int p2), .val (.int p3), .val (.int p4), .val (.int p5), .val (.int p6), .val (.int p7), .val (.int p8), .val (.int p9), .val (.int ((p6 + (p1 * p8)) + (p2 * p7))), .val (.int (0 : Int32))] [])) _
    refine XS.iload X0.here hx rfl (hb hby d2_41) rfl ?_
    show Steps p.tables e below (s₁.setTop (mkF m 43 #[.val (.int p1), .val (.int p2), .val (.int p3), .val (.int p4), .val (.int p5), .val (.int p6), .val (.int p7), .val (.int p8), .val (.int p9), .val (.int ((p6 + (p1 * p8)) + (p2 * p7))), .val (.int (0 : Int32))] [(.int p9)])) _
    refine XS.iload X0.here hx rfl (hb hby d2_43) rfl ?_
    show Steps p.tables e below (s₁.setTop (mkF m 45 #[.val (.int p1), .val (.int p2), .val (.int p3), .val (.int p4), .val (.int p5), .val (.int p6), .val (.int p7), .val (.int p8), .val (.int p9), .val (.int ((p6 + (p1 * p8)) + (p2 * p7))), .val (.int (0 : Int32))] [(.int ((p6 + (p1 * p8)) + (p2 * p7))), (.int p9)])) _
    refine XS.iload X0.here hx rfl (hb hby d2_45) rfl ?_
    show Steps p.tables e below (s₁.setTop (mkF m 47 #[.val (.int p1), .val (.int p2), .val (.int p3), .val (.int p4), .val (.int p5), .val (.int p6), .val (.int p7), .val (.int p8), .val (.int p9), .val (.int ((p6 + (p1 * p8)) + (p2 * p7))), .val (.int (0 : Int32))] [(.int p5), (.int ((p6 + (p1 * p8)) + (p2 * p7))), (.int p9)])) _
    refine XS.iadd X0.here hx rfl (hb hby d2_47) rfl ?_
    show Steps p.tables e below (s₁.setTop (mkF m 48 #[.val (.int p1), .val (.int p2), .val (.int p3), .val (.int p4), .val (.int p5), .val (.int p6), .val (.int p7), .val (.int p8), .val (.int p9), .val (.int ((p6 + (p1 * p8)) + (p2 * p7))), .val (.int (0 : Int32))] [(.int (((p6 + (p1 * p8)) + (p2 * p7)) + p5)), (.int p9)])) _
    refine XS.icmpNo X0.here hx rfl (hb hby d2_48) rfl (tlt hc48).2.1 ?_
    show Steps p.tables e below (s₁.setTop (mkF m 51 #[.val (.int p1), .val (.int p2), .val (.int p3), .val (.int p4), .val (.int p5), .val (.int p6), .val (.int p7), .val (.int p8), .val (.int p9), .val (.int ((p6 + (p1 * p8)) + (p2 * p7))), .val (.int (0 : Int32))] [])) _
    refine XS.iload X0.here hx rfl (hb hby d2_51) rfl ?_
    show Steps p.tables e below (s₁.setTop (mkF m 53 #[.val (.int p1), .val (.int p2), .val (.int p3), .val (.int p4), .val (.int p5), .val (.int p6), .val (.int p7), .val (.int p8), .val (.int p9), .val (.int ((p6 + (p1 * p8)) + (p2 * p7))), .val (.int (0 : Int32))] [(.int (0 : Int32))])) _
    refine XS.iconst X0.here hx rfl (hb hby d2_53) ?_
    show Steps p.tables e below (s₁.setTop (mkF m 54 #[.val (.int p1), .val (.int p2), .val (.int p3), .val (.int p4), .val (.int p5), .val (.int p6), .val (.int p7), .val (.int p8), .val (.int p9), .val (.int ((p6 + (p1 * p8)) + (p2 * p7))), .val (.int (0 : Int32))] [(.int (1 : Int32)), (.int (0 : Int32))])) _
    refine XS.ior X0.here hx rfl (hb hby d2_54) rfl ?_
    show Steps p.tables e below (s₁.setTop (mkF m 55 #[.val (.int p1), .val (.int p2), .val (.int p3), .val (.int p4), .val (.int p5), .val (.int p6), .val (.int p7), .val (.int p8), .val (.int p9), .val (.int ((p6 + (p1 * p8)) + (p2 * p7))), .val (.int (0 : Int32))] [(.int ((0 : Int32) ||| (1 : Int32)))])) _
    refine XS.istore X0.here hx rfl (hb hby d2_55) rfl (l' := #[.val (.int p1), .val (.int p2), .val (.int p3), .val (.int p4), .val (.int p5), .val (.int p6), .val (.int p7), .val (.int p8), .val (.int p9), .val (.int ((p6 + (p1 * p8)) + (p2 * p7))), .val (.int ((0 : Int32) ||| (1 : Int32)))]) rfl ?_
    show Steps p.tables e below (s₁.setTop (mkF m 57 #[.val (.int p1), .val (.int p2), .val (.int p3), .val (.int p4), .val (.int p5), .val (.int p6), .val (.int p7), .val (.int p8), .val (.int p9), .val (.int ((p6 + (p1 * p8)) + (p2 * p7))), .val (.int ((0 : Int32) ||| (1 : Int32)))] [])) _
    refine XS.iload X0.here hx rfl (hb hby d2_57) rfl ?_
    show Steps p.tables e below (s₁.setTop (mkF m 59 #[.val (.int p1), .val (.int p2), .val (.int p3), .val (.int p4), .val (.int p5), .val (.int p6), .val (.int p7), .val (.int p8), .val (.int p9), .val (.int ((p6 + (p1 * p8)) + (p2 * p7))), .val (.int ((0 : Int32) ||| (1 : Int32)))] [(.int p5)])) _
    refine XS.iconst X0.here hx rfl (hb hby d2_59) ?_
    show Steps p.tables e below (s₁.setTop (mkF m 60 #[.val (.int p1), .val (.int p2), .val (.int p3), .val (.int p4), .val (.int p5), .val (.int p6), .val (.int p7), .val (.int p8), .val (.int p9), .val (.int ((p6 + (p1 * p8)) + (p2 * p7))), .val (.int ((0 : Int32) ||| (1 : Int32)))] [(.int (2 : Int32)), (.int p5)])) _
    refine XS.icmpNo X0.here hx rfl (hb hby d2_60) rfl (tlt hc60).2.1 ?_
    show Steps p.tables e below (s₁.setTop (mkF m 63 #[.val (.int p1), .val (.int p2), .val (.int p3), .val (.int p4), .val (.int p5), .val (.int p6), .val (.int p7), .val (.int p8), .val (.int p9), .val (.int ((p6 + (p1 * p8)) + (p2 * p7))), .val (.int ((0 : Int32) ||| (1 : Int32)))] [])) _
    refine XS.iload X0.here hx rfl (hb hby d2_63) rfl ?_
    show Steps p.tables e below (s₁.setTop (mkF m 65 #[.val (.int p1), .val (.int p2), .val (.int p3), .val (.int p4), .val (.int p5), .val (.int p6), .val (.int p7), .val (.int p8), .val (.int p9), .val (.int ((p6 + (p1 * p8)) + (p2 * p7))), .val (.int ((0 : Int32) ||| (1 : Int32)))] [(.int ((p6 + (p1 * p8)) + (p2 * p7)))])) _
    refine XS.iload X0.here hx rfl (hb hby d2_65) rfl ?_
    show Steps p.tables e below (s₁.setTop (mkF m 67 #[.val (.int p1), .val (.int p2), .val (.int p3), .val (.int p4), .val (.int p5), .val (.int p6), .val (.int p7), .val (.int p8), .val (.int p9), .val (.int ((p6 + (p1 * p8)) + (p2 * p7))), .val (.int ((0 : Int32) ||| (1 : Int32)))] [(.int p9), (.int ((p6 + (p1 * p8)) + (p2 * p7)))])) _
    refine XS.icmpYes X0.here hx rfl (pc0 := 67) (pc' := 76) rfl (hb hby d2_67) rfl (teq hc67).1 (by decide) (by decide) ?_
    show Steps p.tables e below (s₁.setTop (mkF m 76 #[.val (.int p1), .val (.int p2), .val (.int p3), .val (.int p4), .val (.int p5), .val (.int p6), .val (.int p7), .val (.int p8), .val (.int p9), .val (.int ((p6 + (p1 * p8)) + (p2 * p7))), .val (.int ((0 : Int32) ||| (1 : Int32)))] [])) _
    refine XS.iload X0.here hx rfl (hb hby d2_76) rfl ?_
    show Steps p.tables e below (s₁.setTop (mkF m 78 #[.val (.int p1), .val (.int p2), .val (.int p3), .val (.int p4), .val (.int p5), .val (.int p6), .val (.int p7), .val (.int p8), .val (.int p9), .val (.int ((p6 + (p1 * p8)) + (p2 * p7))), .val (.int ((0 : Int32) ||| (1 : Int32)))] [(.int ((0 : Int32) ||| (1 : Int32)))])) _
    exact retI X0 hx Bd.returns (hb hby d2_78) hr
  · show Q2 Z p1 p2 p3 p4 p5 p6 p7 p8 p9 h0 n0 _ s₁.heap _
    rw [e0]
    exact ⟨by rw [own_row, if_pos hc2, if_pos hc7, if_neg hc12, own_c2, if_pos hc60, if_pos hc67, own_c1, if_neg hc38, if_pos hc48], N0, rfl⟩

set_option maxRecDepth 65536 in
set_option maxHeartbeats 40000000 in
theorem rm2_11 (l : Launch) (Z : State) (a0 : Array Value) (hw : ∀ d ∈ tables_1, d.before a0 Z = true) (ws : List Jvm.Cond) (p1 : Int32) (p2 : Int32) (p3 : Int32) (p4 : Int32) (p5 : Int32) (p6 : Int32) (p7 : Int32) (p8 : Int32) (p9 : Int32) (h0 : Heap) (n0 : Nat) (Z0 : n0 ≤ h0.size) (hc2 : p1 < p4) (hc7 : p2 < p3) (hc12 : ¬ (p5 = (0 : Int32))) (hc38 : ¬ (p9 < ((p6 + (p1 * p8)) + (p2 * p7)))) (hc48 : p9 < (((p6 + (p1 * p8)) + (p2 * p7)) + p5)) (hc60 : p5 < (2 : Int32)) (hc67 : ¬ (((p6 + (p1 * p8)) + (p2 * p7)) = p9)) :
    MetFree l (⟨"com/example/chunkwell/chunkwell/codecs/RowCopiesEachByteIsPinLaw", "row", "(IIIIIIIII)I"⟩ : MethodName) (head1 (Jvm.Cond.code (⟨"com/example/chunkwell/chunkwell/codecs/RowCopiesEachByteIsPinLaw", "row", "(IIIIIIIII)I"⟩ : MethodName) method_3_code 11 (some .int) :: ws) ({ frames := 0, cells := 0, slots := 0, locals := 0 } : Room)) (fun a U => a = #[(.int p1), (.int p2), (.int p3), (.int p4), (.int p5), (.int p6), (.int p7), (.int p8), (.int p9)] ∧ Z.Warmed39 U.vm ∧ U.heap = h0) (fun _ _ _ _ _ => True) (fun _ U o U' => ∃ v L, o = .returned v ∧ Q2 Z p1 p2 p3 p4 p5 p6 p7 p8 p9 h0 n0 v U'.heap L ∧ FrameEnd U o U' L ({ frames := 0, cells := 0, slots := 0, locals := 0 } : Room).cells ({ frames := 0, cells := 0, slots := 0, locals := 0 } : Room).slots) := by
  refine MetFree.of_bodySF (plainFor_of_name pn_2) hisR ?_
  intro p e s m args below meth c s₁ Bd hml0 hP hK
  obtain ⟨rfl, hZ, hh⟩ := hP
  have hx := Bd.exec
  have hby := Bd.bytes
  have hml : c.maxLocals = 11 := hml0
  have hown : s.vm.findClass "com/example/chunkwell/chunkwell/codecs/RowCopiesEachByteIsPinLaw" = some m.cls := findClass_of_methodNamed Bd.named
  have hnm := (name_of_methodNamed Bd.named Bd.method).1
  have X0 : Stand p l e ({ frames := 0, cells := 0, slots := 0, locals := 0 } : Room) s m #[(.int p1), (.int p2), (.int p3), (.int p4), (.int p5), (.int p6), (.int p7), (.int p8), (.int p9)] below meth c s₁ [] 0 0 := Stand.of_body Bd
  have e0 : s₁.heap = h0 := by rw [← hh, Bd.state]; rfl
  have N0 := Fr.nil n0
  have pre0 : ∀ t, Steps p.tables e below (s₁.setTop (mkF m 0 #[.val (.int p1), .val (.int p2), .val (.int p3), .val (.int p4), .val (.int p5), .val (.int p6), .val (.int p7), .val (.int p8), .val (.int p9), .unset, .unset] [])) t → Steps p.tables e below (s₁.setTop (entryFrame m #[(.int p1), (.int p2), (.int p3), (.int p4), (.int p5), (.int p6), (.int p7), (.int p8), (.int p9)] 11)) t := fun t k => castTop (ef_2 m p1 p2 p3 p4 p5 p6 p7 p8 p9) k

  obtain ⟨fs, hr, hrun, hended, hW, hsame⟩ := X0.leave (v := some (.int (((0 : Int32) ||| (1 : Int32)) ||| (2 : Int32)))) (fun h => by rw [Bd.returns] at h; cases h)
  refine ⟨_, _, pre0 _ ?_, hrun, hended, _, _, rfl, ?_, ⟨_, rfl⟩, hW, hsame.mono (by decide) (by decide)⟩
  · show Steps p.tables e below (s₁.setTop (mkF m 0 #[.val (.int p1), .val (.int p2), .val (.int p3), .val (.int p4), .val (.int p5), .val (.int p6), .val (.int p7), .val (.int p8), .val (.int p9), .unset, .unset] [])) _
    refine XS.iloadN X0.here hx rfl (hb hby d2_0) rfl ?_
    show Steps p.tables e below (s₁.setTop (mkF m 1 #[.val (.int p1), .val (.int p2), .val (.int p3), .val (.int p4), .val (.int p5), .val (.int p6), .val (.int p7), .val (.int p8), .val (.int p9), .unset, .unset] [(.int p1)])) _
    refine XS.iloadN X0.here hx rfl (hb hby d2_1) rfl ?_
    show Steps p.tables e below (s₁.setTop (mkF m 2 #[.val (.int p1), .val (.int p2), .val (.int p3), .val (.int p4), .val (.int p5), .val (.int p6), .val (.int p7), .val (.int p8), .val (.int p9), .unset, .unset] [(.int p4), (.int p1)])) _
    refine XS.icmpNo X0.here hx rfl (hb hby d2_2) rfl (tlt hc2).2.1 ?_
    show Steps p.tables e below (s₁.setTop (mkF m 5 #[.val (.int p1), .val (.int p2), .val (.int p3), .val (.int p4), .val (.int p5), .val (.int p6), .val (.int p7), .val (.int p8), .val (.int p9), .unset, .unset] [])) _
    refine XS.iloadN X0.here hx rfl (hb hby d2_5) rfl ?_
    show Steps p.tables e below (s₁.setTop (mkF m 6 #[.val (.int p1), .val (.int p2), .val (.int p3), .val (.int p4), .val (.int p5), .val (.int p6), .val (.int p7), .val (.int p8), .val (.int p9), .unset, .unset] [(.int p2)])) _
    refine XS.iloadN X0.here hx rfl (hb hby d2_6) rfl ?_
    show Steps p.tables e below (s₁.setTop (mkF m 7 #[.val (.int p1), .val (.int p2), .val (.int p3), .val (.int p4), .val (.int p5), .val (.int p6), .val (.int p7), .val (.int p8), .val (.int p9), .unset, .unset] [(.int p3), (.int p2)])) _
    refine XS.icmpNo X0.here hx rfl (hb hby d2_7) rfl (tlt hc7).2.1 ?_
    show Steps p.tables e below (s₁.setTop (mkF m 10 #[.val (.int p1), .val (.int p2), .val (.int p3), .val (.int p4), .val (.int p5), .val (.int p6), .val (.int p7), .val (.int p8), .val (.int p9), .unset, .unset] [])) _
    refine XS.iload X0.here hx rfl (hb hby d2_10) rfl ?_
    show Steps p.tables e below (s₁.setTop (mkF m 12 #[.val (.int p1), .val (.int p2), .val (.int p3), .val (.int p4), .val (.int p5), .val (.int p6), .val (.int p7), .val (.int p8), .val (.int p9), .unset, .unset] [(.int p5)])) _
    refine XS.ifYes X0.here hx rfl (pc0 := 12) (pc' := 17) rfl (hb hby d2_12) rfl ((if0 _ _).trans (feq hc12).2) (by decide) (by decide) ?_
    show Steps p.tables e below (s₁.setTop (mkF m 17 #[.val (.int p1), .val (.int p2), .val (.int p3), .val (.int p4), .val (.int p5), .val (.int p6), .val (.int p7), .val (.int p8), .val (.int p9), .unset, .unset] [])) _
    refine XS.iload X0.here hx rfl (hb hby d2_17) rfl ?_
    show Steps p.tables e below (s₁.setTop (mkF m 19 #[.val (.int p1), .val (.int p2), .val (.int p3), .val (.int p4), .val (.int p5), .val (.int p6), .val (.int p7), .val (.int p8), .val (.int p9), .unset, .unset] [(.int p6)])) _
    refine XS.iloadN X0.here hx rfl (hb hby d2_19) rfl ?_
    show Steps p.tables e below (s₁.setTop (mkF m 20 #[.val (.int p1), .val (.int p2), .val (.int p3), .val (.int p4), .val (.int p5), .val (.int p6), .val (.int p7), .val (.int p8), .val (.int p9), .unset, .unset] [(.int p1), (.int p6)])) _
    refine XS.iload X0.here hx rfl (hb hby d2_20) rfl ?_
    show Steps p.tables e below (s₁.setTop (mkF m 22 #[.val (.int p1), .val (.int p2), .val (.int p3), .val (.int p4), .val (.int p5), .val (.int p6), .val (.int p7), .val (.int p8), .val (.int p9), .unset, .unset] [(.int p8), (.int p1), (.int p6)])) _
    refine XS.imul X0.here hx rfl (hb hby d2_22) rfl ?_
    show Steps p.tables e below (s₁.setTop (mkF m 23 #[.val (.int p1), .val (.int p2), .val (.int p3), .val (.int p4), .val (.int p5), .val (.int p6), .val (.int p7), .val (.int p8), .val (.int p9), .unset, .unset] [(.int (p1 * p8)), (.int p6)])) _
    refine XS.iadd X0.here hx rfl (hb hby d2_23) rfl ?_
    show Steps p.tables e below (s₁.setTop (mkF m 24 #[.val (.int p1), .val (.int p2), .val (.int p3), .val (.int p4), .val (.int p5), .val (.int p6), .val (.int p7), .val (.int p8), .val (.int p9), .unset, .unset] [(.int (p6 + (p1 * p8)))])) _
    refine XS.iloadN X0.here hx rfl (hb hby d2_24) rfl ?_
    show Steps p.tables e below (s₁.setTop (mkF m 25 #[.val (.int p1), .val (.int p2), .val (.int p3), .val (.int p4), .val (.int p5), .val (.int p6), .val (.int p7), .val (.int p8), .val (.int p9), .unset, .unset] [(.int p2), (.int (p6 + (p1 * p8)))])) _
    refine XS.iload X0.here hx rfl (hb hby d2_25) rfl ?_
    show Steps p.tables e below (s₁.setTop (mkF m 27 #[.val (.int p1), .val (.int p2), .val (.int p3), .val (.int p4), .val (.int p5), .val (.int p6), .val (.int p7), .val (.int p8), .val (.int p9), .unset, .unset] [(.int p7), (.int p2), (.int (p6 + (p1 * p8)))])) _
    refine XS.imul X0.here hx rfl (hb hby d2_27) rfl ?_
    show Steps p.tables e below (s₁.setTop (mkF m 28 #[.val (.int p1), .val (.int p2), .val (.int p3), .val (.int p4), .val (.int p5), .val (.int p6), .val (.int p7), .val (.int p8), .val (.int p9), .unset, .unset] [(.int (p2 * p7)), (.int (p6 + (p1 * p8)))])) _
    refine XS.iadd X0.here hx rfl (hb hby d2_28) rfl ?_
    show Steps p.tables e below (s₁.setTop (mkF m 29 #[.val (.int p1), .val (.int p2), .val (.int p3), .val (.int p4), .val (.int p5), .val (.int p6), .val (.int p7), .val (.int p8), .val (.int p9), .unset, .unset] [(.int ((p6 + (p1 * p8)) + (p2 * p7)))])) _
    refine XS.istore X0.here hx rfl (hb hby d2_29) rfl (l' := #[.val (.int p1), .val (.int p2), .val (.int p3), .val (.int p4), .val (.int p5), .val (.int p6), .val (.int p7), .val (.int p8), .val (.int p9), .val (.int ((p6 + (p1 * p8)) + (p2 * p7))), .unset]) rfl ?_
    show Steps p.tables e below (s₁.setTop (mkF m 31 #[.val (.int p1), .val (.int p2), .val (.int p3), .val (.int p4), .val (.int p5), .val (.int p6), .val (.int p7), .val (.int p8), .val (.int p9), .val (.int ((p6 + (p1 * p8)) + (p2 * p7))), .unset] [])) _
    refine XS.iconst X0.here hx rfl (hb hby d2_31) ?_
    show Steps p.tables e below (s₁.setTop (mkF m 32 #[.val (.int p1), .val (.int p2), .val (.int p3), .val (.int p4), .val (.int p5), .val (.int p6), .val (.int p7), .val (.int p8), .val (.int p9), .val (.int ((p6 + (p1 * p8)) + (p2 * p7))), .unset] [(.int (0 : Int32))])) _
    refine XS.istore X0.here hx rfl (hb hby d2_32) rfl (l' := #[.val (.int p1), .val (.int p2), .val (.int p3), .val (.int p4), .val (.int p5), .val (.int p6), .val (.int p7), .val (.int p8), .val (.int p9), .val (.int ((p6 + (p1 * p8)) + (p2 * p7))), .val (.int (0 : Int32))]) rfl ?_
    show Steps p.tables e below (s₁.setTop (mkF m 34 #[.val (.int p1), .val (.int p2), .val (.int p3), .val (.int p4), .val (.int p5), .val (.int p6), .val (.int p7), .val (.int p8), .val (.int p9), .val (.int ((p6 + (p1 * p8)) + (p2 * p7))), .val (.int (0 : Int32))] [])) _
    refine XS.iload X0.here hx rfl (hb hby d2_34) rfl ?_
    show Steps p.tables e below (s₁.setTop (mkF m 36 #[.val (.int p1), .val (.int p2), .val (.int p3), .val (.int p4), .val (.int p5), .val (.int p6), .val (.int p7), .val (.int p8), .val (.int p9), .val (.int ((p6 + (p1 * p8)) + (p2 * p7))), .val (.int (0 : Int32))] [(.int ((p6 + (p1 * p8)) + (p2 * p7)))])) _
    refine XS.iload X0.here hx rfl (hb hby d2_36) rfl ?_
    show Steps p.tables e below (s₁.setTop (mkF m 38 #[.val (.int p1), .val (.int p2), .val (.int p3), .val (.int p4), .val (.int p5), .val (.int p6), .val (.int p7), .val (.int p8), .val (.int p9), .val (.int ((p6 + (p1 * p8)) + (p2 * p7))), .val (.int (0 : Int32))] [(.int p9), (.int ((p6 + (p1 * p8)) + (p2 * p7)))])) _
    refine XS.icmpNo X0.here hx rfl (hb hby d2_38) rfl (flt hc38).2.2.1 ?_
    show Steps p.tables e below (s₁.setTop (mkF m 41 #[.val (.int p1), .val (.int p2), .val (.int p3), .val (.int p4), .val (.int p5), .val (.int p6), .val (.int p7), .val (.int p8), .val (.int p9), .val (.int ((p6 + (p1 * p8)) + (p2 * p7))), .val (.int (0 : Int32))] [])) _
    refine XS.iload X0.here hx rfl (hb hby d2_41) rfl ?_
    show Steps p.tables e below (s₁.setTop (mkF m 43 #[.val (.int p1), .val (.int p2), .val (.int p3), .val (.int p4), .val (.int p5), .val (.int p6), .val (.int p7), .val (.int p8), .val (.int p9), .val (.int ((p6 + (p1 * p8)) + (p2 * p7))), .val (.int (0 : Int32))] [(.int p9)])) _
    refine XS.iload X0.here hx rfl (hb hby d2_43) rfl ?_
    show Steps p.tables e below (s₁.setTop (mkF m 45 #[.val (.int p1), .val (.int p2), .val (.int p3), .val (.int p4), .val (.int p5), .val (.int p6), .val (.int p7), .val (.int p8), .val (.int p9), .val (.int ((p6 + (p1 * p8)) + (p2 * p7))), .val (.int (0 : Int32))] [(.int ((p6 + (p1 * p8)) + (p2 * p7))), (.int p9)])) _
    refine XS.iload X0.here hx rfl (hb hby d2_45) rfl ?_
    show Steps p.tables e below (s₁.setTop (mkF m 47 #[.val (.int p1), .val (.int p2), .val (.int p3), .val (.int p4), .val (.int p5), .val (.int p6), .val (.int p7), .val (.int p8), .val (.int p9), .val (.int ((p6 + (p1 * p8)) + (p2 * p7))), .val (.int (0 : Int32))] [(.int p5), (.int ((p6 + (p1 * p8)) + (p2 * p7))), (.int p9)])) _
    refine XS.iadd X0.here hx rfl (hb hby d2_47) rfl ?_
    show Steps p.tables e below (s₁.setTop (mkF m 48 #[.val (.int p1), .val (.int p2), .val (.int p3), .val (.int p4), .val (.int p5), .val (.int p6), .val (.int p7), .val (.int p8), .val (.int p9), .val (.int ((p6 + (p1 * p8)) + (p2 * p7))), .val (.int (0 : Int32))] [(.int (((p6 + (p1 * p8)) + (p2 * p7)) + p5)), (.int p9)])) _
    refine XS.icmpNo X0.here hx rfl (hb hby d2_48) rfl (tlt hc48).2.1 ?_
    show Steps p.tables e below (s₁.setTop (mkF m 51 #[.val (.int p1), .val (.int p2), .val (.int p3), .val (.int p4), .val (.int p5), .val (.int p6), .val (.int p7), .val (.int p8), .val (.int p9), .val (.int ((p6 + (p1 * p8)) + (p2 * p7))), .val (.int (0 : Int32))] [])) _
    refine XS.iload X0.here hx rfl (hb hby d2_51) rfl ?_
    show Steps p.tables e below (s₁.setTop (mkF m 53 #[.val (.int p1), .val (.int p2), .val (.int p3), .val (.int p4), .val (.int p5), .val (.int p6), .val (.int p7), .val (.int p8), .val (.int p9), .val (.int ((p6 + (p1 * p8)) + (p2 * p7))), .val (.int (0 : Int32))] [(.int (0 : Int32))])) _
    refine XS.iconst X0.here hx rfl (hb hby d2_53) ?_
    show Steps p.tables e below (s₁.setTop (mkF m 54 #[.val (.int p1), .val (.int p2), .val (.int p3), .val (.int p4), .val (.int p5), .val (.int p6), .val (.int p7), .val (.int p8), .val (.int p9), .val (.int ((p6 + (p1 * p8)) + (p2 * p7))), .val (.int (0 : Int32))] [(.int (1 : Int32)), (.int (0 : Int32))])) _
    refine XS.ior X0.here hx rfl (hb hby d2_54) rfl ?_
    show Steps p.tables e below (s₁.setTop (mkF m 55 #[.val (.int p1), .val (.int p2), .val (.int p3), .val (.int p4), .val (.int p5), .val (.int p6), .val (.int p7), .val (.int p8), .val (.int p9), .val (.int ((p6 + (p1 * p8)) + (p2 * p7))), .val (.int (0 : Int32))] [(.int ((0 : Int32) ||| (1 : Int32)))])) _
    refine XS.istore X0.here hx rfl (hb hby d2_55) rfl (l' := #[.val (.int p1), .val (.int p2), .val (.int p3), .val (.int p4), .val (.int p5), .val (.int p6), .val (.int p7), .val (.int p8), .val (.int p9), .val (.int ((p6 + (p1 * p8)) + (p2 * p7))), .val (.int ((0 : Int32) ||| (1 : Int32)))]) rfl ?_
    show Steps p.tables e below (s₁.setTop (mkF m 57 #[.val (.int p1), .val (.int p2), .val (.int p3), .val (.int p4), .val (.int p5), .val (.int p6), .val (.int p7), .val (.int p8), .val (.int p9), .val (.int ((p6 + (p1 * p8)) + (p2 * p7))), .val (.int ((0 : Int32) ||| (1 : Int32)))] [])) _
    refine XS.iload X0.here hx rfl (hb hby d2_57) rfl ?_
    show Steps p.tables e below (s₁.setTop (mkF m 59 #[.val (.int p1), .val (.int p2), .val (.int p3), .val (.int p4), .val (.int p5), .val (.int p6), .val (.int p7), .val (.int p8), .val (.int p9), .val (.int ((p6 + (p1 * p8)) + (p2 * p7))), .val (.int ((0 : Int32) ||| (1 : Int32)))] [(.int p5)])) _
    refine XS.iconst X0.here hx rfl (hb hby d2_59) ?_
    show Steps p.tables e below (s₁.setTop (mkF m 60 #[.val (.int p1), .val (.int p2), .val (.int p3), .val (.int p4), .val (.int p5), .val (.int p6), .val (.int p7), .val (.int p8), .val (.int p9), .val (.int ((p6 + (p1 * p8)) + (p2 * p7))), .val (.int ((0 : Int32) ||| (1 : Int32)))] [(.int (2 : Int32)), (.int p5)])) _
    refine XS.icmpNo X0.here hx rfl (hb hby d2_60) rfl (tlt hc60).2.1 ?_
    show Steps p.tables e below (s₁.setTop (mkF m 63 #[.val (.int p1), .val (.int p2), .val (.int p3), .val (.int p4), .val (.int p5), .val (.int p6), .val (.int p7), .val (.int p8), .val (.int p9), .val (.int ((p6 + (p1 * p8)) + (p2 * p7))), .val (.int ((0 : Int32) ||| (1 : Int32)))] [])) _
    refine XS.iload X0.here hx rfl (hb hby d2_63) rfl ?_
    show Steps p.tables e below (s₁.setTop (mkF m 65 #[.val (.int p1), .val (.int p2), .val (.int p3), .val (.int p4), .val (.int p5), .val (.int p6), .val (.int p7), .val (.int p8), .val (.int p9), .val (.int ((p6 + (p1 * p8)) + (p2 * p7))), .val (.int ((0 : Int32) ||| (1 : Int32)))] [(.int ((p6 + (p1 * p8)) + (p2 * p7)))])) _
    refine XS.iload X0.here hx rfl (hb hby d2_65) rfl ?_
    show Steps p.tables e below (s₁.setTop (mkF m 67 #[.val (.int p1), .val (.int p2), .val (.int p3), .val (.int p4), .val (.int p5), .val (.int p6), .val (.int p7), .val (.int p8), .val (.int p9), .val (.int ((p6 + (p1 * p8)) + (p2 * p7))), .val (.int ((0 : Int32) ||| (1 : Int32)))] [(.int p9), (.int ((p6 + (p1 * p8)) + (p2 * p7)))])) _
    refine XS.icmpNo X0.here hx rfl (hb hby d2_67) rfl (feq hc67).1 ?_
    show Steps p.tables e below (s₁.setTop (mkF m 70 #[.val (.int p1), .val (.int p2), .val (.int p3), .val (.int p4), .val (.int p5), .val (.int p6), .val (.int p7), .val (.int p8), .val (.int p9), .val (.int ((p6 + (p1 * p8)) + (p2 * p7))), .val (.int ((0 : Int32) ||| (1 : Int32)))] [])) _
    refine XS.iload X0.here hx rfl (hb hby d2_70) rfl ?_
    show Steps p.tables e below (s₁.setTop (mkF m 72 #[.val (.int p1), .val (.int p2), .val (.int p3), .val (.int p4), .val (.int p5), .val (.int p6), .val (.int p7), .val (.int p8), .val (.int p9), .val (.int ((p6 + (p1 * p8)) + (p2 * p7))), .val (.int ((0 : Int32) ||| (1 : Int32)))] [(.int ((0 : Int32) ||| (1 : Int32)))])) _
    refine XS.iconst X0.here hx rfl (hb hby d2_72) ?_
    show Steps p.tables e below (s₁.setTop (mkF m 73 #[.val (.int p1), .val (.int p2), .val (.int p3), .val (.int p4), .val (.int p5), .val (.int p6), .val (.int p7), .val (.int p8), .val (.int p9), .val (.int ((p6 + (p1 * p8)) + (p2 * p7))), .val (.int ((0 : Int32) ||| (1 : Int32)))] [(.int (2 : Int32)), (.int ((0 : Int32) ||| (1 : Int32)))])) _
    refine XS.ior X0.here hx rfl (hb hby d2_73) rfl ?_
    show Steps p.tables e below (s₁.setTop (mkF m 74 #[.val (.int p1), .val (.int p2), .val (.int p3), .val (.int p4), .val (.int p5), .val (.int p6), .val (.int p7), .val (.int p8), .val (.int p9), .val (.int ((p6 + (p1 * p8)) + (p2 * p7))), .val (.int ((0 : Int32) ||| (1 : Int32)))] [(.int (((0 : Int32) ||| (1 : Int32)) ||| (2 : Int32)))])) _
    refine XS.istore X0.here hx rfl (hb hby d2_74) rfl (l' := #[.val (.int p1), .val (.int p2), .val (.int p3), .val (.int p4), .val (.int p5), .val (.int p6), .val (.int p7), .val (.int p8), .val (.int p9), .val (.int ((p6 + (p1 * p8)) + (p2 * p7))), .val (.int (((0 : Int32) ||| (1 : Int32)) ||| (2 : Int32)))]) rfl ?_
    show Steps p.tables e below (s₁.setTop (mkF m 76 #[.val (.int p1), .val (.int p2), .val (.int p3), .val (.int p4), .val (.int p5), .val (.int p6), .val (.int p7), .val (.int p8), .val (.int p9), .val (.int ((p6 + (p1 * p8)) + (p2 * p7))), .val (.int (((0 : Int32) ||| (1 : Int32)) ||| (2 : Int32)))] [])) _
    refine XS.iload X0.here hx rfl (hb hby d2_76) rfl ?_
    show Steps p.tables e below (s₁.setTop (mkF m 78 #[.val (.int p1), .val (.int p2), .val (.int p3), .val (.int p4), .val (.int p5), .val (.int p6), .val (.int p7), .val (.int p8), .val (.int p9), .val (.int ((p6 + (p1 * p8)) + (p2 * p7))), .val (.int (((0 : Int32) ||| (1 : Int32)) ||| (2 : Int32)))] [(.int (((0 : Int32) ||| (1 : Int32)) ||| (2 : Int32)))])) _
    exact retI X0 hx Bd.returns (hb hby d2_78) hr
  · show Q2 Z p1 p2 p3 p4 p5 p6 p7 p8 p9 h0 n0 _ s₁.heap _
    rw [e0]
    exact ⟨by rw [own_row, if_pos hc2, if_pos hc7, if_neg hc12, own_c2, if_pos hc60, if_neg hc67, own_c1, if_neg hc38, if_pos hc48], N0, rfl⟩
set_option maxRecDepth 65536 in
set_option maxHeartbeats 40000000 in
theorem rm2 (l : Launch) (Z : State) (a0 : Array Value) (hw : ∀ d ∈ tables_1, d.before a0 Z = true) (ws : List Jvm.Cond) (p1 : Int32) (p2 : Int32) (p3 : Int32) (p4 : Int32) (p5 : Int32) (p6 : Int32) (p7 : Int32) (p8 : Int32) (p9 : Int32) (h0 : Heap) (n0 : Nat) (Z0 : n0 ≤ h0.size) :
    MetFree l (⟨"com/example/chunkwell/chunkwell/codecs/RowCopiesEachByteIsPinLaw", "row", "(IIIIIIIII)I"⟩ : MethodName) (head1 (Jvm.Cond.code (⟨"com/example/chunkwell/chunkwell/codecs/RowCopiesEachByteIsPinLaw", "row", "(IIIIIIIII)I"⟩ : MethodName) method_3_code 11 (some .int) :: ws) ({ frames := 0, cells := 0, slots := 0, locals := 0 } : Room)) (fun a U => a = #[(.int p1), (.int p2), (.int p3), (.int p4), (.int p5), (.int p6), (.int p7), (.int p8), (.int p9)] ∧ Z.Warmed39 U.vm ∧ U.heap = h0) (fun _ _ _ _ _ => True) (fun _ U o U' => ∃ v L, o = .returned v ∧ Q2 Z p1 p2 p3 p4 p5 p6 p7 p8 p9 h0 n0 v U'.heap L ∧ FrameEnd U o U' L ({ frames := 0, cells := 0, slots := 0, locals := 0 } : Room).cells ({ frames := 0, cells := 0, slots := 0, locals := 0 } : Room).slots) := by
  by_cases hc2 : p1 < p4
  · by_cases hc7 : p2 < p3
    · by_cases hc12 : p5 = (0 : Int32)
      · exact rm2_2 l Z a0 hw ws p1 p2 p3 p4 p5 p6 p7 p8 p9 h0 n0 Z0 hc2 hc7 hc12
      · by_cases hc38 : p9 < ((p6 + (p1 * p8)) + (p2 * p7))
        · skip
          by_cases hc60 : p5 < (2 : Int32)
          · by_cases hc67 : ((p6 + (p1 * p8)) + (p2 * p7)) = p9
            · exact rm2_4 l Z a0 hw ws p1 p2 p3 p4 p5 p6 p7 p8 p9 h0 n0 Z0 hc2 hc7 hc12 hc38 hc60 hc67
            · exact rm2_5 l Z a0 hw ws p1 p2 p3 p4 p5 p6 p7 p8 p9 h0 n0 Z0 hc2 hc7 hc12 hc38 hc60 hc67
          · exact rm2_3 l Z a0 hw ws p1 p2 p3 p4 p5 p6 p7 p8 p9 h0 n0 Z0 hc2 hc7 hc12 hc38 hc60
        · by_cases hc48 : p9 < (((p6 + (p1 * p8)) + (p2 * p7)) + p5)
          · skip
            by_cases hc60 : p5 < (2 : Int32)
            · by_cases hc67 : ((p6 + (p1 * p8)) + (p2 * p7)) = p9
              · exact rm2_10 l Z a0 hw ws p1 p2 p3 p4 p5 p6 p7 p8 p9 h0 n0 Z0 hc2 hc7 hc12 hc38 hc48 hc60 hc67
              · exact rm2_11 l Z a0 hw ws p1 p2 p3 p4 p5 p6 p7 p8 p9 h0 n0 Z0 hc2 hc7 hc12 hc38 hc48 hc60 hc67
            · exact rm2_9 l Z a0 hw ws p1 p2 p3 p4 p5 p6 p7 p8 p9 h0 n0 Z0 hc2 hc7 hc12 hc38 hc48 hc60
          · skip
            by_cases hc60 : p5 < (2 : Int32)
            · by_cases hc67 : ((p6 + (p1 * p8)) + (p2 * p7)) = p9
              · exact rm2_7 l Z a0 hw ws p1 p2 p3 p4 p5 p6 p7 p8 p9 h0 n0 Z0 hc2 hc7 hc12 hc38 hc48 hc60 hc67
              · exact rm2_8 l Z a0 hw ws p1 p2 p3 p4 p5 p6 p7 p8 p9 h0 n0 Z0 hc2 hc7 hc12 hc38 hc48 hc60 hc67
            · exact rm2_6 l Z a0 hw ws p1 p2 p3 p4 p5 p6 p7 p8 p9 h0 n0 Z0 hc2 hc7 hc12 hc38 hc48 hc60
    · exact rm2_1 l Z a0 hw ws p1 p2 p3 p4 p5 p6 p7 p8 p9 h0 n0 Z0 hc2 hc7
  · exact rm2_0 l Z a0 hw ws p1 p2 p3 p4 p5 p6 p7 p8 p9 h0 n0 Z0 hc2
set_option maxRecDepth 65536 in
set_option maxHeartbeats 40000000 in
theorem rm1w (l : Launch) (Z : State) (a0 : Array Value) (hw : ∀ d ∈ tables_1, d.before a0 Z = true) (ws : List Jvm.Cond) (a1 : Addr) (q2 : Int64) (q3 : Int64) (q4 : Int64) (p5 : Int32) (p6 : Int32) (q7 : Int64) (p8 : Int32) (cl : Cell) (f : Nat → Int32) (idx rs ps rb rows planes : Nat) (h0 : Heap) (n0 : Nat) (Z0 : n0 ≤ h0.size) (hq2 : q2 = Int64.ofNat idx) (hq3 : q3 = Int64.ofNat rs) (hq4 : q4 = Int64.ofNat ps) (hq5 : p5 = Int32.ofNat rb) (hq6 : p6 = Int32.ofNat rows) (hq7 : q7 = Int64.ofNat planes) (Ar : Arr Z h0 a1 cl .byte) (hsz : cl.slots.size = 24) (hf : ∀ j, j < 24 → cl.slots[j]? = some (.int (f j))) (hrows : rows < 4) (hrb : rb < 4) (hidx : idx < 4) (hrs : rs < 4) (hps : ps < 4) (hpl : planes < 4) :
    MetFree l (⟨"com/example/chunkwell/chunkwell/codecs/RowCopies", "eachByteIs", "([BJJJIIJB)Z"⟩ : MethodName) (head1 (Jvm.Cond.code (⟨"com/example/chunkwell/chunkwell/codecs/RowCopies", "eachByteIs", "([BJJJIIJB)Z"⟩ : MethodName) prog_137_method_5_code 19 (some .boolean) :: ws) ({ frames := 0, cells := 0, slots := 0, locals := 0 } : Room)) (fun a U => a = #[(.ref a1), (.long q2), (.long q3), (.long q4), (.int p5), (.int p6), (.long q7), (.int p8)] ∧ Z.Warmed39 U.vm ∧ U.heap = h0) (fun _ _ _ _ _ => True) (fun _ U o U' => ∃ v L, o = .returned v ∧ Q1 Z a1 p8 cl f idx rs ps rb rows planes h0 n0 v U'.heap L ∧ FrameEnd U o U' L ({ frames := 0, cells := 0, slots := 0, locals := 0 } : Room).cells ({ frames := 0, cells := 0, slots := 0, locals := 0 } : Room).slots) := by
  subst hq2 hq3 hq4 hq5 hq6 hq7
  exact rm1 l Z a0 hw ws a1 p8 cl f idx rs ps rb rows planes h0 n0 Z0 Ar hsz hf hrows hrb hidx hrs hps hpl

theorem own_and (x : Int32) (k : Nat) (hk : k < 32) (m : Int32) (hm : m.toBitVec.toNat = 2 ^ k - 1) : ∃ n : Nat, n < 2 ^ k ∧ (x &&& m) = Int32.ofNat n := by
  refine ⟨x.toBitVec.toNat % 2 ^ k, Nat.mod_lt _ (Nat.two_pow_pos k), ?_⟩
  apply Int32.toBitVec_inj.mp
  apply BitVec.eq_of_toNat_eq
  rw [Int32.toBitVec_and, BitVec.toNat_and, hm, Nat.and_two_pow_sub_one_eq_mod]
  show _ = (BitVec.ofNat 32 _).toNat
  rw [BitVec.toNat_ofNat]
  exact (Nat.mod_eq_of_lt (Nat.lt_of_lt_of_le (Nat.mod_lt _ (Nat.two_pow_pos k)) (Nat.pow_le_pow_right (by decide) (Nat.le_of_lt hk)))).symm
theorem own_four (x : Int32) : ∃ n : Nat, n < 4 ∧ (x &&& (3 : Int32)) = Int32.ofNat n := own_and x 2 (by decide) 3 rfl
theorem own_rem (x : Int32) : ∃ n : Nat, n < 24 ∧ ((x &&& (2147483647 : Int32)) - ((x &&& (2147483647 : Int32)) / (24 : Int32)) * (24 : Int32)) = Int32.ofNat n := by
  obtain ⟨n, h, e⟩ := own_and x 31 (by decide) 2147483647 rfl
  refine ⟨n % 24, Nat.mod_lt _ (by decide), ?_⟩
  rw [e]
  have h2 : (24 : Int32).toInt = 24 := rfl
  apply Int32.toInt_inj.mp
  have hn : (Int32.ofNat n).toInt = (n : Int) := Int32.toInt_ofNat_of_lt h
  have hr : (Int32.ofNat (n % 24)).toInt = ((n % 24 : Nat) : Int) := Int32.toInt_ofNat_of_lt (by omega)
  have hd : (Int32.ofNat n / (24 : Int32)).toInt = (n : Int) / 24 := by
    rw [Int32.toInt_div_of_ne_right _ _ (by decide), hn, h2]
    exact Int.tdiv_eq_ediv_of_nonneg (by omega)
  have hm : ((Int32.ofNat n / (24 : Int32)) * (24 : Int32)).toInt = (n : Int) / 24 * 24 := by
    rw [Int32.toInt_mul, hd, h2]
    exact Int.bmod_eq_of_le (by omega) (by omega)
  rw [Int32.toInt_sub, hm, hn, hr]
  rw [Int.bmod_eq_of_le (by omega) (by omega)]
  omega
theorem own_l (n : Nat) (h : n < 4) : (Int32.ofNat n).toInt64 = Int64.ofNat n := by
  have : ∀ n : Fin 4, (Int32.ofNat n.val).toInt64 = Int64.ofNat n.val := by decide
  exact this ⟨n, h⟩
theorem own_eq (a b : Nat) (ha : a < 2 ^ 31) (hb : b < 2 ^ 31) : Int32.ofNat a = Int32.ofNat b ↔ a = b := by
  rw [← Int32.toInt_inj, Int32.toInt_ofNat_of_lt ha, Int32.toInt_ofNat_of_lt hb]
  omega
def own_pb (x v : Int32) : Int32 := if (((x.toUInt32 >>> ((8 : Int32) &&& 31).toUInt32).toInt32) &&& (1 : Int32)) = (0 : Int32) then x.toInt8.toInt32 else v
def own_c (c d : Bool) : Int32 := if d then (if c then 3 else 2) else (if c then 1 else 0)
theorem own_cc (s rb q : Nat) (hs : s < 100) (hb : rb < 4) (hq : q < 24) :
    own_c2 (own_c1 (Int32.ofNat s) (Int32.ofNat rb) (Int32.ofNat q)) (Int32.ofNat s) (Int32.ofNat rb) (Int32.ofNat q) = own_c (decide (s ≤ q ∧ q < s + rb)) (decide (2 ≤ rb ∨ s ≠ q)) := by
  have e1 : (Int32.ofNat q < Int32.ofNat s) ↔ q < s := own_lt q s (by omega) (by omega)
  have e2 : (Int32.ofNat q < Int32.ofNat s + Int32.ofNat rb) ↔ q < s + rb := by rw [← Int32.ofNat_add]; exact own_lt q (s + rb) (by omega) (by omega)
  have e3 : (Int32.ofNat rb < (2 : Int32)) ↔ rb < 2 := own_lt rb 2 (by omega) (by decide)
  have e4 : (Int32.ofNat s = Int32.ofNat q) ↔ s = q := own_eq s q (by omega) (by omega)
  unfold own_c2 own_c1
  by_cases h1 : q < s
  · have hc : ¬ (s ≤ q ∧ q < s + rb) := by omega
    have h4 : ¬ s = q := by omega
    have hd : 2 ≤ rb ∨ s ≠ q := Or.inr h4
    rw [if_pos (e1.mpr h1), if_neg (fun z => h4 (e4.mp z)), decide_eq_false hc, decide_eq_true hd]
    split <;> rfl
  · rw [if_neg (fun z => h1 (e1.mp z))]
    by_cases h2 : q < s + rb
    · rw [if_pos (e2.mpr h2), decide_eq_true (show s ≤ q ∧ q < s + rb from ⟨by omega, h2⟩)]
      by_cases h3 : rb < 2
      · rw [if_pos (e3.mpr h3)]
        by_cases h4 : s = q
        · rw [if_pos (e4.mpr h4), decide_eq_false (show ¬ (2 ≤ rb ∨ s ≠ q) by omega)]; rfl
        · rw [if_neg (fun z => h4 (e4.mp z)), decide_eq_true (show 2 ≤ rb ∨ s ≠ q from Or.inr h4)]; rfl
      · rw [if_neg (fun z => h3 (e3.mp z)), decide_eq_true (show 2 ≤ rb ∨ s ≠ q from Or.inl (by omega))]; rfl
    · rw [if_neg (fun z => h2 (e2.mp z)), decide_eq_false (show ¬ (s ≤ q ∧ q < s + rb) by omega)]
      by_cases h3 : rb < 2
      · rw [if_pos (e3.mpr h3)]
        by_cases h4 : s = q
        · rw [if_pos (e4.mpr h4), decide_eq_false (show ¬ (2 ≤ rb ∨ s ≠ q) by omega)]; rfl
        · rw [if_neg (fun z => h4 (e4.mp z)), decide_eq_true (show 2 ≤ rb ∨ s ≠ q from Or.inr h4)]; rfl
      · rw [if_neg (fun z => h3 (e3.mp z)), decide_eq_true (show 2 ≤ rb ∨ s ≠ q from Or.inl (by omega))]; rfl
def own_g (rows planes rb idx rs ps q : Nat) (p r : Nat) : Int32 := own_row (Int32.ofNat p) (Int32.ofNat r) (Int32.ofNat rows) (Int32.ofNat planes) (Int32.ofNat rb) (Int32.ofNat idx) (Int32.ofNat rs) (Int32.ofNat ps) (Int32.ofNat q)
theorem own_gv (rows planes rb idx rs ps q p r : Nat) (h1 : rows < 4) (h2 : planes < 4) (h3 : rb < 4) (h4 : idx < 4) (h5 : rs < 4) (h6 : ps < 4) (h7 : q < 24) (h8 : p < 4) (h9 : r < 4) :
    own_g rows planes rb idx rs ps q p r = if p < planes ∧ r < rows ∧ rb ≠ 0 then own_c (decide (idx + p * ps + r * rs ≤ q ∧ q < idx + p * ps + r * rs + rb)) (decide (2 ≤ rb ∨ idx + p * ps + r * rs ≠ q)) else 0 := by
  have m1 : p * ps ≤ 3 * 3 := Nat.mul_le_mul (by omega) (by omega)
  have m2 : r * rs ≤ 3 * 3 := Nat.mul_le_mul (by omega) (by omega)
  have es : ((Int32.ofNat idx + (Int32.ofNat p * Int32.ofNat ps)) + (Int32.ofNat r * Int32.ofNat rs)) = Int32.ofNat (idx + p * ps + r * rs) := by
    rw [Int32.ofNat_add, Int32.ofNat_add, Int32.ofNat_mul, Int32.ofNat_mul]
  have e1 : (Int32.ofNat p < Int32.ofNat planes) ↔ p < planes := own_lt p planes (by omega) (by omega)
  have e2 : (Int32.ofNat r < Int32.ofNat rows) ↔ r < rows := own_lt r rows (by omega) (by omega)
  have e3 : (Int32.ofNat rb = (0 : Int32)) ↔ rb = 0 := own_eq rb 0 (by omega) (by decide)
  unfold own_g own_row
  rw [es, own_cc _ rb q (by omega) h3 h7]
  by_cases a : p < planes
  · rw [if_pos (e1.mpr a)]
    by_cases b : r < rows
    · rw [if_pos (e2.mpr b)]
      by_cases d : rb = 0
      · rw [if_pos (e3.mpr d), if_neg (fun z => z.2.2 d)]
      · rw [if_neg (fun z => d (e3.mp z)), if_pos ⟨a, b, d⟩]
    · rw [if_neg (fun z => b (e2.mp z)), if_neg (fun z => b z.2.1)]
  · rw [if_neg (fun z => a (e1.mp z)), if_neg (fun z => a z.1)]
def own_cov (g : Nat → Nat → Int32) : Int32 := (((((((((((((((g 0 0 ||| g 0 1) ||| g 0 2) ||| g 0 3) ||| g 1 0) ||| g 1 1) ||| g 1 2) ||| g 1 3) ||| g 2 0) ||| g 2 1) ||| g 2 2) ||| g 2 3) ||| g 3 0) ||| g 3 1) ||| g 3 2) ||| g 3 3)
theorem own_or (x y m : Int32) : ((x ||| y) &&& m) = (0 : Int32) ↔ (x &&& m) = (0 : Int32) ∧ (y &&& m) = (0 : Int32) := by
  rw [← Int32.toBitVec_inj, ← Int32.toBitVec_inj, ← Int32.toBitVec_inj, Int32.toBitVec_and, Int32.toBitVec_and, Int32.toBitVec_and, Int32.toBitVec_or]
  generalize x.toBitVec = a
  generalize y.toBitVec = b
  generalize m.toBitVec = d
  show (a ||| b) &&& d = 0#32 ↔ a &&& d = 0#32 ∧ b &&& d = 0#32
  constructor
  · intro h
    constructor
    · apply BitVec.eq_of_getLsbD_eq
      intro i hi
      have := congrArg (fun z => z.getLsbD i) h
      simp only [BitVec.getLsbD_and, BitVec.getLsbD_or, BitVec.getLsbD_zero] at this ⊢
      revert this
      cases a.getLsbD i <;> cases b.getLsbD i <;> cases d.getLsbD i <;> simp
    · apply BitVec.eq_of_getLsbD_eq
      intro i hi
      have := congrArg (fun z => z.getLsbD i) h
      simp only [BitVec.getLsbD_and, BitVec.getLsbD_or, BitVec.getLsbD_zero] at this ⊢
      revert this
      cases a.getLsbD i <;> cases b.getLsbD i <;> cases d.getLsbD i <;> simp
  · rintro ⟨h1, h2⟩
    apply BitVec.eq_of_getLsbD_eq
    intro i hi
    have q1 := congrArg (fun z => z.getLsbD i) h1
    have q2 := congrArg (fun z => z.getLsbD i) h2
    simp only [BitVec.getLsbD_and, BitVec.getLsbD_or, BitVec.getLsbD_zero] at q1 q2 ⊢
    revert q1 q2
    cases a.getLsbD i <;> cases b.getLsbD i <;> cases d.getLsbD i <;> simp
theorem own_covz (g : Nat → Nat → Int32) (m : Int32) : (own_cov g &&& m) = (0 : Int32) ↔ ∀ p, p < 4 → ∀ r, r < 4 → (g p r &&& m) = (0 : Int32) := by
  unfold own_cov
  constructor
  · intro h
    simp only [own_or] at h
    obtain ⟨⟨⟨⟨⟨⟨⟨⟨⟨⟨⟨⟨⟨⟨⟨k1, k2⟩, k3⟩, k4⟩, k5⟩, k6⟩, k7⟩, k8⟩, k9⟩, k10⟩, k11⟩, k12⟩, k13⟩, k14⟩, k15⟩, k16⟩ := h
    intro p hp r hr
    have hp' : p = 0 ∨ p = 1 ∨ p = 2 ∨ p = 3 := by omega
    have hr' : r = 0 ∨ r = 1 ∨ r = 2 ∨ r = 3 := by omega
    rcases hp' with rfl | rfl | rfl | rfl <;> rcases hr' with rfl | rfl | rfl | rfl <;> assumption
  · intro h
    simp only [own_or]
    exact ⟨⟨⟨⟨⟨⟨⟨⟨⟨⟨⟨⟨⟨⟨⟨h 0 (by decide) 0 (by decide), h 0 (by decide) 1 (by decide)⟩, h 0 (by decide) 2 (by decide)⟩, h 0 (by decide) 3 (by decide)⟩, h 1 (by decide) 0 (by decide)⟩, h 1 (by decide) 1 (by decide)⟩, h 1 (by decide) 2 (by decide)⟩, h 1 (by decide) 3 (by decide)⟩, h 2 (by decide) 0 (by decide)⟩, h 2 (by decide) 1 (by decide)⟩, h 2 (by decide) 2 (by decide)⟩, h 2 (by decide) 3 (by decide)⟩, h 3 (by decide) 0 (by decide)⟩, h 3 (by decide) 1 (by decide)⟩, h 3 (by decide) 2 (by decide)⟩, h 3 (by decide) 3 (by decide)⟩
theorem own_bit1 (c d : Bool) : (own_c c d &&& (1 : Int32)) = (0 : Int32) ↔ c = false := by cases c <;> cases d <;> decide
theorem own_bit2 (c d : Bool) : (own_c c d &&& (2 : Int32)) = (0 : Int32) ↔ d = false := by cases c <;> cases d <;> decide
def own_e (cov w v f : Int32) : Int32 := if ((cov &&& (1 : Int32)) = (0 : Int32) ∨ w = v) ∧ ((cov &&& (2 : Int32)) = (0 : Int32) ∨ f = v) then (1 : Int32) else 0
theorem own_law (rows planes rb idx rs ps q : Nat) (h1 : rows < 4) (h2 : planes < 4) (h3 : rb < 4) (h4 : idx < 4) (h5 : rs < 4) (h6 : ps < 4) (h7 : q < 24) (w v f : Int32) (F : Nat → Int32) (hF : ∀ j, F j = if j = q then w else f) :
    own_b (own_A F v idx rs ps rb rows planes) = own_e (own_cov (own_g rows planes rb idx rs ps q)) w v f := by
  have z1 : ((0 : Int32) &&& (1 : Int32)) = (0 : Int32) := by decide
  have z2 : ((0 : Int32) &&& (2 : Int32)) = (0 : Int32) := by decide
  have iff : own_A F v idx rs ps rb rows planes ↔ (((own_cov (own_g rows planes rb idx rs ps q)) &&& (1 : Int32)) = (0 : Int32) ∨ w = v) ∧ (((own_cov (own_g rows planes rb idx rs ps q)) &&& (2 : Int32)) = (0 : Int32) ∨ f = v) := by
    constructor
    · intro A
      constructor
      · by_cases hw : w = v
        · exact Or.inr hw
        · refine Or.inl ((own_covz _ _).mpr fun p hp r hr => ?_)
          rw [own_gv rows planes rb idx rs ps q p r h1 h2 h3 h4 h5 h6 h7 hp hr]
          by_cases c : p < planes ∧ r < rows ∧ rb ≠ 0
          · rw [if_pos c, own_bit1]
            refine decide_eq_false fun z => hw ?_
            have a := A p c.1 r c.2.1 (q - (idx + p * ps + r * rs)) (by omega)
            rw [hF, if_pos (by omega)] at a
            exact a
          · rw [if_neg c, z1]
      · by_cases hf : f = v
        · exact Or.inr hf
        · refine Or.inl ((own_covz _ _).mpr fun p hp r hr => ?_)
          rw [own_gv rows planes rb idx rs ps q p r h1 h2 h3 h4 h5 h6 h7 hp hr]
          by_cases c : p < planes ∧ r < rows ∧ rb ≠ 0
          · rw [if_pos c, own_bit2]
            refine decide_eq_false fun z => hf ?_
            have c3 := c.2.2
            by_cases k : idx + p * ps + r * rs = q
            · have a := A p c.1 r c.2.1 1 (by omega)
              rw [hF, if_neg (by omega)] at a
              exact a
            · have a := A p c.1 r c.2.1 0 (by omega)
              rw [hF, if_neg (by omega)] at a
              exact a
          · rw [if_neg c, z2]
    · rintro ⟨A, B⟩ p hp r hr i hi
      rw [hF]
      have c : p < planes ∧ r < rows ∧ rb ≠ 0 := ⟨hp, hr, by omega⟩
      by_cases k : idx + p * ps + r * rs + i = q
      · rw [if_pos k]
        rcases A with A | A
        · exfalso
          have a := (own_covz _ _).mp A p (by omega) r (by omega)
          rw [own_gv rows planes rb idx rs ps q p r h1 h2 h3 h4 h5 h6 h7 (by omega) (by omega), if_pos c, own_bit1] at a
          exact of_decide_eq_false a (by omega)
        · exact A
      · rw [if_neg k]
        rcases B with B | B
        · exfalso
          have a := (own_covz _ _).mp B p (by omega) r (by omega)
          rw [own_gv rows planes rb idx rs ps q p r h1 h2 h3 h4 h5 h6 h7 (by omega) (by omega), if_pos c, own_bit2] at a
          exact of_decide_eq_false a (by omega)
        · exact B
  unfold own_b own_e
  by_cases A : own_A F v idx rs ps rb rows planes
  · rw [if_pos A, if_pos (iff.mp A)]
  · rw [if_neg A, if_neg (fun z => A (iff.mpr z))]
theorem own_rep (x y d : Value) (q j : Nat) (hq : q < 24) (hj : j < 24) : ((List.replicate 24 x).set q y).getD j d = if j = q then y else x := by
  rw [List.getD_eq_getElem?_getD, List.getElem?_set]
  by_cases h : q = j
  · rw [if_pos h, if_pos (by rw [List.length_replicate]; omega), if_pos h.symm]; rfl
  · rw [if_neg h, if_neg (fun z => h z.symm), List.getElem?_replicate, if_pos hj]; rfl
theorem own_nar (x : Int32) : nar .byte (x.toInt8.toInt32) = x.toInt8.toInt32 := by
  show ((x.toInt8.toInt32).toInt8).toInt32 = x.toInt8.toInt32
  rw [Int8.toInt8_toInt32]
theorem own_narp (x v : Int32) (hv : nar .byte v = v) : nar .byte (own_pb x v) = own_pb x v := by
  unfold own_pb
  split
  · exact own_nar x
  · exact hv
set_option maxRecDepth 65536 in
set_option maxHeartbeats 40000000 in
theorem p62a {p : Program} {l : Launch} {e : Env} {R : Room} {s : State} {m : MethodId} {args : Array Value} {below : List Frame} {meth : Method} {c : Code} {T0 : State} {locs : List Loc} {cells slots : Nat} {Z : State} {a0 : Array Value} {h0 : Heap} (s0 : Slot) (s1 : Slot) (s2 : Slot) (s4 : Slot) (s5 : Slot) (s6 : Slot) (s7 : Slot) (s8 : Slot) (s9 : Slot) (s10 : Slot) (s11 : Slot) (s13 : Slot) (s14 : Slot) (s15 : Slot) (s16 : Slot) (s17 : Slot) (s18 : Slot) (i3 : Int32) (i12 : Int32)
    (X0 : Stand p l e R s m args below meth c T0 locs cells slots) (hx : p.tables.exec = Jvm.exec) (hZ : Z.Warmed39 s.vm) (hw : ∀ d ∈ tables_1, d.before a0 Z = true) (hby : c.code = code) (hml : c.maxLocals = 19) (hown : s.vm.findClass "com/example/chunkwell/chunkwell/codecs/RowCopiesEachByteIsPinLaw" = some m.cls) (e0 : T0.heap = h0) (hc62 : (((i3.toUInt32 >>> ((8 : Int32) &&& 31).toUInt32).toInt32) &&& (1 : Int32)) = (0 : Int32)) :
    ∀ target, Steps p.tables e below (T0.setTop (mkF m 72 #[s0, s1, s2, .val (.int i3), s4, s5, s6, s7, s8, s9, s10, s11, .val (.int i12), s13, s14, s15, s16, s17, s18] [(.int (i3.toInt8.toInt32))])) target → Steps p.tables e below (T0.setTop (mkF m 56 #[s0, s1, s2, .val (.int i3), s4, s5, s6, s7, s8, s9, s10, s11, .val (.int i12), s13, s14, s15, s16, s17, s18] [])) target := by

  intro target kt
  show Steps p.tables e below (T0.setTop (mkF m 56 #[s0, s1, s2, .val (.int i3), s4, s5, s6, s7, s8, s9, s10, s11, .val (.int i12), s13, s14, s15, s16, s17, s18] [])) _
  refine XS.iloadN X0.here hx rfl (hb hby at_56) rfl ?_
  show Steps p.tables e below (T0.setTop (mkF m 57 #[s0, s1, s2, .val (.int i3), s4, s5, s6, s7, s8, s9, s10, s11, .val (.int i12), s13, s14, s15, s16, s17, s18] [(.int i3)])) _
  refine XS.bipush X0.here hx rfl (hb hby at_57) ?_
  show Steps p.tables e below (T0.setTop (mkF m 59 #[s0, s1, s2, .val (.int i3), s4, s5, s6, s7, s8, s9, s10, s11, .val (.int i12), s13, s14, s15, s16, s17, s18] [(.int (8 : Int32)), (.int i3)])) _
  refine XS.iushr X0.here hx rfl (hb hby at_59) rfl ?_
  show Steps p.tables e below (T0.setTop (mkF m 60 #[s0, s1, s2, .val (.int i3), s4, s5, s6, s7, s8, s9, s10, s11, .val (.int i12), s13, s14, s15, s16, s17, s18] [(.int ((i3.toUInt32 >>> ((8 : Int32) &&& 31).toUInt32).toInt32))])) _
  refine XS.iconst X0.here hx rfl (hb hby at_60) ?_
  show Steps p.tables e below (T0.setTop (mkF m 61 #[s0, s1, s2, .val (.int i3), s4, s5, s6, s7, s8, s9, s10, s11, .val (.int i12), s13, s14, s15, s16, s17, s18] [(.int (1 : Int32)), (.int ((i3.toUInt32 >>> ((8 : Int32) &&& 31).toUInt32).toInt32))])) _
  refine XS.iand X0.here hx rfl (hb hby at_61) rfl ?_
  show Steps p.tables e below (T0.setTop (mkF m 62 #[s0, s1, s2, .val (.int i3), s4, s5, s6, s7, s8, s9, s10, s11, .val (.int i12), s13, s14, s15, s16, s17, s18] [(.int (((i3.toUInt32 >>> ((8 : Int32) &&& 31).toUInt32).toInt32) &&& (1 : Int32)))])) _
  refine XS.ifYes X0.here hx rfl (pc0 := 62) (pc' := 70) rfl (hb hby at_62) rfl ((if0 _ _).trans (teq hc62).1) (by decide) (by decide) ?_
  show Steps p.tables e below (T0.setTop (mkF m 70 #[s0, s1, s2, .val (.int i3), s4, s5, s6, s7, s8, s9, s10, s11, .val (.int i12), s13, s14, s15, s16, s17, s18] [])) _
  refine XS.iloadN X0.here hx rfl (hb hby at_70) rfl ?_
  show Steps p.tables e below (T0.setTop (mkF m 71 #[s0, s1, s2, .val (.int i3), s4, s5, s6, s7, s8, s9, s10, s11, .val (.int i12), s13, s14, s15, s16, s17, s18] [(.int i3)])) _
  refine XS.i2b X0.here hx rfl (hb hby at_71) rfl ?_
  exact kt
set_option maxRecDepth 65536 in
set_option maxHeartbeats 40000000 in
theorem p62b {p : Program} {l : Launch} {e : Env} {R : Room} {s : State} {m : MethodId} {args : Array Value} {below : List Frame} {meth : Method} {c : Code} {T0 : State} {locs : List Loc} {cells slots : Nat} {Z : State} {a0 : Array Value} {h0 : Heap} (s0 : Slot) (s1 : Slot) (s2 : Slot) (s4 : Slot) (s5 : Slot) (s6 : Slot) (s7 : Slot) (s8 : Slot) (s9 : Slot) (s10 : Slot) (s11 : Slot) (s13 : Slot) (s14 : Slot) (s15 : Slot) (s16 : Slot) (s17 : Slot) (s18 : Slot) (i3 : Int32) (i12 : Int32)
    (X0 : Stand p l e R s m args below meth c T0 locs cells slots) (hx : p.tables.exec = Jvm.exec) (hZ : Z.Warmed39 s.vm) (hw : ∀ d ∈ tables_1, d.before a0 Z = true) (hby : c.code = code) (hml : c.maxLocals = 19) (hown : s.vm.findClass "com/example/chunkwell/chunkwell/codecs/RowCopiesEachByteIsPinLaw" = some m.cls) (e0 : T0.heap = h0) (hc62 : ¬ ((((i3.toUInt32 >>> ((8 : Int32) &&& 31).toUInt32).toInt32) &&& (1 : Int32)) = (0 : Int32))) :
    ∀ target, Steps p.tables e below (T0.setTop (mkF m 72 #[s0, s1, s2, .val (.int i3), s4, s5, s6, s7, s8, s9, s10, s11, .val (.int i12), s13, s14, s15, s16, s17, s18] [(.int i12)])) target → Steps p.tables e below (T0.setTop (mkF m 56 #[s0, s1, s2, .val (.int i3), s4, s5, s6, s7, s8, s9, s10, s11, .val (.int i12), s13, s14, s15, s16, s17, s18] [])) target := by

  intro target kt
  show Steps p.tables e below (T0.setTop (mkF m 56 #[s0, s1, s2, .val (.int i3), s4, s5, s6, s7, s8, s9, s10, s11, .val (.int i12), s13, s14, s15, s16, s17, s18] [])) _
  refine XS.iloadN X0.here hx rfl (hb hby at_56) rfl ?_
  show Steps p.tables e below (T0.setTop (mkF m 57 #[s0, s1, s2, .val (.int i3), s4, s5, s6, s7, s8, s9, s10, s11, .val (.int i12), s13, s14, s15, s16, s17, s18] [(.int i3)])) _
  refine XS.bipush X0.here hx rfl (hb hby at_57) ?_
  show Steps p.tables e below (T0.setTop (mkF m 59 #[s0, s1, s2, .val (.int i3), s4, s5, s6, s7, s8, s9, s10, s11, .val (.int i12), s13, s14, s15, s16, s17, s18] [(.int (8 : Int32)), (.int i3)])) _
  refine XS.iushr X0.here hx rfl (hb hby at_59) rfl ?_
  show Steps p.tables e below (T0.setTop (mkF m 60 #[s0, s1, s2, .val (.int i3), s4, s5, s6, s7, s8, s9, s10, s11, .val (.int i12), s13, s14, s15, s16, s17, s18] [(.int ((i3.toUInt32 >>> ((8 : Int32) &&& 31).toUInt32).toInt32))])) _
  refine XS.iconst X0.here hx rfl (hb hby at_60) ?_
  show Steps p.tables e below (T0.setTop (mkF m 61 #[s0, s1, s2, .val (.int i3), s4, s5, s6, s7, s8, s9, s10, s11, .val (.int i12), s13, s14, s15, s16, s17, s18] [(.int (1 : Int32)), (.int ((i3.toUInt32 >>> ((8 : Int32) &&& 31).toUInt32).toInt32))])) _
  refine XS.iand X0.here hx rfl (hb hby at_61) rfl ?_
  show Steps p.tables e below (T0.setTop (mkF m 62 #[s0, s1, s2, .val (.int i3), s4, s5, s6, s7, s8, s9, s10, s11, .val (.int i12), s13, s14, s15, s16, s17, s18] [(.int (((i3.toUInt32 >>> ((8 : Int32) &&& 31).toUInt32).toInt32) &&& (1 : Int32)))])) _
  refine XS.ifNo X0.here hx rfl (hb hby at_62) rfl ((if0 _ _).trans (feq hc62).1) ?_
  show Steps p.tables e below (T0.setTop (mkF m 65 #[s0, s1, s2, .val (.int i3), s4, s5, s6, s7, s8, s9, s10, s11, .val (.int i12), s13, s14, s15, s16, s17, s18] [])) _
  refine XS.iload X0.here hx rfl (hb hby at_65) rfl ?_
  show Steps p.tables e below (T0.setTop (mkF m 67 #[s0, s1, s2, .val (.int i3), s4, s5, s6, s7, s8, s9, s10, s11, .val (.int i12), s13, s14, s15, s16, s17, s18] [(.int i12)])) _
  refine XS.goto X0.here hx rfl (pc0 := 67) (pc' := 72) rfl (hb hby at_67) (by decide) (by decide) ?_
  exact kt
set_option maxRecDepth 65536 in
set_option maxHeartbeats 40000000 in
theorem p62 {p : Program} {l : Launch} {e : Env} {R : Room} {s : State} {m : MethodId} {args : Array Value} {below : List Frame} {meth : Method} {c : Code} {T0 : State} {locs : List Loc} {cells slots : Nat} {Z : State} {a0 : Array Value} {h0 : Heap} (s0 : Slot) (s1 : Slot) (s2 : Slot) (s4 : Slot) (s5 : Slot) (s6 : Slot) (s7 : Slot) (s8 : Slot) (s9 : Slot) (s10 : Slot) (s11 : Slot) (s13 : Slot) (s14 : Slot) (s15 : Slot) (s16 : Slot) (s17 : Slot) (s18 : Slot) (i3 : Int32) (i12 : Int32)
    (X0 : Stand p l e R s m args below meth c T0 locs cells slots) (hx : p.tables.exec = Jvm.exec) (hZ : Z.Warmed39 s.vm) (hw : ∀ d ∈ tables_1, d.before a0 Z = true) (hby : c.code = code) (hml : c.maxLocals = 19) (hown : s.vm.findClass "com/example/chunkwell/chunkwell/codecs/RowCopiesEachByteIsPinLaw" = some m.cls) (e0 : T0.heap = h0) :
    ∀ target, Steps p.tables e below (T0.setTop (mkF m 72 #[s0, s1, s2, .val (.int i3), s4, s5, s6, s7, s8, s9, s10, s11, .val (.int i12), s13, s14, s15, s16, s17, s18] [(.int (own_pb i3 i12))])) target → Steps p.tables e below (T0.setTop (mkF m 56 #[s0, s1, s2, .val (.int i3), s4, s5, s6, s7, s8, s9, s10, s11, .val (.int i12), s13, s14, s15, s16, s17, s18] [])) target := by
  unfold own_pb
  by_cases h : (((i3.toUInt32 >>> ((8 : Int32) &&& 31).toUInt32).toInt32) &&& (1 : Int32)) = (0 : Int32)
  · rw [if_pos h]
    exact p62a s0 s1 s2 s4 s5 s6 s7 s8 s9 s10 s11 s13 s14 s15 s16 s17 s18 i3 i12 X0 hx hZ hw hby hml hown e0 h
  · rw [if_neg h]
    exact p62b s0 s1 s2 s4 s5 s6 s7 s8 s9 s10 s11 s13 s14 s15 s16 s17 s18 i3 i12 X0 hx hZ hw hby hml hown e0 h
set_option maxRecDepth 65536 in
set_option maxHeartbeats 40000000 in
theorem p81a {p : Program} {l : Launch} {e : Env} {R : Room} {s : State} {m : MethodId} {args : Array Value} {below : List Frame} {meth : Method} {c : Code} {T0 : State} {locs : List Loc} {cells slots : Nat} {Z : State} {a0 : Array Value} {h0 : Heap} (s0 : Slot) (s1 : Slot) (s2 : Slot) (s3 : Slot) (s5 : Slot) (s6 : Slot) (s7 : Slot) (s8 : Slot) (s9 : Slot) (s10 : Slot) (s11 : Slot) (s13 : Slot) (s14 : Slot) (s15 : Slot) (s16 : Slot) (s17 : Slot) (s18 : Slot) (i4 : Int32) (i12 : Int32)
    (X0 : Stand p l e R s m args below meth c T0 locs cells slots) (hx : p.tables.exec = Jvm.exec) (hZ : Z.Warmed39 s.vm) (hw : ∀ d ∈ tables_1, d.before a0 Z = true) (hby : c.code = code) (hml : c.maxLocals = 19) (hown : s.vm.findClass "com/example/chunkwell/chunkwell/codecs/RowCopiesEachByteIsPinLaw" = some m.cls) (e0 : T0.heap = h0) (hc81 : (((i4.toUInt32 >>> ((8 : Int32) &&& 31).toUInt32).toInt32) &&& (1 : Int32)) = (0 : Int32)) :
    ∀ target, Steps p.tables e below (T0.setTop (mkF m 92 #[s0, s1, s2, s3, .val (.int i4), s5, s6, s7, s8, s9, s10, s11, .val (.int i12), s13, s14, s15, s16, s17, s18] [(.int (i4.toInt8.toInt32))])) target → Steps p.tables e below (T0.setTop (mkF m 74 #[s0, s1, s2, s3, .val (.int i4), s5, s6, s7, s8, s9, s10, s11, .val (.int i12), s13, s14, s15, s16, s17, s18] [])) target := by

  intro target kt
  show Steps p.tables e below (T0.setTop (mkF m 74 #[s0, s1, s2, s3, .val (.int i4), s5, s6, s7, s8, s9, s10, s11, .val (.int i12), s13, s14, s15, s16, s17, s18] [])) _
  refine XS.iload X0.here hx rfl (hb hby at_74) rfl ?_
  show Steps p.tables e below (T0.setTop (mkF m 76 #[s0, s1, s2, s3, .val (.int i4), s5, s6, s7, s8, s9, s10, s11, .val (.int i12), s13, s14, s15, s16, s17, s18] [(.int i4)])) _
  refine XS.bipush X0.here hx rfl (hb hby at_76) ?_
  show Steps p.tables e below (T0.setTop (mkF m 78 #[s0, s1, s2, s3, .val (.int i4), s5, s6, s7, s8, s9, s10, s11, .val (.int i12), s13, s14, s15, s16, s17, s18] [(.int (8 : Int32)), (.int i4)])) _
  refine XS.iushr X0.here hx rfl (hb hby at_78) rfl ?_
  show Steps p.tables e below (T0.setTop (mkF m 79 #[s0, s1, s2, s3, .val (.int i4), s5, s6, s7, s8, s9, s10, s11, .val (.int i12), s13, s14, s15, s16, s17, s18] [(.int ((i4.toUInt32 >>> ((8 : Int32) &&& 31).toUInt32).toInt32))])) _
  refine XS.iconst X0.here hx rfl (hb hby at_79) ?_
  show Steps p.tables e below (T0.setTop (mkF m 80 #[s0, s1, s2, s3, .val (.int i4), s5, s6, s7, s8, s9, s10, s11, .val (.int i12), s13, s14, s15, s16, s17, s18] [(.int (1 : Int32)), (.int ((i4.toUInt32 >>> ((8 : Int32) &&& 31).toUInt32).toInt32))])) _
  refine XS.iand X0.here hx rfl (hb hby at_80) rfl ?_
  show Steps p.tables e below (T0.setTop (mkF m 81 #[s0, s1, s2, s3, .val (.int i4), s5, s6, s7, s8, s9, s10, s11, .val (.int i12), s13, s14, s15, s16, s17, s18] [(.int (((i4.toUInt32 >>> ((8 : Int32) &&& 31).toUInt32).toInt32) &&& (1 : Int32)))])) _
  refine XS.ifYes X0.here hx rfl (pc0 := 81) (pc' := 89) rfl (hb hby at_81) rfl ((if0 _ _).trans (teq hc81).1) (by decide) (by decide) ?_
  show Steps p.tables e below (T0.setTop (mkF m 89 #[s0, s1, s2, s3, .val (.int i4), s5, s6, s7, s8, s9, s10, s11, .val (.int i12), s13, s14, s15, s16, s17, s18] [])) _
  refine XS.iload X0.here hx rfl (hb hby at_89) rfl ?_
  show Steps p.tables e below (T0.setTop (mkF m 91 #[s0, s1, s2, s3, .val (.int i4), s5, s6, s7, s8, s9, s10, s11, .val (.int i12), s13, s14, s15, s16, s17, s18] [(.int i4)])) _
  refine XS.i2b X0.here hx rfl (hb hby at_91) rfl ?_
  exact kt
set_option maxRecDepth 65536 in
set_option maxHeartbeats 40000000 in
theorem p81b {p : Program} {l : Launch} {e : Env} {R : Room} {s : State} {m : MethodId} {args : Array Value} {below : List Frame} {meth : Method} {c : Code} {T0 : State} {locs : List Loc} {cells slots : Nat} {Z : State} {a0 : Array Value} {h0 : Heap} (s0 : Slot) (s1 : Slot) (s2 : Slot) (s3 : Slot) (s5 : Slot) (s6 : Slot) (s7 : Slot) (s8 : Slot) (s9 : Slot) (s10 : Slot) (s11 : Slot) (s13 : Slot) (s14 : Slot) (s15 : Slot) (s16 : Slot) (s17 : Slot) (s18 : Slot) (i4 : Int32) (i12 : Int32)
    (X0 : Stand p l e R s m args below meth c T0 locs cells slots) (hx : p.tables.exec = Jvm.exec) (hZ : Z.Warmed39 s.vm) (hw : ∀ d ∈ tables_1, d.before a0 Z = true) (hby : c.code = code) (hml : c.maxLocals = 19) (hown : s.vm.findClass "com/example/chunkwell/chunkwell/codecs/RowCopiesEachByteIsPinLaw" = some m.cls) (e0 : T0.heap = h0) (hc81 : ¬ ((((i4.toUInt32 >>> ((8 : Int32) &&& 31).toUInt32).toInt32) &&& (1 : Int32)) = (0 : Int32))) :
    ∀ target, Steps p.tables e below (T0.setTop (mkF m 92 #[s0, s1, s2, s3, .val (.int i4), s5, s6, s7, s8, s9, s10, s11, .val (.int i12), s13, s14, s15, s16, s17, s18] [(.int i12)])) target → Steps p.tables e below (T0.setTop (mkF m 74 #[s0, s1, s2, s3, .val (.int i4), s5, s6, s7, s8, s9, s10, s11, .val (.int i12), s13, s14, s15, s16, s17, s18] [])) target := by

  intro target kt
  show Steps p.tables e below (T0.setTop (mkF m 74 #[s0, s1, s2, s3, .val (.int i4), s5, s6, s7, s8, s9, s10, s11, .val (.int i12), s13, s14, s15, s16, s17, s18] [])) _
  refine XS.iload X0.here hx rfl (hb hby at_74) rfl ?_
  show Steps p.tables e below (T0.setTop (mkF m 76 #[s0, s1, s2, s3, .val (.int i4), s5, s6, s7, s8, s9, s10, s11, .val (.int i12), s13, s14, s15, s16, s17, s18] [(.int i4)])) _
  refine XS.bipush X0.here hx rfl (hb hby at_76) ?_
  show Steps p.tables e below (T0.setTop (mkF m 78 #[s0, s1, s2, s3, .val (.int i4), s5, s6, s7, s8, s9, s10, s11, .val (.int i12), s13, s14, s15, s16, s17, s18] [(.int (8 : Int32)), (.int i4)])) _
  refine XS.iushr X0.here hx rfl (hb hby at_78) rfl ?_
  show Steps p.tables e below (T0.setTop (mkF m 79 #[s0, s1, s2, s3, .val (.int i4), s5, s6, s7, s8, s9, s10, s11, .val (.int i12), s13, s14, s15, s16, s17, s18] [(.int ((i4.toUInt32 >>> ((8 : Int32) &&& 31).toUInt32).toInt32))])) _
  refine XS.iconst X0.here hx rfl (hb hby at_79) ?_
  show Steps p.tables e below (T0.setTop (mkF m 80 #[s0, s1, s2, s3, .val (.int i4), s5, s6, s7, s8, s9, s10, s11, .val (.int i12), s13, s14, s15, s16, s17, s18] [(.int (1 : Int32)), (.int ((i4.toUInt32 >>> ((8 : Int32) &&& 31).toUInt32).toInt32))])) _
  refine XS.iand X0.here hx rfl (hb hby at_80) rfl ?_
  show Steps p.tables e below (T0.setTop (mkF m 81 #[s0, s1, s2, s3, .val (.int i4), s5, s6, s7, s8, s9, s10, s11, .val (.int i12), s13, s14, s15, s16, s17, s18] [(.int (((i4.toUInt32 >>> ((8 : Int32) &&& 31).toUInt32).toInt32) &&& (1 : Int32)))])) _
  refine XS.ifNo X0.here hx rfl (hb hby at_81) rfl ((if0 _ _).trans (feq hc81).1) ?_
  show Steps p.tables e below (T0.setTop (mkF m 84 #[s0, s1, s2, s3, .val (.int i4), s5, s6, s7, s8, s9, s10, s11, .val (.int i12), s13, s14, s15, s16, s17, s18] [])) _
  refine XS.iload X0.here hx rfl (hb hby at_84) rfl ?_
  show Steps p.tables e below (T0.setTop (mkF m 86 #[s0, s1, s2, s3, .val (.int i4), s5, s6, s7, s8, s9, s10, s11, .val (.int i12), s13, s14, s15, s16, s17, s18] [(.int i12)])) _
  refine XS.goto X0.here hx rfl (pc0 := 86) (pc' := 92) rfl (hb hby at_86) (by decide) (by decide) ?_
  exact kt
set_option maxRecDepth 65536 in
set_option maxHeartbeats 40000000 in
theorem p81 {p : Program} {l : Launch} {e : Env} {R : Room} {s : State} {m : MethodId} {args : Array Value} {below : List Frame} {meth : Method} {c : Code} {T0 : State} {locs : List Loc} {cells slots : Nat} {Z : State} {a0 : Array Value} {h0 : Heap} (s0 : Slot) (s1 : Slot) (s2 : Slot) (s3 : Slot) (s5 : Slot) (s6 : Slot) (s7 : Slot) (s8 : Slot) (s9 : Slot) (s10 : Slot) (s11 : Slot) (s13 : Slot) (s14 : Slot) (s15 : Slot) (s16 : Slot) (s17 : Slot) (s18 : Slot) (i4 : Int32) (i12 : Int32)
    (X0 : Stand p l e R s m args below meth c T0 locs cells slots) (hx : p.tables.exec = Jvm.exec) (hZ : Z.Warmed39 s.vm) (hw : ∀ d ∈ tables_1, d.before a0 Z = true) (hby : c.code = code) (hml : c.maxLocals = 19) (hown : s.vm.findClass "com/example/chunkwell/chunkwell/codecs/RowCopiesEachByteIsPinLaw" = some m.cls) (e0 : T0.heap = h0) :
    ∀ target, Steps p.tables e below (T0.setTop (mkF m 92 #[s0, s1, s2, s3, .val (.int i4), s5, s6, s7, s8, s9, s10, s11, .val (.int i12), s13, s14, s15, s16, s17, s18] [(.int (own_pb i4 i12))])) target → Steps p.tables e below (T0.setTop (mkF m 74 #[s0, s1, s2, s3, .val (.int i4), s5, s6, s7, s8, s9, s10, s11, .val (.int i12), s13, s14, s15, s16, s17, s18] [])) target := by
  unfold own_pb
  by_cases h : (((i4.toUInt32 >>> ((8 : Int32) &&& 31).toUInt32).toInt32) &&& (1 : Int32)) = (0 : Int32)
  · rw [if_pos h]
    exact p81a s0 s1 s2 s3 s5 s6 s7 s8 s9 s10 s11 s13 s14 s15 s16 s17 s18 i4 i12 X0 hx hZ hw hby hml hown e0 h
  · rw [if_neg h]
    exact p81b s0 s1 s2 s3 s5 s6 s7 s8 s9 s10 s11 s13 s14 s15 s16 s17 s18 i4 i12 X0 hx hZ hw hby hml hown e0 h
set_option maxRecDepth 65536 in
set_option maxHeartbeats 40000000 in
theorem px_tt {p : Program} {l : Launch} {e : Env} {R : Room} {s : State} {m : MethodId} {args : Array Value} {below : List Frame} {meth : Method} {c : Code} {T0 : State} {locs : List Loc} {cells slots : Nat} {Z : State} {a0 : Array Value} {h0 : Heap} (s0 : Slot) (s1 : Slot) (s2 : Slot) (s3 : Slot) (s4 : Slot) (s5 : Slot) (s6 : Slot) (s7 : Slot) (s8 : Slot) (s9 : Slot) (s10 : Slot) (s11 : Slot) (s15 : Slot) (s16 : Slot) (s18 : Slot) (i12 : Int32) (i13 : Int32) (i14 : Int32) (i17 : Int32)
    (X0 : Stand p l e R s m args below meth c T0 locs cells slots) (hx : p.tables.exec = Jvm.exec) (hZ : Z.Warmed39 s.vm) (hw : ∀ d ∈ tables_1, d.before a0 Z = true) (hby : c.code = code) (hml : c.maxLocals = 19) (hown : s.vm.findClass "com/example/chunkwell/chunkwell/codecs/RowCopiesEachByteIsPinLaw" = some m.cls) (e0 : T0.heap = h0) (hc595 : (i17 &&& (1 : Int32)) = (0 : Int32)) (hc609 : (i17 &&& (2 : Int32)) = (0 : Int32)) :
    ∀ target, Steps p.tables e below (T0.setTop (mkF m 624 #[s0, s1, s2, s3, s4, s5, s6, s7, s8, s9, s10, s11, .val (.int i12), .val (.int i13), .val (.int i14), s15, s16, .val (.int i17), s18] [(.int (1 : Int32))])) target → Steps p.tables e below (T0.setTop (mkF m 591 #[s0, s1, s2, s3, s4, s5, s6, s7, s8, s9, s10, s11, .val (.int i12), .val (.int i13), .val (.int i14), s15, s16, .val (.int i17), s18] [])) target := by

  intro target kt
  show Steps p.tables e below (T0.setTop (mkF m 591 #[s0, s1, s2, s3, s4, s5, s6, s7, s8, s9, s10, s11, .val (.int i12), .val (.int i13), .val (.int i14), s15, s16, .val (.int i17), s18] [])) _
  refine XS.iload X0.here hx rfl (hb hby at_591) rfl ?_
  show Steps p.tables e below (T0.setTop (mkF m 593 #[s0, s1, s2, s3, s4, s5, s6, s7, s8, s9, s10, s11, .val (.int i12), .val (.int i13), .val (.int i14), s15, s16, .val (.int i17), s18] [(.int i17)])) _
  refine XS.iconst X0.here hx rfl (hb hby at_593) ?_
  show Steps p.tables e below (T0.setTop (mkF m 594 #[s0, s1, s2, s3, s4, s5, s6, s7, s8, s9, s10, s11, .val (.int i12), .val (.int i13), .val (.int i14), s15, s16, .val (.int i17), s18] [(.int (1 : Int32)), (.int i17)])) _
  refine XS.iand X0.here hx rfl (hb hby at_594) rfl ?_
  show Steps p.tables e below (T0.setTop (mkF m 595 #[s0, s1, s2, s3, s4, s5, s6, s7, s8, s9, s10, s11, .val (.int i12), .val (.int i13), .val (.int i14), s15, s16, .val (.int i17), s18] [(.int (i17 &&& (1 : Int32)))])) _
  refine XS.ifYes X0.here hx rfl (pc0 := 595) (pc' := 605) rfl (hb hby at_595) rfl ((if0 _ _).trans (teq hc595).1) (by decide) (by decide) ?_
  show Steps p.tables e below (T0.setTop (mkF m 605 #[s0, s1, s2, s3, s4, s5, s6, s7, s8, s9, s10, s11, .val (.int i12), .val (.int i13), .val (.int i14), s15, s16, .val (.int i17), s18] [])) _
  refine XS.iload X0.here hx rfl (hb hby at_605) rfl ?_
  show Steps p.tables e below (T0.setTop (mkF m 607 #[s0, s1, s2, s3, s4, s5, s6, s7, s8, s9, s10, s11, .val (.int i12), .val (.int i13), .val (.int i14), s15, s16, .val (.int i17), s18] [(.int i17)])) _
  refine XS.iconst X0.here hx rfl (hb hby at_607) ?_
  show Steps p.tables e below (T0.setTop (mkF m 608 #[s0, s1, s2, s3, s4, s5, s6, s7, s8, s9, s10, s11, .val (.int i12), .val (.int i13), .val (.int i14), s15, s16, .val (.int i17), s18] [(.int (2 : Int32)), (.int i17)])) _
  refine XS.iand X0.here hx rfl (hb hby at_608) rfl ?_
  show Steps p.tables e below (T0.setTop (mkF m 609 #[s0, s1, s2, s3, s4, s5, s6, s7, s8, s9, s10, s11, .val (.int i12), .val (.int i13), .val (.int i14), s15, s16, .val (.int i17), s18] [(.int (i17 &&& (2 : Int32)))])) _
  refine XS.ifYes X0.here hx rfl (pc0 := 609) (pc' := 619) rfl (hb hby at_609) rfl ((if0 _ _).trans (teq hc609).1) (by decide) (by decide) ?_
  show Steps p.tables e below (T0.setTop (mkF m 619 #[s0, s1, s2, s3, s4, s5, s6, s7, s8, s9, s10, s11, .val (.int i12), .val (.int i13), .val (.int i14), s15, s16, .val (.int i17), s18] [])) _
  refine XS.iconst X0.here hx rfl (hb hby at_619) ?_
  show Steps p.tables e below (T0.setTop (mkF m 620 #[s0, s1, s2, s3, s4, s5, s6, s7, s8, s9, s10, s11, .val (.int i12), .val (.int i13), .val (.int i14), s15, s16, .val (.int i17), s18] [(.int (1 : Int32))])) _
  refine XS.goto X0.here hx rfl (pc0 := 620) (pc' := 624) rfl (hb hby at_620) (by decide) (by decide) ?_
  exact kt
set_option maxRecDepth 65536 in
set_option maxHeartbeats 40000000 in
theorem px_tff {p : Program} {l : Launch} {e : Env} {R : Room} {s : State} {m : MethodId} {args : Array Value} {below : List Frame} {meth : Method} {c : Code} {T0 : State} {locs : List Loc} {cells slots : Nat} {Z : State} {a0 : Array Value} {h0 : Heap} (s0 : Slot) (s1 : Slot) (s2 : Slot) (s3 : Slot) (s4 : Slot) (s5 : Slot) (s6 : Slot) (s7 : Slot) (s8 : Slot) (s9 : Slot) (s10 : Slot) (s11 : Slot) (s15 : Slot) (s16 : Slot) (s18 : Slot) (i12 : Int32) (i13 : Int32) (i14 : Int32) (i17 : Int32)
    (X0 : Stand p l e R s m args below meth c T0 locs cells slots) (hx : p.tables.exec = Jvm.exec) (hZ : Z.Warmed39 s.vm) (hw : ∀ d ∈ tables_1, d.before a0 Z = true) (hby : c.code = code) (hml : c.maxLocals = 19) (hown : s.vm.findClass "com/example/chunkwell/chunkwell/codecs/RowCopiesEachByteIsPinLaw" = some m.cls) (e0 : T0.heap = h0) (hc595 : (i17 &&& (1 : Int32)) = (0 : Int32)) (hc609 : ¬ ((i17 &&& (2 : Int32)) = (0 : Int32))) (hc616 : i13 = i12) :
    ∀ target, Steps p.tables e below (T0.setTop (mkF m 624 #[s0, s1, s2, s3, s4, s5, s6, s7, s8, s9, s10, s11, .val (.int i12), .val (.int i13), .val (.int i14), s15, s16, .val (.int i17), s18] [(.int (1 : Int32))])) target → Steps p.tables e below (T0.setTop (mkF m 591 #[s0, s1, s2, s3, s4, s5, s6, s7, s8, s9, s10, s11, .val (.int i12), .val (.int i13), .val (.int i14), s15, s16, .val (.int i17), s18] [])) target := by

  intro target kt
  show Steps p.tables e below (T0.setTop (mkF m 591 #[s0, s1, s2, s3, s4, s5, s6, s7, s8, s9, s10, s11, .val (.int i12), .val (.int i13), .val (.int i14), s15, s16, .val (.int i17), s18] [])) _
  refine XS.iload X0.here hx rfl (hb hby at_591) rfl ?_
  show Steps p.tables e below (T0.setTop (mkF m 593 #[s0, s1, s2, s3, s4, s5, s6, s7, s8, s9, s10, s11, .val (.int i12), .val (.int i13), .val (.int i14), s15, s16, .val (.int i17), s18] [(.int i17)])) _
  refine XS.iconst X0.here hx rfl (hb hby at_593) ?_
  show Steps p.tables e below (T0.setTop (mkF m 594 #[s0, s1, s2, s3, s4, s5, s6, s7, s8, s9, s10, s11, .val (.int i12), .val (.int i13), .val (.int i14), s15, s16, .val (.int i17), s18] [(.int (1 : Int32)), (.int i17)])) _
  refine XS.iand X0.here hx rfl (hb hby at_594) rfl ?_
  show Steps p.tables e below (T0.setTop (mkF m 595 #[s0, s1, s2, s3, s4, s5, s6, s7, s8, s9, s10, s11, .val (.int i12), .val (.int i13), .val (.int i14), s15, s16, .val (.int i17), s18] [(.int (i17 &&& (1 : Int32)))])) _
  refine XS.ifYes X0.here hx rfl (pc0 := 595) (pc' := 605) rfl (hb hby at_595) rfl ((if0 _ _).trans (teq hc595).1) (by decide) (by decide) ?_
  show Steps p.tables e below (T0.setTop (mkF m 605 #[s0, s1, s2, s3, s4, s5, s6, s7, s8, s9, s10, s11, .val (.int i12), .val (.int i13), .val (.int i14), s15, s16, .val (.int i17), s18] [])) _
  refine XS.iload X0.here hx rfl (hb hby at_605) rfl ?_
  show Steps p.tables e below (T0.setTop (mkF m 607 #[s0, s1, s2, s3, s4, s5, s6, s7, s8, s9, s10, s11, .val (.int i12), .val (.int i13), .val (.int i14), s15, s16, .val (.int i17), s18] [(.int i17)])) _
  refine XS.iconst X0.here hx rfl (hb hby at_607) ?_
  show Steps p.tables e below (T0.setTop (mkF m 608 #[s0, s1, s2, s3, s4, s5, s6, s7, s8, s9, s10, s11, .val (.int i12), .val (.int i13), .val (.int i14), s15, s16, .val (.int i17), s18] [(.int (2 : Int32)), (.int i17)])) _
  refine XS.iand X0.here hx rfl (hb hby at_608) rfl ?_
  show Steps p.tables e below (T0.setTop (mkF m 609 #[s0, s1, s2, s3, s4, s5, s6, s7, s8, s9, s10, s11, .val (.int i12), .val (.int i13), .val (.int i14), s15, s16, .val (.int i17), s18] [(.int (i17 &&& (2 : Int32)))])) _
  refine XS.ifNo X0.here hx rfl (hb hby at_609) rfl ((if0 _ _).trans (feq hc609).1) ?_
  show Steps p.tables e below (T0.setTop (mkF m 612 #[s0, s1, s2, s3, s4, s5, s6, s7, s8, s9, s10, s11, .val (.int i12), .val (.int i13), .val (.int i14), s15, s16, .val (.int i17), s18] [])) _
  refine XS.iload X0.here hx rfl (hb hby at_612) rfl ?_
  show Steps p.tables e below (T0.setTop (mkF m 614 #[s0, s1, s2, s3, s4, s5, s6, s7, s8, s9, s10, s11, .val (.int i12), .val (.int i13), .val (.int i14), s15, s16, .val (.int i17), s18] [(.int i13)])) _
  refine XS.iload X0.here hx rfl (hb hby at_614) rfl ?_
  show Steps p.tables e below (T0.setTop (mkF m 616 #[s0, s1, s2, s3, s4, s5, s6, s7, s8, s9, s10, s11, .val (.int i12), .val (.int i13), .val (.int i14), s15, s16, .val (.int i17), s18] [(.int i12), (.int i13)])) _
  refine XS.icmpNo X0.here hx rfl (hb hby at_616) rfl (teq hc616).2 ?_
  show Steps p.tables e below (T0.setTop (mkF m 619 #[s0, s1, s2, s3, s4, s5, s6, s7, s8, s9, s10, s11, .val (.int i12), .val (.int i13), .val (.int i14), s15, s16, .val (.int i17), s18] [])) _
  refine XS.iconst X0.here hx rfl (hb hby at_619) ?_
  show Steps p.tables e below (T0.setTop (mkF m 620 #[s0, s1, s2, s3, s4, s5, s6, s7, s8, s9, s10, s11, .val (.int i12), .val (.int i13), .val (.int i14), s15, s16, .val (.int i17), s18] [(.int (1 : Int32))])) _
  refine XS.goto X0.here hx rfl (pc0 := 620) (pc' := 624) rfl (hb hby at_620) (by decide) (by decide) ?_
  exact kt
set_option maxRecDepth 65536 in
set_option maxHeartbeats 40000000 in
theorem px_tft {p : Program} {l : Launch} {e : Env} {R : Room} {s : State} {m : MethodId} {args : Array Value} {below : List Frame} {meth : Method} {c : Code} {T0 : State} {locs : List Loc} {cells slots : Nat} {Z : State} {a0 : Array Value} {h0 : Heap} (s0 : Slot) (s1 : Slot) (s2 : Slot) (s3 : Slot) (s4 : Slot) (s5 : Slot) (s6 : Slot) (s7 : Slot) (s8 : Slot) (s9 : Slot) (s10 : Slot) (s11 : Slot) (s15 : Slot) (s16 : Slot) (s18 : Slot) (i12 : Int32) (i13 : Int32) (i14 : Int32) (i17 : Int32)
    (X0 : Stand p l e R s m args below meth c T0 locs cells slots) (hx : p.tables.exec = Jvm.exec) (hZ : Z.Warmed39 s.vm) (hw : ∀ d ∈ tables_1, d.before a0 Z = true) (hby : c.code = code) (hml : c.maxLocals = 19) (hown : s.vm.findClass "com/example/chunkwell/chunkwell/codecs/RowCopiesEachByteIsPinLaw" = some m.cls) (e0 : T0.heap = h0) (hc595 : (i17 &&& (1 : Int32)) = (0 : Int32)) (hc609 : ¬ ((i17 &&& (2 : Int32)) = (0 : Int32))) (hc616 : ¬ (i13 = i12)) :
    ∀ target, Steps p.tables e below (T0.setTop (mkF m 624 #[s0, s1, s2, s3, s4, s5, s6, s7, s8, s9, s10, s11, .val (.int i12), .val (.int i13), .val (.int i14), s15, s16, .val (.int i17), s18] [(.int (0 : Int32))])) target → Steps p.tables e below (T0.setTop (mkF m 591 #[s0, s1, s2, s3, s4, s5, s6, s7, s8, s9, s10, s11, .val (.int i12), .val (.int i13), .val (.int i14), s15, s16, .val (.int i17), s18] [])) target := by

  intro target kt
  show Steps p.tables e below (T0.setTop (mkF m 591 #[s0, s1, s2, s3, s4, s5, s6, s7, s8, s9, s10, s11, .val (.int i12), .val (.int i13), .val (.int i14), s15, s16, .val (.int i17), s18] [])) _
  refine XS.iload X0.here hx rfl (hb hby at_591) rfl ?_
  show Steps p.tables e below (T0.setTop (mkF m 593 #[s0, s1, s2, s3, s4, s5, s6, s7, s8, s9, s10, s11, .val (.int i12), .val (.int i13), .val (.int i14), s15, s16, .val (.int i17), s18] [(.int i17)])) _
  refine XS.iconst X0.here hx rfl (hb hby at_593) ?_
  show Steps p.tables e below (T0.setTop (mkF m 594 #[s0, s1, s2, s3, s4, s5, s6, s7, s8, s9, s10, s11, .val (.int i12), .val (.int i13), .val (.int i14), s15, s16, .val (.int i17), s18] [(.int (1 : Int32)), (.int i17)])) _
  refine XS.iand X0.here hx rfl (hb hby at_594) rfl ?_
  show Steps p.tables e below (T0.setTop (mkF m 595 #[s0, s1, s2, s3, s4, s5, s6, s7, s8, s9, s10, s11, .val (.int i12), .val (.int i13), .val (.int i14), s15, s16, .val (.int i17), s18] [(.int (i17 &&& (1 : Int32)))])) _
  refine XS.ifYes X0.here hx rfl (pc0 := 595) (pc' := 605) rfl (hb hby at_595) rfl ((if0 _ _).trans (teq hc595).1) (by decide) (by decide) ?_
  show Steps p.tables e below (T0.setTop (mkF m 605 #[s0, s1, s2, s3, s4, s5, s6, s7, s8, s9, s10, s11, .val (.int i12), .val (.int i13), .val (.int i14), s15, s16, .val (.int i17), s18] [])) _
  refine XS.iload X0.here hx rfl (hb hby at_605) rfl ?_
  show Steps p.tables e below (T0.setTop (mkF m 607 #[s0, s1, s2, s3, s4, s5, s6, s7, s8, s9, s10, s11, .val (.int i12), .val (.int i13), .val (.int i14), s15, s16, .val (.int i17), s18] [(.int i17)])) _
  refine XS.iconst X0.here hx rfl (hb hby at_607) ?_
  show Steps p.tables e below (T0.setTop (mkF m 608 #[s0, s1, s2, s3, s4, s5, s6, s7, s8, s9, s10, s11, .val (.int i12), .val (.int i13), .val (.int i14), s15, s16, .val (.int i17), s18] [(.int (2 : Int32)), (.int i17)])) _
  refine XS.iand X0.here hx rfl (hb hby at_608) rfl ?_
  show Steps p.tables e below (T0.setTop (mkF m 609 #[s0, s1, s2, s3, s4, s5, s6, s7, s8, s9, s10, s11, .val (.int i12), .val (.int i13), .val (.int i14), s15, s16, .val (.int i17), s18] [(.int (i17 &&& (2 : Int32)))])) _
  refine XS.ifNo X0.here hx rfl (hb hby at_609) rfl ((if0 _ _).trans (feq hc609).1) ?_
  show Steps p.tables e below (T0.setTop (mkF m 612 #[s0, s1, s2, s3, s4, s5, s6, s7, s8, s9, s10, s11, .val (.int i12), .val (.int i13), .val (.int i14), s15, s16, .val (.int i17), s18] [])) _
  refine XS.iload X0.here hx rfl (hb hby at_612) rfl ?_
  show Steps p.tables e below (T0.setTop (mkF m 614 #[s0, s1, s2, s3, s4, s5, s6, s7, s8, s9, s10, s11, .val (.int i12), .val (.int i13), .val (.int i14), s15, s16, .val (.int i17), s18] [(.int i13)])) _
  refine XS.iload X0.here hx rfl (hb hby at_614) rfl ?_
  show Steps p.tables e below (T0.setTop (mkF m 616 #[s0, s1, s2, s3, s4, s5, s6, s7, s8, s9, s10, s11, .val (.int i12), .val (.int i13), .val (.int i14), s15, s16, .val (.int i17), s18] [(.int i12), (.int i13)])) _
  refine XS.icmpYes X0.here hx rfl (pc0 := 616) (pc' := 623) rfl (hb hby at_616) rfl (feq hc616).2 (by decide) (by decide) ?_
  show Steps p.tables e below (T0.setTop (mkF m 623 #[s0, s1, s2, s3, s4, s5, s6, s7, s8, s9, s10, s11, .val (.int i12), .val (.int i13), .val (.int i14), s15, s16, .val (.int i17), s18] [])) _
  refine XS.iconst X0.here hx rfl (hb hby at_623) ?_
  exact kt
set_option maxRecDepth 65536 in
set_option maxHeartbeats 40000000 in
theorem px_ft {p : Program} {l : Launch} {e : Env} {R : Room} {s : State} {m : MethodId} {args : Array Value} {below : List Frame} {meth : Method} {c : Code} {T0 : State} {locs : List Loc} {cells slots : Nat} {Z : State} {a0 : Array Value} {h0 : Heap} (s0 : Slot) (s1 : Slot) (s2 : Slot) (s3 : Slot) (s4 : Slot) (s5 : Slot) (s6 : Slot) (s7 : Slot) (s8 : Slot) (s9 : Slot) (s10 : Slot) (s11 : Slot) (s15 : Slot) (s16 : Slot) (s18 : Slot) (i12 : Int32) (i13 : Int32) (i14 : Int32) (i17 : Int32)
    (X0 : Stand p l e R s m args below meth c T0 locs cells slots) (hx : p.tables.exec = Jvm.exec) (hZ : Z.Warmed39 s.vm) (hw : ∀ d ∈ tables_1, d.before a0 Z = true) (hby : c.code = code) (hml : c.maxLocals = 19) (hown : s.vm.findClass "com/example/chunkwell/chunkwell/codecs/RowCopiesEachByteIsPinLaw" = some m.cls) (e0 : T0.heap = h0) (hc595 : ¬ ((i17 &&& (1 : Int32)) = (0 : Int32))) (hc602 : ¬ (i14 = i12)) :
    ∀ target, Steps p.tables e below (T0.setTop (mkF m 624 #[s0, s1, s2, s3, s4, s5, s6, s7, s8, s9, s10, s11, .val (.int i12), .val (.int i13), .val (.int i14), s15, s16, .val (.int i17), s18] [(.int (0 : Int32))])) target → Steps p.tables e below (T0.setTop (mkF m 591 #[s0, s1, s2, s3, s4, s5, s6, s7, s8, s9, s10, s11, .val (.int i12), .val (.int i13), .val (.int i14), s15, s16, .val (.int i17), s18] [])) target := by

  intro target kt
  show Steps p.tables e below (T0.setTop (mkF m 591 #[s0, s1, s2, s3, s4, s5, s6, s7, s8, s9, s10, s11, .val (.int i12), .val (.int i13), .val (.int i14), s15, s16, .val (.int i17), s18] [])) _
  refine XS.iload X0.here hx rfl (hb hby at_591) rfl ?_
  show Steps p.tables e below (T0.setTop (mkF m 593 #[s0, s1, s2, s3, s4, s5, s6, s7, s8, s9, s10, s11, .val (.int i12), .val (.int i13), .val (.int i14), s15, s16, .val (.int i17), s18] [(.int i17)])) _
  refine XS.iconst X0.here hx rfl (hb hby at_593) ?_
  show Steps p.tables e below (T0.setTop (mkF m 594 #[s0, s1, s2, s3, s4, s5, s6, s7, s8, s9, s10, s11, .val (.int i12), .val (.int i13), .val (.int i14), s15, s16, .val (.int i17), s18] [(.int (1 : Int32)), (.int i17)])) _
  refine XS.iand X0.here hx rfl (hb hby at_594) rfl ?_
  show Steps p.tables e below (T0.setTop (mkF m 595 #[s0, s1, s2, s3, s4, s5, s6, s7, s8, s9, s10, s11, .val (.int i12), .val (.int i13), .val (.int i14), s15, s16, .val (.int i17), s18] [(.int (i17 &&& (1 : Int32)))])) _
  refine XS.ifNo X0.here hx rfl (hb hby at_595) rfl ((if0 _ _).trans (feq hc595).1) ?_
  show Steps p.tables e below (T0.setTop (mkF m 598 #[s0, s1, s2, s3, s4, s5, s6, s7, s8, s9, s10, s11, .val (.int i12), .val (.int i13), .val (.int i14), s15, s16, .val (.int i17), s18] [])) _
  refine XS.iload X0.here hx rfl (hb hby at_598) rfl ?_
  show Steps p.tables e below (T0.setTop (mkF m 600 #[s0, s1, s2, s3, s4, s5, s6, s7, s8, s9, s10, s11, .val (.int i12), .val (.int i13), .val (.int i14), s15, s16, .val (.int i17), s18] [(.int i14)])) _
  refine XS.iload X0.here hx rfl (hb hby at_600) rfl ?_
  show Steps p.tables e below (T0.setTop (mkF m 602 #[s0, s1, s2, s3, s4, s5, s6, s7, s8, s9, s10, s11, .val (.int i12), .val (.int i13), .val (.int i14), s15, s16, .val (.int i17), s18] [(.int i12), (.int i14)])) _
  refine XS.icmpYes X0.here hx rfl (pc0 := 602) (pc' := 623) rfl (hb hby at_602) rfl (feq hc602).2 (by decide) (by decide) ?_
  show Steps p.tables e below (T0.setTop (mkF m 623 #[s0, s1, s2, s3, s4, s5, s6, s7, s8, s9, s10, s11, .val (.int i12), .val (.int i13), .val (.int i14), s15, s16, .val (.int i17), s18] [])) _
  refine XS.iconst X0.here hx rfl (hb hby at_623) ?_
  exact kt
set_option maxRecDepth 65536 in
set_option maxHeartbeats 40000000 in
theorem px_fft {p : Program} {l : Launch} {e : Env} {R : Room} {s : State} {m : MethodId} {args : Array Value} {below : List Frame} {meth : Method} {c : Code} {T0 : State} {locs : List Loc} {cells slots : Nat} {Z : State} {a0 : Array Value} {h0 : Heap} (s0 : Slot) (s1 : Slot) (s2 : Slot) (s3 : Slot) (s4 : Slot) (s5 : Slot) (s6 : Slot) (s7 : Slot) (s8 : Slot) (s9 : Slot) (s10 : Slot) (s11 : Slot) (s15 : Slot) (s16 : Slot) (s18 : Slot) (i12 : Int32) (i13 : Int32) (i14 : Int32) (i17 : Int32)
    (X0 : Stand p l e R s m args below meth c T0 locs cells slots) (hx : p.tables.exec = Jvm.exec) (hZ : Z.Warmed39 s.vm) (hw : ∀ d ∈ tables_1, d.before a0 Z = true) (hby : c.code = code) (hml : c.maxLocals = 19) (hown : s.vm.findClass "com/example/chunkwell/chunkwell/codecs/RowCopiesEachByteIsPinLaw" = some m.cls) (e0 : T0.heap = h0) (hc595 : ¬ ((i17 &&& (1 : Int32)) = (0 : Int32))) (hc602 : i14 = i12) (hc609 : (i17 &&& (2 : Int32)) = (0 : Int32)) :
    ∀ target, Steps p.tables e below (T0.setTop (mkF m 624 #[s0, s1, s2, s3, s4, s5, s6, s7, s8, s9, s10, s11, .val (.int i12), .val (.int i13), .val (.int i14), s15, s16, .val (.int i17), s18] [(.int (1 : Int32))])) target → Steps p.tables e below (T0.setTop (mkF m 591 #[s0, s1, s2, s3, s4, s5, s6, s7, s8, s9, s10, s11, .val (.int i12), .val (.int i13), .val (.int i14), s15, s16, .val (.int i17), s18] [])) target := by

  intro target kt
  show Steps p.tables e below (T0.setTop (mkF m 591 #[s0, s1, s2, s3, s4, s5, s6, s7, s8, s9, s10, s11, .val (.int i12), .val (.int i13), .val (.int i14), s15, s16, .val (.int i17), s18] [])) _
  refine XS.iload X0.here hx rfl (hb hby at_591) rfl ?_
  show Steps p.tables e below (T0.setTop (mkF m 593 #[s0, s1, s2, s3, s4, s5, s6, s7, s8, s9, s10, s11, .val (.int i12), .val (.int i13), .val (.int i14), s15, s16, .val (.int i17), s18] [(.int i17)])) _
  refine XS.iconst X0.here hx rfl (hb hby at_593) ?_
  show Steps p.tables e below (T0.setTop (mkF m 594 #[s0, s1, s2, s3, s4, s5, s6, s7, s8, s9, s10, s11, .val (.int i12), .val (.int i13), .val (.int i14), s15, s16, .val (.int i17), s18] [(.int (1 : Int32)), (.int i17)])) _
  refine XS.iand X0.here hx rfl (hb hby at_594) rfl ?_
  show Steps p.tables e below (T0.setTop (mkF m 595 #[s0, s1, s2, s3, s4, s5, s6, s7, s8, s9, s10, s11, .val (.int i12), .val (.int i13), .val (.int i14), s15, s16, .val (.int i17), s18] [(.int (i17 &&& (1 : Int32)))])) _
  refine XS.ifNo X0.here hx rfl (hb hby at_595) rfl ((if0 _ _).trans (feq hc595).1) ?_
  show Steps p.tables e below (T0.setTop (mkF m 598 #[s0, s1, s2, s3, s4, s5, s6, s7, s8, s9, s10, s11, .val (.int i12), .val (.int i13), .val (.int i14), s15, s16, .val (.int i17), s18] [])) _
  refine XS.iload X0.here hx rfl (hb hby at_598) rfl ?_
  show Steps p.tables e below (T0.setTop (mkF m 600 #[s0, s1, s2, s3, s4, s5, s6, s7, s8, s9, s10, s11, .val (.int i12), .val (.int i13), .val (.int i14), s15, s16, .val (.int i17), s18] [(.int i14)])) _
  refine XS.iload X0.here hx rfl (hb hby at_600) rfl ?_
  show Steps p.tables e below (T0.setTop (mkF m 602 #[s0, s1, s2, s3, s4, s5, s6, s7, s8, s9, s10, s11, .val (.int i12), .val (.int i13), .val (.int i14), s15, s16, .val (.int i17), s18] [(.int i12), (.int i14)])) _
  refine XS.icmpNo X0.here hx rfl (hb hby at_602) rfl (teq hc602).2 ?_
  show Steps p.tables e below (T0.setTop (mkF m 605 #[s0, s1, s2, s3, s4, s5, s6, s7, s8, s9, s10, s11, .val (.int i12), .val (.int i13), .val (.int i14), s15, s16, .val (.int i17), s18] [])) _
  refine XS.iload X0.here hx rfl (hb hby at_605) rfl ?_
  show Steps p.tables e below (T0.setTop (mkF m 607 #[s0, s1, s2, s3, s4, s5, s6, s7, s8, s9, s10, s11, .val (.int i12), .val (.int i13), .val (.int i14), s15, s16, .val (.int i17), s18] [(.int i17)])) _
  refine XS.iconst X0.here hx rfl (hb hby at_607) ?_
  show Steps p.tables e below (T0.setTop (mkF m 608 #[s0, s1, s2, s3, s4, s5, s6, s7, s8, s9, s10, s11, .val (.int i12), .val (.int i13), .val (.int i14), s15, s16, .val (.int i17), s18] [(.int (2 : Int32)), (.int i17)])) _
  refine XS.iand X0.here hx rfl (hb hby at_608) rfl ?_
  show Steps p.tables e below (T0.setTop (mkF m 609 #[s0, s1, s2, s3, s4, s5, s6, s7, s8, s9, s10, s11, .val (.int i12), .val (.int i13), .val (.int i14), s15, s16, .val (.int i17), s18] [(.int (i17 &&& (2 : Int32)))])) _
  refine XS.ifYes X0.here hx rfl (pc0 := 609) (pc' := 619) rfl (hb hby at_609) rfl ((if0 _ _).trans (teq hc609).1) (by decide) (by decide) ?_
  show Steps p.tables e below (T0.setTop (mkF m 619 #[s0, s1, s2, s3, s4, s5, s6, s7, s8, s9, s10, s11, .val (.int i12), .val (.int i13), .val (.int i14), s15, s16, .val (.int i17), s18] [])) _
  refine XS.iconst X0.here hx rfl (hb hby at_619) ?_
  show Steps p.tables e below (T0.setTop (mkF m 620 #[s0, s1, s2, s3, s4, s5, s6, s7, s8, s9, s10, s11, .val (.int i12), .val (.int i13), .val (.int i14), s15, s16, .val (.int i17), s18] [(.int (1 : Int32))])) _
  refine XS.goto X0.here hx rfl (pc0 := 620) (pc' := 624) rfl (hb hby at_620) (by decide) (by decide) ?_
  exact kt
set_option maxRecDepth 65536 in
set_option maxHeartbeats 40000000 in
theorem px_ffff {p : Program} {l : Launch} {e : Env} {R : Room} {s : State} {m : MethodId} {args : Array Value} {below : List Frame} {meth : Method} {c : Code} {T0 : State} {locs : List Loc} {cells slots : Nat} {Z : State} {a0 : Array Value} {h0 : Heap} (s0 : Slot) (s1 : Slot) (s2 : Slot) (s3 : Slot) (s4 : Slot) (s5 : Slot) (s6 : Slot) (s7 : Slot) (s8 : Slot) (s9 : Slot) (s10 : Slot) (s11 : Slot) (s15 : Slot) (s16 : Slot) (s18 : Slot) (i12 : Int32) (i13 : Int32) (i14 : Int32) (i17 : Int32)
    (X0 : Stand p l e R s m args below meth c T0 locs cells slots) (hx : p.tables.exec = Jvm.exec) (hZ : Z.Warmed39 s.vm) (hw : ∀ d ∈ tables_1, d.before a0 Z = true) (hby : c.code = code) (hml : c.maxLocals = 19) (hown : s.vm.findClass "com/example/chunkwell/chunkwell/codecs/RowCopiesEachByteIsPinLaw" = some m.cls) (e0 : T0.heap = h0) (hc595 : ¬ ((i17 &&& (1 : Int32)) = (0 : Int32))) (hc602 : i14 = i12) (hc609 : ¬ ((i17 &&& (2 : Int32)) = (0 : Int32))) (hc616 : i13 = i12) :
    ∀ target, Steps p.tables e below (T0.setTop (mkF m 624 #[s0, s1, s2, s3, s4, s5, s6, s7, s8, s9, s10, s11, .val (.int i12), .val (.int i13), .val (.int i14), s15, s16, .val (.int i17), s18] [(.int (1 : Int32))])) target → Steps p.tables e below (T0.setTop (mkF m 591 #[s0, s1, s2, s3, s4, s5, s6, s7, s8, s9, s10, s11, .val (.int i12), .val (.int i13), .val (.int i14), s15, s16, .val (.int i17), s18] [])) target := by

  intro target kt
  show Steps p.tables e below (T0.setTop (mkF m 591 #[s0, s1, s2, s3, s4, s5, s6, s7, s8, s9, s10, s11, .val (.int i12), .val (.int i13), .val (.int i14), s15, s16, .val (.int i17), s18] [])) _
  refine XS.iload X0.here hx rfl (hb hby at_591) rfl ?_
  show Steps p.tables e below (T0.setTop (mkF m 593 #[s0, s1, s2, s3, s4, s5, s6, s7, s8, s9, s10, s11, .val (.int i12), .val (.int i13), .val (.int i14), s15, s16, .val (.int i17), s18] [(.int i17)])) _
  refine XS.iconst X0.here hx rfl (hb hby at_593) ?_
  show Steps p.tables e below (T0.setTop (mkF m 594 #[s0, s1, s2, s3, s4, s5, s6, s7, s8, s9, s10, s11, .val (.int i12), .val (.int i13), .val (.int i14), s15, s16, .val (.int i17), s18] [(.int (1 : Int32)), (.int i17)])) _
  refine XS.iand X0.here hx rfl (hb hby at_594) rfl ?_
  show Steps p.tables e below (T0.setTop (mkF m 595 #[s0, s1, s2, s3, s4, s5, s6, s7, s8, s9, s10, s11, .val (.int i12), .val (.int i13), .val (.int i14), s15, s16, .val (.int i17), s18] [(.int (i17 &&& (1 : Int32)))])) _
  refine XS.ifNo X0.here hx rfl (hb hby at_595) rfl ((if0 _ _).trans (feq hc595).1) ?_
  show Steps p.tables e below (T0.setTop (mkF m 598 #[s0, s1, s2, s3, s4, s5, s6, s7, s8, s9, s10, s11, .val (.int i12), .val (.int i13), .val (.int i14), s15, s16, .val (.int i17), s18] [])) _
  refine XS.iload X0.here hx rfl (hb hby at_598) rfl ?_
  show Steps p.tables e below (T0.setTop (mkF m 600 #[s0, s1, s2, s3, s4, s5, s6, s7, s8, s9, s10, s11, .val (.int i12), .val (.int i13), .val (.int i14), s15, s16, .val (.int i17), s18] [(.int i14)])) _
  refine XS.iload X0.here hx rfl (hb hby at_600) rfl ?_
  show Steps p.tables e below (T0.setTop (mkF m 602 #[s0, s1, s2, s3, s4, s5, s6, s7, s8, s9, s10, s11, .val (.int i12), .val (.int i13), .val (.int i14), s15, s16, .val (.int i17), s18] [(.int i12), (.int i14)])) _
  refine XS.icmpNo X0.here hx rfl (hb hby at_602) rfl (teq hc602).2 ?_
  show Steps p.tables e below (T0.setTop (mkF m 605 #[s0, s1, s2, s3, s4, s5, s6, s7, s8, s9, s10, s11, .val (.int i12), .val (.int i13), .val (.int i14), s15, s16, .val (.int i17), s18] [])) _
  refine XS.iload X0.here hx rfl (hb hby at_605) rfl ?_
  show Steps p.tables e below (T0.setTop (mkF m 607 #[s0, s1, s2, s3, s4, s5, s6, s7, s8, s9, s10, s11, .val (.int i12), .val (.int i13), .val (.int i14), s15, s16, .val (.int i17), s18] [(.int i17)])) _
  refine XS.iconst X0.here hx rfl (hb hby at_607) ?_
  show Steps p.tables e below (T0.setTop (mkF m 608 #[s0, s1, s2, s3, s4, s5, s6, s7, s8, s9, s10, s11, .val (.int i12), .val (.int i13), .val (.int i14), s15, s16, .val (.int i17), s18] [(.int (2 : Int32)), (.int i17)])) _
  refine XS.iand X0.here hx rfl (hb hby at_608) rfl ?_
  show Steps p.tables e below (T0.setTop (mkF m 609 #[s0, s1, s2, s3, s4, s5, s6, s7, s8, s9, s10, s11, .val (.int i12), .val (.int i13), .val (.int i14), s15, s16, .val (.int i17), s18] [(.int (i17 &&& (2 : Int32)))])) _
  refine XS.ifNo X0.here hx rfl (hb hby at_609) rfl ((if0 _ _).trans (feq hc609).1) ?_
  show Steps p.tables e below (T0.setTop (mkF m 612 #[s0, s1, s2, s3, s4, s5, s6, s7, s8, s9, s10, s11, .val (.int i12), .val (.int i13), .val (.int i14), s15, s16, .val (.int i17), s18] [])) _
  refine XS.iload X0.here hx rfl (hb hby at_612) rfl ?_
  show Steps p.tables e below (T0.setTop (mkF m 614 #[s0, s1, s2, s3, s4, s5, s6, s7, s8, s9, s10, s11, .val (.int i12), .val (.int i13), .val (.int i14), s15, s16, .val (.int i17), s18] [(.int i13)])) _
  refine XS.iload X0.here hx rfl (hb hby at_614) rfl ?_
  show Steps p.tables e below (T0.setTop (mkF m 616 #[s0, s1, s2, s3, s4, s5, s6, s7, s8, s9, s10, s11, .val (.int i12), .val (.int i13), .val (.int i14), s15, s16, .val (.int i17), s18] [(.int i12), (.int i13)])) _
  refine XS.icmpNo X0.here hx rfl (hb hby at_616) rfl (teq hc616).2 ?_
  show Steps p.tables e below (T0.setTop (mkF m 619 #[s0, s1, s2, s3, s4, s5, s6, s7, s8, s9, s10, s11, .val (.int i12), .val (.int i13), .val (.int i14), s15, s16, .val (.int i17), s18] [])) _
  refine XS.iconst X0.here hx rfl (hb hby at_619) ?_
  show Steps p.tables e below (T0.setTop (mkF m 620 #[s0, s1, s2, s3, s4, s5, s6, s7, s8, s9, s10, s11, .val (.int i12), .val (.int i13), .val (.int i14), s15, s16, .val (.int i17), s18] [(.int (1 : Int32))])) _
  refine XS.goto X0.here hx rfl (pc0 := 620) (pc' := 624) rfl (hb hby at_620) (by decide) (by decide) ?_
  exact kt
set_option maxRecDepth 65536 in
set_option maxHeartbeats 40000000 in
theorem px_ffft {p : Program} {l : Launch} {e : Env} {R : Room} {s : State} {m : MethodId} {args : Array Value} {below : List Frame} {meth : Method} {c : Code} {T0 : State} {locs : List Loc} {cells slots : Nat} {Z : State} {a0 : Array Value} {h0 : Heap} (s0 : Slot) (s1 : Slot) (s2 : Slot) (s3 : Slot) (s4 : Slot) (s5 : Slot) (s6 : Slot) (s7 : Slot) (s8 : Slot) (s9 : Slot) (s10 : Slot) (s11 : Slot) (s15 : Slot) (s16 : Slot) (s18 : Slot) (i12 : Int32) (i13 : Int32) (i14 : Int32) (i17 : Int32)
    (X0 : Stand p l e R s m args below meth c T0 locs cells slots) (hx : p.tables.exec = Jvm.exec) (hZ : Z.Warmed39 s.vm) (hw : ∀ d ∈ tables_1, d.before a0 Z = true) (hby : c.code = code) (hml : c.maxLocals = 19) (hown : s.vm.findClass "com/example/chunkwell/chunkwell/codecs/RowCopiesEachByteIsPinLaw" = some m.cls) (e0 : T0.heap = h0) (hc595 : ¬ ((i17 &&& (1 : Int32)) = (0 : Int32))) (hc602 : i14 = i12) (hc609 : ¬ ((i17 &&& (2 : Int32)) = (0 : Int32))) (hc616 : ¬ (i13 = i12)) :
    ∀ target, Steps p.tables e below (T0.setTop (mkF m 624 #[s0, s1, s2, s3, s4, s5, s6, s7, s8, s9, s10, s11, .val (.int i12), .val (.int i13), .val (.int i14), s15, s16, .val (.int i17), s18] [(.int (0 : Int32))])) target → Steps p.tables e below (T0.setTop (mkF m 591 #[s0, s1, s2, s3, s4, s5, s6, s7, s8, s9, s10, s11, .val (.int i12), .val (.int i13), .val (.int i14), s15, s16, .val (.int i17), s18] [])) target := by

  intro target kt
  show Steps p.tables e below (T0.setTop (mkF m 591 #[s0, s1, s2, s3, s4, s5, s6, s7, s8, s9, s10, s11, .val (.int i12), .val (.int i13), .val (.int i14), s15, s16, .val (.int i17), s18] [])) _
  refine XS.iload X0.here hx rfl (hb hby at_591) rfl ?_
  show Steps p.tables e below (T0.setTop (mkF m 593 #[s0, s1, s2, s3, s4, s5, s6, s7, s8, s9, s10, s11, .val (.int i12), .val (.int i13), .val (.int i14), s15, s16, .val (.int i17), s18] [(.int i17)])) _
  refine XS.iconst X0.here hx rfl (hb hby at_593) ?_
  show Steps p.tables e below (T0.setTop (mkF m 594 #[s0, s1, s2, s3, s4, s5, s6, s7, s8, s9, s10, s11, .val (.int i12), .val (.int i13), .val (.int i14), s15, s16, .val (.int i17), s18] [(.int (1 : Int32)), (.int i17)])) _
  refine XS.iand X0.here hx rfl (hb hby at_594) rfl ?_
  show Steps p.tables e below (T0.setTop (mkF m 595 #[s0, s1, s2, s3, s4, s5, s6, s7, s8, s9, s10, s11, .val (.int i12), .val (.int i13), .val (.int i14), s15, s16, .val (.int i17), s18] [(.int (i17 &&& (1 : Int32)))])) _
  refine XS.ifNo X0.here hx rfl (hb hby at_595) rfl ((if0 _ _).trans (feq hc595).1) ?_
  show Steps p.tables e below (T0.setTop (mkF m 598 #[s0, s1, s2, s3, s4, s5, s6, s7, s8, s9, s10, s11, .val (.int i12), .val (.int i13), .val (.int i14), s15, s16, .val (.int i17), s18] [])) _
  refine XS.iload X0.here hx rfl (hb hby at_598) rfl ?_
  show Steps p.tables e below (T0.setTop (mkF m 600 #[s0, s1, s2, s3, s4, s5, s6, s7, s8, s9, s10, s11, .val (.int i12), .val (.int i13), .val (.int i14), s15, s16, .val (.int i17), s18] [(.int i14)])) _
  refine XS.iload X0.here hx rfl (hb hby at_600) rfl ?_
  show Steps p.tables e below (T0.setTop (mkF m 602 #[s0, s1, s2, s3, s4, s5, s6, s7, s8, s9, s10, s11, .val (.int i12), .val (.int i13), .val (.int i14), s15, s16, .val (.int i17), s18] [(.int i12), (.int i14)])) _
  refine XS.icmpNo X0.here hx rfl (hb hby at_602) rfl (teq hc602).2 ?_
  show Steps p.tables e below (T0.setTop (mkF m 605 #[s0, s1, s2, s3, s4, s5, s6, s7, s8, s9, s10, s11, .val (.int i12), .val (.int i13), .val (.int i14), s15, s16, .val (.int i17), s18] [])) _
  refine XS.iload X0.here hx rfl (hb hby at_605) rfl ?_
  show Steps p.tables e below (T0.setTop (mkF m 607 #[s0, s1, s2, s3, s4, s5, s6, s7, s8, s9, s10, s11, .val (.int i12), .val (.int i13), .val (.int i14), s15, s16, .val (.int i17), s18] [(.int i17)])) _
  refine XS.iconst X0.here hx rfl (hb hby at_607) ?_
  show Steps p.tables e below (T0.setTop (mkF m 608 #[s0, s1, s2, s3, s4, s5, s6, s7, s8, s9, s10, s11, .val (.int i12), .val (.int i13), .val (.int i14), s15, s16, .val (.int i17), s18] [(.int (2 : Int32)), (.int i17)])) _
  refine XS.iand X0.here hx rfl (hb hby at_608) rfl ?_
  show Steps p.tables e below (T0.setTop (mkF m 609 #[s0, s1, s2, s3, s4, s5, s6, s7, s8, s9, s10, s11, .val (.int i12), .val (.int i13), .val (.int i14), s15, s16, .val (.int i17), s18] [(.int (i17 &&& (2 : Int32)))])) _
  refine XS.ifNo X0.here hx rfl (hb hby at_609) rfl ((if0 _ _).trans (feq hc609).1) ?_
  show Steps p.tables e below (T0.setTop (mkF m 612 #[s0, s1, s2, s3, s4, s5, s6, s7, s8, s9, s10, s11, .val (.int i12), .val (.int i13), .val (.int i14), s15, s16, .val (.int i17), s18] [])) _
  refine XS.iload X0.here hx rfl (hb hby at_612) rfl ?_
  show Steps p.tables e below (T0.setTop (mkF m 614 #[s0, s1, s2, s3, s4, s5, s6, s7, s8, s9, s10, s11, .val (.int i12), .val (.int i13), .val (.int i14), s15, s16, .val (.int i17), s18] [(.int i13)])) _
  refine XS.iload X0.here hx rfl (hb hby at_614) rfl ?_
  show Steps p.tables e below (T0.setTop (mkF m 616 #[s0, s1, s2, s3, s4, s5, s6, s7, s8, s9, s10, s11, .val (.int i12), .val (.int i13), .val (.int i14), s15, s16, .val (.int i17), s18] [(.int i12), (.int i13)])) _
  refine XS.icmpYes X0.here hx rfl (pc0 := 616) (pc' := 623) rfl (hb hby at_616) rfl (feq hc616).2 (by decide) (by decide) ?_
  show Steps p.tables e below (T0.setTop (mkF m 623 #[s0, s1, s2, s3, s4, s5, s6, s7, s8, s9, s10, s11, .val (.int i12), .val (.int i13), .val (.int i14), s15, s16, .val (.int i17), s18] [])) _
  refine XS.iconst X0.here hx rfl (hb hby at_623) ?_
  exact kt
set_option maxRecDepth 65536 in
set_option maxHeartbeats 40000000 in
theorem px {p : Program} {l : Launch} {e : Env} {R : Room} {s : State} {m : MethodId} {args : Array Value} {below : List Frame} {meth : Method} {c : Code} {T0 : State} {locs : List Loc} {cells slots : Nat} {Z : State} {a0 : Array Value} {h0 : Heap} (s0 : Slot) (s1 : Slot) (s2 : Slot) (s3 : Slot) (s4 : Slot) (s5 : Slot) (s6 : Slot) (s7 : Slot) (s8 : Slot) (s9 : Slot) (s10 : Slot) (s11 : Slot) (s15 : Slot) (s16 : Slot) (s18 : Slot) (i12 : Int32) (i13 : Int32) (i14 : Int32) (i17 : Int32)
    (X0 : Stand p l e R s m args below meth c T0 locs cells slots) (hx : p.tables.exec = Jvm.exec) (hZ : Z.Warmed39 s.vm) (hw : ∀ d ∈ tables_1, d.before a0 Z = true) (hby : c.code = code) (hml : c.maxLocals = 19) (hown : s.vm.findClass "com/example/chunkwell/chunkwell/codecs/RowCopiesEachByteIsPinLaw" = some m.cls) (e0 : T0.heap = h0) :
    ∀ target, Steps p.tables e below (T0.setTop (mkF m 624 #[s0, s1, s2, s3, s4, s5, s6, s7, s8, s9, s10, s11, .val (.int i12), .val (.int i13), .val (.int i14), s15, s16, .val (.int i17), s18] [(.int (own_e i17 i14 i12 i13))])) target → Steps p.tables e below (T0.setTop (mkF m 591 #[s0, s1, s2, s3, s4, s5, s6, s7, s8, s9, s10, s11, .val (.int i12), .val (.int i13), .val (.int i14), s15, s16, .val (.int i17), s18] [])) target := by
  unfold own_e
  by_cases a : (i17 &&& (1 : Int32)) = (0 : Int32)
  · by_cases c : (i17 &&& (2 : Int32)) = (0 : Int32)
    · rw [if_pos ⟨Or.inl a, Or.inl c⟩]
      exact px_tt s0 s1 s2 s3 s4 s5 s6 s7 s8 s9 s10 s11 s15 s16 s18 i12 i13 i14 i17 X0 hx hZ hw hby hml hown e0 a c
    · by_cases d : i13 = i12
      · rw [if_pos ⟨Or.inl a, Or.inr d⟩]
        exact px_tff s0 s1 s2 s3 s4 s5 s6 s7 s8 s9 s10 s11 s15 s16 s18 i12 i13 i14 i17 X0 hx hZ hw hby hml hown e0 a c d
      · rw [if_neg (fun z => z.2.elim c d)]
        exact px_tft s0 s1 s2 s3 s4 s5 s6 s7 s8 s9 s10 s11 s15 s16 s18 i12 i13 i14 i17 X0 hx hZ hw hby hml hown e0 a c d
  · by_cases b : i14 = i12
    · by_cases c : (i17 &&& (2 : Int32)) = (0 : Int32)
      · rw [if_pos ⟨Or.inr b, Or.inl c⟩]
        exact px_fft s0 s1 s2 s3 s4 s5 s6 s7 s8 s9 s10 s11 s15 s16 s18 i12 i13 i14 i17 X0 hx hZ hw hby hml hown e0 a b c
      · by_cases d : i13 = i12
        · rw [if_pos ⟨Or.inr b, Or.inr d⟩]
          exact px_ffff s0 s1 s2 s3 s4 s5 s6 s7 s8 s9 s10 s11 s15 s16 s18 i12 i13 i14 i17 X0 hx hZ hw hby hml hown e0 a b c d
        · rw [if_neg (fun z => z.2.elim c d)]
          exact px_ffft s0 s1 s2 s3 s4 s5 s6 s7 s8 s9 s10 s11 s15 s16 s18 i12 i13 i14 i17 X0 hx hZ hw hby hml hown e0 a b c d
    · rw [if_neg (fun z => z.1.elim a b)]
      exact px_ft s0 s1 s2 s3 s4 s5 s6 s7 s8 s9 s10 s11 s15 s16 s18 i12 i13 i14 i17 X0 hx hZ hw hby hml hown e0 a b
theorem pn_0 : plainName "com/example/chunkwell/chunkwell/codecs/RowCopiesEachByteIsPinLaw" = true := by first | (simp [plainName, overriddenIn]; done) | decide +kernel
theorem pd_0_0 : parseMethodDescriptor "([BJJJIIJB)Z" = some ⟨[(.array .byte), .long, .long, .long, .int, .int, .long, .byte], some .boolean⟩ := by decide +kernel
theorem pd_0_1 : parseMethodDescriptor "(IIIIIIIII)I" = some ⟨[.int, .int, .int, .int, .int, .int, .int, .int, .int], some .int⟩ := by decide +kernel
theorem ef_0 (m : MethodId) (x0 : Int32) (x1 : Int32) (x2 : Int32) (x3 : Int32) (x4 : Int32) : entryFrame m #[(.int x0), (.int x1), (.int x2), (.int x3), (.int x4)] maxLocals = mkF m 0 #[.val (.int x0), .val (.int x1), .val (.int x2), .val (.int x3), .val (.int x4), .unset, .unset, .unset, .unset, .unset, .unset, .unset, .unset, .unset, .unset, .unset, .unset, .unset, .unset] [] := by first | (simp [entryFrame, mkF, argsToLocals, Value.category, maxLocals]; done) | rfl
def Q0 (Z : State) (p1 : Int32) (p2 : Int32) (p3 : Int32) (p4 : Int32) (p5 : Int32) (h0 : Heap) (n0 : Nat) (v : Option Value) (h : Heap) (L : List Loc) : Prop := v = some (.int (1 : Int32)) ∧ Fr n0 L
set_option maxRecDepth 65536 in
set_option maxHeartbeats 40000000 in
theorem rm0 (l : Launch) (Z : State) (a0 : Array Value) (hw : ∀ d ∈ tables_1, d.before a0 Z = true) (ws : List Jvm.Cond) (p1 : Int32) (p2 : Int32) (p3 : Int32) (p4 : Int32) (p5 : Int32) (h0 : Heap) (n0 : Nat) (Z0 : n0 ≤ h0.size) :
    MetFree l x (head1 (Jvm.Cond.code x code maxLocals ret :: ws) room_1) (fun a U => a = #[(.int p1), (.int p2), (.int p3), (.int p4), (.int p5)] ∧ Z.Warmed39 U.vm ∧ U.heap = h0) (fun _ _ _ _ _ => True) (fun _ U o U' => ∃ v L, o = .returned v ∧ Q0 Z p1 p2 p3 p4 p5 h0 n0 v U'.heap L ∧ FrameEnd U o U' L room_1.cells room_1.slots) := by
  refine MetFree.of_bodySF (plainFor_of_name pn_0) hisR ?_
  intro p e s m args below meth c s₁ Bd hml0 hP hK
  obtain ⟨rfl, hZ, hh⟩ := hP
  have hx := Bd.exec
  have hby := Bd.bytes
  have hml : c.maxLocals = 19 := hml0
  have hown : s.vm.findClass "com/example/chunkwell/chunkwell/codecs/RowCopiesEachByteIsPinLaw" = some m.cls := findClass_of_methodNamed Bd.named
  have hnm := (name_of_methodNamed Bd.named Bd.method).1
  have X0 : Stand p l e room_1 s m #[(.int p1), (.int p2), (.int p3), (.int p4), (.int p5)] below meth c s₁ [] 0 0 := Stand.of_body Bd
  have e0 : s₁.heap = h0 := by rw [← hh, Bd.state]; rfl
  have N0 := Fr.nil n0
  have pre0 : ∀ t, Steps p.tables e below (s₁.setTop (mkF m 0 #[.val (.int p1), .val (.int p2), .val (.int p3), .val (.int p4), .val (.int p5), .unset, .unset, .unset, .unset, .unset, .unset, .unset, .unset, .unset, .unset, .unset, .unset, .unset, .unset] [])) t → Steps p.tables e below (s₁.setTop (entryFrame m #[(.int p1), (.int p2), (.int p3), (.int p4), (.int p5)] maxLocals)) t := fun t k => castTop (ef_0 m p1 p2 p3 p4 p5) k
  obtain ⟨vrb, h_vrb⟩ : ∃ z : Int32, z = (p1 &&& (3 : Int32)) := ⟨_, rfl⟩
  obtain ⟨vrw, h_vrw⟩ : ∃ z : Int32, z = (((p1.toUInt32 >>> ((2 : Int32) &&& 31).toUInt32).toInt32) &&& (3 : Int32)) := ⟨_, rfl⟩
  obtain ⟨vpl, h_vpl⟩ : ∃ z : Int32, z = (((p1.toUInt32 >>> ((4 : Int32) &&& 31).toUInt32).toInt32) &&& (3 : Int32)) := ⟨_, rfl⟩
  obtain ⟨vrs, h_vrs⟩ : ∃ z : Int32, z = (((p1.toUInt32 >>> ((6 : Int32) &&& 31).toUInt32).toInt32) &&& (3 : Int32)) := ⟨_, rfl⟩
  obtain ⟨vps, h_vps⟩ : ∃ z : Int32, z = (((p1.toUInt32 >>> ((8 : Int32) &&& 31).toUInt32).toInt32) &&& (3 : Int32)) := ⟨_, rfl⟩
  obtain ⟨vix, h_vix⟩ : ∃ z : Int32, z = (((p1.toUInt32 >>> ((10 : Int32) &&& 31).toUInt32).toInt32) &&& (3 : Int32)) := ⟨_, rfl⟩
  obtain ⟨vq, h_vq⟩ : ∃ z : Int32, z = ((p2 &&& (2147483647 : Int32)) - ((p2 &&& (2147483647 : Int32)) / (24 : Int32)) * (24 : Int32)) := ⟨_, rfl⟩
  obtain ⟨vv, h_vv⟩ : ∃ z : Int32, z = (p3.toInt8.toInt32) := ⟨_, rfl⟩
  obtain ⟨nrb, hrb, enrb⟩ : ∃ n : Nat, n < 4 ∧ vrb = Int32.ofNat n := by rw [h_vrb]; exact own_four _
  have hvrb := enrb
  obtain ⟨nrw, hrw, enrw⟩ : ∃ n : Nat, n < 4 ∧ vrw = Int32.ofNat n := by rw [h_vrw]; exact own_four _
  have hvrw := enrw
  obtain ⟨npl, hpl, enpl⟩ : ∃ n : Nat, n < 4 ∧ vpl = Int32.ofNat n := by rw [h_vpl]; exact own_four _
  have hvpl := enpl
  obtain ⟨nrs, hrs, enrs⟩ : ∃ n : Nat, n < 4 ∧ vrs = Int32.ofNat n := by rw [h_vrs]; exact own_four _
  have hvrs := enrs
  obtain ⟨nps, hps, enps⟩ : ∃ n : Nat, n < 4 ∧ vps = Int32.ofNat n := by rw [h_vps]; exact own_four _
  have hvps := enps
  obtain ⟨nix, hix, enix⟩ : ∃ n : Nat, n < 4 ∧ vix = Int32.ofNat n := by rw [h_vix]; exact own_four _
  have hvix := enix
  obtain ⟨nq, hnq, hvq⟩ : ∃ n : Nat, n < 24 ∧ vq = Int32.ofNat n := by rw [h_vq]; exact own_rem _
  have bv : nar .byte vv = vv := by rw [h_vv]; exact own_nar _
  have lix : vix.toInt64 = Int64.ofNat nix := by rw [hvix]; exact own_l _ hix
  have lrs : vrs.toInt64 = Int64.ofNat nrs := by rw [hvrs]; exact own_l _ hrs
  have lps : vps.toInt64 = Int64.ofNat nps := by rw [hvps]; exact own_l _ hps
  have lpl : vpl.toInt64 = Int64.ofNat npl := by rw [hvpl]; exact own_l _ hpl
  obtain ⟨vf, h_vf⟩ : ∃ z : Int32, z = (own_pb p4 vv) := ⟨_, rfl⟩
  have bf : nar .byte vf = vf := by rw [h_vf]; exact own_narp _ _ bv
  obtain ⟨vw, h_vw⟩ : ∃ z : Int32, z = (own_pb p5 vv) := ⟨_, rfl⟩
  have bw : nar .byte vw = vw := by rw [h_vw]; exact own_narp _ _ bv
  obtain ⟨T6, h6, k6, X6, e6, E6, A6, st6⟩ := newP X0 hx hZ (hw _ (List.mem_of_getElem? (i := 1) rfl)) e0 (g := (mkF m 96 #[.val (.int p1), .val (.int p2), .val (.int p3), .val (.int p4), .val (.int p5), .val (.int vrb), .val (.int vrw), .val (.int vpl), .val (.int vrs), .val (.int vps), .val (.int vix), .val (.int vq), .val (.int vv), .val (.int vf), .val (.int vw), .unset, .unset, .unset, .unset] [(.int (24 : Int32))])) rfl (hb hby at_96) rfl (by decide) (cap := 24) (by decide) (by decide) (by decide) (by decide)
  obtain ⟨b6, g6⟩ : ∃ z, z = h0.size := ⟨_, rfl⟩
  rw [← g6] at A6 st6
  have V_b6 : Arv Z h6 b6 k6 .byte (24 : Int32) [(.int (0 : Int32)), (.int (0 : Int32)), (.int (0 : Int32)), (.int (0 : Int32)), (.int (0 : Int32)), (.int (0 : Int32)), (.int (0 : Int32)), (.int (0 : Int32)), (.int (0 : Int32)), (.int (0 : Int32)), (.int (0 : Int32)), (.int (0 : Int32)), (.int (0 : Int32)), (.int (0 : Int32)), (.int (0 : Int32)), (.int (0 : Int32)), (.int (0 : Int32)), (.int (0 : Int32)), (.int (0 : Int32)), (.int (0 : Int32)), (.int (0 : Int32)), (.int (0 : Int32)), (.int (0 : Int32)), (.int (0 : Int32))] (.int (0 : Int32)) := (Arv.new A6 (by decide)).pad (pad_rep [] (.int (0 : Int32)) 24)
  have g_b6 : n0 ≤ b6 := Nat.le_trans Z0 (Nat.le_of_eq g6.symm)
  have sz_b6 : h0.size ≤ b6 := (Nat.le_trans (Keep.refl h0 []).1 (Nat.le_of_eq g6.symm))
  have K6 : Keep h0 h6 [] := (Keep.refl h0 []).ext E6
  obtain ⟨cl_b6_102, Ar_b6, q_b6, S_b6, N_b6, H_b6, G_b6⟩ := V_b6
  have hin102 : ¬ ((0 : Int32) < 0 ∨ cl_b6_102.slots.size ≤ ((0 : Int32)).toNatClampNeg) := inb_of S_b6 ⟨by decide, by decide⟩
  obtain ⟨T7, h7, X7, e7, W7, st7⟩ := stB X6 hx hZ e6 Ar_b6 (j := (0 : Int32)) hin102 (g := (mkF m 102 #[.val (.int p1), .val (.int p2), .val (.int p3), .val (.int p4), .val (.int p5), .val (.int vrb), .val (.int vrw), .val (.int vpl), .val (.int vrs), .val (.int vps), .val (.int vix), .val (.int vq), .val (.int vv), .val (.int vf), .val (.int vw), .unset, .unset, .unset, .unset] [(.int vf), (.int (0 : Int32)), (.ref b6), (.ref b6)])) rfl rfl (hb hby at_102)
  have V_b6_7 : Arv Z h7 b6 k6 .byte (24 : Int32) [(.int (nar .byte vf)), (.int (0 : Int32)), (.int (0 : Int32)), (.int (0 : Int32)), (.int (0 : Int32)), (.int (0 : Int32)), (.int (0 : Int32)), (.int (0 : Int32)), (.int (0 : Int32)), (.int (0 : Int32)), (.int (0 : Int32)), (.int (0 : Int32)), (.int (0 : Int32)), (.int (0 : Int32)), (.int (0 : Int32)), (.int (0 : Int32)), (.int (0 : Int32)), (.int (0 : Int32)), (.int (0 : Int32)), (.int (0 : Int32)), (.int (0 : Int32)), (.int (0 : Int32)), (.int (0 : Int32)), (.int (0 : Int32))] (.int (0 : Int32)) := Arv.set Ar_b6 q_b6 S_b6 N_b6 H_b6 G_b6 (fits_nar_byte _) W7 0 rfl (Nat.le_of_ble_eq_true rfl)
  have K7 : Keep h0 h7 [] := K6.wr W7 (Or.inr sz_b6)
  have N7 := Fr.snoc X7 N0 g_b6
  obtain ⟨cl_b6_107, Ar_b6, q_b6, S_b6, N_b6, H_b6, G_b6⟩ := V_b6_7
  have hin107 : ¬ ((1 : Int32) < 0 ∨ cl_b6_107.slots.size ≤ ((1 : Int32)).toNatClampNeg) := inb_of S_b6 ⟨by decide, by decide⟩
  obtain ⟨T8, h8, X8, e8, W8, st8⟩ := stB X7 hx hZ e7 Ar_b6 (j := (1 : Int32)) hin107 (g := (mkF m 107 #[.val (.int p1), .val (.int p2), .val (.int p3), .val (.int p4), .val (.int p5), .val (.int vrb), .val (.int vrw), .val (.int vpl), .val (.int vrs), .val (.int vps), .val (.int vix), .val (.int vq), .val (.int vv), .val (.int vf), .val (.int vw), .unset, .unset, .unset, .unset] [(.int vf), (.int (1 : Int32)), (.ref b6), (.ref b6)])) rfl rfl (hb hby at_107)
  have V_b6_8 : Arv Z h8 b6 k6 .byte (24 : Int32) [(.int (nar .byte vf)), (.int (nar .byte vf)), (.int (0 : Int32)), (.int (0 : Int32)), (.int (0 : Int32)), (.int (0 : Int32)), (.int (0 : Int32)), (.int (0 : Int32)), (.int (0 : Int32)), (.int (0 : Int32)), (.int (0 : Int32)), (.int (0 : Int32)), (.int (0 : Int32)), (.int (0 : Int32)), (.int (0 : Int32)), (.int (0 : Int32)), (.int (0 : Int32)), (.int (0 : Int32)), (.int (0 : Int32)), (.int (0 : Int32)), (.int (0 : Int32)), (.int (0 : Int32)), (.int (0 : Int32)), (.int (0 : Int32))] (.int (0 : Int32)) := Arv.set Ar_b6 q_b6 S_b6 N_b6 H_b6 G_b6 (fits_nar_byte _) W8 1 rfl (Nat.le_of_ble_eq_true rfl)
  have K8 : Keep h0 h8 [] := K7.wr W8 (Or.inr sz_b6)
  have N8 := Fr.snoc X8 N7 g_b6
  obtain ⟨cl_b6_112, Ar_b6, q_b6, S_b6, N_b6, H_b6, G_b6⟩ := V_b6_8
  have hin112 : ¬ ((2 : Int32) < 0 ∨ cl_b6_112.slots.size ≤ ((2 : Int32)).toNatClampNeg) := inb_of S_b6 ⟨by decide, by decide⟩
  obtain ⟨T9, h9, X9, e9, W9, st9⟩ := stB X8 hx hZ e8 Ar_b6 (j := (2 : Int32)) hin112 (g := (mkF m 112 #[.val (.int p1), .val (.int p2), .val (.int p3), .val (.int p4), .val (.int p5), .val (.int vrb), .val (.int vrw), .val (.int vpl), .val (.int vrs), .val (.int vps), .val (.int vix), .val (.int vq), .val (.int vv), .val (.int vf), .val (.int vw), .unset, .unset, .unset, .unset] [(.int vf), (.int (2 : Int32)), (.ref b6), (.ref b6)])) rfl rfl (hb hby at_112)
  have V_b6_9 : Arv Z h9 b6 k6 .byte (24 : Int32) [(.int (nar .byte vf)), (.int (nar .byte vf)), (.int (nar .byte vf)), (.int (0 : Int32)), (.int (0 : Int32)), (.int (0 : Int32)), (.int (0 : Int32)), (.int (0 : Int32)), (.int (0 : Int32)), (.int (0 : Int32)), (.int (0 : Int32)), (.int (0 : Int32)), (.int (0 : Int32)), (.int (0 : Int32)), (.int (0 : Int32)), (.int (0 : Int32)), (.int (0 : Int32)), (.int (0 : Int32)), (.int (0 : Int32)), (.int (0 : Int32)), (.int (0 : Int32)), (.int (0 : Int32)), (.int (0 : Int32)), (.int (0 : Int32))] (.int (0 : Int32)) := Arv.set Ar_b6 q_b6 S_b6 N_b6 H_b6 G_b6 (fits_nar_byte _) W9 2 rfl (Nat.le_of_ble_eq_true rfl)
  have K9 : Keep h0 h9 [] := K8.wr W9 (Or.inr sz_b6)
  have N9 := Fr.snoc X9 N8 g_b6
  obtain ⟨cl_b6_117, Ar_b6, q_b6, S_b6, N_b6, H_b6, G_b6⟩ := V_b6_9
  have hin117 : ¬ ((3 : Int32) < 0 ∨ cl_b6_117.slots.size ≤ ((3 : Int32)).toNatClampNeg) := inb_of S_b6 ⟨by decide, by decide⟩
  obtain ⟨T10, h10, X10, e10, W10, st10⟩ := stB X9 hx hZ e9 Ar_b6 (j := (3 : Int32)) hin117 (g := (mkF m 117 #[.val (.int p1), .val (.int p2), .val (.int p3), .val (.int p4), .val (.int p5), .val (.int vrb), .val (.int vrw), .val (.int vpl), .val (.int vrs), .val (.int vps), .val (.int vix), .val (.int vq), .val (.int vv), .val (.int vf), .val (.int vw), .unset, .unset, .unset, .unset] [(.int vf), (.int (3 : Int32)), (.ref b6), (.ref b6)])) rfl rfl (hb hby at_117)
  have V_b6_10 : Arv Z h10 b6 k6 .byte (24 : Int32) [(.int (nar .byte vf)), (.int (nar .byte vf)), (.int (nar .byte vf)), (.int (nar .byte vf)), (.int (0 : Int32)), (.int (0 : Int32)), (.int (0 : Int32)), (.int (0 : Int32)), (.int (0 : Int32)), (.int (0 : Int32)), (.int (0 : Int32)), (.int (0 : Int32)), (.int (0 : Int32)), (.int (0 : Int32)), (.int (0 : Int32)), (.int (0 : Int32)), (.int (0 : Int32)), (.int (0 : Int32)), (.int (0 : Int32)), (.int (0 : Int32)), (.int (0 : Int32)), (.int (0 : Int32)), (.int (0 : Int32)), (.int (0 : Int32))] (.int (0 : Int32)) := Arv.set Ar_b6 q_b6 S_b6 N_b6 H_b6 G_b6 (fits_nar_byte _) W10 3 rfl (Nat.le_of_ble_eq_true rfl)
  have K10 : Keep h0 h10 [] := K9.wr W10 (Or.inr sz_b6)
  have N10 := Fr.snoc X10 N9 g_b6
  obtain ⟨cl_b6_122, Ar_b6, q_b6, S_b6, N_b6, H_b6, G_b6⟩ := V_b6_10
  have hin122 : ¬ ((4 : Int32) < 0 ∨ cl_b6_122.slots.size ≤ ((4 : Int32)).toNatClampNeg) := inb_of S_b6 ⟨by decide, by decide⟩
  obtain ⟨T11, h11, X11, e11, W11, st11⟩ := stB X10 hx hZ e10 Ar_b6 (j := (4 : Int32)) hin122 (g := (mkF m 122 #[.val (.int p1), .val (.int p2), .val (.int p3), .val (.int p4), .val (.int p5), .val (.int vrb), .val (.int vrw), .val (.int vpl), .val (.int vrs), .val (.int vps), .val (.int vix), .val (.int vq), .val (.int vv), .val (.int vf), .val (.int vw), .unset, .unset, .unset, .unset] [(.int vf), (.int (4 : Int32)), (.ref b6), (.ref b6)])) rfl rfl (hb hby at_122)
  have V_b6_11 : Arv Z h11 b6 k6 .byte (24 : Int32) [(.int (nar .byte vf)), (.int (nar .byte vf)), (.int (nar .byte vf)), (.int (nar .byte vf)), (.int (nar .byte vf)), (.int (0 : Int32)), (.int (0 : Int32)), (.int (0 : Int32)), (.int (0 : Int32)), (.int (0 : Int32)), (.int (0 : Int32)), (.int (0 : Int32)), (.int (0 : Int32)), (.int (0 : Int32)), (.int (0 : Int32)), (.int (0 : Int32)), (.int (0 : Int32)), (.int (0 : Int32)), (.int (0 : Int32)), (.int (0 : Int32)), (.int (0 : Int32)), (.int (0 : Int32)), (.int (0 : Int32)), (.int (0 : Int32))] (.int (0 : Int32)) := Arv.set Ar_b6 q_b6 S_b6 N_b6 H_b6 G_b6 (fits_nar_byte _) W11 4 rfl (Nat.le_of_ble_eq_true rfl)
  have K11 : Keep h0 h11 [] := K10.wr W11 (Or.inr sz_b6)
  have N11 := Fr.snoc X11 N10 g_b6
  obtain ⟨cl_b6_127, Ar_b6, q_b6, S_b6, N_b6, H_b6, G_b6⟩ := V_b6_11
  have hin127 : ¬ ((5 : Int32) < 0 ∨ cl_b6_127.slots.size ≤ ((5 : Int32)).toNatClampNeg) := inb_of S_b6 ⟨by decide, by decide⟩
  obtain ⟨T12, h12, X12, e12, W12, st12⟩ := stB X11 hx hZ e11 Ar_b6 (j := (5 : Int32)) hin127 (g := (mkF m 127 #[.val (.int p1), .val (.int p2), .val (.int p3), .val (.int p4), .val (.int p5), .val (.int vrb), .val (.int vrw), .val (.int vpl), .val (.int vrs), .val (.int vps), .val (.int vix), .val (.int vq), .val (.int vv), .val (.int vf), .val (.int vw), .unset, .unset, .unset, .unset] [(.int vf), (.int (5 : Int32)), (.ref b6), (.ref b6)])) rfl rfl (hb hby at_127)
  have V_b6_12 : Arv Z h12 b6 k6 .byte (24 : Int32) [(.int (nar .byte vf)), (.int (nar .byte vf)), (.int (nar .byte vf)), (.int (nar .byte vf)), (.int (nar .byte vf)), (.int (nar .byte vf)), (.int (0 : Int32)), (.int (0 : Int32)), (.int (0 : Int32)), (.int (0 : Int32)), (.int (0 : Int32)), (.int (0 : Int32)), (.int (0 : Int32)), (.int (0 : Int32)), (.int (0 : Int32)), (.int (0 : Int32)), (.int (0 : Int32)), (.int (0 : Int32)), (.int (0 : Int32)), (.int (0 : Int32)), (.int (0 : Int32)), (.int (0 : Int32)), (.int (0 : Int32)), (.int (0 : Int32))] (.int (0 : Int32)) := Arv.set Ar_b6 q_b6 S_b6 N_b6 H_b6 G_b6 (fits_nar_byte _) W12 5 rfl (Nat.le_of_ble_eq_true rfl)
  have K12 : Keep h0 h12 [] := K11.wr W12 (Or.inr sz_b6)
  have N12 := Fr.snoc X12 N11 g_b6
  obtain ⟨cl_b6_133, Ar_b6, q_b6, S_b6, N_b6, H_b6, G_b6⟩ := V_b6_12
  have hin133 : ¬ ((6 : Int32) < 0 ∨ cl_b6_133.slots.size ≤ ((6 : Int32)).toNatClampNeg) := inb_of S_b6 ⟨by decide, by decide⟩
  obtain ⟨T13, h13, X13, e13, W13, st13⟩ := stB X12 hx hZ e12 Ar_b6 (j := (6 : Int32)) hin133 (g := (mkF m 133 #[.val (.int p1), .val (.int p2), .val (.int p3), .val (.int p4), .val (.int p5), .val (.int vrb), .val (.int vrw), .val (.int vpl), .val (.int vrs), .val (.int vps), .val (.int vix), .val (.int vq), .val (.int vv), .val (.int vf), .val (.int vw), .unset, .unset, .unset, .unset] [(.int vf), (.int (6 : Int32)), (.ref b6), (.ref b6)])) rfl rfl (hb hby at_133)
  have V_b6_13 : Arv Z h13 b6 k6 .byte (24 : Int32) [(.int (nar .byte vf)), (.int (nar .byte vf)), (.int (nar .byte vf)), (.int (nar .byte vf)), (.int (nar .byte vf)), (.int (nar .byte vf)), (.int (nar .byte vf)), (.int (0 : Int32)), (.int (0 : Int32)), (.int (0 : Int32)), (.int (0 : Int32)), (.int (0 : Int32)), (.int (0 : Int32)), (.int (0 : Int32)), (.int (0 : Int32)), (.int (0 : Int32)), (.int (0 : Int32)), (.int (0 : Int32)), (.int (0 : Int32)), (.int (0 : Int32)), (.int (0 : Int32)), (.int (0 : Int32)), (.int (0 : Int32)), (.int (0 : Int32))] (.int (0 : Int32)) := Arv.set Ar_b6 q_b6 S_b6 N_b6 H_b6 G_b6 (fits_nar_byte _) W13 6 rfl (Nat.le_of_ble_eq_true rfl)
  have K13 : Keep h0 h13 [] := K12.wr W13 (Or.inr sz_b6)
  have N13 := Fr.snoc X13 N12 g_b6
  obtain ⟨cl_b6_139, Ar_b6, q_b6, S_b6, N_b6, H_b6, G_b6⟩ := V_b6_13
  have hin139 : ¬ ((7 : Int32) < 0 ∨ cl_b6_139.slots.size ≤ ((7 : Int32)).toNatClampNeg) := inb_of S_b6 ⟨by decide, by decide⟩
  obtain ⟨T14, h14, X14, e14, W14, st14⟩ := stB X13 hx hZ e13 Ar_b6 (j := (7 : Int32)) hin139 (g := (mkF m 139 #[.val (.int p1), .val (.int p2), .val (.int p3), .val (.int p4), .val (.int p5), .val (.int vrb), .val (.int vrw), .val (.int vpl), .val (.int vrs), .val (.int vps), .val (.int vix), .val (.int vq), .val (.int vv), .val (.int vf), .val (.int vw), .unset, .unset, .unset, .unset] [(.int vf), (.int (7 : Int32)), (.ref b6), (.ref b6)])) rfl rfl (hb hby at_139)
  have V_b6_14 : Arv Z h14 b6 k6 .byte (24 : Int32) [(.int (nar .byte vf)), (.int (nar .byte vf)), (.int (nar .byte vf)), (.int (nar .byte vf)), (.int (nar .byte vf)), (.int (nar .byte vf)), (.int (nar .byte vf)), (.int (nar .byte vf)), (.int (0 : Int32)), (.int (0 : Int32)), (.int (0 : Int32)), (.int (0 : Int32)), (.int (0 : Int32)), (.int (0 : Int32)), (.int (0 : Int32)), (.int (0 : Int32)), (.int (0 : Int32)), (.int (0 : Int32)), (.int (0 : Int32)), (.int (0 : Int32)), (.int (0 : Int32)), (.int (0 : Int32)), (.int (0 : Int32)), (.int (0 : Int32))] (.int (0 : Int32)) := Arv.set Ar_b6 q_b6 S_b6 N_b6 H_b6 G_b6 (fits_nar_byte _) W14 7 rfl (Nat.le_of_ble_eq_true rfl)
  have K14 : Keep h0 h14 [] := K13.wr W14 (Or.inr sz_b6)
  have N14 := Fr.snoc X14 N13 g_b6
  obtain ⟨cl_b6_145, Ar_b6, q_b6, S_b6, N_b6, H_b6, G_b6⟩ := V_b6_14
  have hin145 : ¬ ((8 : Int32) < 0 ∨ cl_b6_145.slots.size ≤ ((8 : Int32)).toNatClampNeg) := inb_of S_b6 ⟨by decide, by decide⟩
  obtain ⟨T15, h15, X15, e15, W15, st15⟩ := stB X14 hx hZ e14 Ar_b6 (j := (8 : Int32)) hin145 (g := (mkF m 145 #[.val (.int p1), .val (.int p2), .val (.int p3), .val (.int p4), .val (.int p5), .val (.int vrb), .val (.int vrw), .val (.int vpl), .val (.int vrs), .val (.int vps), .val (.int vix), .val (.int vq), .val (.int vv), .val (.int vf), .val (.int vw), .unset, .unset, .unset, .unset] [(.int vf), (.int (8 : Int32)), (.ref b6), (.ref b6)])) rfl rfl (hb hby at_145)
  have V_b6_15 : Arv Z h15 b6 k6 .byte (24 : Int32) [(.int (nar .byte vf)), (.int (nar .byte vf)), (.int (nar .byte vf)), (.int (nar .byte vf)), (.int (nar .byte vf)), (.int (nar .byte vf)), (.int (nar .byte vf)), (.int (nar .byte vf)), (.int (nar .byte vf)), (.int (0 : Int32)), (.int (0 : Int32)), (.int (0 : Int32)), (.int (0 : Int32)), (.int (0 : Int32)), (.int (0 : Int32)), (.int (0 : Int32)), (.int (0 : Int32)), (.int (0 : Int32)), (.int (0 : Int32)), (.int (0 : Int32)), (.int (0 : Int32)), (.int (0 : Int32)), (.int (0 : Int32)), (.int (0 : Int32))] (.int (0 : Int32)) := Arv.set Ar_b6 q_b6 S_b6 N_b6 H_b6 G_b6 (fits_nar_byte _) W15 8 rfl (Nat.le_of_ble_eq_true rfl)
  have K15 : Keep h0 h15 [] := K14.wr W15 (Or.inr sz_b6)
  have N15 := Fr.snoc X15 N14 g_b6
  obtain ⟨cl_b6_151, Ar_b6, q_b6, S_b6, N_b6, H_b6, G_b6⟩ := V_b6_15
  have hin151 : ¬ ((9 : Int32) < 0 ∨ cl_b6_151.slots.size ≤ ((9 : Int32)).toNatClampNeg) := inb_of S_b6 ⟨by decide, by decide⟩
  obtain ⟨T16, h16, X16, e16, W16, st16⟩ := stB X15 hx hZ e15 Ar_b6 (j := (9 : Int32)) hin151 (g := (mkF m 151 #[.val (.int p1), .val (.int p2), .val (.int p3), .val (.int p4), .val (.int p5), .val (.int vrb), .val (.int vrw), .val (.int vpl), .val (.int vrs), .val (.int vps), .val (.int vix), .val (.int vq), .val (.int vv), .val (.int vf), .val (.int vw), .unset, .unset, .unset, .unset] [(.int vf), (.int (9 : Int32)), (.ref b6), (.ref b6)])) rfl rfl (hb hby at_151)
  have V_b6_16 : Arv Z h16 b6 k6 .byte (24 : Int32) [(.int (nar .byte vf)), (.int (nar .byte vf)), (.int (nar .byte vf)), (.int (nar .byte vf)), (.int (nar .byte vf)), (.int (nar .byte vf)), (.int (nar .byte vf)), (.int (nar .byte vf)), (.int (nar .byte vf)), (.int (nar .byte vf)), (.int (0 : Int32)), (.int (0 : Int32)), (.int (0 : Int32)), (.int (0 : Int32)), (.int (0 : Int32)), (.int (0 : Int32)), (.int (0 : Int32)), (.int (0 : Int32)), (.int (0 : Int32)), (.int (0 : Int32)), (.int (0 : Int32)), (.int (0 : Int32)), (.int (0 : Int32)), (.int (0 : Int32))] (.int (0 : Int32)) := Arv.set Ar_b6 q_b6 S_b6 N_b6 H_b6 G_b6 (fits_nar_byte _) W16 9 rfl (Nat.le_of_ble_eq_true rfl)
  have K16 : Keep h0 h16 [] := K15.wr W16 (Or.inr sz_b6)
  have N16 := Fr.snoc X16 N15 g_b6
  obtain ⟨cl_b6_157, Ar_b6, q_b6, S_b6, N_b6, H_b6, G_b6⟩ := V_b6_16
  have hin157 : ¬ ((10 : Int32) < 0 ∨ cl_b6_157.slots.size ≤ ((10 : Int32)).toNatClampNeg) := inb_of S_b6 ⟨by decide, by decide⟩
  obtain ⟨T17, h17, X17, e17, W17, st17⟩ := stB X16 hx hZ e16 Ar_b6 (j := (10 : Int32)) hin157 (g := (mkF m 157 #[.val (.int p1), .val (.int p2), .val (.int p3), .val (.int p4), .val (.int p5), .val (.int vrb), .val (.int vrw), .val (.int vpl), .val (.int vrs), .val (.int vps), .val (.int vix), .val (.int vq), .val (.int vv), .val (.int vf), .val (.int vw), .unset, .unset, .unset, .unset] [(.int vf), (.int (10 : Int32)), (.ref b6), (.ref b6)])) rfl rfl (hb hby at_157)
  have V_b6_17 : Arv Z h17 b6 k6 .byte (24 : Int32) [(.int (nar .byte vf)), (.int (nar .byte vf)), (.int (nar .byte vf)), (.int (nar .byte vf)), (.int (nar .byte vf)), (.int (nar .byte vf)), (.int (nar .byte vf)), (.int (nar .byte vf)), (.int (nar .byte vf)), (.int (nar .byte vf)), (.int (nar .byte vf)), (.int (0 : Int32)), (.int (0 : Int32)), (.int (0 : Int32)), (.int (0 : Int32)), (.int (0 : Int32)), (.int (0 : Int32)), (.int (0 : Int32)), (.int (0 : Int32)), (.int (0 : Int32)), (.int (0 : Int32)), (.int (0 : Int32)), (.int (0 : Int32)), (.int (0 : Int32))] (.int (0 : Int32)) := Arv.set Ar_b6 q_b6 S_b6 N_b6 H_b6 G_b6 (fits_nar_byte _) W17 10 rfl (Nat.le_of_ble_eq_true rfl)
  have K17 : Keep h0 h17 [] := K16.wr W17 (Or.inr sz_b6)
  have N17 := Fr.snoc X17 N16 g_b6
  obtain ⟨cl_b6_163, Ar_b6, q_b6, S_b6, N_b6, H_b6, G_b6⟩ := V_b6_17
  have hin163 : ¬ ((11 : Int32) < 0 ∨ cl_b6_163.slots.size ≤ ((11 : Int32)).toNatClampNeg) := inb_of S_b6 ⟨by decide, by decide⟩
  obtain ⟨T18, h18, X18, e18, W18, st18⟩ := stB X17 hx hZ e17 Ar_b6 (j := (11 : Int32)) hin163 (g := (mkF m 163 #[.val (.int p1), .val (.int p2), .val (.int p3), .val (.int p4), .val (.int p5), .val (.int vrb), .val (.int vrw), .val (.int vpl), .val (.int vrs), .val (.int vps), .val (.int vix), .val (.int vq), .val (.int vv), .val (.int vf), .val (.int vw), .unset, .unset, .unset, .unset] [(.int vf), (.int (11 : Int32)), (.ref b6), (.ref b6)])) rfl rfl (hb hby at_163)
  have V_b6_18 : Arv Z h18 b6 k6 .byte (24 : Int32) [(.int (nar .byte vf)), (.int (nar .byte vf)), (.int (nar .byte vf)), (.int (nar .byte vf)), (.int (nar .byte vf)), (.int (nar .byte vf)), (.int (nar .byte vf)), (.int (nar .byte vf)), (.int (nar .byte vf)), (.int (nar .byte vf)), (.int (nar .byte vf)), (.int (nar .byte vf)), (.int (0 : Int32)), (.int (0 : Int32)), (.int (0 : Int32)), (.int (0 : Int32)), (.int (0 : Int32)), (.int (0 : Int32)), (.int (0 : Int32)), (.int (0 : Int32)), (.int (0 : Int32)), (.int (0 : Int32)), (.int (0 : Int32)), (.int (0 : Int32))] (.int (0 : Int32)) := Arv.set Ar_b6 q_b6 S_b6 N_b6 H_b6 G_b6 (fits_nar_byte _) W18 11 rfl (Nat.le_of_ble_eq_true rfl)
  have K18 : Keep h0 h18 [] := K17.wr W18 (Or.inr sz_b6)
  have N18 := Fr.snoc X18 N17 g_b6
  obtain ⟨cl_b6_169, Ar_b6, q_b6, S_b6, N_b6, H_b6, G_b6⟩ := V_b6_18
  have hin169 : ¬ ((12 : Int32) < 0 ∨ cl_b6_169.slots.size ≤ ((12 : Int32)).toNatClampNeg) := inb_of S_b6 ⟨by decide, by decide⟩
  obtain ⟨T19, h19, X19, e19, W19, st19⟩ := stB X18 hx hZ e18 Ar_b6 (j := (12 : Int32)) hin169 (g := (mkF m 169 #[.val (.int p1), .val (.int p2), .val (.int p3), .val (.int p4), .val (.int p5), .val (.int vrb), .val (.int vrw), .val (.int vpl), .val (.int vrs), .val (.int vps), .val (.int vix), .val (.int vq), .val (.int vv), .val (.int vf), .val (.int vw), .unset, .unset, .unset, .unset] [(.int vf), (.int (12 : Int32)), (.ref b6), (.ref b6)])) rfl rfl (hb hby at_169)
  have V_b6_19 : Arv Z h19 b6 k6 .byte (24 : Int32) [(.int (nar .byte vf)), (.int (nar .byte vf)), (.int (nar .byte vf)), (.int (nar .byte vf)), (.int (nar .byte vf)), (.int (nar .byte vf)), (.int (nar .byte vf)), (.int (nar .byte vf)), (.int (nar .byte vf)), (.int (nar .byte vf)), (.int (nar .byte vf)), (.int (nar .byte vf)), (.int (nar .byte vf)), (.int (0 : Int32)), (.int (0 : Int32)), (.int (0 : Int32)), (.int (0 : Int32)), (.int (0 : Int32)), (.int (0 : Int32)), (.int (0 : Int32)), (.int (0 : Int32)), (.int (0 : Int32)), (.int (0 : Int32)), (.int (0 : Int32))] (.int (0 : Int32)) := Arv.set Ar_b6 q_b6 S_b6 N_b6 H_b6 G_b6 (fits_nar_byte _) W19 12 rfl (Nat.le_of_ble_eq_true rfl)
  have K19 : Keep h0 h19 [] := K18.wr W19 (Or.inr sz_b6)
  have N19 := Fr.snoc X19 N18 g_b6
  obtain ⟨cl_b6_175, Ar_b6, q_b6, S_b6, N_b6, H_b6, G_b6⟩ := V_b6_19
  have hin175 : ¬ ((13 : Int32) < 0 ∨ cl_b6_175.slots.size ≤ ((13 : Int32)).toNatClampNeg) := inb_of S_b6 ⟨by decide, by decide⟩
  obtain ⟨T20, h20, X20, e20, W20, st20⟩ := stB X19 hx hZ e19 Ar_b6 (j := (13 : Int32)) hin175 (g := (mkF m 175 #[.val (.int p1), .val (.int p2), .val (.int p3), .val (.int p4), .val (.int p5), .val (.int vrb), .val (.int vrw), .val (.int vpl), .val (.int vrs), .val (.int vps), .val (.int vix), .val (.int vq), .val (.int vv), .val (.int vf), .val (.int vw), .unset, .unset, .unset, .unset] [(.int vf), (.int (13 : Int32)), (.ref b6), (.ref b6)])) rfl rfl (hb hby at_175)
  have V_b6_20 : Arv Z h20 b6 k6 .byte (24 : Int32) [(.int (nar .byte vf)), (.int (nar .byte vf)), (.int (nar .byte vf)), (.int (nar .byte vf)), (.int (nar .byte vf)), (.int (nar .byte vf)), (.int (nar .byte vf)), (.int (nar .byte vf)), (.int (nar .byte vf)), (.int (nar .byte vf)), (.int (nar .byte vf)), (.int (nar .byte vf)), (.int (nar .byte vf)), (.int (nar .byte vf)), (.int (0 : Int32)), (.int (0 : Int32)), (.int (0 : Int32)), (.int (0 : Int32)), (.int (0 : Int32)), (.int (0 : Int32)), (.int (0 : Int32)), (.int (0 : Int32)), (.int (0 : Int32)), (.int (0 : Int32))] (.int (0 : Int32)) := Arv.set Ar_b6 q_b6 S_b6 N_b6 H_b6 G_b6 (fits_nar_byte _) W20 13 rfl (Nat.le_of_ble_eq_true rfl)
  have K20 : Keep h0 h20 [] := K19.wr W20 (Or.inr sz_b6)
  have N20 := Fr.snoc X20 N19 g_b6
  obtain ⟨cl_b6_181, Ar_b6, q_b6, S_b6, N_b6, H_b6, G_b6⟩ := V_b6_20
  have hin181 : ¬ ((14 : Int32) < 0 ∨ cl_b6_181.slots.size ≤ ((14 : Int32)).toNatClampNeg) := inb_of S_b6 ⟨by decide, by decide⟩
  obtain ⟨T21, h21, X21, e21, W21, st21⟩ := stB X20 hx hZ e20 Ar_b6 (j := (14 : Int32)) hin181 (g := (mkF m 181 #[.val (.int p1), .val (.int p2), .val (.int p3), .val (.int p4), .val (.int p5), .val (.int vrb), .val (.int vrw), .val (.int vpl), .val (.int vrs), .val (.int vps), .val (.int vix), .val (.int vq), .val (.int vv), .val (.int vf), .val (.int vw), .unset, .unset, .unset, .unset] [(.int vf), (.int (14 : Int32)), (.ref b6), (.ref b6)])) rfl rfl (hb hby at_181)
  have V_b6_21 : Arv Z h21 b6 k6 .byte (24 : Int32) [(.int (nar .byte vf)), (.int (nar .byte vf)), (.int (nar .byte vf)), (.int (nar .byte vf)), (.int (nar .byte vf)), (.int (nar .byte vf)), (.int (nar .byte vf)), (.int (nar .byte vf)), (.int (nar .byte vf)), (.int (nar .byte vf)), (.int (nar .byte vf)), (.int (nar .byte vf)), (.int (nar .byte vf)), (.int (nar .byte vf)), (.int (nar .byte vf)), (.int (0 : Int32)), (.int (0 : Int32)), (.int (0 : Int32)), (.int (0 : Int32)), (.int (0 : Int32)), (.int (0 : Int32)), (.int (0 : Int32)), (.int (0 : Int32)), (.int (0 : Int32))] (.int (0 : Int32)) := Arv.set Ar_b6 q_b6 S_b6 N_b6 H_b6 G_b6 (fits_nar_byte _) W21 14 rfl (Nat.le_of_ble_eq_true rfl)
  have K21 : Keep h0 h21 [] := K20.wr W21 (Or.inr sz_b6)
  have N21 := Fr.snoc X21 N20 g_b6
  obtain ⟨cl_b6_187, Ar_b6, q_b6, S_b6, N_b6, H_b6, G_b6⟩ := V_b6_21
  have hin187 : ¬ ((15 : Int32) < 0 ∨ cl_b6_187.slots.size ≤ ((15 : Int32)).toNatClampNeg) := inb_of S_b6 ⟨by decide, by decide⟩
  obtain ⟨T22, h22, X22, e22, W22, st22⟩ := stB X21 hx hZ e21 Ar_b6 (j := (15 : Int32)) hin187 (g := (mkF m 187 #[.val (.int p1), .val (.int p2), .val (.int p3), .val (.int p4), .val (.int p5), .val (.int vrb), .val (.int vrw), .val (.int vpl), .val (.int vrs), .val (.int vps), .val (.int vix), .val (.int vq), .val (.int vv), .val (.int vf), .val (.int vw), .unset, .unset, .unset, .unset] [(.int vf), (.int (15 : Int32)), (.ref b6), (.ref b6)])) rfl rfl (hb hby at_187)
  have V_b6_22 : Arv Z h22 b6 k6 .byte (24 : Int32) [(.int (nar .byte vf)), (.int (nar .byte vf)), (.int (nar .byte vf)), (.int (nar .byte vf)), (.int (nar .byte vf)), (.int (nar .byte vf)), (.int (nar .byte vf)), (.int (nar .byte vf)), (.int (nar .byte vf)), (.int (nar .byte vf)), (.int (nar .byte vf)), (.int (nar .byte vf)), (.int (nar .byte vf)), (.int (nar .byte vf)), (.int (nar .byte vf)), (.int (nar .byte vf)), (.int (0 : Int32)), (.int (0 : Int32)), (.int (0 : Int32)), (.int (0 : Int32)), (.int (0 : Int32)), (.int (0 : Int32)), (.int (0 : Int32)), (.int (0 : Int32))] (.int (0 : Int32)) := Arv.set Ar_b6 q_b6 S_b6 N_b6 H_b6 G_b6 (fits_nar_byte _) W22 15 rfl (Nat.le_of_ble_eq_true rfl)
  have K22 : Keep h0 h22 [] := K21.wr W22 (Or.inr sz_b6)
  have N22 := Fr.snoc X22 N21 g_b6
  obtain ⟨cl_b6_193, Ar_b6, q_b6, S_b6, N_b6, H_b6, G_b6⟩ := V_b6_22
  have hin193 : ¬ ((16 : Int32) < 0 ∨ cl_b6_193.slots.size ≤ ((16 : Int32)).toNatClampNeg) := inb_of S_b6 ⟨by decide, by decide⟩
  obtain ⟨T23, h23, X23, e23, W23, st23⟩ := stB X22 hx hZ e22 Ar_b6 (j := (16 : Int32)) hin193 (g := (mkF m 193 #[.val (.int p1), .val (.int p2), .val (.int p3), .val (.int p4), .val (.int p5), .val (.int vrb), .val (.int vrw), .val (.int vpl), .val (.int vrs), .val (.int vps), .val (.int vix), .val (.int vq), .val (.int vv), .val (.int vf), .val (.int vw), .unset, .unset, .unset, .unset] [(.int vf), (.int (16 : Int32)), (.ref b6), (.ref b6)])) rfl rfl (hb hby at_193)
  have V_b6_23 : Arv Z h23 b6 k6 .byte (24 : Int32) [(.int (nar .byte vf)), (.int (nar .byte vf)), (.int (nar .byte vf)), (.int (nar .byte vf)), (.int (nar .byte vf)), (.int (nar .byte vf)), (.int (nar .byte vf)), (.int (nar .byte vf)), (.int (nar .byte vf)), (.int (nar .byte vf)), (.int (nar .byte vf)), (.int (nar .byte vf)), (.int (nar .byte vf)), (.int (nar .byte vf)), (.int (nar .byte vf)), (.int (nar .byte vf)), (.int (nar .byte vf)), (.int (0 : Int32)), (.int (0 : Int32)), (.int (0 : Int32)), (.int (0 : Int32)), (.int (0 : Int32)), (.int (0 : Int32)), (.int (0 : Int32))] (.int (0 : Int32)) := Arv.set Ar_b6 q_b6 S_b6 N_b6 H_b6 G_b6 (fits_nar_byte _) W23 16 rfl (Nat.le_of_ble_eq_true rfl)
  have K23 : Keep h0 h23 [] := K22.wr W23 (Or.inr sz_b6)
  have N23 := Fr.snoc X23 N22 g_b6
  obtain ⟨cl_b6_199, Ar_b6, q_b6, S_b6, N_b6, H_b6, G_b6⟩ := V_b6_23
  have hin199 : ¬ ((17 : Int32) < 0 ∨ cl_b6_199.slots.size ≤ ((17 : Int32)).toNatClampNeg) := inb_of S_b6 ⟨by decide, by decide⟩
  obtain ⟨T24, h24, X24, e24, W24, st24⟩ := stB X23 hx hZ e23 Ar_b6 (j := (17 : Int32)) hin199 (g := (mkF m 199 #[.val (.int p1), .val (.int p2), .val (.int p3), .val (.int p4), .val (.int p5), .val (.int vrb), .val (.int vrw), .val (.int vpl), .val (.int vrs), .val (.int vps), .val (.int vix), .val (.int vq), .val (.int vv), .val (.int vf), .val (.int vw), .unset, .unset, .unset, .unset] [(.int vf), (.int (17 : Int32)), (.ref b6), (.ref b6)])) rfl rfl (hb hby at_199)
  have V_b6_24 : Arv Z h24 b6 k6 .byte (24 : Int32) [(.int (nar .byte vf)), (.int (nar .byte vf)), (.int (nar .byte vf)), (.int (nar .byte vf)), (.int (nar .byte vf)), (.int (nar .byte vf)), (.int (nar .byte vf)), (.int (nar .byte vf)), (.int (nar .byte vf)), (.int (nar .byte vf)), (.int (nar .byte vf)), (.int (nar .byte vf)), (.int (nar .byte vf)), (.int (nar .byte vf)), (.int (nar .byte vf)), (.int (nar .byte vf)), (.int (nar .byte vf)), (.int (nar .byte vf)), (.int (0 : Int32)), (.int (0 : Int32)), (.int (0 : Int32)), (.int (0 : Int32)), (.int (0 : Int32)), (.int (0 : Int32))] (.int (0 : Int32)) := Arv.set Ar_b6 q_b6 S_b6 N_b6 H_b6 G_b6 (fits_nar_byte _) W24 17 rfl (Nat.le_of_ble_eq_true rfl)
  have K24 : Keep h0 h24 [] := K23.wr W24 (Or.inr sz_b6)
  have N24 := Fr.snoc X24 N23 g_b6
  obtain ⟨cl_b6_205, Ar_b6, q_b6, S_b6, N_b6, H_b6, G_b6⟩ := V_b6_24
  have hin205 : ¬ ((18 : Int32) < 0 ∨ cl_b6_205.slots.size ≤ ((18 : Int32)).toNatClampNeg) := inb_of S_b6 ⟨by decide, by decide⟩
  obtain ⟨T25, h25, X25, e25, W25, st25⟩ := stB X24 hx hZ e24 Ar_b6 (j := (18 : Int32)) hin205 (g := (mkF m 205 #[.val (.int p1), .val (.int p2), .val (.int p3), .val (.int p4), .val (.int p5), .val (.int vrb), .val (.int vrw), .val (.int vpl), .val (.int vrs), .val (.int vps), .val (.int vix), .val (.int vq), .val (.int vv), .val (.int vf), .val (.int vw), .unset, .unset, .unset, .unset] [(.int vf), (.int (18 : Int32)), (.ref b6), (.ref b6)])) rfl rfl (hb hby at_205)
  have V_b6_25 : Arv Z h25 b6 k6 .byte (24 : Int32) [(.int (nar .byte vf)), (.int (nar .byte vf)), (.int (nar .byte vf)), (.int (nar .byte vf)), (.int (nar .byte vf)), (.int (nar .byte vf)), (.int (nar .byte vf)), (.int (nar .byte vf)), (.int (nar .byte vf)), (.int (nar .byte vf)), (.int (nar .byte vf)), (.int (nar .byte vf)), (.int (nar .byte vf)), (.int (nar .byte vf)), (.int (nar .byte vf)), (.int (nar .byte vf)), (.int (nar .byte vf)), (.int (nar .byte vf)), (.int (nar .byte vf)), (.int (0 : Int32)), (.int (0 : Int32)), (.int (0 : Int32)), (.int (0 : Int32)), (.int (0 : Int32))] (.int (0 : Int32)) := Arv.set Ar_b6 q_b6 S_b6 N_b6 H_b6 G_b6 (fits_nar_byte _) W25 18 rfl (Nat.le_of_ble_eq_true rfl)
  have K25 : Keep h0 h25 [] := K24.wr W25 (Or.inr sz_b6)
  have N25 := Fr.snoc X25 N24 g_b6
  obtain ⟨cl_b6_211, Ar_b6, q_b6, S_b6, N_b6, H_b6, G_b6⟩ := V_b6_25
  have hin211 : ¬ ((19 : Int32) < 0 ∨ cl_b6_211.slots.size ≤ ((19 : Int32)).toNatClampNeg) := inb_of S_b6 ⟨by decide, by decide⟩
  obtain ⟨T26, h26, X26, e26, W26, st26⟩ := stB X25 hx hZ e25 Ar_b6 (j := (19 : Int32)) hin211 (g := (mkF m 211 #[.val (.int p1), .val (.int p2), .val (.int p3), .val (.int p4), .val (.int p5), .val (.int vrb), .val (.int vrw), .val (.int vpl), .val (.int vrs), .val (.int vps), .val (.int vix), .val (.int vq), .val (.int vv), .val (.int vf), .val (.int vw), .unset, .unset, .unset, .unset] [(.int vf), (.int (19 : Int32)), (.ref b6), (.ref b6)])) rfl rfl (hb hby at_211)
  have V_b6_26 : Arv Z h26 b6 k6 .byte (24 : Int32) [(.int (nar .byte vf)), (.int (nar .byte vf)), (.int (nar .byte vf)), (.int (nar .byte vf)), (.int (nar .byte vf)), (.int (nar .byte vf)), (.int (nar .byte vf)), (.int (nar .byte vf)), (.int (nar .byte vf)), (.int (nar .byte vf)), (.int (nar .byte vf)), (.int (nar .byte vf)), (.int (nar .byte vf)), (.int (nar .byte vf)), (.int (nar .byte vf)), (.int (nar .byte vf)), (.int (nar .byte vf)), (.int (nar .byte vf)), (.int (nar .byte vf)), (.int (nar .byte vf)), (.int (0 : Int32)), (.int (0 : Int32)), (.int (0 : Int32)), (.int (0 : Int32))] (.int (0 : Int32)) := Arv.set Ar_b6 q_b6 S_b6 N_b6 H_b6 G_b6 (fits_nar_byte _) W26 19 rfl (Nat.le_of_ble_eq_true rfl)
  have K26 : Keep h0 h26 [] := K25.wr W26 (Or.inr sz_b6)
  have N26 := Fr.snoc X26 N25 g_b6
  obtain ⟨cl_b6_217, Ar_b6, q_b6, S_b6, N_b6, H_b6, G_b6⟩ := V_b6_26
  have hin217 : ¬ ((20 : Int32) < 0 ∨ cl_b6_217.slots.size ≤ ((20 : Int32)).toNatClampNeg) := inb_of S_b6 ⟨by decide, by decide⟩
  obtain ⟨T27, h27, X27, e27, W27, st27⟩ := stB X26 hx hZ e26 Ar_b6 (j := (20 : Int32)) hin217 (g := (mkF m 217 #[.val (.int p1), .val (.int p2), .val (.int p3), .val (.int p4), .val (.int p5), .val (.int vrb), .val (.int vrw), .val (.int vpl), .val (.int vrs), .val (.int vps), .val (.int vix), .val (.int vq), .val (.int vv), .val (.int vf), .val (.int vw), .unset, .unset, .unset, .unset] [(.int vf), (.int (20 : Int32)), (.ref b6), (.ref b6)])) rfl rfl (hb hby at_217)
  have V_b6_27 : Arv Z h27 b6 k6 .byte (24 : Int32) [(.int (nar .byte vf)), (.int (nar .byte vf)), (.int (nar .byte vf)), (.int (nar .byte vf)), (.int (nar .byte vf)), (.int (nar .byte vf)), (.int (nar .byte vf)), (.int (nar .byte vf)), (.int (nar .byte vf)), (.int (nar .byte vf)), (.int (nar .byte vf)), (.int (nar .byte vf)), (.int (nar .byte vf)), (.int (nar .byte vf)), (.int (nar .byte vf)), (.int (nar .byte vf)), (.int (nar .byte vf)), (.int (nar .byte vf)), (.int (nar .byte vf)), (.int (nar .byte vf)), (.int (nar .byte vf)), (.int (0 : Int32)), (.int (0 : Int32)), (.int (0 : Int32))] (.int (0 : Int32)) := Arv.set Ar_b6 q_b6 S_b6 N_b6 H_b6 G_b6 (fits_nar_byte _) W27 20 rfl (Nat.le_of_ble_eq_true rfl)
  have K27 : Keep h0 h27 [] := K26.wr W27 (Or.inr sz_b6)
  have N27 := Fr.snoc X27 N26 g_b6
  obtain ⟨cl_b6_223, Ar_b6, q_b6, S_b6, N_b6, H_b6, G_b6⟩ := V_b6_27
  have hin223 : ¬ ((21 : Int32) < 0 ∨ cl_b6_223.slots.size ≤ ((21 : Int32)).toNatClampNeg) := inb_of S_b6 ⟨by decide, by decide⟩
  obtain ⟨T28, h28, X28, e28, W28, st28⟩ := stB X27 hx hZ e27 Ar_b6 (j := (21 : Int32)) hin223 (g := (mkF m 223 #[.val (.int p1), .val (.int p2), .val (.int p3), .val (.int p4), .val (.int p5), .val (.int vrb), .val (.int vrw), .val (.int vpl), .val (.int vrs), .val (.int vps), .val (.int vix), .val (.int vq), .val (.int vv), .val (.int vf), .val (.int vw), .unset, .unset, .unset, .unset] [(.int vf), (.int (21 : Int32)), (.ref b6), (.ref b6)])) rfl rfl (hb hby at_223)
  have V_b6_28 : Arv Z h28 b6 k6 .byte (24 : Int32) [(.int (nar .byte vf)), (.int (nar .byte vf)), (.int (nar .byte vf)), (.int (nar .byte vf)), (.int (nar .byte vf)), (.int (nar .byte vf)), (.int (nar .byte vf)), (.int (nar .byte vf)), (.int (nar .byte vf)), (.int (nar .byte vf)), (.int (nar .byte vf)), (.int (nar .byte vf)), (.int (nar .byte vf)), (.int (nar .byte vf)), (.int (nar .byte vf)), (.int (nar .byte vf)), (.int (nar .byte vf)), (.int (nar .byte vf)), (.int (nar .byte vf)), (.int (nar .byte vf)), (.int (nar .byte vf)), (.int (nar .byte vf)), (.int (0 : Int32)), (.int (0 : Int32))] (.int (0 : Int32)) := Arv.set Ar_b6 q_b6 S_b6 N_b6 H_b6 G_b6 (fits_nar_byte _) W28 21 rfl (Nat.le_of_ble_eq_true rfl)
  have K28 : Keep h0 h28 [] := K27.wr W28 (Or.inr sz_b6)
  have N28 := Fr.snoc X28 N27 g_b6
  obtain ⟨cl_b6_229, Ar_b6, q_b6, S_b6, N_b6, H_b6, G_b6⟩ := V_b6_28
  have hin229 : ¬ ((22 : Int32) < 0 ∨ cl_b6_229.slots.size ≤ ((22 : Int32)).toNatClampNeg) := inb_of S_b6 ⟨by decide, by decide⟩
  obtain ⟨T29, h29, X29, e29, W29, st29⟩ := stB X28 hx hZ e28 Ar_b6 (j := (22 : Int32)) hin229 (g := (mkF m 229 #[.val (.int p1), .val (.int p2), .val (.int p3), .val (.int p4), .val (.int p5), .val (.int vrb), .val (.int vrw), .val (.int vpl), .val (.int vrs), .val (.int vps), .val (.int vix), .val (.int vq), .val (.int vv), .val (.int vf), .val (.int vw), .unset, .unset, .unset, .unset] [(.int vf), (.int (22 : Int32)), (.ref b6), (.ref b6)])) rfl rfl (hb hby at_229)
  have V_b6_29 : Arv Z h29 b6 k6 .byte (24 : Int32) [(.int (nar .byte vf)), (.int (nar .byte vf)), (.int (nar .byte vf)), (.int (nar .byte vf)), (.int (nar .byte vf)), (.int (nar .byte vf)), (.int (nar .byte vf)), (.int (nar .byte vf)), (.int (nar .byte vf)), (.int (nar .byte vf)), (.int (nar .byte vf)), (.int (nar .byte vf)), (.int (nar .byte vf)), (.int (nar .byte vf)), (.int (nar .byte vf)), (.int (nar .byte vf)), (.int (nar .byte vf)), (.int (nar .byte vf)), (.int (nar .byte vf)), (.int (nar .byte vf)), (.int (nar .byte vf)), (.int (nar .byte vf)), (.int (nar .byte vf)), (.int (0 : Int32))] (.int (0 : Int32)) := Arv.set Ar_b6 q_b6 S_b6 N_b6 H_b6 G_b6 (fits_nar_byte _) W29 22 rfl (Nat.le_of_ble_eq_true rfl)
  have K29 : Keep h0 h29 [] := K28.wr W29 (Or.inr sz_b6)
  have N29 := Fr.snoc X29 N28 g_b6
  obtain ⟨cl_b6_235, Ar_b6, q_b6, S_b6, N_b6, H_b6, G_b6⟩ := V_b6_29
  have hin235 : ¬ ((23 : Int32) < 0 ∨ cl_b6_235.slots.size ≤ ((23 : Int32)).toNatClampNeg) := inb_of S_b6 ⟨by decide, by decide⟩
  obtain ⟨T30, h30, X30, e30, W30, st30⟩ := stB X29 hx hZ e29 Ar_b6 (j := (23 : Int32)) hin235 (g := (mkF m 235 #[.val (.int p1), .val (.int p2), .val (.int p3), .val (.int p4), .val (.int p5), .val (.int vrb), .val (.int vrw), .val (.int vpl), .val (.int vrs), .val (.int vps), .val (.int vix), .val (.int vq), .val (.int vv), .val (.int vf), .val (.int vw), .unset, .unset, .unset, .unset] [(.int vf), (.int (23 : Int32)), (.ref b6), (.ref b6)])) rfl rfl (hb hby at_235)
  have V_b6_30 : Arv Z h30 b6 k6 .byte (24 : Int32) [(.int (nar .byte vf)), (.int (nar .byte vf)), (.int (nar .byte vf)), (.int (nar .byte vf)), (.int (nar .byte vf)), (.int (nar .byte vf)), (.int (nar .byte vf)), (.int (nar .byte vf)), (.int (nar .byte vf)), (.int (nar .byte vf)), (.int (nar .byte vf)), (.int (nar .byte vf)), (.int (nar .byte vf)), (.int (nar .byte vf)), (.int (nar .byte vf)), (.int (nar .byte vf)), (.int (nar .byte vf)), (.int (nar .byte vf)), (.int (nar .byte vf)), (.int (nar .byte vf)), (.int (nar .byte vf)), (.int (nar .byte vf)), (.int (nar .byte vf)), (.int (nar .byte vf))] (.int (0 : Int32)) := Arv.set Ar_b6 q_b6 S_b6 N_b6 H_b6 G_b6 (fits_nar_byte _) W30 23 rfl (Nat.le_of_ble_eq_true rfl)
  have K30 : Keep h0 h30 [] := K29.wr W30 (Or.inr sz_b6)
  have N30 := Fr.snoc X30 N29 g_b6
  obtain ⟨cl_b6_244, Ar_b6, q_b6, S_b6, N_b6, H_b6, G_b6⟩ := V_b6_30
  have hin244 : ¬ (vq < 0 ∨ cl_b6_244.slots.size ≤ (vq).toNatClampNeg) := inb_of S_b6 ⟨by rw [hvq]; exact own_n0 nq (by omega), by rw [hvq]; exact (own_lt nq 24 (by omega) (by decide)).mpr hnq⟩
  obtain ⟨T31, h31, X31, e31, W31, st31⟩ := stB X30 hx hZ e30 Ar_b6 (j := vq) hin244 (g := (mkF m 244 #[.val (.int p1), .val (.int p2), .val (.int p3), .val (.int p4), .val (.int p5), .val (.int vrb), .val (.int vrw), .val (.int vpl), .val (.int vrs), .val (.int vps), .val (.int vix), .val (.int vq), .val (.int vv), .val (.int vf), .val (.int vw), .val (.ref b6), .unset, .unset, .unset] [(.int vw), (.int vq), (.ref b6)])) rfl rfl (hb hby at_244)
  have V_b6_31 := Arv.set Ar_b6 q_b6 S_b6 N_b6 H_b6 G_b6 (fits_nar_byte _) W31 nq (by rw [hvq]; exact own_cl nq (by omega)) (by exact hnq)
  obtain ⟨clq, Arq, qq, Sq, Nq, Hq, Gq⟩ := V_b6_31
  have hszq : clq.slots.size = 24 := Sq
  have hfq : ∀ j, j < 24 → clq.slots[j]? = some (.int ((fun j => if j = nq then vw else vf) j)) := by
    intro j hj
    rw [Hq j (by omega)]
    show some (((List.replicate 24 (Value.int (nar .byte vf))).set nq (Value.int (nar .byte vw))).getD j (Value.int (0 : Int32))) = _
    rw [own_rep _ _ _ nq j hnq hj, bf, bw]
    show some (if j = nq then Value.int vw else Value.int vf) = some (.int (if j = nq then vw else vf))
    by_cases q : j = nq
    · rw [if_pos q, if_pos q]
    · rw [if_neg q, if_neg q]
  have K31 : Keep h0 h31 [] := K30.wr W31 (Or.inr sz_b6)
  have N31 := Fr.snoc X31 N30 g_b6
  obtain ⟨_, _, ⟨T32, L32, k32, n32⟩, -, X32, ⟨Lc32, hQ32, l32, y32, z32⟩, st32⟩ := Jvm.LawKit.callS X31 hx (y := (⟨"com/example/chunkwell/chunkwell/codecs/RowCopies", "eachByteIs", "([BJJJIIJB)Z"⟩ : MethodName)) hown (mvT hZ (hw _ (List.mem_of_getElem? (i := 2) rfl))) (mvT hZ (hw _ (List.mem_of_getElem? (i := 3) rfl))) (mvT hZ (hw _ (List.mem_of_getElem? (i := 4) rfl))) (mvT hZ (hw _ (List.mem_of_getElem? (i := 5) rfl))) (by decide) (backOf (W := 0) (rm1w l Z a0 hw [] b6 (vix.toInt64) (vrs.toInt64) (vps.toInt64) vrb vrw (vpl.toInt64) vv clq (fun j => if j = nq then vw else vf) nix nrs nps nrb nrw npl h31 n0 (Nat.le_trans (Nat.le_trans (Nat.le_trans (Nat.le_trans (Nat.le_trans (Nat.le_trans (Nat.le_trans (Nat.le_trans (Nat.le_trans (Nat.le_trans (Nat.le_trans (Nat.le_trans (Nat.le_trans (Nat.le_trans (Nat.le_trans (Nat.le_trans (Nat.le_trans (Nat.le_trans (Nat.le_trans (Nat.le_trans (Nat.le_trans (Nat.le_trans (Nat.le_trans (Nat.le_trans (Nat.le_trans (Nat.le_trans Z0 E6.1) (Keep.of_wr W7).1) (Keep.of_wr W8).1) (Keep.of_wr W9).1) (Keep.of_wr W10).1) (Keep.of_wr W11).1) (Keep.of_wr W12).1) (Keep.of_wr W13).1) (Keep.of_wr W14).1) (Keep.of_wr W15).1) (Keep.of_wr W16).1) (Keep.of_wr W17).1) (Keep.of_wr W18).1) (Keep.of_wr W19).1) (Keep.of_wr W20).1) (Keep.of_wr W21).1) (Keep.of_wr W22).1) (Keep.of_wr W23).1) (Keep.of_wr W24).1) (Keep.of_wr W25).1) (Keep.of_wr W26).1) (Keep.of_wr W27).1) (Keep.of_wr W28).1) (Keep.of_wr W29).1) (Keep.of_wr W30).1) (Keep.of_wr W31).1) lix lrs lps hvrb hvrw lpl Arq hszq hfq hrw hrb hix hrs hps hpl) hZ (hw _ (List.mem_of_getElem? (i := 5) rfl)) (hw _ (List.mem_of_getElem? (i := 4) rfl)) (by decide) (by decide)) (g := (mkF m 265 #[.val (.int p1), .val (.int p2), .val (.int p3), .val (.int p4), .val (.int p5), .val (.int vrb), .val (.int vrw), .val (.int vpl), .val (.int vrs), .val (.int vps), .val (.int vix), .val (.int vq), .val (.int vv), .val (.int vf), .val (.int vw), .val (.ref b6), .unset, .unset, .unset] [(.int vv), (.long (vpl.toInt64)), (.int vrw), (.int vrb), (.long (vps.toInt64)), (.long (vrs.toInt64)), (.long (vix.toInt64)), (.ref b6)])) rfl (by rw [hml]; rfl) (argsL := [(.ref b6), (.long (vix.toInt64)), (.long (vrs.toInt64)), (.long (vps.toInt64)), (.int vrb), (.int vrw), (.long (vpl.toInt64)), (.int vv)]) (rest := []) (lenOf pd_0_0 rfl) rfl (by show 2 * 0 + _ ≤ _; exact Nat.le_of_eq rfl) (hb hby at_265) (fun _ _ => ⟨rfl, e31, (by decide : 1 + 0 ≤ _), (by decide : 24 + 0 ≤ _)⟩)
  dsimp only [Pt.U, Pt.locs, Pt.cells, Pt.slots] at X32 l32 y32 z32 st32 hQ32
  rw [l32, y32, z32] at X32
  obtain ⟨rfl, N32q, e32⟩ := hQ32
  have N32 := Fr.app N31 N32q
  obtain ⟨got, h_got⟩ : ∃ z : Int32, z = (own_b (own_A (fun j => if j = nq then vw else vf) vv nix nrs nps nrb nrw npl)) := ⟨_, rfl⟩
  obtain ⟨_, _, ⟨T33, L33, k33, n33⟩, -, X33, ⟨Lc33, hQ33, l33, y33, z33⟩, st33⟩ := Jvm.LawKit.callS X32 hx (y := (⟨"com/example/chunkwell/chunkwell/codecs/RowCopiesEachByteIsPinLaw", "row", "(IIIIIIIII)I"⟩ : MethodName)) hown (mvT hZ (hw _ (List.mem_of_getElem? (i := 6) rfl))) (mvT hZ (hw _ (List.mem_of_getElem? (i := 7) rfl))) (mvT hZ (hw _ (List.mem_of_getElem? (i := 8) rfl))) (mvT hZ (hw _ (List.mem_of_getElem? (i := 9) rfl))) (by decide) (backOf (W := 0) (rm2 l Z a0 hw [] (0 : Int32) (0 : Int32) vrw vpl vrb vix vrs vps vq  h31 n0 (Nat.le_trans (Nat.le_trans (Nat.le_trans (Nat.le_trans (Nat.le_trans (Nat.le_trans (Nat.le_trans (Nat.le_trans (Nat.le_trans (Nat.le_trans (Nat.le_trans (Nat.le_trans (Nat.le_trans (Nat.le_trans (Nat.le_trans (Nat.le_trans (Nat.le_trans (Nat.le_trans (Nat.le_trans (Nat.le_trans (Nat.le_trans (Nat.le_trans (Nat.le_trans (Nat.le_trans (Nat.le_trans (Nat.le_trans Z0 E6.1) (Keep.of_wr W7).1) (Keep.of_wr W8).1) (Keep.of_wr W9).1) (Keep.of_wr W10).1) (Keep.of_wr W11).1) (Keep.of_wr W12).1) (Keep.of_wr W13).1) (Keep.of_wr W14).1) (Keep.of_wr W15).1) (Keep.of_wr W16).1) (Keep.of_wr W17).1) (Keep.of_wr W18).1) (Keep.of_wr W19).1) (Keep.of_wr W20).1) (Keep.of_wr W21).1) (Keep.of_wr W22).1) (Keep.of_wr W23).1) (Keep.of_wr W24).1) (Keep.of_wr W25).1) (Keep.of_wr W26).1) (Keep.of_wr W27).1) (Keep.of_wr W28).1) (Keep.of_wr W29).1) (Keep.of_wr W30).1) (Keep.of_wr W31).1)) hZ (hw _ (List.mem_of_getElem? (i := 9) rfl)) (hw _ (List.mem_of_getElem? (i := 8) rfl)) (by decide) (by decide)) (g := (mkF m 286 #[.val (.int p1), .val (.int p2), .val (.int p3), .val (.int p4), .val (.int p5), .val (.int vrb), .val (.int vrw), .val (.int vpl), .val (.int vrs), .val (.int vps), .val (.int vix), .val (.int vq), .val (.int vv), .val (.int vf), .val (.int vw), .val (.ref b6), .val (.int got), .unset, .unset] [(.int vq), (.int vps), (.int vrs), (.int vix), (.int vrb), (.int vpl), (.int vrw), (.int (0 : Int32)), (.int (0 : Int32))])) rfl (by rw [hml]; rfl) (argsL := [(.int (0 : Int32)), (.int (0 : Int32)), (.int vrw), (.int vpl), (.int vrb), (.int vix), (.int vrs), (.int vps), (.int vq)]) (rest := []) (lenOf pd_0_1 rfl) rfl (by show 2 * 0 + _ ≤ _; exact Nat.le_of_eq rfl) (hb hby at_286) (fun _ _ => ⟨rfl, e32, (by decide : 1 + 0 ≤ _), (by decide : 24 + 0 ≤ _)⟩)
  dsimp only [Pt.U, Pt.locs, Pt.cells, Pt.slots] at X33 l33 y33 z33 st33 hQ33
  rw [l33, y33, z33] at X33
  obtain ⟨rfl, N33q, e33⟩ := hQ33
  have N33 := Fr.app N32 N33q
  obtain ⟨_, _, ⟨T34, L34, k34, n34⟩, -, X34, ⟨Lc34, hQ34, l34, y34, z34⟩, st34⟩ := Jvm.LawKit.callS X33 hx (y := (⟨"com/example/chunkwell/chunkwell/codecs/RowCopiesEachByteIsPinLaw", "row", "(IIIIIIIII)I"⟩ : MethodName)) hown (mvT hZ (hw _ (List.mem_of_getElem? (i := 6) rfl))) (mvT hZ (hw _ (List.mem_of_getElem? (i := 7) rfl))) (mvT hZ (hw _ (List.mem_of_getElem? (i := 8) rfl))) (mvT hZ (hw _ (List.mem_of_getElem? (i := 9) rfl))) (by decide) (backOf (W := 1) (rm2 l Z a0 hw [] (0 : Int32) (1 : Int32) vrw vpl vrb vix vrs vps vq  h31 n0 (Nat.le_trans (Nat.le_trans (Nat.le_trans (Nat.le_trans (Nat.le_trans (Nat.le_trans (Nat.le_trans (Nat.le_trans (Nat.le_trans (Nat.le_trans (Nat.le_trans (Nat.le_trans (Nat.le_trans (Nat.le_trans (Nat.le_trans (Nat.le_trans (Nat.le_trans (Nat.le_trans (Nat.le_trans (Nat.le_trans (Nat.le_trans (Nat.le_trans (Nat.le_trans (Nat.le_trans (Nat.le_trans (Nat.le_trans Z0 E6.1) (Keep.of_wr W7).1) (Keep.of_wr W8).1) (Keep.of_wr W9).1) (Keep.of_wr W10).1) (Keep.of_wr W11).1) (Keep.of_wr W12).1) (Keep.of_wr W13).1) (Keep.of_wr W14).1) (Keep.of_wr W15).1) (Keep.of_wr W16).1) (Keep.of_wr W17).1) (Keep.of_wr W18).1) (Keep.of_wr W19).1) (Keep.of_wr W20).1) (Keep.of_wr W21).1) (Keep.of_wr W22).1) (Keep.of_wr W23).1) (Keep.of_wr W24).1) (Keep.of_wr W25).1) (Keep.of_wr W26).1) (Keep.of_wr W27).1) (Keep.of_wr W28).1) (Keep.of_wr W29).1) (Keep.of_wr W30).1) (Keep.of_wr W31).1)) hZ (hw _ (List.mem_of_getElem? (i := 9) rfl)) (hw _ (List.mem_of_getElem? (i := 8) rfl)) (by decide) (by decide)) (g := (mkF m 305 #[.val (.int p1), .val (.int p2), .val (.int p3), .val (.int p4), .val (.int p5), .val (.int vrb), .val (.int vrw), .val (.int vpl), .val (.int vrs), .val (.int vps), .val (.int vix), .val (.int vq), .val (.int vv), .val (.int vf), .val (.int vw), .val (.ref b6), .val (.int got), .unset, .unset] [(.int vq), (.int vps), (.int vrs), (.int vix), (.int vrb), (.int vpl), (.int vrw), (.int (1 : Int32)), (.int (0 : Int32)), (.int (own_row (0 : Int32) (0 : Int32) vrw vpl vrb vix vrs vps vq))])) rfl (by rw [hml]; rfl) (argsL := [(.int (0 : Int32)), (.int (1 : Int32)), (.int vrw), (.int vpl), (.int vrb), (.int vix), (.int vrs), (.int vps), (.int vq)]) (rest := [(.int (own_row (0 : Int32) (0 : Int32) vrw vpl vrb vix vrs vps vq))]) (lenOf pd_0_1 rfl) rfl (by show 2 * 0 + _ ≤ _; exact Nat.le_of_eq rfl) (hb hby at_305) (fun _ _ => ⟨rfl, e33, (by decide : 1 + 0 ≤ _), (by decide : 24 + 0 ≤ _)⟩)
  dsimp only [Pt.U, Pt.locs, Pt.cells, Pt.slots] at X34 l34 y34 z34 st34 hQ34
  rw [l34, y34, z34] at X34
  obtain ⟨rfl, N34q, e34⟩ := hQ34
  have N34 := Fr.app N33 N34q
  obtain ⟨_, _, ⟨T35, L35, k35, n35⟩, -, X35, ⟨Lc35, hQ35, l35, y35, z35⟩, st35⟩ := Jvm.LawKit.callS X34 hx (y := (⟨"com/example/chunkwell/chunkwell/codecs/RowCopiesEachByteIsPinLaw", "row", "(IIIIIIIII)I"⟩ : MethodName)) hown (mvT hZ (hw _ (List.mem_of_getElem? (i := 6) rfl))) (mvT hZ (hw _ (List.mem_of_getElem? (i := 7) rfl))) (mvT hZ (hw _ (List.mem_of_getElem? (i := 8) rfl))) (mvT hZ (hw _ (List.mem_of_getElem? (i := 9) rfl))) (by decide) (backOf (W := 1) (rm2 l Z a0 hw [] (0 : Int32) (2 : Int32) vrw vpl vrb vix vrs vps vq  h31 n0 (Nat.le_trans (Nat.le_trans (Nat.le_trans (Nat.le_trans (Nat.le_trans (Nat.le_trans (Nat.le_trans (Nat.le_trans (Nat.le_trans (Nat.le_trans (Nat.le_trans (Nat.le_trans (Nat.le_trans (Nat.le_trans (Nat.le_trans (Nat.le_trans (Nat.le_trans (Nat.le_trans (Nat.le_trans (Nat.le_trans (Nat.le_trans (Nat.le_trans (Nat.le_trans (Nat.le_trans (Nat.le_trans (Nat.le_trans Z0 E6.1) (Keep.of_wr W7).1) (Keep.of_wr W8).1) (Keep.of_wr W9).1) (Keep.of_wr W10).1) (Keep.of_wr W11).1) (Keep.of_wr W12).1) (Keep.of_wr W13).1) (Keep.of_wr W14).1) (Keep.of_wr W15).1) (Keep.of_wr W16).1) (Keep.of_wr W17).1) (Keep.of_wr W18).1) (Keep.of_wr W19).1) (Keep.of_wr W20).1) (Keep.of_wr W21).1) (Keep.of_wr W22).1) (Keep.of_wr W23).1) (Keep.of_wr W24).1) (Keep.of_wr W25).1) (Keep.of_wr W26).1) (Keep.of_wr W27).1) (Keep.of_wr W28).1) (Keep.of_wr W29).1) (Keep.of_wr W30).1) (Keep.of_wr W31).1)) hZ (hw _ (List.mem_of_getElem? (i := 9) rfl)) (hw _ (List.mem_of_getElem? (i := 8) rfl)) (by decide) (by decide)) (g := (mkF m 325 #[.val (.int p1), .val (.int p2), .val (.int p3), .val (.int p4), .val (.int p5), .val (.int vrb), .val (.int vrw), .val (.int vpl), .val (.int vrs), .val (.int vps), .val (.int vix), .val (.int vq), .val (.int vv), .val (.int vf), .val (.int vw), .val (.ref b6), .val (.int got), .unset, .unset] [(.int vq), (.int vps), (.int vrs), (.int vix), (.int vrb), (.int vpl), (.int vrw), (.int (2 : Int32)), (.int (0 : Int32)), (.int ((own_row (0 : Int32) (0 : Int32) vrw vpl vrb vix vrs vps vq) ||| (own_row (0 : Int32) (1 : Int32) vrw vpl vrb vix vrs vps vq)))])) rfl (by rw [hml]; rfl) (argsL := [(.int (0 : Int32)), (.int (2 : Int32)), (.int vrw), (.int vpl), (.int vrb), (.int vix), (.int vrs), (.int vps), (.int vq)]) (rest := [(.int ((own_row (0 : Int32) (0 : Int32) vrw vpl vrb vix vrs vps vq) ||| (own_row (0 : Int32) (1 : Int32) vrw vpl vrb vix vrs vps vq)))]) (lenOf pd_0_1 rfl) rfl (by show 2 * 0 + _ ≤ _; exact Nat.le_of_eq rfl) (hb hby at_325) (fun _ _ => ⟨rfl, e34, (by decide : 1 + 0 ≤ _), (by decide : 24 + 0 ≤ _)⟩)
  dsimp only [Pt.U, Pt.locs, Pt.cells, Pt.slots] at X35 l35 y35 z35 st35 hQ35
  rw [l35, y35, z35] at X35
  obtain ⟨rfl, N35q, e35⟩ := hQ35
  have N35 := Fr.app N34 N35q
  obtain ⟨_, _, ⟨T36, L36, k36, n36⟩, -, X36, ⟨Lc36, hQ36, l36, y36, z36⟩, st36⟩ := Jvm.LawKit.callS X35 hx (y := (⟨"com/example/chunkwell/chunkwell/codecs/RowCopiesEachByteIsPinLaw", "row", "(IIIIIIIII)I"⟩ : MethodName)) hown (mvT hZ (hw _ (List.mem_of_getElem? (i := 6) rfl))) (mvT hZ (hw _ (List.mem_of_getElem? (i := 7) rfl))) (mvT hZ (hw _ (List.mem_of_getElem? (i := 8) rfl))) (mvT hZ (hw _ (List.mem_of_getElem? (i := 9) rfl))) (by decide) (backOf (W := 1) (rm2 l Z a0 hw [] (0 : Int32) (3 : Int32) vrw vpl vrb vix vrs vps vq  h31 n0 (Nat.le_trans (Nat.le_trans (Nat.le_trans (Nat.le_trans (Nat.le_trans (Nat.le_trans (Nat.le_trans (Nat.le_trans (Nat.le_trans (Nat.le_trans (Nat.le_trans (Nat.le_trans (Nat.le_trans (Nat.le_trans (Nat.le_trans (Nat.le_trans (Nat.le_trans (Nat.le_trans (Nat.le_trans (Nat.le_trans (Nat.le_trans (Nat.le_trans (Nat.le_trans (Nat.le_trans (Nat.le_trans (Nat.le_trans Z0 E6.1) (Keep.of_wr W7).1) (Keep.of_wr W8).1) (Keep.of_wr W9).1) (Keep.of_wr W10).1) (Keep.of_wr W11).1) (Keep.of_wr W12).1) (Keep.of_wr W13).1) (Keep.of_wr W14).1) (Keep.of_wr W15).1) (Keep.of_wr W16).1) (Keep.of_wr W17).1) (Keep.of_wr W18).1) (Keep.of_wr W19).1) (Keep.of_wr W20).1) (Keep.of_wr W21).1) (Keep.of_wr W22).1) (Keep.of_wr W23).1) (Keep.of_wr W24).1) (Keep.of_wr W25).1) (Keep.of_wr W26).1) (Keep.of_wr W27).1) (Keep.of_wr W28).1) (Keep.of_wr W29).1) (Keep.of_wr W30).1) (Keep.of_wr W31).1)) hZ (hw _ (List.mem_of_getElem? (i := 9) rfl)) (hw _ (List.mem_of_getElem? (i := 8) rfl)) (by decide) (by decide)) (g := (mkF m 345 #[.val (.int p1), .val (.int p2), .val (.int p3), .val (.int p4), .val (.int p5), .val (.int vrb), .val (.int vrw), .val (.int vpl), .val (.int vrs), .val (.int vps), .val (.int vix), .val (.int vq), .val (.int vv), .val (.int vf), .val (.int vw), .val (.ref b6), .val (.int got), .unset, .unset] [(.int vq), (.int vps), (.int vrs), (.int vix), (.int vrb), (.int vpl), (.int vrw), (.int (3 : Int32)), (.int (0 : Int32)), (.int (((own_row (0 : Int32) (0 : Int32) vrw vpl vrb vix vrs vps vq) ||| (own_row (0 : Int32) (1 : Int32) vrw vpl vrb vix vrs vps vq)) ||| (own_row (0 : Int32) (2 : Int32) vrw vpl vrb vix vrs vps vq)))])) rfl (by rw [hml]; rfl) (argsL := [(.int (0 : Int32)), (.int (3 : Int32)), (.int vrw), (.int vpl), (.int vrb), (.int vix), (.int vrs), (.int vps), (.int vq)]) (rest := [(.int (((own_row (0 : Int32) (0 : Int32) vrw vpl vrb vix vrs vps vq) ||| (own_row (0 : Int32) (1 : Int32) vrw vpl vrb vix vrs vps vq)) ||| (own_row (0 : Int32) (2 : Int32) vrw vpl vrb vix vrs vps vq)))]) (lenOf pd_0_1 rfl) rfl (by show 2 * 0 + _ ≤ _; exact Nat.le_of_eq rfl) (hb hby at_345) (fun _ _ => ⟨rfl, e35, (by decide : 1 + 0 ≤ _), (by decide : 24 + 0 ≤ _)⟩)
  dsimp only [Pt.U, Pt.locs, Pt.cells, Pt.slots] at X36 l36 y36 z36 st36 hQ36
  rw [l36, y36, z36] at X36
  obtain ⟨rfl, N36q, e36⟩ := hQ36
  have N36 := Fr.app N35 N36q
  obtain ⟨_, _, ⟨T37, L37, k37, n37⟩, -, X37, ⟨Lc37, hQ37, l37, y37, z37⟩, st37⟩ := Jvm.LawKit.callS X36 hx (y := (⟨"com/example/chunkwell/chunkwell/codecs/RowCopiesEachByteIsPinLaw", "row", "(IIIIIIIII)I"⟩ : MethodName)) hown (mvT hZ (hw _ (List.mem_of_getElem? (i := 6) rfl))) (mvT hZ (hw _ (List.mem_of_getElem? (i := 7) rfl))) (mvT hZ (hw _ (List.mem_of_getElem? (i := 8) rfl))) (mvT hZ (hw _ (List.mem_of_getElem? (i := 9) rfl))) (by decide) (backOf (W := 1) (rm2 l Z a0 hw [] (1 : Int32) (0 : Int32) vrw vpl vrb vix vrs vps vq  h31 n0 (Nat.le_trans (Nat.le_trans (Nat.le_trans (Nat.le_trans (Nat.le_trans (Nat.le_trans (Nat.le_trans (Nat.le_trans (Nat.le_trans (Nat.le_trans (Nat.le_trans (Nat.le_trans (Nat.le_trans (Nat.le_trans (Nat.le_trans (Nat.le_trans (Nat.le_trans (Nat.le_trans (Nat.le_trans (Nat.le_trans (Nat.le_trans (Nat.le_trans (Nat.le_trans (Nat.le_trans (Nat.le_trans (Nat.le_trans Z0 E6.1) (Keep.of_wr W7).1) (Keep.of_wr W8).1) (Keep.of_wr W9).1) (Keep.of_wr W10).1) (Keep.of_wr W11).1) (Keep.of_wr W12).1) (Keep.of_wr W13).1) (Keep.of_wr W14).1) (Keep.of_wr W15).1) (Keep.of_wr W16).1) (Keep.of_wr W17).1) (Keep.of_wr W18).1) (Keep.of_wr W19).1) (Keep.of_wr W20).1) (Keep.of_wr W21).1) (Keep.of_wr W22).1) (Keep.of_wr W23).1) (Keep.of_wr W24).1) (Keep.of_wr W25).1) (Keep.of_wr W26).1) (Keep.of_wr W27).1) (Keep.of_wr W28).1) (Keep.of_wr W29).1) (Keep.of_wr W30).1) (Keep.of_wr W31).1)) hZ (hw _ (List.mem_of_getElem? (i := 9) rfl)) (hw _ (List.mem_of_getElem? (i := 8) rfl)) (by decide) (by decide)) (g := (mkF m 365 #[.val (.int p1), .val (.int p2), .val (.int p3), .val (.int p4), .val (.int p5), .val (.int vrb), .val (.int vrw), .val (.int vpl), .val (.int vrs), .val (.int vps), .val (.int vix), .val (.int vq), .val (.int vv), .val (.int vf), .val (.int vw), .val (.ref b6), .val (.int got), .unset, .unset] [(.int vq), (.int vps), (.int vrs), (.int vix), (.int vrb), (.int vpl), (.int vrw), (.int (0 : Int32)), (.int (1 : Int32)), (.int ((((own_row (0 : Int32) (0 : Int32) vrw vpl vrb vix vrs vps vq) ||| (own_row (0 : Int32) (1 : Int32) vrw vpl vrb vix vrs vps vq)) ||| (own_row (0 : Int32) (2 : Int32) vrw vpl vrb vix vrs vps vq)) ||| (own_row (0 : Int32) (3 : Int32) vrw vpl vrb vix vrs vps vq)))])) rfl (by rw [hml]; rfl) (argsL := [(.int (1 : Int32)), (.int (0 : Int32)), (.int vrw), (.int vpl), (.int vrb), (.int vix), (.int vrs), (.int vps), (.int vq)]) (rest := [(.int ((((own_row (0 : Int32) (0 : Int32) vrw vpl vrb vix vrs vps vq) ||| (own_row (0 : Int32) (1 : Int32) vrw vpl vrb vix vrs vps vq)) ||| (own_row (0 : Int32) (2 : Int32) vrw vpl vrb vix vrs vps vq)) ||| (own_row (0 : Int32) (3 : Int32) vrw vpl vrb vix vrs vps vq)))]) (lenOf pd_0_1 rfl) rfl (by show 2 * 0 + _ ≤ _; exact Nat.le_of_eq rfl) (hb hby at_365) (fun _ _ => ⟨rfl, e36, (by decide : 1 + 0 ≤ _), (by decide : 24 + 0 ≤ _)⟩)
  dsimp only [Pt.U, Pt.locs, Pt.cells, Pt.slots] at X37 l37 y37 z37 st37 hQ37
  rw [l37, y37, z37] at X37
  obtain ⟨rfl, N37q, e37⟩ := hQ37
  have N37 := Fr.app N36 N37q
  obtain ⟨_, _, ⟨T38, L38, k38, n38⟩, -, X38, ⟨Lc38, hQ38, l38, y38, z38⟩, st38⟩ := Jvm.LawKit.callS X37 hx (y := (⟨"com/example/chunkwell/chunkwell/codecs/RowCopiesEachByteIsPinLaw", "row", "(IIIIIIIII)I"⟩ : MethodName)) hown (mvT hZ (hw _ (List.mem_of_getElem? (i := 6) rfl))) (mvT hZ (hw _ (List.mem_of_getElem? (i := 7) rfl))) (mvT hZ (hw _ (List.mem_of_getElem? (i := 8) rfl))) (mvT hZ (hw _ (List.mem_of_getElem? (i := 9) rfl))) (by decide) (backOf (W := 1) (rm2 l Z a0 hw [] (1 : Int32) (1 : Int32) vrw vpl vrb vix vrs vps vq  h31 n0 (Nat.le_trans (Nat.le_trans (Nat.le_trans (Nat.le_trans (Nat.le_trans (Nat.le_trans (Nat.le_trans (Nat.le_trans (Nat.le_trans (Nat.le_trans (Nat.le_trans (Nat.le_trans (Nat.le_trans (Nat.le_trans (Nat.le_trans (Nat.le_trans (Nat.le_trans (Nat.le_trans (Nat.le_trans (Nat.le_trans (Nat.le_trans (Nat.le_trans (Nat.le_trans (Nat.le_trans (Nat.le_trans (Nat.le_trans Z0 E6.1) (Keep.of_wr W7).1) (Keep.of_wr W8).1) (Keep.of_wr W9).1) (Keep.of_wr W10).1) (Keep.of_wr W11).1) (Keep.of_wr W12).1) (Keep.of_wr W13).1) (Keep.of_wr W14).1) (Keep.of_wr W15).1) (Keep.of_wr W16).1) (Keep.of_wr W17).1) (Keep.of_wr W18).1) (Keep.of_wr W19).1) (Keep.of_wr W20).1) (Keep.of_wr W21).1) (Keep.of_wr W22).1) (Keep.of_wr W23).1) (Keep.of_wr W24).1) (Keep.of_wr W25).1) (Keep.of_wr W26).1) (Keep.of_wr W27).1) (Keep.of_wr W28).1) (Keep.of_wr W29).1) (Keep.of_wr W30).1) (Keep.of_wr W31).1)) hZ (hw _ (List.mem_of_getElem? (i := 9) rfl)) (hw _ (List.mem_of_getElem? (i := 8) rfl)) (by decide) (by decide)) (g := (mkF m 385 #[.val (.int p1), .val (.int p2), .val (.int p3), .val (.int p4), .val (.int p5), .val (.int vrb), .val (.int vrw), .val (.int vpl), .val (.int vrs), .val (.int vps), .val (.int vix), .val (.int vq), .val (.int vv), .val (.int vf), .val (.int vw), .val (.ref b6), .val (.int got), .unset, .unset] [(.int vq), (.int vps), (.int vrs), (.int vix), (.int vrb), (.int vpl), (.int vrw), (.int (1 : Int32)), (.int (1 : Int32)), (.int (((((own_row (0 : Int32) (0 : Int32) vrw vpl vrb vix vrs vps vq) ||| (own_row (0 : Int32) (1 : Int32) vrw vpl vrb vix vrs vps vq)) ||| (own_row (0 : Int32) (2 : Int32) vrw vpl vrb vix vrs vps vq)) ||| (own_row (0 : Int32) (3 : Int32) vrw vpl vrb vix vrs vps vq)) ||| (own_row (1 : Int32) (0 : Int32) vrw vpl vrb vix vrs vps vq)))])) rfl (by rw [hml]; rfl) (argsL := [(.int (1 : Int32)), (.int (1 : Int32)), (.int vrw), (.int vpl), (.int vrb), (.int vix), (.int vrs), (.int vps), (.int vq)]) (rest := [(.int (((((own_row (0 : Int32) (0 : Int32) vrw vpl vrb vix vrs vps vq) ||| (own_row (0 : Int32) (1 : Int32) vrw vpl vrb vix vrs vps vq)) ||| (own_row (0 : Int32) (2 : Int32) vrw vpl vrb vix vrs vps vq)) ||| (own_row (0 : Int32) (3 : Int32) vrw vpl vrb vix vrs vps vq)) ||| (own_row (1 : Int32) (0 : Int32) vrw vpl vrb vix vrs vps vq)))]) (lenOf pd_0_1 rfl) rfl (by show 2 * 0 + _ ≤ _; exact Nat.le_of_eq rfl) (hb hby at_385) (fun _ _ => ⟨rfl, e37, (by decide : 1 + 0 ≤ _), (by decide : 24 + 0 ≤ _)⟩)
  dsimp only [Pt.U, Pt.locs, Pt.cells, Pt.slots] at X38 l38 y38 z38 st38 hQ38
  rw [l38, y38, z38] at X38
  obtain ⟨rfl, N38q, e38⟩ := hQ38
  have N38 := Fr.app N37 N38q
  obtain ⟨_, _, ⟨T39, L39, k39, n39⟩, -, X39, ⟨Lc39, hQ39, l39, y39, z39⟩, st39⟩ := Jvm.LawKit.callS X38 hx (y := (⟨"com/example/chunkwell/chunkwell/codecs/RowCopiesEachByteIsPinLaw", "row", "(IIIIIIIII)I"⟩ : MethodName)) hown (mvT hZ (hw _ (List.mem_of_getElem? (i := 6) rfl))) (mvT hZ (hw _ (List.mem_of_getElem? (i := 7) rfl))) (mvT hZ (hw _ (List.mem_of_getElem? (i := 8) rfl))) (mvT hZ (hw _ (List.mem_of_getElem? (i := 9) rfl))) (by decide) (backOf (W := 1) (rm2 l Z a0 hw [] (1 : Int32) (2 : Int32) vrw vpl vrb vix vrs vps vq  h31 n0 (Nat.le_trans (Nat.le_trans (Nat.le_trans (Nat.le_trans (Nat.le_trans (Nat.le_trans (Nat.le_trans (Nat.le_trans (Nat.le_trans (Nat.le_trans (Nat.le_trans (Nat.le_trans (Nat.le_trans (Nat.le_trans (Nat.le_trans (Nat.le_trans (Nat.le_trans (Nat.le_trans (Nat.le_trans (Nat.le_trans (Nat.le_trans (Nat.le_trans (Nat.le_trans (Nat.le_trans (Nat.le_trans (Nat.le_trans Z0 E6.1) (Keep.of_wr W7).1) (Keep.of_wr W8).1) (Keep.of_wr W9).1) (Keep.of_wr W10).1) (Keep.of_wr W11).1) (Keep.of_wr W12).1) (Keep.of_wr W13).1) (Keep.of_wr W14).1) (Keep.of_wr W15).1) (Keep.of_wr W16).1) (Keep.of_wr W17).1) (Keep.of_wr W18).1) (Keep.of_wr W19).1) (Keep.of_wr W20).1) (Keep.of_wr W21).1) (Keep.of_wr W22).1) (Keep.of_wr W23).1) (Keep.of_wr W24).1) (Keep.of_wr W25).1) (Keep.of_wr W26).1) (Keep.of_wr W27).1) (Keep.of_wr W28).1) (Keep.of_wr W29).1) (Keep.of_wr W30).1) (Keep.of_wr W31).1)) hZ (hw _ (List.mem_of_getElem? (i := 9) rfl)) (hw _ (List.mem_of_getElem? (i := 8) rfl)) (by decide) (by decide)) (g := (mkF m 405 #[.val (.int p1), .val (.int p2), .val (.int p3), .val (.int p4), .val (.int p5), .val (.int vrb), .val (.int vrw), .val (.int vpl), .val (.int vrs), .val (.int vps), .val (.int vix), .val (.int vq), .val (.int vv), .val (.int vf), .val (.int vw), .val (.ref b6), .val (.int got), .unset, .unset] [(.int vq), (.int vps), (.int vrs), (.int vix), (.int vrb), (.int vpl), (.int vrw), (.int (2 : Int32)), (.int (1 : Int32)), (.int ((((((own_row (0 : Int32) (0 : Int32) vrw vpl vrb vix vrs vps vq) ||| (own_row (0 : Int32) (1 : Int32) vrw vpl vrb vix vrs vps vq)) ||| (own_row (0 : Int32) (2 : Int32) vrw vpl vrb vix vrs vps vq)) ||| (own_row (0 : Int32) (3 : Int32) vrw vpl vrb vix vrs vps vq)) ||| (own_row (1 : Int32) (0 : Int32) vrw vpl vrb vix vrs vps vq)) ||| (own_row (1 : Int32) (1 : Int32) vrw vpl vrb vix vrs vps vq)))])) rfl (by rw [hml]; rfl) (argsL := [(.int (1 : Int32)), (.int (2 : Int32)), (.int vrw), (.int vpl), (.int vrb), (.int vix), (.int vrs), (.int vps), (.int vq)]) (rest := [(.int ((((((own_row (0 : Int32) (0 : Int32) vrw vpl vrb vix vrs vps vq) ||| (own_row (0 : Int32) (1 : Int32) vrw vpl vrb vix vrs vps vq)) ||| (own_row (0 : Int32) (2 : Int32) vrw vpl vrb vix vrs vps vq)) ||| (own_row (0 : Int32) (3 : Int32) vrw vpl vrb vix vrs vps vq)) ||| (own_row (1 : Int32) (0 : Int32) vrw vpl vrb vix vrs vps vq)) ||| (own_row (1 : Int32) (1 : Int32) vrw vpl vrb vix vrs vps vq)))]) (lenOf pd_0_1 rfl) rfl (by show 2 * 0 + _ ≤ _; exact Nat.le_of_eq rfl) (hb hby at_405) (fun _ _ => ⟨rfl, e38, (by decide : 1 + 0 ≤ _), (by decide : 24 + 0 ≤ _)⟩)
  dsimp only [Pt.U, Pt.locs, Pt.cells, Pt.slots] at X39 l39 y39 z39 st39 hQ39
  rw [l39, y39, z39] at X39
  obtain ⟨rfl, N39q, e39⟩ := hQ39
  have N39 := Fr.app N38 N39q
  obtain ⟨_, _, ⟨T40, L40, k40, n40⟩, -, X40, ⟨Lc40, hQ40, l40, y40, z40⟩, st40⟩ := Jvm.LawKit.callS X39 hx (y := (⟨"com/example/chunkwell/chunkwell/codecs/RowCopiesEachByteIsPinLaw", "row", "(IIIIIIIII)I"⟩ : MethodName)) hown (mvT hZ (hw _ (List.mem_of_getElem? (i := 6) rfl))) (mvT hZ (hw _ (List.mem_of_getElem? (i := 7) rfl))) (mvT hZ (hw _ (List.mem_of_getElem? (i := 8) rfl))) (mvT hZ (hw _ (List.mem_of_getElem? (i := 9) rfl))) (by decide) (backOf (W := 1) (rm2 l Z a0 hw [] (1 : Int32) (3 : Int32) vrw vpl vrb vix vrs vps vq  h31 n0 (Nat.le_trans (Nat.le_trans (Nat.le_trans (Nat.le_trans (Nat.le_trans (Nat.le_trans (Nat.le_trans (Nat.le_trans (Nat.le_trans (Nat.le_trans (Nat.le_trans (Nat.le_trans (Nat.le_trans (Nat.le_trans (Nat.le_trans (Nat.le_trans (Nat.le_trans (Nat.le_trans (Nat.le_trans (Nat.le_trans (Nat.le_trans (Nat.le_trans (Nat.le_trans (Nat.le_trans (Nat.le_trans (Nat.le_trans Z0 E6.1) (Keep.of_wr W7).1) (Keep.of_wr W8).1) (Keep.of_wr W9).1) (Keep.of_wr W10).1) (Keep.of_wr W11).1) (Keep.of_wr W12).1) (Keep.of_wr W13).1) (Keep.of_wr W14).1) (Keep.of_wr W15).1) (Keep.of_wr W16).1) (Keep.of_wr W17).1) (Keep.of_wr W18).1) (Keep.of_wr W19).1) (Keep.of_wr W20).1) (Keep.of_wr W21).1) (Keep.of_wr W22).1) (Keep.of_wr W23).1) (Keep.of_wr W24).1) (Keep.of_wr W25).1) (Keep.of_wr W26).1) (Keep.of_wr W27).1) (Keep.of_wr W28).1) (Keep.of_wr W29).1) (Keep.of_wr W30).1) (Keep.of_wr W31).1)) hZ (hw _ (List.mem_of_getElem? (i := 9) rfl)) (hw _ (List.mem_of_getElem? (i := 8) rfl)) (by decide) (by decide)) (g := (mkF m 425 #[.val (.int p1), .val (.int p2), .val (.int p3), .val (.int p4), .val (.int p5), .val (.int vrb), .val (.int vrw), .val (.int vpl), .val (.int vrs), .val (.int vps), .val (.int vix), .val (.int vq), .val (.int vv), .val (.int vf), .val (.int vw), .val (.ref b6), .val (.int got), .unset, .unset] [(.int vq), (.int vps), (.int vrs), (.int vix), (.int vrb), (.int vpl), (.int vrw), (.int (3 : Int32)), (.int (1 : Int32)), (.int (((((((own_row (0 : Int32) (0 : Int32) vrw vpl vrb vix vrs vps vq) ||| (own_row (0 : Int32) (1 : Int32) vrw vpl vrb vix vrs vps vq)) ||| (own_row (0 : Int32) (2 : Int32) vrw vpl vrb vix vrs vps vq)) ||| (own_row (0 : Int32) (3 : Int32) vrw vpl vrb vix vrs vps vq)) ||| (own_row (1 : Int32) (0 : Int32) vrw vpl vrb vix vrs vps vq)) ||| (own_row (1 : Int32) (1 : Int32) vrw vpl vrb vix vrs vps vq)) ||| (own_row (1 : Int32) (2 : Int32) vrw vpl vrb vix vrs vps vq)))])) rfl (by rw [hml]; rfl) (argsL := [(.int (1 : Int32)), (.int (3 : Int32)), (.int vrw), (.int vpl), (.int vrb), (.int vix), (.int vrs), (.int vps), (.int vq)]) (rest := [(.int (((((((own_row (0 : Int32) (0 : Int32) vrw vpl vrb vix vrs vps vq) ||| (own_row (0 : Int32) (1 : Int32) vrw vpl vrb vix vrs vps vq)) ||| (own_row (0 : Int32) (2 : Int32) vrw vpl vrb vix vrs vps vq)) ||| (own_row (0 : Int32) (3 : Int32) vrw vpl vrb vix vrs vps vq)) ||| (own_row (1 : Int32) (0 : Int32) vrw vpl vrb vix vrs vps vq)) ||| (own_row (1 : Int32) (1 : Int32) vrw vpl vrb vix vrs vps vq)) ||| (own_row (1 : Int32) (2 : Int32) vrw vpl vrb vix vrs vps vq)))]) (lenOf pd_0_1 rfl) rfl (by show 2 * 0 + _ ≤ _; exact Nat.le_of_eq rfl) (hb hby at_425) (fun _ _ => ⟨rfl, e39, (by decide : 1 + 0 ≤ _), (by decide : 24 + 0 ≤ _)⟩)
  dsimp only [Pt.U, Pt.locs, Pt.cells, Pt.slots] at X40 l40 y40 z40 st40 hQ40
  rw [l40, y40, z40] at X40
  obtain ⟨rfl, N40q, e40⟩ := hQ40
  have N40 := Fr.app N39 N40q
  obtain ⟨_, _, ⟨T41, L41, k41, n41⟩, -, X41, ⟨Lc41, hQ41, l41, y41, z41⟩, st41⟩ := Jvm.LawKit.callS X40 hx (y := (⟨"com/example/chunkwell/chunkwell/codecs/RowCopiesEachByteIsPinLaw", "row", "(IIIIIIIII)I"⟩ : MethodName)) hown (mvT hZ (hw _ (List.mem_of_getElem? (i := 6) rfl))) (mvT hZ (hw _ (List.mem_of_getElem? (i := 7) rfl))) (mvT hZ (hw _ (List.mem_of_getElem? (i := 8) rfl))) (mvT hZ (hw _ (List.mem_of_getElem? (i := 9) rfl))) (by decide) (backOf (W := 1) (rm2 l Z a0 hw [] (2 : Int32) (0 : Int32) vrw vpl vrb vix vrs vps vq  h31 n0 (Nat.le_trans (Nat.le_trans (Nat.le_trans (Nat.le_trans (Nat.le_trans (Nat.le_trans (Nat.le_trans (Nat.le_trans (Nat.le_trans (Nat.le_trans (Nat.le_trans (Nat.le_trans (Nat.le_trans (Nat.le_trans (Nat.le_trans (Nat.le_trans (Nat.le_trans (Nat.le_trans (Nat.le_trans (Nat.le_trans (Nat.le_trans (Nat.le_trans (Nat.le_trans (Nat.le_trans (Nat.le_trans (Nat.le_trans Z0 E6.1) (Keep.of_wr W7).1) (Keep.of_wr W8).1) (Keep.of_wr W9).1) (Keep.of_wr W10).1) (Keep.of_wr W11).1) (Keep.of_wr W12).1) (Keep.of_wr W13).1) (Keep.of_wr W14).1) (Keep.of_wr W15).1) (Keep.of_wr W16).1) (Keep.of_wr W17).1) (Keep.of_wr W18).1) (Keep.of_wr W19).1) (Keep.of_wr W20).1) (Keep.of_wr W21).1) (Keep.of_wr W22).1) (Keep.of_wr W23).1) (Keep.of_wr W24).1) (Keep.of_wr W25).1) (Keep.of_wr W26).1) (Keep.of_wr W27).1) (Keep.of_wr W28).1) (Keep.of_wr W29).1) (Keep.of_wr W30).1) (Keep.of_wr W31).1)) hZ (hw _ (List.mem_of_getElem? (i := 9) rfl)) (hw _ (List.mem_of_getElem? (i := 8) rfl)) (by decide) (by decide)) (g := (mkF m 445 #[.val (.int p1), .val (.int p2), .val (.int p3), .val (.int p4), .val (.int p5), .val (.int vrb), .val (.int vrw), .val (.int vpl), .val (.int vrs), .val (.int vps), .val (.int vix), .val (.int vq), .val (.int vv), .val (.int vf), .val (.int vw), .val (.ref b6), .val (.int got), .unset, .unset] [(.int vq), (.int vps), (.int vrs), (.int vix), (.int vrb), (.int vpl), (.int vrw), (.int (0 : Int32)), (.int (2 : Int32)), (.int ((((((((own_row (0 : Int32) (0 : Int32) vrw vpl vrb vix vrs vps vq) ||| (own_row (0 : Int32) (1 : Int32) vrw vpl vrb vix vrs vps vq)) ||| (own_row (0 : Int32) (2 : Int32) vrw vpl vrb vix vrs vps vq)) ||| (own_row (0 : Int32) (3 : Int32) vrw vpl vrb vix vrs vps vq)) ||| (own_row (1 : Int32) (0 : Int32) vrw vpl vrb vix vrs vps vq)) ||| (own_row (1 : Int32) (1 : Int32) vrw vpl vrb vix vrs vps vq)) ||| (own_row (1 : Int32) (2 : Int32) vrw vpl vrb vix vrs vps vq)) ||| (own_row (1 : Int32) (3 : Int32) vrw vpl vrb vix vrs vps vq)))])) rfl (by rw [hml]; rfl) (argsL := [(.int (2 : Int32)), (.int (0 : Int32)), (.int vrw), (.int vpl), (.int vrb), (.int vix), (.int vrs), (.int vps), (.int vq)]) (rest := [(.int ((((((((own_row (0 : Int32) (0 : Int32) vrw vpl vrb vix vrs vps vq) ||| (own_row (0 : Int32) (1 : Int32) vrw vpl vrb vix vrs vps vq)) ||| (own_row (0 : Int32) (2 : Int32) vrw vpl vrb vix vrs vps vq)) ||| (own_row (0 : Int32) (3 : Int32) vrw vpl vrb vix vrs vps vq)) ||| (own_row (1 : Int32) (0 : Int32) vrw vpl vrb vix vrs vps vq)) ||| (own_row (1 : Int32) (1 : Int32) vrw vpl vrb vix vrs vps vq)) ||| (own_row (1 : Int32) (2 : Int32) vrw vpl vrb vix vrs vps vq)) ||| (own_row (1 : Int32) (3 : Int32) vrw vpl vrb vix vrs vps vq)))]) (lenOf pd_0_1 rfl) rfl (by show 2 * 0 + _ ≤ _; exact Nat.le_of_eq rfl) (hb hby at_445) (fun _ _ => ⟨rfl, e40, (by decide : 1 + 0 ≤ _), (by decide : 24 + 0 ≤ _)⟩)
  dsimp only [Pt.U, Pt.locs, Pt.cells, Pt.slots] at X41 l41 y41 z41 st41 hQ41
  rw [l41, y41, z41] at X41
  obtain ⟨rfl, N41q, e41⟩ := hQ41
  have N41 := Fr.app N40 N41q
  obtain ⟨_, _, ⟨T42, L42, k42, n42⟩, -, X42, ⟨Lc42, hQ42, l42, y42, z42⟩, st42⟩ := Jvm.LawKit.callS X41 hx (y := (⟨"com/example/chunkwell/chunkwell/codecs/RowCopiesEachByteIsPinLaw", "row", "(IIIIIIIII)I"⟩ : MethodName)) hown (mvT hZ (hw _ (List.mem_of_getElem? (i := 6) rfl))) (mvT hZ (hw _ (List.mem_of_getElem? (i := 7) rfl))) (mvT hZ (hw _ (List.mem_of_getElem? (i := 8) rfl))) (mvT hZ (hw _ (List.mem_of_getElem? (i := 9) rfl))) (by decide) (backOf (W := 1) (rm2 l Z a0 hw [] (2 : Int32) (1 : Int32) vrw vpl vrb vix vrs vps vq  h31 n0 (Nat.le_trans (Nat.le_trans (Nat.le_trans (Nat.le_trans (Nat.le_trans (Nat.le_trans (Nat.le_trans (Nat.le_trans (Nat.le_trans (Nat.le_trans (Nat.le_trans (Nat.le_trans (Nat.le_trans (Nat.le_trans (Nat.le_trans (Nat.le_trans (Nat.le_trans (Nat.le_trans (Nat.le_trans (Nat.le_trans (Nat.le_trans (Nat.le_trans (Nat.le_trans (Nat.le_trans (Nat.le_trans (Nat.le_trans Z0 E6.1) (Keep.of_wr W7).1) (Keep.of_wr W8).1) (Keep.of_wr W9).1) (Keep.of_wr W10).1) (Keep.of_wr W11).1) (Keep.of_wr W12).1) (Keep.of_wr W13).1) (Keep.of_wr W14).1) (Keep.of_wr W15).1) (Keep.of_wr W16).1) (Keep.of_wr W17).1) (Keep.of_wr W18).1) (Keep.of_wr W19).1) (Keep.of_wr W20).1) (Keep.of_wr W21).1) (Keep.of_wr W22).1) (Keep.of_wr W23).1) (Keep.of_wr W24).1) (Keep.of_wr W25).1) (Keep.of_wr W26).1) (Keep.of_wr W27).1) (Keep.of_wr W28).1) (Keep.of_wr W29).1) (Keep.of_wr W30).1) (Keep.of_wr W31).1)) hZ (hw _ (List.mem_of_getElem? (i := 9) rfl)) (hw _ (List.mem_of_getElem? (i := 8) rfl)) (by decide) (by decide)) (g := (mkF m 465 #[.val (.int p1), .val (.int p2), .val (.int p3), .val (.int p4), .val (.int p5), .val (.int vrb), .val (.int vrw), .val (.int vpl), .val (.int vrs), .val (.int vps), .val (.int vix), .val (.int vq), .val (.int vv), .val (.int vf), .val (.int vw), .val (.ref b6), .val (.int got), .unset, .unset] [(.int vq), (.int vps), (.int vrs), (.int vix), (.int vrb), (.int vpl), (.int vrw), (.int (1 : Int32)), (.int (2 : Int32)), (.int (((((((((own_row (0 : Int32) (0 : Int32) vrw vpl vrb vix vrs vps vq) ||| (own_row (0 : Int32) (1 : Int32) vrw vpl vrb vix vrs vps vq)) ||| (own_row (0 : Int32) (2 : Int32) vrw vpl vrb vix vrs vps vq)) ||| (own_row (0 : Int32) (3 : Int32) vrw vpl vrb vix vrs vps vq)) ||| (own_row (1 : Int32) (0 : Int32) vrw vpl vrb vix vrs vps vq)) ||| (own_row (1 : Int32) (1 : Int32) vrw vpl vrb vix vrs vps vq)) ||| (own_row (1 : Int32) (2 : Int32) vrw vpl vrb vix vrs vps vq)) ||| (own_row (1 : Int32) (3 : Int32) vrw vpl vrb vix vrs vps vq)) ||| (own_row (2 : Int32) (0 : Int32) vrw vpl vrb vix vrs vps vq)))])) rfl (by rw [hml]; rfl) (argsL := [(.int (2 : Int32)), (.int (1 : Int32)), (.int vrw), (.int vpl), (.int vrb), (.int vix), (.int vrs), (.int vps), (.int vq)]) (rest := [(.int (((((((((own_row (0 : Int32) (0 : Int32) vrw vpl vrb vix vrs vps vq) ||| (own_row (0 : Int32) (1 : Int32) vrw vpl vrb vix vrs vps vq)) ||| (own_row (0 : Int32) (2 : Int32) vrw vpl vrb vix vrs vps vq)) ||| (own_row (0 : Int32) (3 : Int32) vrw vpl vrb vix vrs vps vq)) ||| (own_row (1 : Int32) (0 : Int32) vrw vpl vrb vix vrs vps vq)) ||| (own_row (1 : Int32) (1 : Int32) vrw vpl vrb vix vrs vps vq)) ||| (own_row (1 : Int32) (2 : Int32) vrw vpl vrb vix vrs vps vq)) ||| (own_row (1 : Int32) (3 : Int32) vrw vpl vrb vix vrs vps vq)) ||| (own_row (2 : Int32) (0 : Int32) vrw vpl vrb vix vrs vps vq)))]) (lenOf pd_0_1 rfl) rfl (by show 2 * 0 + _ ≤ _; exact Nat.le_of_eq rfl) (hb hby at_465) (fun _ _ => ⟨rfl, e41, (by decide : 1 + 0 ≤ _), (by decide : 24 + 0 ≤ _)⟩)
  dsimp only [Pt.U, Pt.locs, Pt.cells, Pt.slots] at X42 l42 y42 z42 st42 hQ42
  rw [l42, y42, z42] at X42
  obtain ⟨rfl, N42q, e42⟩ := hQ42
  have N42 := Fr.app N41 N42q
  obtain ⟨_, _, ⟨T43, L43, k43, n43⟩, -, X43, ⟨Lc43, hQ43, l43, y43, z43⟩, st43⟩ := Jvm.LawKit.callS X42 hx (y := (⟨"com/example/chunkwell/chunkwell/codecs/RowCopiesEachByteIsPinLaw", "row", "(IIIIIIIII)I"⟩ : MethodName)) hown (mvT hZ (hw _ (List.mem_of_getElem? (i := 6) rfl))) (mvT hZ (hw _ (List.mem_of_getElem? (i := 7) rfl))) (mvT hZ (hw _ (List.mem_of_getElem? (i := 8) rfl))) (mvT hZ (hw _ (List.mem_of_getElem? (i := 9) rfl))) (by decide) (backOf (W := 1) (rm2 l Z a0 hw [] (2 : Int32) (2 : Int32) vrw vpl vrb vix vrs vps vq  h31 n0 (Nat.le_trans (Nat.le_trans (Nat.le_trans (Nat.le_trans (Nat.le_trans (Nat.le_trans (Nat.le_trans (Nat.le_trans (Nat.le_trans (Nat.le_trans (Nat.le_trans (Nat.le_trans (Nat.le_trans (Nat.le_trans (Nat.le_trans (Nat.le_trans (Nat.le_trans (Nat.le_trans (Nat.le_trans (Nat.le_trans (Nat.le_trans (Nat.le_trans (Nat.le_trans (Nat.le_trans (Nat.le_trans (Nat.le_trans Z0 E6.1) (Keep.of_wr W7).1) (Keep.of_wr W8).1) (Keep.of_wr W9).1) (Keep.of_wr W10).1) (Keep.of_wr W11).1) (Keep.of_wr W12).1) (Keep.of_wr W13).1) (Keep.of_wr W14).1) (Keep.of_wr W15).1) (Keep.of_wr W16).1) (Keep.of_wr W17).1) (Keep.of_wr W18).1) (Keep.of_wr W19).1) (Keep.of_wr W20).1) (Keep.of_wr W21).1) (Keep.of_wr W22).1) (Keep.of_wr W23).1) (Keep.of_wr W24).1) (Keep.of_wr W25).1) (Keep.of_wr W26).1) (Keep.of_wr W27).1) (Keep.of_wr W28).1) (Keep.of_wr W29).1) (Keep.of_wr W30).1) (Keep.of_wr W31).1)) hZ (hw _ (List.mem_of_getElem? (i := 9) rfl)) (hw _ (List.mem_of_getElem? (i := 8) rfl)) (by decide) (by decide)) (g := (mkF m 485 #[.val (.int p1), .val (.int p2), .val (.int p3), .val (.int p4), .val (.int p5), .val (.int vrb), .val (.int vrw), .val (.int vpl), .val (.int vrs), .val (.int vps), .val (.int vix), .val (.int vq), .val (.int vv), .val (.int vf), .val (.int vw), .val (.ref b6), .val (.int got), .unset, .unset] [(.int vq), (.int vps), (.int vrs), (.int vix), (.int vrb), (.int vpl), (.int vrw), (.int (2 : Int32)), (.int (2 : Int32)), (.int ((((((((((own_row (0 : Int32) (0 : Int32) vrw vpl vrb vix vrs vps vq) ||| (own_row (0 : Int32) (1 : Int32) vrw vpl vrb vix vrs vps vq)) ||| (own_row (0 : Int32) (2 : Int32) vrw vpl vrb vix vrs vps vq)) ||| (own_row (0 : Int32) (3 : Int32) vrw vpl vrb vix vrs vps vq)) ||| (own_row (1 : Int32) (0 : Int32) vrw vpl vrb vix vrs vps vq)) ||| (own_row (1 : Int32) (1 : Int32) vrw vpl vrb vix vrs vps vq)) ||| (own_row (1 : Int32) (2 : Int32) vrw vpl vrb vix vrs vps vq)) ||| (own_row (1 : Int32) (3 : Int32) vrw vpl vrb vix vrs vps vq)) ||| (own_row (2 : Int32) (0 : Int32) vrw vpl vrb vix vrs vps vq)) ||| (own_row (2 : Int32) (1 : Int32) vrw vpl vrb vix vrs vps vq)))])) rfl (by rw [hml]; rfl) (argsL := [(.int (2 : Int32)), (.int (2 : Int32)), (.int vrw), (.int vpl), (.int vrb), (.int vix), (.int vrs), (.int vps), (.int vq)]) (rest := [(.int ((((((((((own_row (0 : Int32) (0 : Int32) vrw vpl vrb vix vrs vps vq) ||| (own_row (0 : Int32) (1 : Int32) vrw vpl vrb vix vrs vps vq)) ||| (own_row (0 : Int32) (2 : Int32) vrw vpl vrb vix vrs vps vq)) ||| (own_row (0 : Int32) (3 : Int32) vrw vpl vrb vix vrs vps vq)) ||| (own_row (1 : Int32) (0 : Int32) vrw vpl vrb vix vrs vps vq)) ||| (own_row (1 : Int32) (1 : Int32) vrw vpl vrb vix vrs vps vq)) ||| (own_row (1 : Int32) (2 : Int32) vrw vpl vrb vix vrs vps vq)) ||| (own_row (1 : Int32) (3 : Int32) vrw vpl vrb vix vrs vps vq)) ||| (own_row (2 : Int32) (0 : Int32) vrw vpl vrb vix vrs vps vq)) ||| (own_row (2 : Int32) (1 : Int32) vrw vpl vrb vix vrs vps vq)))]) (lenOf pd_0_1 rfl) rfl (by show 2 * 0 + _ ≤ _; exact Nat.le_of_eq rfl) (hb hby at_485) (fun _ _ => ⟨rfl, e42, (by decide : 1 + 0 ≤ _), (by decide : 24 + 0 ≤ _)⟩)
  dsimp only [Pt.U, Pt.locs, Pt.cells, Pt.slots] at X43 l43 y43 z43 st43 hQ43
  rw [l43, y43, z43] at X43
  obtain ⟨rfl, N43q, e43⟩ := hQ43
  have N43 := Fr.app N42 N43q
  obtain ⟨_, _, ⟨T44, L44, k44, n44⟩, -, X44, ⟨Lc44, hQ44, l44, y44, z44⟩, st44⟩ := Jvm.LawKit.callS X43 hx (y := (⟨"com/example/chunkwell/chunkwell/codecs/RowCopiesEachByteIsPinLaw", "row", "(IIIIIIIII)I"⟩ : MethodName)) hown (mvT hZ (hw _ (List.mem_of_getElem? (i := 6) rfl))) (mvT hZ (hw _ (List.mem_of_getElem? (i := 7) rfl))) (mvT hZ (hw _ (List.mem_of_getElem? (i := 8) rfl))) (mvT hZ (hw _ (List.mem_of_getElem? (i := 9) rfl))) (by decide) (backOf (W := 1) (rm2 l Z a0 hw [] (2 : Int32) (3 : Int32) vrw vpl vrb vix vrs vps vq  h31 n0 (Nat.le_trans (Nat.le_trans (Nat.le_trans (Nat.le_trans (Nat.le_trans (Nat.le_trans (Nat.le_trans (Nat.le_trans (Nat.le_trans (Nat.le_trans (Nat.le_trans (Nat.le_trans (Nat.le_trans (Nat.le_trans (Nat.le_trans (Nat.le_trans (Nat.le_trans (Nat.le_trans (Nat.le_trans (Nat.le_trans (Nat.le_trans (Nat.le_trans (Nat.le_trans (Nat.le_trans (Nat.le_trans (Nat.le_trans Z0 E6.1) (Keep.of_wr W7).1) (Keep.of_wr W8).1) (Keep.of_wr W9).1) (Keep.of_wr W10).1) (Keep.of_wr W11).1) (Keep.of_wr W12).1) (Keep.of_wr W13).1) (Keep.of_wr W14).1) (Keep.of_wr W15).1) (Keep.of_wr W16).1) (Keep.of_wr W17).1) (Keep.of_wr W18).1) (Keep.of_wr W19).1) (Keep.of_wr W20).1) (Keep.of_wr W21).1) (Keep.of_wr W22).1) (Keep.of_wr W23).1) (Keep.of_wr W24).1) (Keep.of_wr W25).1) (Keep.of_wr W26).1) (Keep.of_wr W27).1) (Keep.of_wr W28).1) (Keep.of_wr W29).1) (Keep.of_wr W30).1) (Keep.of_wr W31).1)) hZ (hw _ (List.mem_of_getElem? (i := 9) rfl)) (hw _ (List.mem_of_getElem? (i := 8) rfl)) (by decide) (by decide)) (g := (mkF m 505 #[.val (.int p1), .val (.int p2), .val (.int p3), .val (.int p4), .val (.int p5), .val (.int vrb), .val (.int vrw), .val (.int vpl), .val (.int vrs), .val (.int vps), .val (.int vix), .val (.int vq), .val (.int vv), .val (.int vf), .val (.int vw), .val (.ref b6), .val (.int got), .unset, .unset] [(.int vq), (.int vps), (.int vrs), (.int vix), (.int vrb), (.int vpl), (.int vrw), (.int (3 : Int32)), (.int (2 : Int32)), (.int (((((((((((own_row (0 : Int32) (0 : Int32) vrw vpl vrb vix vrs vps vq) ||| (own_row (0 : Int32) (1 : Int32) vrw vpl vrb vix vrs vps vq)) ||| (own_row (0 : Int32) (2 : Int32) vrw vpl vrb vix vrs vps vq)) ||| (own_row (0 : Int32) (3 : Int32) vrw vpl vrb vix vrs vps vq)) ||| (own_row (1 : Int32) (0 : Int32) vrw vpl vrb vix vrs vps vq)) ||| (own_row (1 : Int32) (1 : Int32) vrw vpl vrb vix vrs vps vq)) ||| (own_row (1 : Int32) (2 : Int32) vrw vpl vrb vix vrs vps vq)) ||| (own_row (1 : Int32) (3 : Int32) vrw vpl vrb vix vrs vps vq)) ||| (own_row (2 : Int32) (0 : Int32) vrw vpl vrb vix vrs vps vq)) ||| (own_row (2 : Int32) (1 : Int32) vrw vpl vrb vix vrs vps vq)) ||| (own_row (2 : Int32) (2 : Int32) vrw vpl vrb vix vrs vps vq)))])) rfl (by rw [hml]; rfl) (argsL := [(.int (2 : Int32)), (.int (3 : Int32)), (.int vrw), (.int vpl), (.int vrb), (.int vix), (.int vrs), (.int vps), (.int vq)]) (rest := [(.int (((((((((((own_row (0 : Int32) (0 : Int32) vrw vpl vrb vix vrs vps vq) ||| (own_row (0 : Int32) (1 : Int32) vrw vpl vrb vix vrs vps vq)) ||| (own_row (0 : Int32) (2 : Int32) vrw vpl vrb vix vrs vps vq)) ||| (own_row (0 : Int32) (3 : Int32) vrw vpl vrb vix vrs vps vq)) ||| (own_row (1 : Int32) (0 : Int32) vrw vpl vrb vix vrs vps vq)) ||| (own_row (1 : Int32) (1 : Int32) vrw vpl vrb vix vrs vps vq)) ||| (own_row (1 : Int32) (2 : Int32) vrw vpl vrb vix vrs vps vq)) ||| (own_row (1 : Int32) (3 : Int32) vrw vpl vrb vix vrs vps vq)) ||| (own_row (2 : Int32) (0 : Int32) vrw vpl vrb vix vrs vps vq)) ||| (own_row (2 : Int32) (1 : Int32) vrw vpl vrb vix vrs vps vq)) ||| (own_row (2 : Int32) (2 : Int32) vrw vpl vrb vix vrs vps vq)))]) (lenOf pd_0_1 rfl) rfl (by show 2 * 0 + _ ≤ _; exact Nat.le_of_eq rfl) (hb hby at_505) (fun _ _ => ⟨rfl, e43, (by decide : 1 + 0 ≤ _), (by decide : 24 + 0 ≤ _)⟩)
  dsimp only [Pt.U, Pt.locs, Pt.cells, Pt.slots] at X44 l44 y44 z44 st44 hQ44
  rw [l44, y44, z44] at X44
  obtain ⟨rfl, N44q, e44⟩ := hQ44
  have N44 := Fr.app N43 N44q
  obtain ⟨_, _, ⟨T45, L45, k45, n45⟩, -, X45, ⟨Lc45, hQ45, l45, y45, z45⟩, st45⟩ := Jvm.LawKit.callS X44 hx (y := (⟨"com/example/chunkwell/chunkwell/codecs/RowCopiesEachByteIsPinLaw", "row", "(IIIIIIIII)I"⟩ : MethodName)) hown (mvT hZ (hw _ (List.mem_of_getElem? (i := 6) rfl))) (mvT hZ (hw _ (List.mem_of_getElem? (i := 7) rfl))) (mvT hZ (hw _ (List.mem_of_getElem? (i := 8) rfl))) (mvT hZ (hw _ (List.mem_of_getElem? (i := 9) rfl))) (by decide) (backOf (W := 1) (rm2 l Z a0 hw [] (3 : Int32) (0 : Int32) vrw vpl vrb vix vrs vps vq  h31 n0 (Nat.le_trans (Nat.le_trans (Nat.le_trans (Nat.le_trans (Nat.le_trans (Nat.le_trans (Nat.le_trans (Nat.le_trans (Nat.le_trans (Nat.le_trans (Nat.le_trans (Nat.le_trans (Nat.le_trans (Nat.le_trans (Nat.le_trans (Nat.le_trans (Nat.le_trans (Nat.le_trans (Nat.le_trans (Nat.le_trans (Nat.le_trans (Nat.le_trans (Nat.le_trans (Nat.le_trans (Nat.le_trans (Nat.le_trans Z0 E6.1) (Keep.of_wr W7).1) (Keep.of_wr W8).1) (Keep.of_wr W9).1) (Keep.of_wr W10).1) (Keep.of_wr W11).1) (Keep.of_wr W12).1) (Keep.of_wr W13).1) (Keep.of_wr W14).1) (Keep.of_wr W15).1) (Keep.of_wr W16).1) (Keep.of_wr W17).1) (Keep.of_wr W18).1) (Keep.of_wr W19).1) (Keep.of_wr W20).1) (Keep.of_wr W21).1) (Keep.of_wr W22).1) (Keep.of_wr W23).1) (Keep.of_wr W24).1) (Keep.of_wr W25).1) (Keep.of_wr W26).1) (Keep.of_wr W27).1) (Keep.of_wr W28).1) (Keep.of_wr W29).1) (Keep.of_wr W30).1) (Keep.of_wr W31).1)) hZ (hw _ (List.mem_of_getElem? (i := 9) rfl)) (hw _ (List.mem_of_getElem? (i := 8) rfl)) (by decide) (by decide)) (g := (mkF m 525 #[.val (.int p1), .val (.int p2), .val (.int p3), .val (.int p4), .val (.int p5), .val (.int vrb), .val (.int vrw), .val (.int vpl), .val (.int vrs), .val (.int vps), .val (.int vix), .val (.int vq), .val (.int vv), .val (.int vf), .val (.int vw), .val (.ref b6), .val (.int got), .unset, .unset] [(.int vq), (.int vps), (.int vrs), (.int vix), (.int vrb), (.int vpl), (.int vrw), (.int (0 : Int32)), (.int (3 : Int32)), (.int ((((((((((((own_row (0 : Int32) (0 : Int32) vrw vpl vrb vix vrs vps vq) ||| (own_row (0 : Int32) (1 : Int32) vrw vpl vrb vix vrs vps vq)) ||| (own_row (0 : Int32) (2 : Int32) vrw vpl vrb vix vrs vps vq)) ||| (own_row (0 : Int32) (3 : Int32) vrw vpl vrb vix vrs vps vq)) ||| (own_row (1 : Int32) (0 : Int32) vrw vpl vrb vix vrs vps vq)) ||| (own_row (1 : Int32) (1 : Int32) vrw vpl vrb vix vrs vps vq)) ||| (own_row (1 : Int32) (2 : Int32) vrw vpl vrb vix vrs vps vq)) ||| (own_row (1 : Int32) (3 : Int32) vrw vpl vrb vix vrs vps vq)) ||| (own_row (2 : Int32) (0 : Int32) vrw vpl vrb vix vrs vps vq)) ||| (own_row (2 : Int32) (1 : Int32) vrw vpl vrb vix vrs vps vq)) ||| (own_row (2 : Int32) (2 : Int32) vrw vpl vrb vix vrs vps vq)) ||| (own_row (2 : Int32) (3 : Int32) vrw vpl vrb vix vrs vps vq)))])) rfl (by rw [hml]; rfl) (argsL := [(.int (3 : Int32)), (.int (0 : Int32)), (.int vrw), (.int vpl), (.int vrb), (.int vix), (.int vrs), (.int vps), (.int vq)]) (rest := [(.int ((((((((((((own_row (0 : Int32) (0 : Int32) vrw vpl vrb vix vrs vps vq) ||| (own_row (0 : Int32) (1 : Int32) vrw vpl vrb vix vrs vps vq)) ||| (own_row (0 : Int32) (2 : Int32) vrw vpl vrb vix vrs vps vq)) ||| (own_row (0 : Int32) (3 : Int32) vrw vpl vrb vix vrs vps vq)) ||| (own_row (1 : Int32) (0 : Int32) vrw vpl vrb vix vrs vps vq)) ||| (own_row (1 : Int32) (1 : Int32) vrw vpl vrb vix vrs vps vq)) ||| (own_row (1 : Int32) (2 : Int32) vrw vpl vrb vix vrs vps vq)) ||| (own_row (1 : Int32) (3 : Int32) vrw vpl vrb vix vrs vps vq)) ||| (own_row (2 : Int32) (0 : Int32) vrw vpl vrb vix vrs vps vq)) ||| (own_row (2 : Int32) (1 : Int32) vrw vpl vrb vix vrs vps vq)) ||| (own_row (2 : Int32) (2 : Int32) vrw vpl vrb vix vrs vps vq)) ||| (own_row (2 : Int32) (3 : Int32) vrw vpl vrb vix vrs vps vq)))]) (lenOf pd_0_1 rfl) rfl (by show 2 * 0 + _ ≤ _; exact Nat.le_of_eq rfl) (hb hby at_525) (fun _ _ => ⟨rfl, e44, (by decide : 1 + 0 ≤ _), (by decide : 24 + 0 ≤ _)⟩)
  dsimp only [Pt.U, Pt.locs, Pt.cells, Pt.slots] at X45 l45 y45 z45 st45 hQ45
  rw [l45, y45, z45] at X45
  obtain ⟨rfl, N45q, e45⟩ := hQ45
  have N45 := Fr.app N44 N45q
  obtain ⟨_, _, ⟨T46, L46, k46, n46⟩, -, X46, ⟨Lc46, hQ46, l46, y46, z46⟩, st46⟩ := Jvm.LawKit.callS X45 hx (y := (⟨"com/example/chunkwell/chunkwell/codecs/RowCopiesEachByteIsPinLaw", "row", "(IIIIIIIII)I"⟩ : MethodName)) hown (mvT hZ (hw _ (List.mem_of_getElem? (i := 6) rfl))) (mvT hZ (hw _ (List.mem_of_getElem? (i := 7) rfl))) (mvT hZ (hw _ (List.mem_of_getElem? (i := 8) rfl))) (mvT hZ (hw _ (List.mem_of_getElem? (i := 9) rfl))) (by decide) (backOf (W := 1) (rm2 l Z a0 hw [] (3 : Int32) (1 : Int32) vrw vpl vrb vix vrs vps vq  h31 n0 (Nat.le_trans (Nat.le_trans (Nat.le_trans (Nat.le_trans (Nat.le_trans (Nat.le_trans (Nat.le_trans (Nat.le_trans (Nat.le_trans (Nat.le_trans (Nat.le_trans (Nat.le_trans (Nat.le_trans (Nat.le_trans (Nat.le_trans (Nat.le_trans (Nat.le_trans (Nat.le_trans (Nat.le_trans (Nat.le_trans (Nat.le_trans (Nat.le_trans (Nat.le_trans (Nat.le_trans (Nat.le_trans (Nat.le_trans Z0 E6.1) (Keep.of_wr W7).1) (Keep.of_wr W8).1) (Keep.of_wr W9).1) (Keep.of_wr W10).1) (Keep.of_wr W11).1) (Keep.of_wr W12).1) (Keep.of_wr W13).1) (Keep.of_wr W14).1) (Keep.of_wr W15).1) (Keep.of_wr W16).1) (Keep.of_wr W17).1) (Keep.of_wr W18).1) (Keep.of_wr W19).1) (Keep.of_wr W20).1) (Keep.of_wr W21).1) (Keep.of_wr W22).1) (Keep.of_wr W23).1) (Keep.of_wr W24).1) (Keep.of_wr W25).1) (Keep.of_wr W26).1) (Keep.of_wr W27).1) (Keep.of_wr W28).1) (Keep.of_wr W29).1) (Keep.of_wr W30).1) (Keep.of_wr W31).1)) hZ (hw _ (List.mem_of_getElem? (i := 9) rfl)) (hw _ (List.mem_of_getElem? (i := 8) rfl)) (by decide) (by decide)) (g := (mkF m 545 #[.val (.int p1), .val (.int p2), .val (.int p3), .val (.int p4), .val (.int p5), .val (.int vrb), .val (.int vrw), .val (.int vpl), .val (.int vrs), .val (.int vps), .val (.int vix), .val (.int vq), .val (.int vv), .val (.int vf), .val (.int vw), .val (.ref b6), .val (.int got), .unset, .unset] [(.int vq), (.int vps), (.int vrs), (.int vix), (.int vrb), (.int vpl), (.int vrw), (.int (1 : Int32)), (.int (3 : Int32)), (.int (((((((((((((own_row (0 : Int32) (0 : Int32) vrw vpl vrb vix vrs vps vq) ||| (own_row (0 : Int32) (1 : Int32) vrw vpl vrb vix vrs vps vq)) ||| (own_row (0 : Int32) (2 : Int32) vrw vpl vrb vix vrs vps vq)) ||| (own_row (0 : Int32) (3 : Int32) vrw vpl vrb vix vrs vps vq)) ||| (own_row (1 : Int32) (0 : Int32) vrw vpl vrb vix vrs vps vq)) ||| (own_row (1 : Int32) (1 : Int32) vrw vpl vrb vix vrs vps vq)) ||| (own_row (1 : Int32) (2 : Int32) vrw vpl vrb vix vrs vps vq)) ||| (own_row (1 : Int32) (3 : Int32) vrw vpl vrb vix vrs vps vq)) ||| (own_row (2 : Int32) (0 : Int32) vrw vpl vrb vix vrs vps vq)) ||| (own_row (2 : Int32) (1 : Int32) vrw vpl vrb vix vrs vps vq)) ||| (own_row (2 : Int32) (2 : Int32) vrw vpl vrb vix vrs vps vq)) ||| (own_row (2 : Int32) (3 : Int32) vrw vpl vrb vix vrs vps vq)) ||| (own_row (3 : Int32) (0 : Int32) vrw vpl vrb vix vrs vps vq)))])) rfl (by rw [hml]; rfl) (argsL := [(.int (3 : Int32)), (.int (1 : Int32)), (.int vrw), (.int vpl), (.int vrb), (.int vix), (.int vrs), (.int vps), (.int vq)]) (rest := [(.int (((((((((((((own_row (0 : Int32) (0 : Int32) vrw vpl vrb vix vrs vps vq) ||| (own_row (0 : Int32) (1 : Int32) vrw vpl vrb vix vrs vps vq)) ||| (own_row (0 : Int32) (2 : Int32) vrw vpl vrb vix vrs vps vq)) ||| (own_row (0 : Int32) (3 : Int32) vrw vpl vrb vix vrs vps vq)) ||| (own_row (1 : Int32) (0 : Int32) vrw vpl vrb vix vrs vps vq)) ||| (own_row (1 : Int32) (1 : Int32) vrw vpl vrb vix vrs vps vq)) ||| (own_row (1 : Int32) (2 : Int32) vrw vpl vrb vix vrs vps vq)) ||| (own_row (1 : Int32) (3 : Int32) vrw vpl vrb vix vrs vps vq)) ||| (own_row (2 : Int32) (0 : Int32) vrw vpl vrb vix vrs vps vq)) ||| (own_row (2 : Int32) (1 : Int32) vrw vpl vrb vix vrs vps vq)) ||| (own_row (2 : Int32) (2 : Int32) vrw vpl vrb vix vrs vps vq)) ||| (own_row (2 : Int32) (3 : Int32) vrw vpl vrb vix vrs vps vq)) ||| (own_row (3 : Int32) (0 : Int32) vrw vpl vrb vix vrs vps vq)))]) (lenOf pd_0_1 rfl) rfl (by show 2 * 0 + _ ≤ _; exact Nat.le_of_eq rfl) (hb hby at_545) (fun _ _ => ⟨rfl, e45, (by decide : 1 + 0 ≤ _), (by decide : 24 + 0 ≤ _)⟩)
  dsimp only [Pt.U, Pt.locs, Pt.cells, Pt.slots] at X46 l46 y46 z46 st46 hQ46
  rw [l46, y46, z46] at X46
  obtain ⟨rfl, N46q, e46⟩ := hQ46
  have N46 := Fr.app N45 N46q
  obtain ⟨_, _, ⟨T47, L47, k47, n47⟩, -, X47, ⟨Lc47, hQ47, l47, y47, z47⟩, st47⟩ := Jvm.LawKit.callS X46 hx (y := (⟨"com/example/chunkwell/chunkwell/codecs/RowCopiesEachByteIsPinLaw", "row", "(IIIIIIIII)I"⟩ : MethodName)) hown (mvT hZ (hw _ (List.mem_of_getElem? (i := 6) rfl))) (mvT hZ (hw _ (List.mem_of_getElem? (i := 7) rfl))) (mvT hZ (hw _ (List.mem_of_getElem? (i := 8) rfl))) (mvT hZ (hw _ (List.mem_of_getElem? (i := 9) rfl))) (by decide) (backOf (W := 1) (rm2 l Z a0 hw [] (3 : Int32) (2 : Int32) vrw vpl vrb vix vrs vps vq  h31 n0 (Nat.le_trans (Nat.le_trans (Nat.le_trans (Nat.le_trans (Nat.le_trans (Nat.le_trans (Nat.le_trans (Nat.le_trans (Nat.le_trans (Nat.le_trans (Nat.le_trans (Nat.le_trans (Nat.le_trans (Nat.le_trans (Nat.le_trans (Nat.le_trans (Nat.le_trans (Nat.le_trans (Nat.le_trans (Nat.le_trans (Nat.le_trans (Nat.le_trans (Nat.le_trans (Nat.le_trans (Nat.le_trans (Nat.le_trans Z0 E6.1) (Keep.of_wr W7).1) (Keep.of_wr W8).1) (Keep.of_wr W9).1) (Keep.of_wr W10).1) (Keep.of_wr W11).1) (Keep.of_wr W12).1) (Keep.of_wr W13).1) (Keep.of_wr W14).1) (Keep.of_wr W15).1) (Keep.of_wr W16).1) (Keep.of_wr W17).1) (Keep.of_wr W18).1) (Keep.of_wr W19).1) (Keep.of_wr W20).1) (Keep.of_wr W21).1) (Keep.of_wr W22).1) (Keep.of_wr W23).1) (Keep.of_wr W24).1) (Keep.of_wr W25).1) (Keep.of_wr W26).1) (Keep.of_wr W27).1) (Keep.of_wr W28).1) (Keep.of_wr W29).1) (Keep.of_wr W30).1) (Keep.of_wr W31).1)) hZ (hw _ (List.mem_of_getElem? (i := 9) rfl)) (hw _ (List.mem_of_getElem? (i := 8) rfl)) (by decide) (by decide)) (g := (mkF m 565 #[.val (.int p1), .val (.int p2), .val (.int p3), .val (.int p4), .val (.int p5), .val (.int vrb), .val (.int vrw), .val (.int vpl), .val (.int vrs), .val (.int vps), .val (.int vix), .val (.int vq), .val (.int vv), .val (.int vf), .val (.int vw), .val (.ref b6), .val (.int got), .unset, .unset] [(.int vq), (.int vps), (.int vrs), (.int vix), (.int vrb), (.int vpl), (.int vrw), (.int (2 : Int32)), (.int (3 : Int32)), (.int ((((((((((((((own_row (0 : Int32) (0 : Int32) vrw vpl vrb vix vrs vps vq) ||| (own_row (0 : Int32) (1 : Int32) vrw vpl vrb vix vrs vps vq)) ||| (own_row (0 : Int32) (2 : Int32) vrw vpl vrb vix vrs vps vq)) ||| (own_row (0 : Int32) (3 : Int32) vrw vpl vrb vix vrs vps vq)) ||| (own_row (1 : Int32) (0 : Int32) vrw vpl vrb vix vrs vps vq)) ||| (own_row (1 : Int32) (1 : Int32) vrw vpl vrb vix vrs vps vq)) ||| (own_row (1 : Int32) (2 : Int32) vrw vpl vrb vix vrs vps vq)) ||| (own_row (1 : Int32) (3 : Int32) vrw vpl vrb vix vrs vps vq)) ||| (own_row (2 : Int32) (0 : Int32) vrw vpl vrb vix vrs vps vq)) ||| (own_row (2 : Int32) (1 : Int32) vrw vpl vrb vix vrs vps vq)) ||| (own_row (2 : Int32) (2 : Int32) vrw vpl vrb vix vrs vps vq)) ||| (own_row (2 : Int32) (3 : Int32) vrw vpl vrb vix vrs vps vq)) ||| (own_row (3 : Int32) (0 : Int32) vrw vpl vrb vix vrs vps vq)) ||| (own_row (3 : Int32) (1 : Int32) vrw vpl vrb vix vrs vps vq)))])) rfl (by rw [hml]; rfl) (argsL := [(.int (3 : Int32)), (.int (2 : Int32)), (.int vrw), (.int vpl), (.int vrb), (.int vix), (.int vrs), (.int vps), (.int vq)]) (rest := [(.int ((((((((((((((own_row (0 : Int32) (0 : Int32) vrw vpl vrb vix vrs vps vq) ||| (own_row (0 : Int32) (1 : Int32) vrw vpl vrb vix vrs vps vq)) ||| (own_row (0 : Int32) (2 : Int32) vrw vpl vrb vix vrs vps vq)) ||| (own_row (0 : Int32) (3 : Int32) vrw vpl vrb vix vrs vps vq)) ||| (own_row (1 : Int32) (0 : Int32) vrw vpl vrb vix vrs vps vq)) ||| (own_row (1 : Int32) (1 : Int32) vrw vpl vrb vix vrs vps vq)) ||| (own_row (1 : Int32) (2 : Int32) vrw vpl vrb vix vrs vps vq)) ||| (own_row (1 : Int32) (3 : Int32) vrw vpl vrb vix vrs vps vq)) ||| (own_row (2 : Int32) (0 : Int32) vrw vpl vrb vix vrs vps vq)) ||| (own_row (2 : Int32) (1 : Int32) vrw vpl vrb vix vrs vps vq)) ||| (own_row (2 : Int32) (2 : Int32) vrw vpl vrb vix vrs vps vq)) ||| (own_row (2 : Int32) (3 : Int32) vrw vpl vrb vix vrs vps vq)) ||| (own_row (3 : Int32) (0 : Int32) vrw vpl vrb vix vrs vps vq)) ||| (own_row (3 : Int32) (1 : Int32) vrw vpl vrb vix vrs vps vq)))]) (lenOf pd_0_1 rfl) rfl (by show 2 * 0 + _ ≤ _; exact Nat.le_of_eq rfl) (hb hby at_565) (fun _ _ => ⟨rfl, e46, (by decide : 1 + 0 ≤ _), (by decide : 24 + 0 ≤ _)⟩)
  dsimp only [Pt.U, Pt.locs, Pt.cells, Pt.slots] at X47 l47 y47 z47 st47 hQ47
  rw [l47, y47, z47] at X47
  obtain ⟨rfl, N47q, e47⟩ := hQ47
  have N47 := Fr.app N46 N47q
  obtain ⟨_, _, ⟨T48, L48, k48, n48⟩, -, X48, ⟨Lc48, hQ48, l48, y48, z48⟩, st48⟩ := Jvm.LawKit.callS X47 hx (y := (⟨"com/example/chunkwell/chunkwell/codecs/RowCopiesEachByteIsPinLaw", "row", "(IIIIIIIII)I"⟩ : MethodName)) hown (mvT hZ (hw _ (List.mem_of_getElem? (i := 6) rfl))) (mvT hZ (hw _ (List.mem_of_getElem? (i := 7) rfl))) (mvT hZ (hw _ (List.mem_of_getElem? (i := 8) rfl))) (mvT hZ (hw _ (List.mem_of_getElem? (i := 9) rfl))) (by decide) (backOf (W := 1) (rm2 l Z a0 hw [] (3 : Int32) (3 : Int32) vrw vpl vrb vix vrs vps vq  h31 n0 (Nat.le_trans (Nat.le_trans (Nat.le_trans (Nat.le_trans (Nat.le_trans (Nat.le_trans (Nat.le_trans (Nat.le_trans (Nat.le_trans (Nat.le_trans (Nat.le_trans (Nat.le_trans (Nat.le_trans (Nat.le_trans (Nat.le_trans (Nat.le_trans (Nat.le_trans (Nat.le_trans (Nat.le_trans (Nat.le_trans (Nat.le_trans (Nat.le_trans (Nat.le_trans (Nat.le_trans (Nat.le_trans (Nat.le_trans Z0 E6.1) (Keep.of_wr W7).1) (Keep.of_wr W8).1) (Keep.of_wr W9).1) (Keep.of_wr W10).1) (Keep.of_wr W11).1) (Keep.of_wr W12).1) (Keep.of_wr W13).1) (Keep.of_wr W14).1) (Keep.of_wr W15).1) (Keep.of_wr W16).1) (Keep.of_wr W17).1) (Keep.of_wr W18).1) (Keep.of_wr W19).1) (Keep.of_wr W20).1) (Keep.of_wr W21).1) (Keep.of_wr W22).1) (Keep.of_wr W23).1) (Keep.of_wr W24).1) (Keep.of_wr W25).1) (Keep.of_wr W26).1) (Keep.of_wr W27).1) (Keep.of_wr W28).1) (Keep.of_wr W29).1) (Keep.of_wr W30).1) (Keep.of_wr W31).1)) hZ (hw _ (List.mem_of_getElem? (i := 9) rfl)) (hw _ (List.mem_of_getElem? (i := 8) rfl)) (by decide) (by decide)) (g := (mkF m 585 #[.val (.int p1), .val (.int p2), .val (.int p3), .val (.int p4), .val (.int p5), .val (.int vrb), .val (.int vrw), .val (.int vpl), .val (.int vrs), .val (.int vps), .val (.int vix), .val (.int vq), .val (.int vv), .val (.int vf), .val (.int vw), .val (.ref b6), .val (.int got), .unset, .unset] [(.int vq), (.int vps), (.int vrs), (.int vix), (.int vrb), (.int vpl), (.int vrw), (.int (3 : Int32)), (.int (3 : Int32)), (.int (((((((((((((((own_row (0 : Int32) (0 : Int32) vrw vpl vrb vix vrs vps vq) ||| (own_row (0 : Int32) (1 : Int32) vrw vpl vrb vix vrs vps vq)) ||| (own_row (0 : Int32) (2 : Int32) vrw vpl vrb vix vrs vps vq)) ||| (own_row (0 : Int32) (3 : Int32) vrw vpl vrb vix vrs vps vq)) ||| (own_row (1 : Int32) (0 : Int32) vrw vpl vrb vix vrs vps vq)) ||| (own_row (1 : Int32) (1 : Int32) vrw vpl vrb vix vrs vps vq)) ||| (own_row (1 : Int32) (2 : Int32) vrw vpl vrb vix vrs vps vq)) ||| (own_row (1 : Int32) (3 : Int32) vrw vpl vrb vix vrs vps vq)) ||| (own_row (2 : Int32) (0 : Int32) vrw vpl vrb vix vrs vps vq)) ||| (own_row (2 : Int32) (1 : Int32) vrw vpl vrb vix vrs vps vq)) ||| (own_row (2 : Int32) (2 : Int32) vrw vpl vrb vix vrs vps vq)) ||| (own_row (2 : Int32) (3 : Int32) vrw vpl vrb vix vrs vps vq)) ||| (own_row (3 : Int32) (0 : Int32) vrw vpl vrb vix vrs vps vq)) ||| (own_row (3 : Int32) (1 : Int32) vrw vpl vrb vix vrs vps vq)) ||| (own_row (3 : Int32) (2 : Int32) vrw vpl vrb vix vrs vps vq)))])) rfl (by rw [hml]; rfl) (argsL := [(.int (3 : Int32)), (.int (3 : Int32)), (.int vrw), (.int vpl), (.int vrb), (.int vix), (.int vrs), (.int vps), (.int vq)]) (rest := [(.int (((((((((((((((own_row (0 : Int32) (0 : Int32) vrw vpl vrb vix vrs vps vq) ||| (own_row (0 : Int32) (1 : Int32) vrw vpl vrb vix vrs vps vq)) ||| (own_row (0 : Int32) (2 : Int32) vrw vpl vrb vix vrs vps vq)) ||| (own_row (0 : Int32) (3 : Int32) vrw vpl vrb vix vrs vps vq)) ||| (own_row (1 : Int32) (0 : Int32) vrw vpl vrb vix vrs vps vq)) ||| (own_row (1 : Int32) (1 : Int32) vrw vpl vrb vix vrs vps vq)) ||| (own_row (1 : Int32) (2 : Int32) vrw vpl vrb vix vrs vps vq)) ||| (own_row (1 : Int32) (3 : Int32) vrw vpl vrb vix vrs vps vq)) ||| (own_row (2 : Int32) (0 : Int32) vrw vpl vrb vix vrs vps vq)) ||| (own_row (2 : Int32) (1 : Int32) vrw vpl vrb vix vrs vps vq)) ||| (own_row (2 : Int32) (2 : Int32) vrw vpl vrb vix vrs vps vq)) ||| (own_row (2 : Int32) (3 : Int32) vrw vpl vrb vix vrs vps vq)) ||| (own_row (3 : Int32) (0 : Int32) vrw vpl vrb vix vrs vps vq)) ||| (own_row (3 : Int32) (1 : Int32) vrw vpl vrb vix vrs vps vq)) ||| (own_row (3 : Int32) (2 : Int32) vrw vpl vrb vix vrs vps vq)))]) (lenOf pd_0_1 rfl) rfl (by show 2 * 0 + _ ≤ _; exact Nat.le_of_eq rfl) (hb hby at_585) (fun _ _ => ⟨rfl, e47, (by decide : 1 + 0 ≤ _), (by decide : 24 + 0 ≤ _)⟩)
  dsimp only [Pt.U, Pt.locs, Pt.cells, Pt.slots] at X48 l48 y48 z48 st48 hQ48
  rw [l48, y48, z48] at X48
  obtain ⟨rfl, N48q, e48⟩ := hQ48
  have N48 := Fr.app N47 N48q
  obtain ⟨cov, h_cov⟩ : ∃ z : Int32, z = ((((((((((((((((own_row (0 : Int32) (0 : Int32) vrw vpl vrb vix vrs vps vq) ||| (own_row (0 : Int32) (1 : Int32) vrw vpl vrb vix vrs vps vq)) ||| (own_row (0 : Int32) (2 : Int32) vrw vpl vrb vix vrs vps vq)) ||| (own_row (0 : Int32) (3 : Int32) vrw vpl vrb vix vrs vps vq)) ||| (own_row (1 : Int32) (0 : Int32) vrw vpl vrb vix vrs vps vq)) ||| (own_row (1 : Int32) (1 : Int32) vrw vpl vrb vix vrs vps vq)) ||| (own_row (1 : Int32) (2 : Int32) vrw vpl vrb vix vrs vps vq)) ||| (own_row (1 : Int32) (3 : Int32) vrw vpl vrb vix vrs vps vq)) ||| (own_row (2 : Int32) (0 : Int32) vrw vpl vrb vix vrs vps vq)) ||| (own_row (2 : Int32) (1 : Int32) vrw vpl vrb vix vrs vps vq)) ||| (own_row (2 : Int32) (2 : Int32) vrw vpl vrb vix vrs vps vq)) ||| (own_row (2 : Int32) (3 : Int32) vrw vpl vrb vix vrs vps vq)) ||| (own_row (3 : Int32) (0 : Int32) vrw vpl vrb vix vrs vps vq)) ||| (own_row (3 : Int32) (1 : Int32) vrw vpl vrb vix vrs vps vq)) ||| (own_row (3 : Int32) (2 : Int32) vrw vpl vrb vix vrs vps vq)) ||| (own_row (3 : Int32) (3 : Int32) vrw vpl vrb vix vrs vps vq)) := ⟨_, rfl⟩
  obtain ⟨xp, h_xp⟩ : ∃ z : Int32, z = (own_e cov vw vv vf) := ⟨_, rfl⟩
  have hcov : cov = own_cov (own_g nrw npl nrb nix nrs nps nq) := by
    rw [h_cov, hvrw, hvpl, hvrb, hvix, hvrs, hvps, hvq]; rfl
  have hc630 : got = xp := by
    rw [h_got, h_xp, hcov]
    exact own_law nrw npl nrb nix nrs nps nq hrw hpl hrb hix hrs hps hnq vw vv vf _ (fun j => rfl)
  obtain ⟨fs, hr, hrun, hended, hW, hsame⟩ := X48.leave (v := some (.int (1 : Int32))) (fun h => by rw [Bd.returns] at h; cases h)
  refine ⟨_, _, pre0 _ ?_, hrun, hended, _, _, rfl, ?_, ⟨_, rfl⟩, hW, hsame.mono (by decide) (by decide)⟩
  · show Steps p.tables e below (s₁.setTop (mkF m 0 #[.val (.int p1), .val (.int p2), .val (.int p3), .val (.int p4), .val (.int p5), .unset, .unset, .unset, .unset, .unset, .unset, .unset, .unset, .unset, .unset, .unset, .unset, .unset, .unset] [])) _
    refine XS.iloadN X0.here hx rfl (hb hby at_0) rfl ?_
    show Steps p.tables e below (s₁.setTop (mkF m 1 #[.val (.int p1), .val (.int p2), .val (.int p3), .val (.int p4), .val (.int p5), .unset, .unset, .unset, .unset, .unset, .unset, .unset, .unset, .unset, .unset, .unset, .unset, .unset, .unset] [(.int p1)])) _
    refine XS.iconst X0.here hx rfl (hb hby at_1) ?_
    show Steps p.tables e below (s₁.setTop (mkF m 2 #[.val (.int p1), .val (.int p2), .val (.int p3), .val (.int p4), .val (.int p5), .unset, .unset, .unset, .unset, .unset, .unset, .unset, .unset, .unset, .unset, .unset, .unset, .unset, .unset] [(.int (3 : Int32)), (.int p1)])) _
    refine XS.iand X0.here hx rfl (hb hby at_2) rfl ?_
    show Steps p.tables e below (s₁.setTop (mkF m 3 #[.val (.int p1), .val (.int p2), .val (.int p3), .val (.int p4), .val (.int p5), .unset, .unset, .unset, .unset, .unset, .unset, .unset, .unset, .unset, .unset, .unset, .unset, .unset, .unset] [(.int (p1 &&& (3 : Int32)))])) _
    refine XS.istore X0.here hx rfl (hb hby at_3) (x := vrb) (rest := []) (by subst h_vrb; rfl) (l' := #[.val (.int p1), .val (.int p2), .val (.int p3), .val (.int p4), .val (.int p5), .val (.int vrb), .unset, .unset, .unset, .unset, .unset, .unset, .unset, .unset, .unset, .unset, .unset, .unset, .unset]) rfl ?_
    show Steps p.tables e below (s₁.setTop (mkF m 5 #[.val (.int p1), .val (.int p2), .val (.int p3), .val (.int p4), .val (.int p5), .val (.int vrb), .unset, .unset, .unset, .unset, .unset, .unset, .unset, .unset, .unset, .unset, .unset, .unset, .unset] [])) _
    refine XS.iloadN X0.here hx rfl (hb hby at_5) rfl ?_
    show Steps p.tables e below (s₁.setTop (mkF m 6 #[.val (.int p1), .val (.int p2), .val (.int p3), .val (.int p4), .val (.int p5), .val (.int vrb), .unset, .unset, .unset, .unset, .unset, .unset, .unset, .unset, .unset, .unset, .unset, .unset, .unset] [(.int p1)])) _
    refine XS.iconst X0.here hx rfl (hb hby at_6) ?_
    show Steps p.tables e below (s₁.setTop (mkF m 7 #[.val (.int p1), .val (.int p2), .val (.int p3), .val (.int p4), .val (.int p5), .val (.int vrb), .unset, .unset, .unset, .unset, .unset, .unset, .unset, .unset, .unset, .unset, .unset, .unset, .unset] [(.int (2 : Int32)), (.int p1)])) _
    refine XS.iushr X0.here hx rfl (hb hby at_7) rfl ?_
    show Steps p.tables e below (s₁.setTop (mkF m 8 #[.val (.int p1), .val (.int p2), .val (.int p3), .val (.int p4), .val (.int p5), .val (.int vrb), .unset, .unset, .unset, .unset, .unset, .unset, .unset, .unset, .unset, .unset, .unset, .unset, .unset] [(.int ((p1.toUInt32 >>> ((2 : Int32) &&& 31).toUInt32).toInt32))])) _
    refine XS.iconst X0.here hx rfl (hb hby at_8) ?_
    show Steps p.tables e below (s₁.setTop (mkF m 9 #[.val (.int p1), .val (.int p2), .val (.int p3), .val (.int p4), .val (.int p5), .val (.int vrb), .unset, .unset, .unset, .unset, .unset, .unset, .unset, .unset, .unset, .unset, .unset, .unset, .unset] [(.int (3 : Int32)), (.int ((p1.toUInt32 >>> ((2 : Int32) &&& 31).toUInt32).toInt32))])) _
    refine XS.iand X0.here hx rfl (hb hby at_9) rfl ?_
    show Steps p.tables e below (s₁.setTop (mkF m 10 #[.val (.int p1), .val (.int p2), .val (.int p3), .val (.int p4), .val (.int p5), .val (.int vrb), .unset, .unset, .unset, .unset, .unset, .unset, .unset, .unset, .unset, .unset, .unset, .unset, .unset] [(.int (((p1.toUInt32 >>> ((2 : Int32) &&& 31).toUInt32).toInt32) &&& (3 : Int32)))])) _
    refine XS.istore X0.here hx rfl (hb hby at_10) (x := vrw) (rest := []) (by subst h_vrw; rfl) (l' := #[.val (.int p1), .val (.int p2), .val (.int p3), .val (.int p4), .val (.int p5), .val (.int vrb), .val (.int vrw), .unset, .unset, .unset, .unset, .unset, .unset, .unset, .unset, .unset, .unset, .unset, .unset]) rfl ?_
    show Steps p.tables e below (s₁.setTop (mkF m 12 #[.val (.int p1), .val (.int p2), .val (.int p3), .val (.int p4), .val (.int p5), .val (.int vrb), .val (.int vrw), .unset, .unset, .unset, .unset, .unset, .unset, .unset, .unset, .unset, .unset, .unset, .unset] [])) _
    refine XS.iloadN X0.here hx rfl (hb hby at_12) rfl ?_
    show Steps p.tables e below (s₁.setTop (mkF m 13 #[.val (.int p1), .val (.int p2), .val (.int p3), .val (.int p4), .val (.int p5), .val (.int vrb), .val (.int vrw), .unset, .unset, .unset, .unset, .unset, .unset, .unset, .unset, .unset, .unset, .unset, .unset] [(.int p1)])) _
    refine XS.iconst X0.here hx rfl (hb hby at_13) ?_
    show Steps p.tables e below (s₁.setTop (mkF m 14 #[.val (.int p1), .val (.int p2), .val (.int p3), .val (.int p4), .val (.int p5), .val (.int vrb), .val (.int vrw), .unset, .unset, .unset, .unset, .unset, .unset, .unset, .unset, .unset, .unset, .unset, .unset] [(.int (4 : Int32)), (.int p1)])) _
    refine XS.iushr X0.here hx rfl (hb hby at_14) rfl ?_
    show Steps p.tables e below (s₁.setTop (mkF m 15 #[.val (.int p1), .val (.int p2), .val (.int p3), .val (.int p4), .val (.int p5), .val (.int vrb), .val (.int vrw), .unset, .unset, .unset, .unset, .unset, .unset, .unset, .unset, .unset, .unset, .unset, .unset] [(.int ((p1.toUInt32 >>> ((4 : Int32) &&& 31).toUInt32).toInt32))])) _
    refine XS.iconst X0.here hx rfl (hb hby at_15) ?_
    show Steps p.tables e below (s₁.setTop (mkF m 16 #[.val (.int p1), .val (.int p2), .val (.int p3), .val (.int p4), .val (.int p5), .val (.int vrb), .val (.int vrw), .unset, .unset, .unset, .unset, .unset, .unset, .unset, .unset, .unset, .unset, .unset, .unset] [(.int (3 : Int32)), (.int ((p1.toUInt32 >>> ((4 : Int32) &&& 31).toUInt32).toInt32))])) _
    refine XS.iand X0.here hx rfl (hb hby at_16) rfl ?_
    show Steps p.tables e below (s₁.setTop (mkF m 17 #[.val (.int p1), .val (.int p2), .val (.int p3), .val (.int p4), .val (.int p5), .val (.int vrb), .val (.int vrw), .unset, .unset, .unset, .unset, .unset, .unset, .unset, .unset, .unset, .unset, .unset, .unset] [(.int (((p1.toUInt32 >>> ((4 : Int32) &&& 31).toUInt32).toInt32) &&& (3 : Int32)))])) _
    refine XS.istore X0.here hx rfl (hb hby at_17) (x := vpl) (rest := []) (by subst h_vpl; rfl) (l' := #[.val (.int p1), .val (.int p2), .val (.int p3), .val (.int p4), .val (.int p5), .val (.int vrb), .val (.int vrw), .val (.int vpl), .unset, .unset, .unset, .unset, .unset, .unset, .unset, .unset, .unset, .unset, .unset]) rfl ?_
    show Steps p.tables e below (s₁.setTop (mkF m 19 #[.val (.int p1), .val (.int p2), .val (.int p3), .val (.int p4), .val (.int p5), .val (.int vrb), .val (.int vrw), .val (.int vpl), .unset, .unset, .unset, .unset, .unset, .unset, .unset, .unset, .unset, .unset, .unset] [])) _
    refine XS.iloadN X0.here hx rfl (hb hby at_19) rfl ?_
    show Steps p.tables e below (s₁.setTop (mkF m 20 #[.val (.int p1), .val (.int p2), .val (.int p3), .val (.int p4), .val (.int p5), .val (.int vrb), .val (.int vrw), .val (.int vpl), .unset, .unset, .unset, .unset, .unset, .unset, .unset, .unset, .unset, .unset, .unset] [(.int p1)])) _
    refine XS.bipush X0.here hx rfl (hb hby at_20) ?_
    show Steps p.tables e below (s₁.setTop (mkF m 22 #[.val (.int p1), .val (.int p2), .val (.int p3), .val (.int p4), .val (.int p5), .val (.int vrb), .val (.int vrw), .val (.int vpl), .unset, .unset, .unset, .unset, .unset, .unset, .unset, .unset, .unset, .unset, .unset] [(.int (6 : Int32)), (.int p1)])) _
    refine XS.iushr X0.here hx rfl (hb hby at_22) rfl ?_
    show Steps p.tables e below (s₁.setTop (mkF m 23 #[.val (.int p1), .val (.int p2), .val (.int p3), .val (.int p4), .val (.int p5), .val (.int vrb), .val (.int vrw), .val (.int vpl), .unset, .unset, .unset, .unset, .unset, .unset, .unset, .unset, .unset, .unset, .unset] [(.int ((p1.toUInt32 >>> ((6 : Int32) &&& 31).toUInt32).toInt32))])) _
    refine XS.iconst X0.here hx rfl (hb hby at_23) ?_
    show Steps p.tables e below (s₁.setTop (mkF m 24 #[.val (.int p1), .val (.int p2), .val (.int p3), .val (.int p4), .val (.int p5), .val (.int vrb), .val (.int vrw), .val (.int vpl), .unset, .unset, .unset, .unset, .unset, .unset, .unset, .unset, .unset, .unset, .unset] [(.int (3 : Int32)), (.int ((p1.toUInt32 >>> ((6 : Int32) &&& 31).toUInt32).toInt32))])) _
    refine XS.iand X0.here hx rfl (hb hby at_24) rfl ?_
    show Steps p.tables e below (s₁.setTop (mkF m 25 #[.val (.int p1), .val (.int p2), .val (.int p3), .val (.int p4), .val (.int p5), .val (.int vrb), .val (.int vrw), .val (.int vpl), .unset, .unset, .unset, .unset, .unset, .unset, .unset, .unset, .unset, .unset, .unset] [(.int (((p1.toUInt32 >>> ((6 : Int32) &&& 31).toUInt32).toInt32) &&& (3 : Int32)))])) _
    refine XS.istore X0.here hx rfl (hb hby at_25) (x := vrs) (rest := []) (by subst h_vrs; rfl) (l' := #[.val (.int p1), .val (.int p2), .val (.int p3), .val (.int p4), .val (.int p5), .val (.int vrb), .val (.int vrw), .val (.int vpl), .val (.int vrs), .unset, .unset, .unset, .unset, .unset, .unset, .unset, .unset, .unset, .unset]) rfl ?_
    show Steps p.tables e below (s₁.setTop (mkF m 27 #[.val (.int p1), .val (.int p2), .val (.int p3), .val (.int p4), .val (.int p5), .val (.int vrb), .val (.int vrw), .val (.int vpl), .val (.int vrs), .unset, .unset, .unset, .unset, .unset, .unset, .unset, .unset, .unset, .unset] [])) _
    refine XS.iloadN X0.here hx rfl (hb hby at_27) rfl ?_
    show Steps p.tables e below (s₁.setTop (mkF m 28 #[.val (.int p1), .val (.int p2), .val (.int p3), .val (.int p4), .val (.int p5), .val (.int vrb), .val (.int vrw), .val (.int vpl), .val (.int vrs), .unset, .unset, .unset, .unset, .unset, .unset, .unset, .unset, .unset, .unset] [(.int p1)])) _
    refine XS.bipush X0.here hx rfl (hb hby at_28) ?_
    show Steps p.tables e below (s₁.setTop (mkF m 30 #[.val (.int p1), .val (.int p2), .val (.int p3), .val (.int p4), .val (.int p5), .val (.int vrb), .val (.int vrw), .val (.int vpl), .val (.int vrs), .unset, .unset, .unset, .unset, .unset, .unset, .unset, .unset, .unset, .unset] [(.int (8 : Int32)), (.int p1)])) _
    refine XS.iushr X0.here hx rfl (hb hby at_30) rfl ?_
    show Steps p.tables e below (s₁.setTop (mkF m 31 #[.val (.int p1), .val (.int p2), .val (.int p3), .val (.int p4), .val (.int p5), .val (.int vrb), .val (.int vrw), .val (.int vpl), .val (.int vrs), .unset, .unset, .unset, .unset, .unset, .unset, .unset, .unset, .unset, .unset] [(.int ((p1.toUInt32 >>> ((8 : Int32) &&& 31).toUInt32).toInt32))])) _
    refine XS.iconst X0.here hx rfl (hb hby at_31) ?_
    show Steps p.tables e below (s₁.setTop (mkF m 32 #[.val (.int p1), .val (.int p2), .val (.int p3), .val (.int p4), .val (.int p5), .val (.int vrb), .val (.int vrw), .val (.int vpl), .val (.int vrs), .unset, .unset, .unset, .unset, .unset, .unset, .unset, .unset, .unset, .unset] [(.int (3 : Int32)), (.int ((p1.toUInt32 >>> ((8 : Int32) &&& 31).toUInt32).toInt32))])) _
    refine XS.iand X0.here hx rfl (hb hby at_32) rfl ?_
    show Steps p.tables e below (s₁.setTop (mkF m 33 #[.val (.int p1), .val (.int p2), .val (.int p3), .val (.int p4), .val (.int p5), .val (.int vrb), .val (.int vrw), .val (.int vpl), .val (.int vrs), .unset, .unset, .unset, .unset, .unset, .unset, .unset, .unset, .unset, .unset] [(.int (((p1.toUInt32 >>> ((8 : Int32) &&& 31).toUInt32).toInt32) &&& (3 : Int32)))])) _
    refine XS.istore X0.here hx rfl (hb hby at_33) (x := vps) (rest := []) (by subst h_vps; rfl) (l' := #[.val (.int p1), .val (.int p2), .val (.int p3), .val (.int p4), .val (.int p5), .val (.int vrb), .val (.int vrw), .val (.int vpl), .val (.int vrs), .val (.int vps), .unset, .unset, .unset, .unset, .unset, .unset, .unset, .unset, .unset]) rfl ?_
    show Steps p.tables e below (s₁.setTop (mkF m 35 #[.val (.int p1), .val (.int p2), .val (.int p3), .val (.int p4), .val (.int p5), .val (.int vrb), .val (.int vrw), .val (.int vpl), .val (.int vrs), .val (.int vps), .unset, .unset, .unset, .unset, .unset, .unset, .unset, .unset, .unset] [])) _
    refine XS.iloadN X0.here hx rfl (hb hby at_35) rfl ?_
    show Steps p.tables e below (s₁.setTop (mkF m 36 #[.val (.int p1), .val (.int p2), .val (.int p3), .val (.int p4), .val (.int p5), .val (.int vrb), .val (.int vrw), .val (.int vpl), .val (.int vrs), .val (.int vps), .unset, .unset, .unset, .unset, .unset, .unset, .unset, .unset, .unset] [(.int p1)])) _
    refine XS.bipush X0.here hx rfl (hb hby at_36) ?_
    show Steps p.tables e below (s₁.setTop (mkF m 38 #[.val (.int p1), .val (.int p2), .val (.int p3), .val (.int p4), .val (.int p5), .val (.int vrb), .val (.int vrw), .val (.int vpl), .val (.int vrs), .val (.int vps), .unset, .unset, .unset, .unset, .unset, .unset, .unset, .unset, .unset] [(.int (10 : Int32)), (.int p1)])) _
    refine XS.iushr X0.here hx rfl (hb hby at_38) rfl ?_
    show Steps p.tables e below (s₁.setTop (mkF m 39 #[.val (.int p1), .val (.int p2), .val (.int p3), .val (.int p4), .val (.int p5), .val (.int vrb), .val (.int vrw), .val (.int vpl), .val (.int vrs), .val (.int vps), .unset, .unset, .unset, .unset, .unset, .unset, .unset, .unset, .unset] [(.int ((p1.toUInt32 >>> ((10 : Int32) &&& 31).toUInt32).toInt32))])) _
    refine XS.iconst X0.here hx rfl (hb hby at_39) ?_
    show Steps p.tables e below (s₁.setTop (mkF m 40 #[.val (.int p1), .val (.int p2), .val (.int p3), .val (.int p4), .val (.int p5), .val (.int vrb), .val (.int vrw), .val (.int vpl), .val (.int vrs), .val (.int vps), .unset, .unset, .unset, .unset, .unset, .unset, .unset, .unset, .unset] [(.int (3 : Int32)), (.int ((p1.toUInt32 >>> ((10 : Int32) &&& 31).toUInt32).toInt32))])) _
    refine XS.iand X0.here hx rfl (hb hby at_40) rfl ?_
    show Steps p.tables e below (s₁.setTop (mkF m 41 #[.val (.int p1), .val (.int p2), .val (.int p3), .val (.int p4), .val (.int p5), .val (.int vrb), .val (.int vrw), .val (.int vpl), .val (.int vrs), .val (.int vps), .unset, .unset, .unset, .unset, .unset, .unset, .unset, .unset, .unset] [(.int (((p1.toUInt32 >>> ((10 : Int32) &&& 31).toUInt32).toInt32) &&& (3 : Int32)))])) _
    refine XS.istore X0.here hx rfl (hb hby at_41) (x := vix) (rest := []) (by subst h_vix; rfl) (l' := #[.val (.int p1), .val (.int p2), .val (.int p3), .val (.int p4), .val (.int p5), .val (.int vrb), .val (.int vrw), .val (.int vpl), .val (.int vrs), .val (.int vps), .val (.int vix), .unset, .unset, .unset, .unset, .unset, .unset, .unset, .unset]) rfl ?_
    show Steps p.tables e below (s₁.setTop (mkF m 43 #[.val (.int p1), .val (.int p2), .val (.int p3), .val (.int p4), .val (.int p5), .val (.int vrb), .val (.int vrw), .val (.int vpl), .val (.int vrs), .val (.int vps), .val (.int vix), .unset, .unset, .unset, .unset, .unset, .unset, .unset, .unset] [])) _
    refine XS.iloadN X0.here hx rfl (hb hby at_43) rfl ?_
    show Steps p.tables e below (s₁.setTop (mkF m 44 #[.val (.int p1), .val (.int p2), .val (.int p3), .val (.int p4), .val (.int p5), .val (.int vrb), .val (.int vrw), .val (.int vpl), .val (.int vrs), .val (.int vps), .val (.int vix), .unset, .unset, .unset, .unset, .unset, .unset, .unset, .unset] [(.int p2)])) _
    refine X0.ldcInt hx hown (mvT hZ (hw _ (List.mem_of_getElem? (i := 0) rfl))) (g := (mkF m 44 #[.val (.int p1), .val (.int p2), .val (.int p3), .val (.int p4), .val (.int p5), .val (.int vrb), .val (.int vrw), .val (.int vpl), .val (.int vrs), .val (.int vps), .val (.int vix), .unset, .unset, .unset, .unset, .unset, .unset, .unset, .unset] [(.int p2)])) rfl (hb hby at_44) _ ?_
    show Steps p.tables e below (s₁.setTop (mkF m 46 #[.val (.int p1), .val (.int p2), .val (.int p3), .val (.int p4), .val (.int p5), .val (.int vrb), .val (.int vrw), .val (.int vpl), .val (.int vrs), .val (.int vps), .val (.int vix), .unset, .unset, .unset, .unset, .unset, .unset, .unset, .unset] [(.int (2147483647 : Int32)), (.int p2)])) _
    refine XS.iand X0.here hx rfl (hb hby at_46) rfl ?_
    show Steps p.tables e below (s₁.setTop (mkF m 47 #[.val (.int p1), .val (.int p2), .val (.int p3), .val (.int p4), .val (.int p5), .val (.int vrb), .val (.int vrw), .val (.int vpl), .val (.int vrs), .val (.int vps), .val (.int vix), .unset, .unset, .unset, .unset, .unset, .unset, .unset, .unset] [(.int (p2 &&& (2147483647 : Int32)))])) _
    refine XS.bipush X0.here hx rfl (hb hby at_47) ?_
    show Steps p.tables e below (s₁.setTop (mkF m 49 #[.val (.int p1), .val (.int p2), .val (.int p3), .val (.int p4), .val (.int p5), .val (.int vrb), .val (.int vrw), .val (.int vpl), .val (.int vrs), .val (.int vps), .val (.int vix), .unset, .unset, .unset, .unset, .unset, .unset, .unset, .unset] [(.int (24 : Int32)), (.int (p2 &&& (2147483647 : Int32)))])) _
    refine XS.irem X0.here hx rfl (hb hby at_49) rfl (by decide) ?_
    show Steps p.tables e below (s₁.setTop (mkF m 50 #[.val (.int p1), .val (.int p2), .val (.int p3), .val (.int p4), .val (.int p5), .val (.int vrb), .val (.int vrw), .val (.int vpl), .val (.int vrs), .val (.int vps), .val (.int vix), .unset, .unset, .unset, .unset, .unset, .unset, .unset, .unset] [(.int ((p2 &&& (2147483647 : Int32)) - ((p2 &&& (2147483647 : Int32)) / (24 : Int32)) * (24 : Int32)))])) _
    refine XS.istore X0.here hx rfl (hb hby at_50) (x := vq) (rest := []) (by subst h_vq; rfl) (l' := #[.val (.int p1), .val (.int p2), .val (.int p3), .val (.int p4), .val (.int p5), .val (.int vrb), .val (.int vrw), .val (.int vpl), .val (.int vrs), .val (.int vps), .val (.int vix), .val (.int vq), .unset, .unset, .unset, .unset, .unset, .unset, .unset]) rfl ?_
    show Steps p.tables e below (s₁.setTop (mkF m 52 #[.val (.int p1), .val (.int p2), .val (.int p3), .val (.int p4), .val (.int p5), .val (.int vrb), .val (.int vrw), .val (.int vpl), .val (.int vrs), .val (.int vps), .val (.int vix), .val (.int vq), .unset, .unset, .unset, .unset, .unset, .unset, .unset] [])) _
    refine XS.iloadN X0.here hx rfl (hb hby at_52) rfl ?_
    show Steps p.tables e below (s₁.setTop (mkF m 53 #[.val (.int p1), .val (.int p2), .val (.int p3), .val (.int p4), .val (.int p5), .val (.int vrb), .val (.int vrw), .val (.int vpl), .val (.int vrs), .val (.int vps), .val (.int vix), .val (.int vq), .unset, .unset, .unset, .unset, .unset, .unset, .unset] [(.int p3)])) _
    refine XS.i2b X0.here hx rfl (hb hby at_53) rfl ?_
    show Steps p.tables e below (s₁.setTop (mkF m 54 #[.val (.int p1), .val (.int p2), .val (.int p3), .val (.int p4), .val (.int p5), .val (.int vrb), .val (.int vrw), .val (.int vpl), .val (.int vrs), .val (.int vps), .val (.int vix), .val (.int vq), .unset, .unset, .unset, .unset, .unset, .unset, .unset] [(.int (p3.toInt8.toInt32))])) _
    refine XS.istore X0.here hx rfl (hb hby at_54) (x := vv) (rest := []) (by subst h_vv; rfl) (l' := #[.val (.int p1), .val (.int p2), .val (.int p3), .val (.int p4), .val (.int p5), .val (.int vrb), .val (.int vrw), .val (.int vpl), .val (.int vrs), .val (.int vps), .val (.int vix), .val (.int vq), .val (.int vv), .unset, .unset, .unset, .unset, .unset, .unset]) rfl ?_
    show Steps p.tables e below (s₁.setTop (mkF m 56 #[.val (.int p1), .val (.int p2), .val (.int p3), .val (.int p4), .val (.int p5), .val (.int vrb), .val (.int vrw), .val (.int vpl), .val (.int vrs), .val (.int vps), .val (.int vix), .val (.int vq), .val (.int vv), .unset, .unset, .unset, .unset, .unset, .unset] [])) _
    refine p62 _ _ _ _ _ _ _ _ _ _ _ _ _ _ _ _ _ _ _ X0 hx hZ hw hby hml hown e0 _ ?_
    show Steps p.tables e below (s₁.setTop (mkF m 72 #[.val (.int p1), .val (.int p2), .val (.int p3), .val (.int p4), .val (.int p5), .val (.int vrb), .val (.int vrw), .val (.int vpl), .val (.int vrs), .val (.int vps), .val (.int vix), .val (.int vq), .val (.int vv), .unset, .unset, .unset, .unset, .unset, .unset] [(.int (own_pb p4 vv))])) _
    refine XS.istore X0.here hx rfl (hb hby at_72) (x := vf) (rest := []) (by subst h_vf; rfl) (l' := #[.val (.int p1), .val (.int p2), .val (.int p3), .val (.int p4), .val (.int p5), .val (.int vrb), .val (.int vrw), .val (.int vpl), .val (.int vrs), .val (.int vps), .val (.int vix), .val (.int vq), .val (.int vv), .val (.int vf), .unset, .unset, .unset, .unset, .unset]) rfl ?_
    show Steps p.tables e below (s₁.setTop (mkF m 74 #[.val (.int p1), .val (.int p2), .val (.int p3), .val (.int p4), .val (.int p5), .val (.int vrb), .val (.int vrw), .val (.int vpl), .val (.int vrs), .val (.int vps), .val (.int vix), .val (.int vq), .val (.int vv), .val (.int vf), .unset, .unset, .unset, .unset, .unset] [])) _
    refine p81 _ _ _ _ _ _ _ _ _ _ _ _ _ _ _ _ _ _ _ X0 hx hZ hw hby hml hown e0 _ ?_
    show Steps p.tables e below (s₁.setTop (mkF m 92 #[.val (.int p1), .val (.int p2), .val (.int p3), .val (.int p4), .val (.int p5), .val (.int vrb), .val (.int vrw), .val (.int vpl), .val (.int vrs), .val (.int vps), .val (.int vix), .val (.int vq), .val (.int vv), .val (.int vf), .unset, .unset, .unset, .unset, .unset] [(.int (own_pb p5 vv))])) _
    refine XS.istore X0.here hx rfl (hb hby at_92) (x := vw) (rest := []) (by subst h_vw; rfl) (l' := #[.val (.int p1), .val (.int p2), .val (.int p3), .val (.int p4), .val (.int p5), .val (.int vrb), .val (.int vrw), .val (.int vpl), .val (.int vrs), .val (.int vps), .val (.int vix), .val (.int vq), .val (.int vv), .val (.int vf), .val (.int vw), .unset, .unset, .unset, .unset]) rfl ?_
    show Steps p.tables e below (s₁.setTop (mkF m 94 #[.val (.int p1), .val (.int p2), .val (.int p3), .val (.int p4), .val (.int p5), .val (.int vrb), .val (.int vrw), .val (.int vpl), .val (.int vrs), .val (.int vps), .val (.int vix), .val (.int vq), .val (.int vv), .val (.int vf), .val (.int vw), .unset, .unset, .unset, .unset] [])) _
    refine XS.bipush X0.here hx rfl (hb hby at_94) ?_
    show Steps p.tables e below (s₁.setTop (mkF m 96 #[.val (.int p1), .val (.int p2), .val (.int p3), .val (.int p4), .val (.int p5), .val (.int vrb), .val (.int vrw), .val (.int vpl), .val (.int vrs), .val (.int vps), .val (.int vix), .val (.int vq), .val (.int vv), .val (.int vf), .val (.int vw), .unset, .unset, .unset, .unset] [(.int (24 : Int32))])) _
    refine st6 _ ?_
    show Steps p.tables e below (T6.setTop (mkF m 98 #[.val (.int p1), .val (.int p2), .val (.int p3), .val (.int p4), .val (.int p5), .val (.int vrb), .val (.int vrw), .val (.int vpl), .val (.int vrs), .val (.int vps), .val (.int vix), .val (.int vq), .val (.int vv), .val (.int vf), .val (.int vw), .unset, .unset, .unset, .unset] [(.ref b6)])) _
    refine XS.dup X6.here hx rfl (hb hby at_98) rfl rfl ?_
    show Steps p.tables e below (T6.setTop (mkF m 99 #[.val (.int p1), .val (.int p2), .val (.int p3), .val (.int p4), .val (.int p5), .val (.int vrb), .val (.int vrw), .val (.int vpl), .val (.int vrs), .val (.int vps), .val (.int vix), .val (.int vq), .val (.int vv), .val (.int vf), .val (.int vw), .unset, .unset, .unset, .unset] [(.ref b6), (.ref b6)])) _
    refine XS.iconst X6.here hx rfl (hb hby at_99) ?_
    show Steps p.tables e below (T6.setTop (mkF m 100 #[.val (.int p1), .val (.int p2), .val (.int p3), .val (.int p4), .val (.int p5), .val (.int vrb), .val (.int vrw), .val (.int vpl), .val (.int vrs), .val (.int vps), .val (.int vix), .val (.int vq), .val (.int vv), .val (.int vf), .val (.int vw), .unset, .unset, .unset, .unset] [(.int (0 : Int32)), (.ref b6), (.ref b6)])) _
    refine XS.iload X6.here hx rfl (hb hby at_100) rfl ?_
    show Steps p.tables e below (T6.setTop (mkF m 102 #[.val (.int p1), .val (.int p2), .val (.int p3), .val (.int p4), .val (.int p5), .val (.int vrb), .val (.int vrw), .val (.int vpl), .val (.int vrs), .val (.int vps), .val (.int vix), .val (.int vq), .val (.int vv), .val (.int vf), .val (.int vw), .unset, .unset, .unset, .unset] [(.int vf), (.int (0 : Int32)), (.ref b6), (.ref b6)])) _
    refine st7 _ ?_
    show Steps p.tables e below (T7.setTop (mkF m 103 #[.val (.int p1), .val (.int p2), .val (.int p3), .val (.int p4), .val (.int p5), .val (.int vrb), .val (.int vrw), .val (.int vpl), .val (.int vrs), .val (.int vps), .val (.int vix), .val (.int vq), .val (.int vv), .val (.int vf), .val (.int vw), .unset, .unset, .unset, .unset] [(.ref b6)])) _
    refine XS.dup X7.here hx rfl (hb hby at_103) rfl rfl ?_
    show Steps p.tables e below (T7.setTop (mkF m 104 #[.val (.int p1), .val (.int p2), .val (.int p3), .val (.int p4), .val (.int p5), .val (.int vrb), .val (.int vrw), .val (.int vpl), .val (.int vrs), .val (.int vps), .val (.int vix), .val (.int vq), .val (.int vv), .val (.int vf), .val (.int vw), .unset, .unset, .unset, .unset] [(.ref b6), (.ref b6)])) _
    refine XS.iconst X7.here hx rfl (hb hby at_104) ?_
    show Steps p.tables e below (T7.setTop (mkF m 105 #[.val (.int p1), .val (.int p2), .val (.int p3), .val (.int p4), .val (.int p5), .val (.int vrb), .val (.int vrw), .val (.int vpl), .val (.int vrs), .val (.int vps), .val (.int vix), .val (.int vq), .val (.int vv), .val (.int vf), .val (.int vw), .unset, .unset, .unset, .unset] [(.int (1 : Int32)), (.ref b6), (.ref b6)])) _
    refine XS.iload X7.here hx rfl (hb hby at_105) rfl ?_
    show Steps p.tables e below (T7.setTop (mkF m 107 #[.val (.int p1), .val (.int p2), .val (.int p3), .val (.int p4), .val (.int p5), .val (.int vrb), .val (.int vrw), .val (.int vpl), .val (.int vrs), .val (.int vps), .val (.int vix), .val (.int vq), .val (.int vv), .val (.int vf), .val (.int vw), .unset, .unset, .unset, .unset] [(.int vf), (.int (1 : Int32)), (.ref b6), (.ref b6)])) _
    refine st8 _ ?_
    show Steps p.tables e below (T8.setTop (mkF m 108 #[.val (.int p1), .val (.int p2), .val (.int p3), .val (.int p4), .val (.int p5), .val (.int vrb), .val (.int vrw), .val (.int vpl), .val (.int vrs), .val (.int vps), .val (.int vix), .val (.int vq), .val (.int vv), .val (.int vf), .val (.int vw), .unset, .unset, .unset, .unset] [(.ref b6)])) _
    refine XS.dup X8.here hx rfl (hb hby at_108) rfl rfl ?_
    show Steps p.tables e below (T8.setTop (mkF m 109 #[.val (.int p1), .val (.int p2), .val (.int p3), .val (.int p4), .val (.int p5), .val (.int vrb), .val (.int vrw), .val (.int vpl), .val (.int vrs), .val (.int vps), .val (.int vix), .val (.int vq), .val (.int vv), .val (.int vf), .val (.int vw), .unset, .unset, .unset, .unset] [(.ref b6), (.ref b6)])) _
    refine XS.iconst X8.here hx rfl (hb hby at_109) ?_
    show Steps p.tables e below (T8.setTop (mkF m 110 #[.val (.int p1), .val (.int p2), .val (.int p3), .val (.int p4), .val (.int p5), .val (.int vrb), .val (.int vrw), .val (.int vpl), .val (.int vrs), .val (.int vps), .val (.int vix), .val (.int vq), .val (.int vv), .val (.int vf), .val (.int vw), .unset, .unset, .unset, .unset] [(.int (2 : Int32)), (.ref b6), (.ref b6)])) _
    refine XS.iload X8.here hx rfl (hb hby at_110) rfl ?_
    show Steps p.tables e below (T8.setTop (mkF m 112 #[.val (.int p1), .val (.int p2), .val (.int p3), .val (.int p4), .val (.int p5), .val (.int vrb), .val (.int vrw), .val (.int vpl), .val (.int vrs), .val (.int vps), .val (.int vix), .val (.int vq), .val (.int vv), .val (.int vf), .val (.int vw), .unset, .unset, .unset, .unset] [(.int vf), (.int (2 : Int32)), (.ref b6), (.ref b6)])) _
    refine st9 _ ?_
    show Steps p.tables e below (T9.setTop (mkF m 113 #[.val (.int p1), .val (.int p2), .val (.int p3), .val (.int p4), .val (.int p5), .val (.int vrb), .val (.int vrw), .val (.int vpl), .val (.int vrs), .val (.int vps), .val (.int vix), .val (.int vq), .val (.int vv), .val (.int vf), .val (.int vw), .unset, .unset, .unset, .unset] [(.ref b6)])) _
    refine XS.dup X9.here hx rfl (hb hby at_113) rfl rfl ?_
    show Steps p.tables e below (T9.setTop (mkF m 114 #[.val (.int p1), .val (.int p2), .val (.int p3), .val (.int p4), .val (.int p5), .val (.int vrb), .val (.int vrw), .val (.int vpl), .val (.int vrs), .val (.int vps), .val (.int vix), .val (.int vq), .val (.int vv), .val (.int vf), .val (.int vw), .unset, .unset, .unset, .unset] [(.ref b6), (.ref b6)])) _
    refine XS.iconst X9.here hx rfl (hb hby at_114) ?_
    show Steps p.tables e below (T9.setTop (mkF m 115 #[.val (.int p1), .val (.int p2), .val (.int p3), .val (.int p4), .val (.int p5), .val (.int vrb), .val (.int vrw), .val (.int vpl), .val (.int vrs), .val (.int vps), .val (.int vix), .val (.int vq), .val (.int vv), .val (.int vf), .val (.int vw), .unset, .unset, .unset, .unset] [(.int (3 : Int32)), (.ref b6), (.ref b6)])) _
    refine XS.iload X9.here hx rfl (hb hby at_115) rfl ?_
    show Steps p.tables e below (T9.setTop (mkF m 117 #[.val (.int p1), .val (.int p2), .val (.int p3), .val (.int p4), .val (.int p5), .val (.int vrb), .val (.int vrw), .val (.int vpl), .val (.int vrs), .val (.int vps), .val (.int vix), .val (.int vq), .val (.int vv), .val (.int vf), .val (.int vw), .unset, .unset, .unset, .unset] [(.int vf), (.int (3 : Int32)), (.ref b6), (.ref b6)])) _
    refine st10 _ ?_
    show Steps p.tables e below (T10.setTop (mkF m 118 #[.val (.int p1), .val (.int p2), .val (.int p3), .val (.int p4), .val (.int p5), .val (.int vrb), .val (.int vrw), .val (.int vpl), .val (.int vrs), .val (.int vps), .val (.int vix), .val (.int vq), .val (.int vv), .val (.int vf), .val (.int vw), .unset, .unset, .unset, .unset] [(.ref b6)])) _
    refine XS.dup X10.here hx rfl (hb hby at_118) rfl rfl ?_
    show Steps p.tables e below (T10.setTop (mkF m 119 #[.val (.int p1), .val (.int p2), .val (.int p3), .val (.int p4), .val (.int p5), .val (.int vrb), .val (.int vrw), .val (.int vpl), .val (.int vrs), .val (.int vps), .val (.int vix), .val (.int vq), .val (.int vv), .val (.int vf), .val (.int vw), .unset, .unset, .unset, .unset] [(.ref b6), (.ref b6)])) _
    refine XS.iconst X10.here hx rfl (hb hby at_119) ?_
    show Steps p.tables e below (T10.setTop (mkF m 120 #[.val (.int p1), .val (.int p2), .val (.int p3), .val (.int p4), .val (.int p5), .val (.int vrb), .val (.int vrw), .val (.int vpl), .val (.int vrs), .val (.int vps), .val (.int vix), .val (.int vq), .val (.int vv), .val (.int vf), .val (.int vw), .unset, .unset, .unset, .unset] [(.int (4 : Int32)), (.ref b6), (.ref b6)])) _
    refine XS.iload X10.here hx rfl (hb hby at_120) rfl ?_
    show Steps p.tables e below (T10.setTop (mkF m 122 #[.val (.int p1), .val (.int p2), .val (.int p3), .val (.int p4), .val (.int p5), .val (.int vrb), .val (.int vrw), .val (.int vpl), .val (.int vrs), .val (.int vps), .val (.int vix), .val (.int vq), .val (.int vv), .val (.int vf), .val (.int vw), .unset, .unset, .unset, .unset] [(.int vf), (.int (4 : Int32)), (.ref b6), (.ref b6)])) _
    refine st11 _ ?_
    show Steps p.tables e below (T11.setTop (mkF m 123 #[.val (.int p1), .val (.int p2), .val (.int p3), .val (.int p4), .val (.int p5), .val (.int vrb), .val (.int vrw), .val (.int vpl), .val (.int vrs), .val (.int vps), .val (.int vix), .val (.int vq), .val (.int vv), .val (.int vf), .val (.int vw), .unset, .unset, .unset, .unset] [(.ref b6)])) _
    refine XS.dup X11.here hx rfl (hb hby at_123) rfl rfl ?_
    show Steps p.tables e below (T11.setTop (mkF m 124 #[.val (.int p1), .val (.int p2), .val (.int p3), .val (.int p4), .val (.int p5), .val (.int vrb), .val (.int vrw), .val (.int vpl), .val (.int vrs), .val (.int vps), .val (.int vix), .val (.int vq), .val (.int vv), .val (.int vf), .val (.int vw), .unset, .unset, .unset, .unset] [(.ref b6), (.ref b6)])) _
    refine XS.iconst X11.here hx rfl (hb hby at_124) ?_
    show Steps p.tables e below (T11.setTop (mkF m 125 #[.val (.int p1), .val (.int p2), .val (.int p3), .val (.int p4), .val (.int p5), .val (.int vrb), .val (.int vrw), .val (.int vpl), .val (.int vrs), .val (.int vps), .val (.int vix), .val (.int vq), .val (.int vv), .val (.int vf), .val (.int vw), .unset, .unset, .unset, .unset] [(.int (5 : Int32)), (.ref b6), (.ref b6)])) _
    refine XS.iload X11.here hx rfl (hb hby at_125) rfl ?_
    show Steps p.tables e below (T11.setTop (mkF m 127 #[.val (.int p1), .val (.int p2), .val (.int p3), .val (.int p4), .val (.int p5), .val (.int vrb), .val (.int vrw), .val (.int vpl), .val (.int vrs), .val (.int vps), .val (.int vix), .val (.int vq), .val (.int vv), .val (.int vf), .val (.int vw), .unset, .unset, .unset, .unset] [(.int vf), (.int (5 : Int32)), (.ref b6), (.ref b6)])) _
    refine st12 _ ?_
    show Steps p.tables e below (T12.setTop (mkF m 128 #[.val (.int p1), .val (.int p2), .val (.int p3), .val (.int p4), .val (.int p5), .val (.int vrb), .val (.int vrw), .val (.int vpl), .val (.int vrs), .val (.int vps), .val (.int vix), .val (.int vq), .val (.int vv), .val (.int vf), .val (.int vw), .unset, .unset, .unset, .unset] [(.ref b6)])) _
    refine XS.dup X12.here hx rfl (hb hby at_128) rfl rfl ?_
    show Steps p.tables e below (T12.setTop (mkF m 129 #[.val (.int p1), .val (.int p2), .val (.int p3), .val (.int p4), .val (.int p5), .val (.int vrb), .val (.int vrw), .val (.int vpl), .val (.int vrs), .val (.int vps), .val (.int vix), .val (.int vq), .val (.int vv), .val (.int vf), .val (.int vw), .unset, .unset, .unset, .unset] [(.ref b6), (.ref b6)])) _
    refine XS.bipush X12.here hx rfl (hb hby at_129) ?_
    show Steps p.tables e below (T12.setTop (mkF m 131 #[.val (.int p1), .val (.int p2), .val (.int p3), .val (.int p4), .val (.int p5), .val (.int vrb), .val (.int vrw), .val (.int vpl), .val (.int vrs), .val (.int vps), .val (.int vix), .val (.int vq), .val (.int vv), .val (.int vf), .val (.int vw), .unset, .unset, .unset, .unset] [(.int (6 : Int32)), (.ref b6), (.ref b6)])) _
    refine XS.iload X12.here hx rfl (hb hby at_131) rfl ?_
    show Steps p.tables e below (T12.setTop (mkF m 133 #[.val (.int p1), .val (.int p2), .val (.int p3), .val (.int p4), .val (.int p5), .val (.int vrb), .val (.int vrw), .val (.int vpl), .val (.int vrs), .val (.int vps), .val (.int vix), .val (.int vq), .val (.int vv), .val (.int vf), .val (.int vw), .unset, .unset, .unset, .unset] [(.int vf), (.int (6 : Int32)), (.ref b6), (.ref b6)])) _
    refine st13 _ ?_
    show Steps p.tables e below (T13.setTop (mkF m 134 #[.val (.int p1), .val (.int p2), .val (.int p3), .val (.int p4), .val (.int p5), .val (.int vrb), .val (.int vrw), .val (.int vpl), .val (.int vrs), .val (.int vps), .val (.int vix), .val (.int vq), .val (.int vv), .val (.int vf), .val (.int vw), .unset, .unset, .unset, .unset] [(.ref b6)])) _
    refine XS.dup X13.here hx rfl (hb hby at_134) rfl rfl ?_
    show Steps p.tables e below (T13.setTop (mkF m 135 #[.val (.int p1), .val (.int p2), .val (.int p3), .val (.int p4), .val (.int p5), .val (.int vrb), .val (.int vrw), .val (.int vpl), .val (.int vrs), .val (.int vps), .val (.int vix), .val (.int vq), .val (.int vv), .val (.int vf), .val (.int vw), .unset, .unset, .unset, .unset] [(.ref b6), (.ref b6)])) _
    refine XS.bipush X13.here hx rfl (hb hby at_135) ?_
    show Steps p.tables e below (T13.setTop (mkF m 137 #[.val (.int p1), .val (.int p2), .val (.int p3), .val (.int p4), .val (.int p5), .val (.int vrb), .val (.int vrw), .val (.int vpl), .val (.int vrs), .val (.int vps), .val (.int vix), .val (.int vq), .val (.int vv), .val (.int vf), .val (.int vw), .unset, .unset, .unset, .unset] [(.int (7 : Int32)), (.ref b6), (.ref b6)])) _
    refine XS.iload X13.here hx rfl (hb hby at_137) rfl ?_
    show Steps p.tables e below (T13.setTop (mkF m 139 #[.val (.int p1), .val (.int p2), .val (.int p3), .val (.int p4), .val (.int p5), .val (.int vrb), .val (.int vrw), .val (.int vpl), .val (.int vrs), .val (.int vps), .val (.int vix), .val (.int vq), .val (.int vv), .val (.int vf), .val (.int vw), .unset, .unset, .unset, .unset] [(.int vf), (.int (7 : Int32)), (.ref b6), (.ref b6)])) _
    refine st14 _ ?_
    show Steps p.tables e below (T14.setTop (mkF m 140 #[.val (.int p1), .val (.int p2), .val (.int p3), .val (.int p4), .val (.int p5), .val (.int vrb), .val (.int vrw), .val (.int vpl), .val (.int vrs), .val (.int vps), .val (.int vix), .val (.int vq), .val (.int vv), .val (.int vf), .val (.int vw), .unset, .unset, .unset, .unset] [(.ref b6)])) _
    refine XS.dup X14.here hx rfl (hb hby at_140) rfl rfl ?_
    show Steps p.tables e below (T14.setTop (mkF m 141 #[.val (.int p1), .val (.int p2), .val (.int p3), .val (.int p4), .val (.int p5), .val (.int vrb), .val (.int vrw), .val (.int vpl), .val (.int vrs), .val (.int vps), .val (.int vix), .val (.int vq), .val (.int vv), .val (.int vf), .val (.int vw), .unset, .unset, .unset, .unset] [(.ref b6), (.ref b6)])) _
    refine XS.bipush X14.here hx rfl (hb hby at_141) ?_
    show Steps p.tables e below (T14.setTop (mkF m 143 #[.val (.int p1), .val (.int p2), .val (.int p3), .val (.int p4), .val (.int p5), .val (.int vrb), .val (.int vrw), .val (.int vpl), .val (.int vrs), .val (.int vps), .val (.int vix), .val (.int vq), .val (.int vv), .val (.int vf), .val (.int vw), .unset, .unset, .unset, .unset] [(.int (8 : Int32)), (.ref b6), (.ref b6)])) _
    refine XS.iload X14.here hx rfl (hb hby at_143) rfl ?_
    show Steps p.tables e below (T14.setTop (mkF m 145 #[.val (.int p1), .val (.int p2), .val (.int p3), .val (.int p4), .val (.int p5), .val (.int vrb), .val (.int vrw), .val (.int vpl), .val (.int vrs), .val (.int vps), .val (.int vix), .val (.int vq), .val (.int vv), .val (.int vf), .val (.int vw), .unset, .unset, .unset, .unset] [(.int vf), (.int (8 : Int32)), (.ref b6), (.ref b6)])) _
    refine st15 _ ?_
    show Steps p.tables e below (T15.setTop (mkF m 146 #[.val (.int p1), .val (.int p2), .val (.int p3), .val (.int p4), .val (.int p5), .val (.int vrb), .val (.int vrw), .val (.int vpl), .val (.int vrs), .val (.int vps), .val (.int vix), .val (.int vq), .val (.int vv), .val (.int vf), .val (.int vw), .unset, .unset, .unset, .unset] [(.ref b6)])) _
    refine XS.dup X15.here hx rfl (hb hby at_146) rfl rfl ?_
    show Steps p.tables e below (T15.setTop (mkF m 147 #[.val (.int p1), .val (.int p2), .val (.int p3), .val (.int p4), .val (.int p5), .val (.int vrb), .val (.int vrw), .val (.int vpl), .val (.int vrs), .val (.int vps), .val (.int vix), .val (.int vq), .val (.int vv), .val (.int vf), .val (.int vw), .unset, .unset, .unset, .unset] [(.ref b6), (.ref b6)])) _
    refine XS.bipush X15.here hx rfl (hb hby at_147) ?_
    show Steps p.tables e below (T15.setTop (mkF m 149 #[.val (.int p1), .val (.int p2), .val (.int p3), .val (.int p4), .val (.int p5), .val (.int vrb), .val (.int vrw), .val (.int vpl), .val (.int vrs), .val (.int vps), .val (.int vix), .val (.int vq), .val (.int vv), .val (.int vf), .val (.int vw), .unset, .unset, .unset, .unset] [(.int (9 : Int32)), (.ref b6), (.ref b6)])) _
    refine XS.iload X15.here hx rfl (hb hby at_149) rfl ?_
    show Steps p.tables e below (T15.setTop (mkF m 151 #[.val (.int p1), .val (.int p2), .val (.int p3), .val (.int p4), .val (.int p5), .val (.int vrb), .val (.int vrw), .val (.int vpl), .val (.int vrs), .val (.int vps), .val (.int vix), .val (.int vq), .val (.int vv), .val (.int vf), .val (.int vw), .unset, .unset, .unset, .unset] [(.int vf), (.int (9 : Int32)), (.ref b6), (.ref b6)])) _
    refine st16 _ ?_
    show Steps p.tables e below (T16.setTop (mkF m 152 #[.val (.int p1), .val (.int p2), .val (.int p3), .val (.int p4), .val (.int p5), .val (.int vrb), .val (.int vrw), .val (.int vpl), .val (.int vrs), .val (.int vps), .val (.int vix), .val (.int vq), .val (.int vv), .val (.int vf), .val (.int vw), .unset, .unset, .unset, .unset] [(.ref b6)])) _
    refine XS.dup X16.here hx rfl (hb hby at_152) rfl rfl ?_
    show Steps p.tables e below (T16.setTop (mkF m 153 #[.val (.int p1), .val (.int p2), .val (.int p3), .val (.int p4), .val (.int p5), .val (.int vrb), .val (.int vrw), .val (.int vpl), .val (.int vrs), .val (.int vps), .val (.int vix), .val (.int vq), .val (.int vv), .val (.int vf), .val (.int vw), .unset, .unset, .unset, .unset] [(.ref b6), (.ref b6)])) _
    refine XS.bipush X16.here hx rfl (hb hby at_153) ?_
    show Steps p.tables e below (T16.setTop (mkF m 155 #[.val (.int p1), .val (.int p2), .val (.int p3), .val (.int p4), .val (.int p5), .val (.int vrb), .val (.int vrw), .val (.int vpl), .val (.int vrs), .val (.int vps), .val (.int vix), .val (.int vq), .val (.int vv), .val (.int vf), .val (.int vw), .unset, .unset, .unset, .unset] [(.int (10 : Int32)), (.ref b6), (.ref b6)])) _
    refine XS.iload X16.here hx rfl (hb hby at_155) rfl ?_
    show Steps p.tables e below (T16.setTop (mkF m 157 #[.val (.int p1), .val (.int p2), .val (.int p3), .val (.int p4), .val (.int p5), .val (.int vrb), .val (.int vrw), .val (.int vpl), .val (.int vrs), .val (.int vps), .val (.int vix), .val (.int vq), .val (.int vv), .val (.int vf), .val (.int vw), .unset, .unset, .unset, .unset] [(.int vf), (.int (10 : Int32)), (.ref b6), (.ref b6)])) _
    refine st17 _ ?_
    show Steps p.tables e below (T17.setTop (mkF m 158 #[.val (.int p1), .val (.int p2), .val (.int p3), .val (.int p4), .val (.int p5), .val (.int vrb), .val (.int vrw), .val (.int vpl), .val (.int vrs), .val (.int vps), .val (.int vix), .val (.int vq), .val (.int vv), .val (.int vf), .val (.int vw), .unset, .unset, .unset, .unset] [(.ref b6)])) _
    refine XS.dup X17.here hx rfl (hb hby at_158) rfl rfl ?_
    show Steps p.tables e below (T17.setTop (mkF m 159 #[.val (.int p1), .val (.int p2), .val (.int p3), .val (.int p4), .val (.int p5), .val (.int vrb), .val (.int vrw), .val (.int vpl), .val (.int vrs), .val (.int vps), .val (.int vix), .val (.int vq), .val (.int vv), .val (.int vf), .val (.int vw), .unset, .unset, .unset, .unset] [(.ref b6), (.ref b6)])) _
    refine XS.bipush X17.here hx rfl (hb hby at_159) ?_
    show Steps p.tables e below (T17.setTop (mkF m 161 #[.val (.int p1), .val (.int p2), .val (.int p3), .val (.int p4), .val (.int p5), .val (.int vrb), .val (.int vrw), .val (.int vpl), .val (.int vrs), .val (.int vps), .val (.int vix), .val (.int vq), .val (.int vv), .val (.int vf), .val (.int vw), .unset, .unset, .unset, .unset] [(.int (11 : Int32)), (.ref b6), (.ref b6)])) _
    refine XS.iload X17.here hx rfl (hb hby at_161) rfl ?_
    show Steps p.tables e below (T17.setTop (mkF m 163 #[.val (.int p1), .val (.int p2), .val (.int p3), .val (.int p4), .val (.int p5), .val (.int vrb), .val (.int vrw), .val (.int vpl), .val (.int vrs), .val (.int vps), .val (.int vix), .val (.int vq), .val (.int vv), .val (.int vf), .val (.int vw), .unset, .unset, .unset, .unset] [(.int vf), (.int (11 : Int32)), (.ref b6), (.ref b6)])) _
    refine st18 _ ?_
    show Steps p.tables e below (T18.setTop (mkF m 164 #[.val (.int p1), .val (.int p2), .val (.int p3), .val (.int p4), .val (.int p5), .val (.int vrb), .val (.int vrw), .val (.int vpl), .val (.int vrs), .val (.int vps), .val (.int vix), .val (.int vq), .val (.int vv), .val (.int vf), .val (.int vw), .unset, .unset, .unset, .unset] [(.ref b6)])) _
    refine XS.dup X18.here hx rfl (hb hby at_164) rfl rfl ?_
    show Steps p.tables e below (T18.setTop (mkF m 165 #[.val (.int p1), .val (.int p2), .val (.int p3), .val (.int p4), .val (.int p5), .val (.int vrb), .val (.int vrw), .val (.int vpl), .val (.int vrs), .val (.int vps), .val (.int vix), .val (.int vq), .val (.int vv), .val (.int vf), .val (.int vw), .unset, .unset, .unset, .unset] [(.ref b6), (.ref b6)])) _
    refine XS.bipush X18.here hx rfl (hb hby at_165) ?_
    show Steps p.tables e below (T18.setTop (mkF m 167 #[.val (.int p1), .val (.int p2), .val (.int p3), .val (.int p4), .val (.int p5), .val (.int vrb), .val (.int vrw), .val (.int vpl), .val (.int vrs), .val (.int vps), .val (.int vix), .val (.int vq), .val (.int vv), .val (.int vf), .val (.int vw), .unset, .unset, .unset, .unset] [(.int (12 : Int32)), (.ref b6), (.ref b6)])) _
    refine XS.iload X18.here hx rfl (hb hby at_167) rfl ?_
    show Steps p.tables e below (T18.setTop (mkF m 169 #[.val (.int p1), .val (.int p2), .val (.int p3), .val (.int p4), .val (.int p5), .val (.int vrb), .val (.int vrw), .val (.int vpl), .val (.int vrs), .val (.int vps), .val (.int vix), .val (.int vq), .val (.int vv), .val (.int vf), .val (.int vw), .unset, .unset, .unset, .unset] [(.int vf), (.int (12 : Int32)), (.ref b6), (.ref b6)])) _
    refine st19 _ ?_
    show Steps p.tables e below (T19.setTop (mkF m 170 #[.val (.int p1), .val (.int p2), .val (.int p3), .val (.int p4), .val (.int p5), .val (.int vrb), .val (.int vrw), .val (.int vpl), .val (.int vrs), .val (.int vps), .val (.int vix), .val (.int vq), .val (.int vv), .val (.int vf), .val (.int vw), .unset, .unset, .unset, .unset] [(.ref b6)])) _
    refine XS.dup X19.here hx rfl (hb hby at_170) rfl rfl ?_
    show Steps p.tables e below (T19.setTop (mkF m 171 #[.val (.int p1), .val (.int p2), .val (.int p3), .val (.int p4), .val (.int p5), .val (.int vrb), .val (.int vrw), .val (.int vpl), .val (.int vrs), .val (.int vps), .val (.int vix), .val (.int vq), .val (.int vv), .val (.int vf), .val (.int vw), .unset, .unset, .unset, .unset] [(.ref b6), (.ref b6)])) _
    refine XS.bipush X19.here hx rfl (hb hby at_171) ?_
    show Steps p.tables e below (T19.setTop (mkF m 173 #[.val (.int p1), .val (.int p2), .val (.int p3), .val (.int p4), .val (.int p5), .val (.int vrb), .val (.int vrw), .val (.int vpl), .val (.int vrs), .val (.int vps), .val (.int vix), .val (.int vq), .val (.int vv), .val (.int vf), .val (.int vw), .unset, .unset, .unset, .unset] [(.int (13 : Int32)), (.ref b6), (.ref b6)])) _
    refine XS.iload X19.here hx rfl (hb hby at_173) rfl ?_
    show Steps p.tables e below (T19.setTop (mkF m 175 #[.val (.int p1), .val (.int p2), .val (.int p3), .val (.int p4), .val (.int p5), .val (.int vrb), .val (.int vrw), .val (.int vpl), .val (.int vrs), .val (.int vps), .val (.int vix), .val (.int vq), .val (.int vv), .val (.int vf), .val (.int vw), .unset, .unset, .unset, .unset] [(.int vf), (.int (13 : Int32)), (.ref b6), (.ref b6)])) _
    refine st20 _ ?_
    show Steps p.tables e below (T20.setTop (mkF m 176 #[.val (.int p1), .val (.int p2), .val (.int p3), .val (.int p4), .val (.int p5), .val (.int vrb), .val (.int vrw), .val (.int vpl), .val (.int vrs), .val (.int vps), .val (.int vix), .val (.int vq), .val (.int vv), .val (.int vf), .val (.int vw), .unset, .unset, .unset, .unset] [(.ref b6)])) _
    refine XS.dup X20.here hx rfl (hb hby at_176) rfl rfl ?_
    show Steps p.tables e below (T20.setTop (mkF m 177 #[.val (.int p1), .val (.int p2), .val (.int p3), .val (.int p4), .val (.int p5), .val (.int vrb), .val (.int vrw), .val (.int vpl), .val (.int vrs), .val (.int vps), .val (.int vix), .val (.int vq), .val (.int vv), .val (.int vf), .val (.int vw), .unset, .unset, .unset, .unset] [(.ref b6), (.ref b6)])) _
    refine XS.bipush X20.here hx rfl (hb hby at_177) ?_
    show Steps p.tables e below (T20.setTop (mkF m 179 #[.val (.int p1), .val (.int p2), .val (.int p3), .val (.int p4), .val (.int p5), .val (.int vrb), .val (.int vrw), .val (.int vpl), .val (.int vrs), .val (.int vps), .val (.int vix), .val (.int vq), .val (.int vv), .val (.int vf), .val (.int vw), .unset, .unset, .unset, .unset] [(.int (14 : Int32)), (.ref b6), (.ref b6)])) _
    refine XS.iload X20.here hx rfl (hb hby at_179) rfl ?_
    show Steps p.tables e below (T20.setTop (mkF m 181 #[.val (.int p1), .val (.int p2), .val (.int p3), .val (.int p4), .val (.int p5), .val (.int vrb), .val (.int vrw), .val (.int vpl), .val (.int vrs), .val (.int vps), .val (.int vix), .val (.int vq), .val (.int vv), .val (.int vf), .val (.int vw), .unset, .unset, .unset, .unset] [(.int vf), (.int (14 : Int32)), (.ref b6), (.ref b6)])) _
    refine st21 _ ?_
    show Steps p.tables e below (T21.setTop (mkF m 182 #[.val (.int p1), .val (.int p2), .val (.int p3), .val (.int p4), .val (.int p5), .val (.int vrb), .val (.int vrw), .val (.int vpl), .val (.int vrs), .val (.int vps), .val (.int vix), .val (.int vq), .val (.int vv), .val (.int vf), .val (.int vw), .unset, .unset, .unset, .unset] [(.ref b6)])) _
    refine XS.dup X21.here hx rfl (hb hby at_182) rfl rfl ?_
    show Steps p.tables e below (T21.setTop (mkF m 183 #[.val (.int p1), .val (.int p2), .val (.int p3), .val (.int p4), .val (.int p5), .val (.int vrb), .val (.int vrw), .val (.int vpl), .val (.int vrs), .val (.int vps), .val (.int vix), .val (.int vq), .val (.int vv), .val (.int vf), .val (.int vw), .unset, .unset, .unset, .unset] [(.ref b6), (.ref b6)])) _
    refine XS.bipush X21.here hx rfl (hb hby at_183) ?_
    show Steps p.tables e below (T21.setTop (mkF m 185 #[.val (.int p1), .val (.int p2), .val (.int p3), .val (.int p4), .val (.int p5), .val (.int vrb), .val (.int vrw), .val (.int vpl), .val (.int vrs), .val (.int vps), .val (.int vix), .val (.int vq), .val (.int vv), .val (.int vf), .val (.int vw), .unset, .unset, .unset, .unset] [(.int (15 : Int32)), (.ref b6), (.ref b6)])) _
    refine XS.iload X21.here hx rfl (hb hby at_185) rfl ?_
    show Steps p.tables e below (T21.setTop (mkF m 187 #[.val (.int p1), .val (.int p2), .val (.int p3), .val (.int p4), .val (.int p5), .val (.int vrb), .val (.int vrw), .val (.int vpl), .val (.int vrs), .val (.int vps), .val (.int vix), .val (.int vq), .val (.int vv), .val (.int vf), .val (.int vw), .unset, .unset, .unset, .unset] [(.int vf), (.int (15 : Int32)), (.ref b6), (.ref b6)])) _
    refine st22 _ ?_
    show Steps p.tables e below (T22.setTop (mkF m 188 #[.val (.int p1), .val (.int p2), .val (.int p3), .val (.int p4), .val (.int p5), .val (.int vrb), .val (.int vrw), .val (.int vpl), .val (.int vrs), .val (.int vps), .val (.int vix), .val (.int vq), .val (.int vv), .val (.int vf), .val (.int vw), .unset, .unset, .unset, .unset] [(.ref b6)])) _
    refine XS.dup X22.here hx rfl (hb hby at_188) rfl rfl ?_
    show Steps p.tables e below (T22.setTop (mkF m 189 #[.val (.int p1), .val (.int p2), .val (.int p3), .val (.int p4), .val (.int p5), .val (.int vrb), .val (.int vrw), .val (.int vpl), .val (.int vrs), .val (.int vps), .val (.int vix), .val (.int vq), .val (.int vv), .val (.int vf), .val (.int vw), .unset, .unset, .unset, .unset] [(.ref b6), (.ref b6)])) _
    refine XS.bipush X22.here hx rfl (hb hby at_189) ?_
    show Steps p.tables e below (T22.setTop (mkF m 191 #[.val (.int p1), .val (.int p2), .val (.int p3), .val (.int p4), .val (.int p5), .val (.int vrb), .val (.int vrw), .val (.int vpl), .val (.int vrs), .val (.int vps), .val (.int vix), .val (.int vq), .val (.int vv), .val (.int vf), .val (.int vw), .unset, .unset, .unset, .unset] [(.int (16 : Int32)), (.ref b6), (.ref b6)])) _
    refine XS.iload X22.here hx rfl (hb hby at_191) rfl ?_
    show Steps p.tables e below (T22.setTop (mkF m 193 #[.val (.int p1), .val (.int p2), .val (.int p3), .val (.int p4), .val (.int p5), .val (.int vrb), .val (.int vrw), .val (.int vpl), .val (.int vrs), .val (.int vps), .val (.int vix), .val (.int vq), .val (.int vv), .val (.int vf), .val (.int vw), .unset, .unset, .unset, .unset] [(.int vf), (.int (16 : Int32)), (.ref b6), (.ref b6)])) _
    refine st23 _ ?_
    show Steps p.tables e below (T23.setTop (mkF m 194 #[.val (.int p1), .val (.int p2), .val (.int p3), .val (.int p4), .val (.int p5), .val (.int vrb), .val (.int vrw), .val (.int vpl), .val (.int vrs), .val (.int vps), .val (.int vix), .val (.int vq), .val (.int vv), .val (.int vf), .val (.int vw), .unset, .unset, .unset, .unset] [(.ref b6)])) _
    refine XS.dup X23.here hx rfl (hb hby at_194) rfl rfl ?_
    show Steps p.tables e below (T23.setTop (mkF m 195 #[.val (.int p1), .val (.int p2), .val (.int p3), .val (.int p4), .val (.int p5), .val (.int vrb), .val (.int vrw), .val (.int vpl), .val (.int vrs), .val (.int vps), .val (.int vix), .val (.int vq), .val (.int vv), .val (.int vf), .val (.int vw), .unset, .unset, .unset, .unset] [(.ref b6), (.ref b6)])) _
    refine XS.bipush X23.here hx rfl (hb hby at_195) ?_
    show Steps p.tables e below (T23.setTop (mkF m 197 #[.val (.int p1), .val (.int p2), .val (.int p3), .val (.int p4), .val (.int p5), .val (.int vrb), .val (.int vrw), .val (.int vpl), .val (.int vrs), .val (.int vps), .val (.int vix), .val (.int vq), .val (.int vv), .val (.int vf), .val (.int vw), .unset, .unset, .unset, .unset] [(.int (17 : Int32)), (.ref b6), (.ref b6)])) _
    refine XS.iload X23.here hx rfl (hb hby at_197) rfl ?_
    show Steps p.tables e below (T23.setTop (mkF m 199 #[.val (.int p1), .val (.int p2), .val (.int p3), .val (.int p4), .val (.int p5), .val (.int vrb), .val (.int vrw), .val (.int vpl), .val (.int vrs), .val (.int vps), .val (.int vix), .val (.int vq), .val (.int vv), .val (.int vf), .val (.int vw), .unset, .unset, .unset, .unset] [(.int vf), (.int (17 : Int32)), (.ref b6), (.ref b6)])) _
    refine st24 _ ?_
    show Steps p.tables e below (T24.setTop (mkF m 200 #[.val (.int p1), .val (.int p2), .val (.int p3), .val (.int p4), .val (.int p5), .val (.int vrb), .val (.int vrw), .val (.int vpl), .val (.int vrs), .val (.int vps), .val (.int vix), .val (.int vq), .val (.int vv), .val (.int vf), .val (.int vw), .unset, .unset, .unset, .unset] [(.ref b6)])) _
    refine XS.dup X24.here hx rfl (hb hby at_200) rfl rfl ?_
    show Steps p.tables e below (T24.setTop (mkF m 201 #[.val (.int p1), .val (.int p2), .val (.int p3), .val (.int p4), .val (.int p5), .val (.int vrb), .val (.int vrw), .val (.int vpl), .val (.int vrs), .val (.int vps), .val (.int vix), .val (.int vq), .val (.int vv), .val (.int vf), .val (.int vw), .unset, .unset, .unset, .unset] [(.ref b6), (.ref b6)])) _
    refine XS.bipush X24.here hx rfl (hb hby at_201) ?_
    show Steps p.tables e below (T24.setTop (mkF m 203 #[.val (.int p1), .val (.int p2), .val (.int p3), .val (.int p4), .val (.int p5), .val (.int vrb), .val (.int vrw), .val (.int vpl), .val (.int vrs), .val (.int vps), .val (.int vix), .val (.int vq), .val (.int vv), .val (.int vf), .val (.int vw), .unset, .unset, .unset, .unset] [(.int (18 : Int32)), (.ref b6), (.ref b6)])) _
    refine XS.iload X24.here hx rfl (hb hby at_203) rfl ?_
    show Steps p.tables e below (T24.setTop (mkF m 205 #[.val (.int p1), .val (.int p2), .val (.int p3), .val (.int p4), .val (.int p5), .val (.int vrb), .val (.int vrw), .val (.int vpl), .val (.int vrs), .val (.int vps), .val (.int vix), .val (.int vq), .val (.int vv), .val (.int vf), .val (.int vw), .unset, .unset, .unset, .unset] [(.int vf), (.int (18 : Int32)), (.ref b6), (.ref b6)])) _
    refine st25 _ ?_
    show Steps p.tables e below (T25.setTop (mkF m 206 #[.val (.int p1), .val (.int p2), .val (.int p3), .val (.int p4), .val (.int p5), .val (.int vrb), .val (.int vrw), .val (.int vpl), .val (.int vrs), .val (.int vps), .val (.int vix), .val (.int vq), .val (.int vv), .val (.int vf), .val (.int vw), .unset, .unset, .unset, .unset] [(.ref b6)])) _
    refine XS.dup X25.here hx rfl (hb hby at_206) rfl rfl ?_
    show Steps p.tables e below (T25.setTop (mkF m 207 #[.val (.int p1), .val (.int p2), .val (.int p3), .val (.int p4), .val (.int p5), .val (.int vrb), .val (.int vrw), .val (.int vpl), .val (.int vrs), .val (.int vps), .val (.int vix), .val (.int vq), .val (.int vv), .val (.int vf), .val (.int vw), .unset, .unset, .unset, .unset] [(.ref b6), (.ref b6)])) _
    refine XS.bipush X25.here hx rfl (hb hby at_207) ?_
    show Steps p.tables e below (T25.setTop (mkF m 209 #[.val (.int p1), .val (.int p2), .val (.int p3), .val (.int p4), .val (.int p5), .val (.int vrb), .val (.int vrw), .val (.int vpl), .val (.int vrs), .val (.int vps), .val (.int vix), .val (.int vq), .val (.int vv), .val (.int vf), .val (.int vw), .unset, .unset, .unset, .unset] [(.int (19 : Int32)), (.ref b6), (.ref b6)])) _
    refine XS.iload X25.here hx rfl (hb hby at_209) rfl ?_
    show Steps p.tables e below (T25.setTop (mkF m 211 #[.val (.int p1), .val (.int p2), .val (.int p3), .val (.int p4), .val (.int p5), .val (.int vrb), .val (.int vrw), .val (.int vpl), .val (.int vrs), .val (.int vps), .val (.int vix), .val (.int vq), .val (.int vv), .val (.int vf), .val (.int vw), .unset, .unset, .unset, .unset] [(.int vf), (.int (19 : Int32)), (.ref b6), (.ref b6)])) _
    refine st26 _ ?_
    show Steps p.tables e below (T26.setTop (mkF m 212 #[.val (.int p1), .val (.int p2), .val (.int p3), .val (.int p4), .val (.int p5), .val (.int vrb), .val (.int vrw), .val (.int vpl), .val (.int vrs), .val (.int vps), .val (.int vix), .val (.int vq), .val (.int vv), .val (.int vf), .val (.int vw), .unset, .unset, .unset, .unset] [(.ref b6)])) _
    refine XS.dup X26.here hx rfl (hb hby at_212) rfl rfl ?_
    show Steps p.tables e below (T26.setTop (mkF m 213 #[.val (.int p1), .val (.int p2), .val (.int p3), .val (.int p4), .val (.int p5), .val (.int vrb), .val (.int vrw), .val (.int vpl), .val (.int vrs), .val (.int vps), .val (.int vix), .val (.int vq), .val (.int vv), .val (.int vf), .val (.int vw), .unset, .unset, .unset, .unset] [(.ref b6), (.ref b6)])) _
    refine XS.bipush X26.here hx rfl (hb hby at_213) ?_
    show Steps p.tables e below (T26.setTop (mkF m 215 #[.val (.int p1), .val (.int p2), .val (.int p3), .val (.int p4), .val (.int p5), .val (.int vrb), .val (.int vrw), .val (.int vpl), .val (.int vrs), .val (.int vps), .val (.int vix), .val (.int vq), .val (.int vv), .val (.int vf), .val (.int vw), .unset, .unset, .unset, .unset] [(.int (20 : Int32)), (.ref b6), (.ref b6)])) _
    refine XS.iload X26.here hx rfl (hb hby at_215) rfl ?_
    show Steps p.tables e below (T26.setTop (mkF m 217 #[.val (.int p1), .val (.int p2), .val (.int p3), .val (.int p4), .val (.int p5), .val (.int vrb), .val (.int vrw), .val (.int vpl), .val (.int vrs), .val (.int vps), .val (.int vix), .val (.int vq), .val (.int vv), .val (.int vf), .val (.int vw), .unset, .unset, .unset, .unset] [(.int vf), (.int (20 : Int32)), (.ref b6), (.ref b6)])) _
    refine st27 _ ?_
    show Steps p.tables e below (T27.setTop (mkF m 218 #[.val (.int p1), .val (.int p2), .val (.int p3), .val (.int p4), .val (.int p5), .val (.int vrb), .val (.int vrw), .val (.int vpl), .val (.int vrs), .val (.int vps), .val (.int vix), .val (.int vq), .val (.int vv), .val (.int vf), .val (.int vw), .unset, .unset, .unset, .unset] [(.ref b6)])) _
    refine XS.dup X27.here hx rfl (hb hby at_218) rfl rfl ?_
    show Steps p.tables e below (T27.setTop (mkF m 219 #[.val (.int p1), .val (.int p2), .val (.int p3), .val (.int p4), .val (.int p5), .val (.int vrb), .val (.int vrw), .val (.int vpl), .val (.int vrs), .val (.int vps), .val (.int vix), .val (.int vq), .val (.int vv), .val (.int vf), .val (.int vw), .unset, .unset, .unset, .unset] [(.ref b6), (.ref b6)])) _
    refine XS.bipush X27.here hx rfl (hb hby at_219) ?_
    show Steps p.tables e below (T27.setTop (mkF m 221 #[.val (.int p1), .val (.int p2), .val (.int p3), .val (.int p4), .val (.int p5), .val (.int vrb), .val (.int vrw), .val (.int vpl), .val (.int vrs), .val (.int vps), .val (.int vix), .val (.int vq), .val (.int vv), .val (.int vf), .val (.int vw), .unset, .unset, .unset, .unset] [(.int (21 : Int32)), (.ref b6), (.ref b6)])) _
    refine XS.iload X27.here hx rfl (hb hby at_221) rfl ?_
    show Steps p.tables e below (T27.setTop (mkF m 223 #[.val (.int p1), .val (.int p2), .val (.int p3), .val (.int p4), .val (.int p5), .val (.int vrb), .val (.int vrw), .val (.int vpl), .val (.int vrs), .val (.int vps), .val (.int vix), .val (.int vq), .val (.int vv), .val (.int vf), .val (.int vw), .unset, .unset, .unset, .unset] [(.int vf), (.int (21 : Int32)), (.ref b6), (.ref b6)])) _
    refine st28 _ ?_
    show Steps p.tables e below (T28.setTop (mkF m 224 #[.val (.int p1), .val (.int p2), .val (.int p3), .val (.int p4), .val (.int p5), .val (.int vrb), .val (.int vrw), .val (.int vpl), .val (.int vrs), .val (.int vps), .val (.int vix), .val (.int vq), .val (.int vv), .val (.int vf), .val (.int vw), .unset, .unset, .unset, .unset] [(.ref b6)])) _
    refine XS.dup X28.here hx rfl (hb hby at_224) rfl rfl ?_
    show Steps p.tables e below (T28.setTop (mkF m 225 #[.val (.int p1), .val (.int p2), .val (.int p3), .val (.int p4), .val (.int p5), .val (.int vrb), .val (.int vrw), .val (.int vpl), .val (.int vrs), .val (.int vps), .val (.int vix), .val (.int vq), .val (.int vv), .val (.int vf), .val (.int vw), .unset, .unset, .unset, .unset] [(.ref b6), (.ref b6)])) _
    refine XS.bipush X28.here hx rfl (hb hby at_225) ?_
    show Steps p.tables e below (T28.setTop (mkF m 227 #[.val (.int p1), .val (.int p2), .val (.int p3), .val (.int p4), .val (.int p5), .val (.int vrb), .val (.int vrw), .val (.int vpl), .val (.int vrs), .val (.int vps), .val (.int vix), .val (.int vq), .val (.int vv), .val (.int vf), .val (.int vw), .unset, .unset, .unset, .unset] [(.int (22 : Int32)), (.ref b6), (.ref b6)])) _
    refine XS.iload X28.here hx rfl (hb hby at_227) rfl ?_
    show Steps p.tables e below (T28.setTop (mkF m 229 #[.val (.int p1), .val (.int p2), .val (.int p3), .val (.int p4), .val (.int p5), .val (.int vrb), .val (.int vrw), .val (.int vpl), .val (.int vrs), .val (.int vps), .val (.int vix), .val (.int vq), .val (.int vv), .val (.int vf), .val (.int vw), .unset, .unset, .unset, .unset] [(.int vf), (.int (22 : Int32)), (.ref b6), (.ref b6)])) _
    refine st29 _ ?_
    show Steps p.tables e below (T29.setTop (mkF m 230 #[.val (.int p1), .val (.int p2), .val (.int p3), .val (.int p4), .val (.int p5), .val (.int vrb), .val (.int vrw), .val (.int vpl), .val (.int vrs), .val (.int vps), .val (.int vix), .val (.int vq), .val (.int vv), .val (.int vf), .val (.int vw), .unset, .unset, .unset, .unset] [(.ref b6)])) _
    refine XS.dup X29.here hx rfl (hb hby at_230) rfl rfl ?_
    show Steps p.tables e below (T29.setTop (mkF m 231 #[.val (.int p1), .val (.int p2), .val (.int p3), .val (.int p4), .val (.int p5), .val (.int vrb), .val (.int vrw), .val (.int vpl), .val (.int vrs), .val (.int vps), .val (.int vix), .val (.int vq), .val (.int vv), .val (.int vf), .val (.int vw), .unset, .unset, .unset, .unset] [(.ref b6), (.ref b6)])) _
    refine XS.bipush X29.here hx rfl (hb hby at_231) ?_
    show Steps p.tables e below (T29.setTop (mkF m 233 #[.val (.int p1), .val (.int p2), .val (.int p3), .val (.int p4), .val (.int p5), .val (.int vrb), .val (.int vrw), .val (.int vpl), .val (.int vrs), .val (.int vps), .val (.int vix), .val (.int vq), .val (.int vv), .val (.int vf), .val (.int vw), .unset, .unset, .unset, .unset] [(.int (23 : Int32)), (.ref b6), (.ref b6)])) _
    refine XS.iload X29.here hx rfl (hb hby at_233) rfl ?_
    show Steps p.tables e below (T29.setTop (mkF m 235 #[.val (.int p1), .val (.int p2), .val (.int p3), .val (.int p4), .val (.int p5), .val (.int vrb), .val (.int vrw), .val (.int vpl), .val (.int vrs), .val (.int vps), .val (.int vix), .val (.int vq), .val (.int vv), .val (.int vf), .val (.int vw), .unset, .unset, .unset, .unset] [(.int vf), (.int (23 : Int32)), (.ref b6), (.ref b6)])) _
    refine st30 _ ?_
    show Steps p.tables e below (T30.setTop (mkF m 236 #[.val (.int p1), .val (.int p2), .val (.int p3), .val (.int p4), .val (.int p5), .val (.int vrb), .val (.int vrw), .val (.int vpl), .val (.int vrs), .val (.int vps), .val (.int vix), .val (.int vq), .val (.int vv), .val (.int vf), .val (.int vw), .unset, .unset, .unset, .unset] [(.ref b6)])) _
    refine XS.astore X30.here hx rfl (hb hby at_236) rfl rfl (l' := #[.val (.int p1), .val (.int p2), .val (.int p3), .val (.int p4), .val (.int p5), .val (.int vrb), .val (.int vrw), .val (.int vpl), .val (.int vrs), .val (.int vps), .val (.int vix), .val (.int vq), .val (.int vv), .val (.int vf), .val (.int vw), .val (.ref b6), .unset, .unset, .unset]) rfl ?_
    show Steps p.tables e below (T30.setTop (mkF m 238 #[.val (.int p1), .val (.int p2), .val (.int p3), .val (.int p4), .val (.int p5), .val (.int vrb), .val (.int vrw), .val (.int vpl), .val (.int vrs), .val (.int vps), .val (.int vix), .val (.int vq), .val (.int vv), .val (.int vf), .val (.int vw), .val (.ref b6), .unset, .unset, .unset] [])) _
    refine XS.aload X30.here hx rfl (hb hby at_238) rfl rfl ?_
    show Steps p.tables e below (T30.setTop (mkF m 240 #[.val (.int p1), .val (.int p2), .val (.int p3), .val (.int p4), .val (.int p5), .val (.int vrb), .val (.int vrw), .val (.int vpl), .val (.int vrs), .val (.int vps), .val (.int vix), .val (.int vq), .val (.int vv), .val (.int vf), .val (.int vw), .val (.ref b6), .unset, .unset, .unset] [(.ref b6)])) _
    refine XS.iload X30.here hx rfl (hb hby at_240) rfl ?_
    show Steps p.tables e below (T30.setTop (mkF m 242 #[.val (.int p1), .val (.int p2), .val (.int p3), .val (.int p4), .val (.int p5), .val (.int vrb), .val (.int vrw), .val (.int vpl), .val (.int vrs), .val (.int vps), .val (.int vix), .val (.int vq), .val (.int vv), .val (.int vf), .val (.int vw), .val (.ref b6), .unset, .unset, .unset] [(.int vq), (.ref b6)])) _
    refine XS.iload X30.here hx rfl (hb hby at_242) rfl ?_
    show Steps p.tables e below (T30.setTop (mkF m 244 #[.val (.int p1), .val (.int p2), .val (.int p3), .val (.int p4), .val (.int p5), .val (.int vrb), .val (.int vrw), .val (.int vpl), .val (.int vrs), .val (.int vps), .val (.int vix), .val (.int vq), .val (.int vv), .val (.int vf), .val (.int vw), .val (.ref b6), .unset, .unset, .unset] [(.int vw), (.int vq), (.ref b6)])) _
    refine st31 _ ?_
    show Steps p.tables e below (T31.setTop (mkF m 245 #[.val (.int p1), .val (.int p2), .val (.int p3), .val (.int p4), .val (.int p5), .val (.int vrb), .val (.int vrw), .val (.int vpl), .val (.int vrs), .val (.int vps), .val (.int vix), .val (.int vq), .val (.int vv), .val (.int vf), .val (.int vw), .val (.ref b6), .unset, .unset, .unset] [])) _
    refine XS.aload X31.here hx rfl (hb hby at_245) rfl rfl ?_
    show Steps p.tables e below (T31.setTop (mkF m 247 #[.val (.int p1), .val (.int p2), .val (.int p3), .val (.int p4), .val (.int p5), .val (.int vrb), .val (.int vrw), .val (.int vpl), .val (.int vrs), .val (.int vps), .val (.int vix), .val (.int vq), .val (.int vv), .val (.int vf), .val (.int vw), .val (.ref b6), .unset, .unset, .unset] [(.ref b6)])) _
    refine XS.iload X31.here hx rfl (hb hby at_247) rfl ?_
    show Steps p.tables e below (T31.setTop (mkF m 249 #[.val (.int p1), .val (.int p2), .val (.int p3), .val (.int p4), .val (.int p5), .val (.int vrb), .val (.int vrw), .val (.int vpl), .val (.int vrs), .val (.int vps), .val (.int vix), .val (.int vq), .val (.int vv), .val (.int vf), .val (.int vw), .val (.ref b6), .unset, .unset, .unset] [(.int vix), (.ref b6)])) _
    refine XS.i2l X31.here hx rfl (hb hby at_249) rfl ?_
    show Steps p.tables e below (T31.setTop (mkF m 250 #[.val (.int p1), .val (.int p2), .val (.int p3), .val (.int p4), .val (.int p5), .val (.int vrb), .val (.int vrw), .val (.int vpl), .val (.int vrs), .val (.int vps), .val (.int vix), .val (.int vq), .val (.int vv), .val (.int vf), .val (.int vw), .val (.ref b6), .unset, .unset, .unset] [(.long (vix.toInt64)), (.ref b6)])) _
    refine XS.iload X31.here hx rfl (hb hby at_250) rfl ?_
    show Steps p.tables e below (T31.setTop (mkF m 252 #[.val (.int p1), .val (.int p2), .val (.int p3), .val (.int p4), .val (.int p5), .val (.int vrb), .val (.int vrw), .val (.int vpl), .val (.int vrs), .val (.int vps), .val (.int vix), .val (.int vq), .val (.int vv), .val (.int vf), .val (.int vw), .val (.ref b6), .unset, .unset, .unset] [(.int vrs), (.long (vix.toInt64)), (.ref b6)])) _
    refine XS.i2l X31.here hx rfl (hb hby at_252) rfl ?_
    show Steps p.tables e below (T31.setTop (mkF m 253 #[.val (.int p1), .val (.int p2), .val (.int p3), .val (.int p4), .val (.int p5), .val (.int vrb), .val (.int vrw), .val (.int vpl), .val (.int vrs), .val (.int vps), .val (.int vix), .val (.int vq), .val (.int vv), .val (.int vf), .val (.int vw), .val (.ref b6), .unset, .unset, .unset] [(.long (vrs.toInt64)), (.long (vix.toInt64)), (.ref b6)])) _
    refine XS.iload X31.here hx rfl (hb hby at_253) rfl ?_
    show Steps p.tables e below (T31.setTop (mkF m 255 #[.val (.int p1), .val (.int p2), .val (.int p3), .val (.int p4), .val (.int p5), .val (.int vrb), .val (.int vrw), .val (.int vpl), .val (.int vrs), .val (.int vps), .val (.int vix), .val (.int vq), .val (.int vv), .val (.int vf), .val (.int vw), .val (.ref b6), .unset, .unset, .unset] [(.int vps), (.long (vrs.toInt64)), (.long (vix.toInt64)), (.ref b6)])) _
    refine XS.i2l X31.here hx rfl (hb hby at_255) rfl ?_
    show Steps p.tables e below (T31.setTop (mkF m 256 #[.val (.int p1), .val (.int p2), .val (.int p3), .val (.int p4), .val (.int p5), .val (.int vrb), .val (.int vrw), .val (.int vpl), .val (.int vrs), .val (.int vps), .val (.int vix), .val (.int vq), .val (.int vv), .val (.int vf), .val (.int vw), .val (.ref b6), .unset, .unset, .unset] [(.long (vps.toInt64)), (.long (vrs.toInt64)), (.long (vix.toInt64)), (.ref b6)])) _
    refine XS.iload X31.here hx rfl (hb hby at_256) rfl ?_
    show Steps p.tables e below (T31.setTop (mkF m 258 #[.val (.int p1), .val (.int p2), .val (.int p3), .val (.int p4), .val (.int p5), .val (.int vrb), .val (.int vrw), .val (.int vpl), .val (.int vrs), .val (.int vps), .val (.int vix), .val (.int vq), .val (.int vv), .val (.int vf), .val (.int vw), .val (.ref b6), .unset, .unset, .unset] [(.int vrb), (.long (vps.toInt64)), (.long (vrs.toInt64)), (.long (vix.toInt64)), (.ref b6)])) _
    refine XS.iload X31.here hx rfl (hb hby at_258) rfl ?_
    show Steps p.tables e below (T31.setTop (mkF m 260 #[.val (.int p1), .val (.int p2), .val (.int p3), .val (.int p4), .val (.int p5), .val (.int vrb), .val (.int vrw), .val (.int vpl), .val (.int vrs), .val (.int vps), .val (.int vix), .val (.int vq), .val (.int vv), .val (.int vf), .val (.int vw), .val (.ref b6), .unset, .unset, .unset] [(.int vrw), (.int vrb), (.long (vps.toInt64)), (.long (vrs.toInt64)), (.long (vix.toInt64)), (.ref b6)])) _
    refine XS.iload X31.here hx rfl (hb hby at_260) rfl ?_
    show Steps p.tables e below (T31.setTop (mkF m 262 #[.val (.int p1), .val (.int p2), .val (.int p3), .val (.int p4), .val (.int p5), .val (.int vrb), .val (.int vrw), .val (.int vpl), .val (.int vrs), .val (.int vps), .val (.int vix), .val (.int vq), .val (.int vv), .val (.int vf), .val (.int vw), .val (.ref b6), .unset, .unset, .unset] [(.int vpl), (.int vrw), (.int vrb), (.long (vps.toInt64)), (.long (vrs.toInt64)), (.long (vix.toInt64)), (.ref b6)])) _
    refine XS.i2l X31.here hx rfl (hb hby at_262) rfl ?_
    show Steps p.tables e below (T31.setTop (mkF m 263 #[.val (.int p1), .val (.int p2), .val (.int p3), .val (.int p4), .val (.int p5), .val (.int vrb), .val (.int vrw), .val (.int vpl), .val (.int vrs), .val (.int vps), .val (.int vix), .val (.int vq), .val (.int vv), .val (.int vf), .val (.int vw), .val (.ref b6), .unset, .unset, .unset] [(.long (vpl.toInt64)), (.int vrw), (.int vrb), (.long (vps.toInt64)), (.long (vrs.toInt64)), (.long (vix.toInt64)), (.ref b6)])) _
    refine XS.iload X31.here hx rfl (hb hby at_263) rfl ?_
    show Steps p.tables e below (T31.setTop (mkF m 265 #[.val (.int p1), .val (.int p2), .val (.int p3), .val (.int p4), .val (.int p5), .val (.int vrb), .val (.int vrw), .val (.int vpl), .val (.int vrs), .val (.int vps), .val (.int vix), .val (.int vq), .val (.int vv), .val (.int vf), .val (.int vw), .val (.ref b6), .unset, .unset, .unset] [(.int vv), (.long (vpl.toInt64)), (.int vrw), (.int vrb), (.long (vps.toInt64)), (.long (vrs.toInt64)), (.long (vix.toInt64)), (.ref b6)])) _
    refine st32 _ ?_
    show Steps p.tables e below (T32.setTop (mkF m 268 #[.val (.int p1), .val (.int p2), .val (.int p3), .val (.int p4), .val (.int p5), .val (.int vrb), .val (.int vrw), .val (.int vpl), .val (.int vrs), .val (.int vps), .val (.int vix), .val (.int vq), .val (.int vv), .val (.int vf), .val (.int vw), .val (.ref b6), .unset, .unset, .unset] [(.int (own_b (own_A (fun j => if j = nq then vw else vf) vv nix nrs nps nrb nrw npl)))])) _
    refine XS.istore X32.here hx rfl (hb hby at_268) (x := got) (rest := []) (by subst h_got; rfl) (l' := #[.val (.int p1), .val (.int p2), .val (.int p3), .val (.int p4), .val (.int p5), .val (.int vrb), .val (.int vrw), .val (.int vpl), .val (.int vrs), .val (.int vps), .val (.int vix), .val (.int vq), .val (.int vv), .val (.int vf), .val (.int vw), .val (.ref b6), .val (.int got), .unset, .unset]) rfl ?_
    show Steps p.tables e below (T32.setTop (mkF m 270 #[.val (.int p1), .val (.int p2), .val (.int p3), .val (.int p4), .val (.int p5), .val (.int vrb), .val (.int vrw), .val (.int vpl), .val (.int vrs), .val (.int vps), .val (.int vix), .val (.int vq), .val (.int vv), .val (.int vf), .val (.int vw), .val (.ref b6), .val (.int got), .unset, .unset] [])) _
    refine XS.iconst X32.here hx rfl (hb hby at_270) ?_
    show Steps p.tables e below (T32.setTop (mkF m 271 #[.val (.int p1), .val (.int p2), .val (.int p3), .val (.int p4), .val (.int p5), .val (.int vrb), .val (.int vrw), .val (.int vpl), .val (.int vrs), .val (.int vps), .val (.int vix), .val (.int vq), .val (.int vv), .val (.int vf), .val (.int vw), .val (.ref b6), .val (.int got), .unset, .unset] [(.int (0 : Int32))])) _
    refine XS.iconst X32.here hx rfl (hb hby at_271) ?_
    show Steps p.tables e below (T32.setTop (mkF m 272 #[.val (.int p1), .val (.int p2), .val (.int p3), .val (.int p4), .val (.int p5), .val (.int vrb), .val (.int vrw), .val (.int vpl), .val (.int vrs), .val (.int vps), .val (.int vix), .val (.int vq), .val (.int vv), .val (.int vf), .val (.int vw), .val (.ref b6), .val (.int got), .unset, .unset] [(.int (0 : Int32)), (.int (0 : Int32))])) _
    refine XS.iload X32.here hx rfl (hb hby at_272) rfl ?_
    show Steps p.tables e below (T32.setTop (mkF m 274 #[.val (.int p1), .val (.int p2), .val (.int p3), .val (.int p4), .val (.int p5), .val (.int vrb), .val (.int vrw), .val (.int vpl), .val (.int vrs), .val (.int vps), .val (.int vix), .val (.int vq), .val (.int vv), .val (.int vf), .val (.int vw), .val (.ref b6), .val (.int got), .unset, .unset] [(.int vrw), (.int (0 : Int32)), (.int (0 : Int32))])) _
    refine XS.iload X32.here hx rfl (hb hby at_274) rfl ?_
    show Steps p.tables e below (T32.setTop (mkF m 276 #[.val (.int p1), .val (.int p2), .val (.int p3), .val (.int p4), .val (.int p5), .val (.int vrb), .val (.int vrw), .val (.int vpl), .val (.int vrs), .val (.int vps), .val (.int vix), .val (.int vq), .val (.int vv), .val (.int vf), .val (.int vw), .val (.ref b6), .val (.int got), .unset, .unset] [(.int vpl), (.int vrw), (.int (0 : Int32)), (.int (0 : Int32))])) _
    refine XS.iload X32.here hx rfl (hb hby at_276) rfl ?_
    show Steps p.tables e below (T32.setTop (mkF m 278 #[.val (.int p1), .val (.int p2), .val (.int p3), .val (.int p4), .val (.int p5), .val (.int vrb), .val (.int vrw), .val (.int vpl), .val (.int vrs), .val (.int vps), .val (.int vix), .val (.int vq), .val (.int vv), .val (.int vf), .val (.int vw), .val (.ref b6), .val (.int got), .unset, .unset] [(.int vrb), (.int vpl), (.int vrw), (.int (0 : Int32)), (.int (0 : Int32))])) _
    refine XS.iload X32.here hx rfl (hb hby at_278) rfl ?_
    show Steps p.tables e below (T32.setTop (mkF m 280 #[.val (.int p1), .val (.int p2), .val (.int p3), .val (.int p4), .val (.int p5), .val (.int vrb), .val (.int vrw), .val (.int vpl), .val (.int vrs), .val (.int vps), .val (.int vix), .val (.int vq), .val (.int vv), .val (.int vf), .val (.int vw), .val (.ref b6), .val (.int got), .unset, .unset] [(.int vix), (.int vrb), (.int vpl), (.int vrw), (.int (0 : Int32)), (.int (0 : Int32))])) _
    refine XS.iload X32.here hx rfl (hb hby at_280) rfl ?_
    show Steps p.tables e below (T32.setTop (mkF m 282 #[.val (.int p1), .val (.int p2), .val (.int p3), .val (.int p4), .val (.int p5), .val (.int vrb), .val (.int vrw), .val (.int vpl), .val (.int vrs), .val (.int vps), .val (.int vix), .val (.int vq), .val (.int vv), .val (.int vf), .val (.int vw), .val (.ref b6), .val (.int got), .unset, .unset] [(.int vrs), (.int vix), (.int vrb), (.int vpl), (.int vrw), (.int (0 : Int32)), (.int (0 : Int32))])) _
    refine XS.iload X32.here hx rfl (hb hby at_282) rfl ?_
    show Steps p.tables e below (T32.setTop (mkF m 284 #[.val (.int p1), .val (.int p2), .val (.int p3), .val (.int p4), .val (.int p5), .val (.int vrb), .val (.int vrw), .val (.int vpl), .val (.int vrs), .val (.int vps), .val (.int vix), .val (.int vq), .val (.int vv), .val (.int vf), .val (.int vw), .val (.ref b6), .val (.int got), .unset, .unset] [(.int vps), (.int vrs), (.int vix), (.int vrb), (.int vpl), (.int vrw), (.int (0 : Int32)), (.int (0 : Int32))])) _
    refine XS.iload X32.here hx rfl (hb hby at_284) rfl ?_
    show Steps p.tables e below (T32.setTop (mkF m 286 #[.val (.int p1), .val (.int p2), .val (.int p3), .val (.int p4), .val (.int p5), .val (.int vrb), .val (.int vrw), .val (.int vpl), .val (.int vrs), .val (.int vps), .val (.int vix), .val (.int vq), .val (.int vv), .val (.int vf), .val (.int vw), .val (.ref b6), .val (.int got), .unset, .unset] [(.int vq), (.int vps), (.int vrs), (.int vix), (.int vrb), (.int vpl), (.int vrw), (.int (0 : Int32)), (.int (0 : Int32))])) _
    refine st33 _ ?_
    show Steps p.tables e below (T33.setTop (mkF m 289 #[.val (.int p1), .val (.int p2), .val (.int p3), .val (.int p4), .val (.int p5), .val (.int vrb), .val (.int vrw), .val (.int vpl), .val (.int vrs), .val (.int vps), .val (.int vix), .val (.int vq), .val (.int vv), .val (.int vf), .val (.int vw), .val (.ref b6), .val (.int got), .unset, .unset] [(.int (own_row (0 : Int32) (0 : Int32) vrw vpl vrb vix vrs vps vq))])) _
    refine XS.iconst X33.here hx rfl (hb hby at_289) ?_
    show Steps p.tables e below (T33.setTop (mkF m 290 #[.val (.int p1), .val (.int p2), .val (.int p3), .val (.int p4), .val (.int p5), .val (.int vrb), .val (.int vrw), .val (.int vpl), .val (.int vrs), .val (.int vps), .val (.int vix), .val (.int vq), .val (.int vv), .val (.int vf), .val (.int vw), .val (.ref b6), .val (.int got), .unset, .unset] [(.int (0 : Int32)), (.int (own_row (0 : Int32) (0 : Int32) vrw vpl vrb vix vrs vps vq))])) _
    refine XS.iconst X33.here hx rfl (hb hby at_290) ?_
    show Steps p.tables e below (T33.setTop (mkF m 291 #[.val (.int p1), .val (.int p2), .val (.int p3), .val (.int p4), .val (.int p5), .val (.int vrb), .val (.int vrw), .val (.int vpl), .val (.int vrs), .val (.int vps), .val (.int vix), .val (.int vq), .val (.int vv), .val (.int vf), .val (.int vw), .val (.ref b6), .val (.int got), .unset, .unset] [(.int (1 : Int32)), (.int (0 : Int32)), (.int (own_row (0 : Int32) (0 : Int32) vrw vpl vrb vix vrs vps vq))])) _
    refine XS.iload X33.here hx rfl (hb hby at_291) rfl ?_
    show Steps p.tables e below (T33.setTop (mkF m 293 #[.val (.int p1), .val (.int p2), .val (.int p3), .val (.int p4), .val (.int p5), .val (.int vrb), .val (.int vrw), .val (.int vpl), .val (.int vrs), .val (.int vps), .val (.int vix), .val (.int vq), .val (.int vv), .val (.int vf), .val (.int vw), .val (.ref b6), .val (.int got), .unset, .unset] [(.int vrw), (.int (1 : Int32)), (.int (0 : Int32)), (.int (own_row (0 : Int32) (0 : Int32) vrw vpl vrb vix vrs vps vq))])) _
    refine XS.iload X33.here hx rfl (hb hby at_293) rfl ?_
    show Steps p.tables e below (T33.setTop (mkF m 295 #[.val (.int p1), .val (.int p2), .val (.int p3), .val (.int p4), .val (.int p5), .val (.int vrb), .val (.int vrw), .val (.int vpl), .val (.int vrs), .val (.int vps), .val (.int vix), .val (.int vq), .val (.int vv), .val (.int vf), .val (.int vw), .val (.ref b6), .val (.int got), .unset, .unset] [(.int vpl), (.int vrw), (.int (1 : Int32)), (.int (0 : Int32)), (.int (own_row (0 : Int32) (0 : Int32) vrw vpl vrb vix vrs vps vq))])) _
    refine XS.iload X33.here hx rfl (hb hby at_295) rfl ?_
    show Steps p.tables e below (T33.setTop (mkF m 297 #[.val (.int p1), .val (.int p2), .val (.int p3), .val (.int p4), .val (.int p5), .val (.int vrb), .val (.int vrw), .val (.int vpl), .val (.int vrs), .val (.int vps), .val (.int vix), .val (.int vq), .val (.int vv), .val (.int vf), .val (.int vw), .val (.ref b6), .val (.int got), .unset, .unset] [(.int vrb), (.int vpl), (.int vrw), (.int (1 : Int32)), (.int (0 : Int32)), (.int (own_row (0 : Int32) (0 : Int32) vrw vpl vrb vix vrs vps vq))])) _
    refine XS.iload X33.here hx rfl (hb hby at_297) rfl ?_
    show Steps p.tables e below (T33.setTop (mkF m 299 #[.val (.int p1), .val (.int p2), .val (.int p3), .val (.int p4), .val (.int p5), .val (.int vrb), .val (.int vrw), .val (.int vpl), .val (.int vrs), .val (.int vps), .val (.int vix), .val (.int vq), .val (.int vv), .val (.int vf), .val (.int vw), .val (.ref b6), .val (.int got), .unset, .unset] [(.int vix), (.int vrb), (.int vpl), (.int vrw), (.int (1 : Int32)), (.int (0 : Int32)), (.int (own_row (0 : Int32) (0 : Int32) vrw vpl vrb vix vrs vps vq))])) _
    refine XS.iload X33.here hx rfl (hb hby at_299) rfl ?_
    show Steps p.tables e below (T33.setTop (mkF m 301 #[.val (.int p1), .val (.int p2), .val (.int p3), .val (.int p4), .val (.int p5), .val (.int vrb), .val (.int vrw), .val (.int vpl), .val (.int vrs), .val (.int vps), .val (.int vix), .val (.int vq), .val (.int vv), .val (.int vf), .val (.int vw), .val (.ref b6), .val (.int got), .unset, .unset] [(.int vrs), (.int vix), (.int vrb), (.int vpl), (.int vrw), (.int (1 : Int32)), (.int (0 : Int32)), (.int (own_row (0 : Int32) (0 : Int32) vrw vpl vrb vix vrs vps vq))])) _
    refine XS.iload X33.here hx rfl (hb hby at_301) rfl ?_
    show Steps p.tables e below (T33.setTop (mkF m 303 #[.val (.int p1), .val (.int p2), .val (.int p3), .val (.int p4), .val (.int p5), .val (.int vrb), .val (.int vrw), .val (.int vpl), .val (.int vrs), .val (.int vps), .val (.int vix), .val (.int vq), .val (.int vv), .val (.int vf), .val (.int vw), .val (.ref b6), .val (.int got), .unset, .unset] [(.int vps), (.int vrs), (.int vix), (.int vrb), (.int vpl), (.int vrw), (.int (1 : Int32)), (.int (0 : Int32)), (.int (own_row (0 : Int32) (0 : Int32) vrw vpl vrb vix vrs vps vq))])) _
    refine XS.iload X33.here hx rfl (hb hby at_303) rfl ?_
    show Steps p.tables e below (T33.setTop (mkF m 305 #[.val (.int p1), .val (.int p2), .val (.int p3), .val (.int p4), .val (.int p5), .val (.int vrb), .val (.int vrw), .val (.int vpl), .val (.int vrs), .val (.int vps), .val (.int vix), .val (.int vq), .val (.int vv), .val (.int vf), .val (.int vw), .val (.ref b6), .val (.int got), .unset, .unset] [(.int vq), (.int vps), (.int vrs), (.int vix), (.int vrb), (.int vpl), (.int vrw), (.int (1 : Int32)), (.int (0 : Int32)), (.int (own_row (0 : Int32) (0 : Int32) vrw vpl vrb vix vrs vps vq))])) _
    refine st34 _ ?_
    show Steps p.tables e below (T34.setTop (mkF m 308 #[.val (.int p1), .val (.int p2), .val (.int p3), .val (.int p4), .val (.int p5), .val (.int vrb), .val (.int vrw), .val (.int vpl), .val (.int vrs), .val (.int vps), .val (.int vix), .val (.int vq), .val (.int vv), .val (.int vf), .val (.int vw), .val (.ref b6), .val (.int got), .unset, .unset] [(.int (own_row (0 : Int32) (1 : Int32) vrw vpl vrb vix vrs vps vq)), (.int (own_row (0 : Int32) (0 : Int32) vrw vpl vrb vix vrs vps vq))])) _
    refine XS.ior X34.here hx rfl (hb hby at_308) rfl ?_
    show Steps p.tables e below (T34.setTop (mkF m 309 #[.val (.int p1), .val (.int p2), .val (.int p3), .val (.int p4), .val (.int p5), .val (.int vrb), .val (.int vrw), .val (.int vpl), .val (.int vrs), .val (.int vps), .val (.int vix), .val (.int vq), .val (.int vv), .val (.int vf), .val (.int vw), .val (.ref b6), .val (.int got), .unset, .unset] [(.int ((own_row (0 : Int32) (0 : Int32) vrw vpl vrb vix vrs vps vq) ||| (own_row (0 : Int32) (1 : Int32) vrw vpl vrb vix vrs vps vq)))])) _
    refine XS.iconst X34.here hx rfl (hb hby at_309) ?_
    show Steps p.tables e below (T34.setTop (mkF m 310 #[.val (.int p1), .val (.int p2), .val (.int p3), .val (.int p4), .val (.int p5), .val (.int vrb), .val (.int vrw), .val (.int vpl), .val (.int vrs), .val (.int vps), .val (.int vix), .val (.int vq), .val (.int vv), .val (.int vf), .val (.int vw), .val (.ref b6), .val (.int got), .unset, .unset] [(.int (0 : Int32)), (.int ((own_row (0 : Int32) (0 : Int32) vrw vpl vrb vix vrs vps vq) ||| (own_row (0 : Int32) (1 : Int32) vrw vpl vrb vix vrs vps vq)))])) _
    refine XS.iconst X34.here hx rfl (hb hby at_310) ?_
    show Steps p.tables e below (T34.setTop (mkF m 311 #[.val (.int p1), .val (.int p2), .val (.int p3), .val (.int p4), .val (.int p5), .val (.int vrb), .val (.int vrw), .val (.int vpl), .val (.int vrs), .val (.int vps), .val (.int vix), .val (.int vq), .val (.int vv), .val (.int vf), .val (.int vw), .val (.ref b6), .val (.int got), .unset, .unset] [(.int (2 : Int32)), (.int (0 : Int32)), (.int ((own_row (0 : Int32) (0 : Int32) vrw vpl vrb vix vrs vps vq) ||| (own_row (0 : Int32) (1 : Int32) vrw vpl vrb vix vrs vps vq)))])) _
    refine XS.iload X34.here hx rfl (hb hby at_311) rfl ?_
    show Steps p.tables e below (T34.setTop (mkF m 313 #[.val (.int p1), .val (.int p2), .val (.int p3), .val (.int p4), .val (.int p5), .val (.int vrb), .val (.int vrw), .val (.int vpl), .val (.int vrs), .val (.int vps), .val (.int vix), .val (.int vq), .val (.int vv), .val (.int vf), .val (.int vw), .val (.ref b6), .val (.int got), .unset, .unset] [(.int vrw), (.int (2 : Int32)), (.int (0 : Int32)), (.int ((own_row (0 : Int32) (0 : Int32) vrw vpl vrb vix vrs vps vq) ||| (own_row (0 : Int32) (1 : Int32) vrw vpl vrb vix vrs vps vq)))])) _
    refine XS.iload X34.here hx rfl (hb hby at_313) rfl ?_
    show Steps p.tables e below (T34.setTop (mkF m 315 #[.val (.int p1), .val (.int p2), .val (.int p3), .val (.int p4), .val (.int p5), .val (.int vrb), .val (.int vrw), .val (.int vpl), .val (.int vrs), .val (.int vps), .val (.int vix), .val (.int vq), .val (.int vv), .val (.int vf), .val (.int vw), .val (.ref b6), .val (.int got), .unset, .unset] [(.int vpl), (.int vrw), (.int (2 : Int32)), (.int (0 : Int32)), (.int ((own_row (0 : Int32) (0 : Int32) vrw vpl vrb vix vrs vps vq) ||| (own_row (0 : Int32) (1 : Int32) vrw vpl vrb vix vrs vps vq)))])) _
    refine XS.iload X34.here hx rfl (hb hby at_315) rfl ?_
    show Steps p.tables e below (T34.setTop (mkF m 317 #[.val (.int p1), .val (.int p2), .val (.int p3), .val (.int p4), .val (.int p5), .val (.int vrb), .val (.int vrw), .val (.int vpl), .val (.int vrs), .val (.int vps), .val (.int vix), .val (.int vq), .val (.int vv), .val (.int vf), .val (.int vw), .val (.ref b6), .val (.int got), .unset, .unset] [(.int vrb), (.int vpl), (.int vrw), (.int (2 : Int32)), (.int (0 : Int32)), (.int ((own_row (0 : Int32) (0 : Int32) vrw vpl vrb vix vrs vps vq) ||| (own_row (0 : Int32) (1 : Int32) vrw vpl vrb vix vrs vps vq)))])) _
    refine XS.iload X34.here hx rfl (hb hby at_317) rfl ?_
    show Steps p.tables e below (T34.setTop (mkF m 319 #[.val (.int p1), .val (.int p2), .val (.int p3), .val (.int p4), .val (.int p5), .val (.int vrb), .val (.int vrw), .val (.int vpl), .val (.int vrs), .val (.int vps), .val (.int vix), .val (.int vq), .val (.int vv), .val (.int vf), .val (.int vw), .val (.ref b6), .val (.int got), .unset, .unset] [(.int vix), (.int vrb), (.int vpl), (.int vrw), (.int (2 : Int32)), (.int (0 : Int32)), (.int ((own_row (0 : Int32) (0 : Int32) vrw vpl vrb vix vrs vps vq) ||| (own_row (0 : Int32) (1 : Int32) vrw vpl vrb vix vrs vps vq)))])) _
    refine XS.iload X34.here hx rfl (hb hby at_319) rfl ?_
    show Steps p.tables e below (T34.setTop (mkF m 321 #[.val (.int p1), .val (.int p2), .val (.int p3), .val (.int p4), .val (.int p5), .val (.int vrb), .val (.int vrw), .val (.int vpl), .val (.int vrs), .val (.int vps), .val (.int vix), .val (.int vq), .val (.int vv), .val (.int vf), .val (.int vw), .val (.ref b6), .val (.int got), .unset, .unset] [(.int vrs), (.int vix), (.int vrb), (.int vpl), (.int vrw), (.int (2 : Int32)), (.int (0 : Int32)), (.int ((own_row (0 : Int32) (0 : Int32) vrw vpl vrb vix vrs vps vq) ||| (own_row (0 : Int32) (1 : Int32) vrw vpl vrb vix vrs vps vq)))])) _
    refine XS.iload X34.here hx rfl (hb hby at_321) rfl ?_
    show Steps p.tables e below (T34.setTop (mkF m 323 #[.val (.int p1), .val (.int p2), .val (.int p3), .val (.int p4), .val (.int p5), .val (.int vrb), .val (.int vrw), .val (.int vpl), .val (.int vrs), .val (.int vps), .val (.int vix), .val (.int vq), .val (.int vv), .val (.int vf), .val (.int vw), .val (.ref b6), .val (.int got), .unset, .unset] [(.int vps), (.int vrs), (.int vix), (.int vrb), (.int vpl), (.int vrw), (.int (2 : Int32)), (.int (0 : Int32)), (.int ((own_row (0 : Int32) (0 : Int32) vrw vpl vrb vix vrs vps vq) ||| (own_row (0 : Int32) (1 : Int32) vrw vpl vrb vix vrs vps vq)))])) _
    refine XS.iload X34.here hx rfl (hb hby at_323) rfl ?_
    show Steps p.tables e below (T34.setTop (mkF m 325 #[.val (.int p1), .val (.int p2), .val (.int p3), .val (.int p4), .val (.int p5), .val (.int vrb), .val (.int vrw), .val (.int vpl), .val (.int vrs), .val (.int vps), .val (.int vix), .val (.int vq), .val (.int vv), .val (.int vf), .val (.int vw), .val (.ref b6), .val (.int got), .unset, .unset] [(.int vq), (.int vps), (.int vrs), (.int vix), (.int vrb), (.int vpl), (.int vrw), (.int (2 : Int32)), (.int (0 : Int32)), (.int ((own_row (0 : Int32) (0 : Int32) vrw vpl vrb vix vrs vps vq) ||| (own_row (0 : Int32) (1 : Int32) vrw vpl vrb vix vrs vps vq)))])) _
    refine st35 _ ?_
    show Steps p.tables e below (T35.setTop (mkF m 328 #[.val (.int p1), .val (.int p2), .val (.int p3), .val (.int p4), .val (.int p5), .val (.int vrb), .val (.int vrw), .val (.int vpl), .val (.int vrs), .val (.int vps), .val (.int vix), .val (.int vq), .val (.int vv), .val (.int vf), .val (.int vw), .val (.ref b6), .val (.int got), .unset, .unset] [(.int (own_row (0 : Int32) (2 : Int32) vrw vpl vrb vix vrs vps vq)), (.int ((own_row (0 : Int32) (0 : Int32) vrw vpl vrb vix vrs vps vq) ||| (own_row (0 : Int32) (1 : Int32) vrw vpl vrb vix vrs vps vq)))])) _
    refine XS.ior X35.here hx rfl (hb hby at_328) rfl ?_
    show Steps p.tables e below (T35.setTop (mkF m 329 #[.val (.int p1), .val (.int p2), .val (.int p3), .val (.int p4), .val (.int p5), .val (.int vrb), .val (.int vrw), .val (.int vpl), .val (.int vrs), .val (.int vps), .val (.int vix), .val (.int vq), .val (.int vv), .val (.int vf), .val (.int vw), .val (.ref b6), .val (.int got), .unset, .unset] [(.int (((own_row (0 : Int32) (0 : Int32) vrw vpl vrb vix vrs vps vq) ||| (own_row (0 : Int32) (1 : Int32) vrw vpl vrb vix vrs vps vq)) ||| (own_row (0 : Int32) (2 : Int32) vrw vpl vrb vix vrs vps vq)))])) _
    refine XS.iconst X35.here hx rfl (hb hby at_329) ?_
    show Steps p.tables e below (T35.setTop (mkF m 330 #[.val (.int p1), .val (.int p2), .val (.int p3), .val (.int p4), .val (.int p5), .val (.int vrb), .val (.int vrw), .val (.int vpl), .val (.int vrs), .val (.int vps), .val (.int vix), .val (.int vq), .val (.int vv), .val (.int vf), .val (.int vw), .val (.ref b6), .val (.int got), .unset, .unset] [(.int (0 : Int32)), (.int (((own_row (0 : Int32) (0 : Int32) vrw vpl vrb vix vrs vps vq) ||| (own_row (0 : Int32) (1 : Int32) vrw vpl vrb vix vrs vps vq)) ||| (own_row (0 : Int32) (2 : Int32) vrw vpl vrb vix vrs vps vq)))])) _
    refine XS.iconst X35.here hx rfl (hb hby at_330) ?_
    show Steps p.tables e below (T35.setTop (mkF m 331 #[.val (.int p1), .val (.int p2), .val (.int p3), .val (.int p4), .val (.int p5), .val (.int vrb), .val (.int vrw), .val (.int vpl), .val (.int vrs), .val (.int vps), .val (.int vix), .val (.int vq), .val (.int vv), .val (.int vf), .val (.int vw), .val (.ref b6), .val (.int got), .unset, .unset] [(.int (3 : Int32)), (.int (0 : Int32)), (.int (((own_row (0 : Int32) (0 : Int32) vrw vpl vrb vix vrs vps vq) ||| (own_row (0 : Int32) (1 : Int32) vrw vpl vrb vix vrs vps vq)) ||| (own_row (0 : Int32) (2 : Int32) vrw vpl vrb vix vrs vps vq)))])) _
    refine XS.iload X35.here hx rfl (hb hby at_331) rfl ?_
    show Steps p.tables e below (T35.setTop (mkF m 333 #[.val (.int p1), .val (.int p2), .val (.int p3), .val (.int p4), .val (.int p5), .val (.int vrb), .val (.int vrw), .val (.int vpl), .val (.int vrs), .val (.int vps), .val (.int vix), .val (.int vq), .val (.int vv), .val (.int vf), .val (.int vw), .val (.ref b6), .val (.int got), .unset, .unset] [(.int vrw), (.int (3 : Int32)), (.int (0 : Int32)), (.int (((own_row (0 : Int32) (0 : Int32) vrw vpl vrb vix vrs vps vq) ||| (own_row (0 : Int32) (1 : Int32) vrw vpl vrb vix vrs vps vq)) ||| (own_row (0 : Int32) (2 : Int32) vrw vpl vrb vix vrs vps vq)))])) _
    refine XS.iload X35.here hx rfl (hb hby at_333) rfl ?_
    show Steps p.tables e below (T35.setTop (mkF m 335 #[.val (.int p1), .val (.int p2), .val (.int p3), .val (.int p4), .val (.int p5), .val (.int vrb), .val (.int vrw), .val (.int vpl), .val (.int vrs), .val (.int vps), .val (.int vix), .val (.int vq), .val (.int vv), .val (.int vf), .val (.int vw), .val (.ref b6), .val (.int got), .unset, .unset] [(.int vpl), (.int vrw), (.int (3 : Int32)), (.int (0 : Int32)), (.int (((own_row (0 : Int32) (0 : Int32) vrw vpl vrb vix vrs vps vq) ||| (own_row (0 : Int32) (1 : Int32) vrw vpl vrb vix vrs vps vq)) ||| (own_row (0 : Int32) (2 : Int32) vrw vpl vrb vix vrs vps vq)))])) _
    refine XS.iload X35.here hx rfl (hb hby at_335) rfl ?_
    show Steps p.tables e below (T35.setTop (mkF m 337 #[.val (.int p1), .val (.int p2), .val (.int p3), .val (.int p4), .val (.int p5), .val (.int vrb), .val (.int vrw), .val (.int vpl), .val (.int vrs), .val (.int vps), .val (.int vix), .val (.int vq), .val (.int vv), .val (.int vf), .val (.int vw), .val (.ref b6), .val (.int got), .unset, .unset] [(.int vrb), (.int vpl), (.int vrw), (.int (3 : Int32)), (.int (0 : Int32)), (.int (((own_row (0 : Int32) (0 : Int32) vrw vpl vrb vix vrs vps vq) ||| (own_row (0 : Int32) (1 : Int32) vrw vpl vrb vix vrs vps vq)) ||| (own_row (0 : Int32) (2 : Int32) vrw vpl vrb vix vrs vps vq)))])) _
    refine XS.iload X35.here hx rfl (hb hby at_337) rfl ?_
    show Steps p.tables e below (T35.setTop (mkF m 339 #[.val (.int p1), .val (.int p2), .val (.int p3), .val (.int p4), .val (.int p5), .val (.int vrb), .val (.int vrw), .val (.int vpl), .val (.int vrs), .val (.int vps), .val (.int vix), .val (.int vq), .val (.int vv), .val (.int vf), .val (.int vw), .val (.ref b6), .val (.int got), .unset, .unset] [(.int vix), (.int vrb), (.int vpl), (.int vrw), (.int (3 : Int32)), (.int (0 : Int32)), (.int (((own_row (0 : Int32) (0 : Int32) vrw vpl vrb vix vrs vps vq) ||| (own_row (0 : Int32) (1 : Int32) vrw vpl vrb vix vrs vps vq)) ||| (own_row (0 : Int32) (2 : Int32) vrw vpl vrb vix vrs vps vq)))])) _
    refine XS.iload X35.here hx rfl (hb hby at_339) rfl ?_
    show Steps p.tables e below (T35.setTop (mkF m 341 #[.val (.int p1), .val (.int p2), .val (.int p3), .val (.int p4), .val (.int p5), .val (.int vrb), .val (.int vrw), .val (.int vpl), .val (.int vrs), .val (.int vps), .val (.int vix), .val (.int vq), .val (.int vv), .val (.int vf), .val (.int vw), .val (.ref b6), .val (.int got), .unset, .unset] [(.int vrs), (.int vix), (.int vrb), (.int vpl), (.int vrw), (.int (3 : Int32)), (.int (0 : Int32)), (.int (((own_row (0 : Int32) (0 : Int32) vrw vpl vrb vix vrs vps vq) ||| (own_row (0 : Int32) (1 : Int32) vrw vpl vrb vix vrs vps vq)) ||| (own_row (0 : Int32) (2 : Int32) vrw vpl vrb vix vrs vps vq)))])) _
    refine XS.iload X35.here hx rfl (hb hby at_341) rfl ?_
    show Steps p.tables e below (T35.setTop (mkF m 343 #[.val (.int p1), .val (.int p2), .val (.int p3), .val (.int p4), .val (.int p5), .val (.int vrb), .val (.int vrw), .val (.int vpl), .val (.int vrs), .val (.int vps), .val (.int vix), .val (.int vq), .val (.int vv), .val (.int vf), .val (.int vw), .val (.ref b6), .val (.int got), .unset, .unset] [(.int vps), (.int vrs), (.int vix), (.int vrb), (.int vpl), (.int vrw), (.int (3 : Int32)), (.int (0 : Int32)), (.int (((own_row (0 : Int32) (0 : Int32) vrw vpl vrb vix vrs vps vq) ||| (own_row (0 : Int32) (1 : Int32) vrw vpl vrb vix vrs vps vq)) ||| (own_row (0 : Int32) (2 : Int32) vrw vpl vrb vix vrs vps vq)))])) _
    refine XS.iload X35.here hx rfl (hb hby at_343) rfl ?_
    show Steps p.tables e below (T35.setTop (mkF m 345 #[.val (.int p1), .val (.int p2), .val (.int p3), .val (.int p4), .val (.int p5), .val (.int vrb), .val (.int vrw), .val (.int vpl), .val (.int vrs), .val (.int vps), .val (.int vix), .val (.int vq), .val (.int vv), .val (.int vf), .val (.int vw), .val (.ref b6), .val (.int got), .unset, .unset] [(.int vq), (.int vps), (.int vrs), (.int vix), (.int vrb), (.int vpl), (.int vrw), (.int (3 : Int32)), (.int (0 : Int32)), (.int (((own_row (0 : Int32) (0 : Int32) vrw vpl vrb vix vrs vps vq) ||| (own_row (0 : Int32) (1 : Int32) vrw vpl vrb vix vrs vps vq)) ||| (own_row (0 : Int32) (2 : Int32) vrw vpl vrb vix vrs vps vq)))])) _
    refine st36 _ ?_
    show Steps p.tables e below (T36.setTop (mkF m 348 #[.val (.int p1), .val (.int p2), .val (.int p3), .val (.int p4), .val (.int p5), .val (.int vrb), .val (.int vrw), .val (.int vpl), .val (.int vrs), .val (.int vps), .val (.int vix), .val (.int vq), .val (.int vv), .val (.int vf), .val (.int vw), .val (.ref b6), .val (.int got), .unset, .unset] [(.int (own_row (0 : Int32) (3 : Int32) vrw vpl vrb vix vrs vps vq)), (.int (((own_row (0 : Int32) (0 : Int32) vrw vpl vrb vix vrs vps vq) ||| (own_row (0 : Int32) (1 : Int32) vrw vpl vrb vix vrs vps vq)) ||| (own_row (0 : Int32) (2 : Int32) vrw vpl vrb vix vrs vps vq)))])) _
    refine XS.ior X36.here hx rfl (hb hby at_348) rfl ?_
    show Steps p.tables e below (T36.setTop (mkF m 349 #[.val (.int p1), .val (.int p2), .val (.int p3), .val (.int p4), .val (.int p5), .val (.int vrb), .val (.int vrw), .val (.int vpl), .val (.int vrs), .val (.int vps), .val (.int vix), .val (.int vq), .val (.int vv), .val (.int vf), .val (.int vw), .val (.ref b6), .val (.int got), .unset, .unset] [(.int ((((own_row (0 : Int32) (0 : Int32) vrw vpl vrb vix vrs vps vq) ||| (own_row (0 : Int32) (1 : Int32) vrw vpl vrb vix vrs vps vq)) ||| (own_row (0 : Int32) (2 : Int32) vrw vpl vrb vix vrs vps vq)) ||| (own_row (0 : Int32) (3 : Int32) vrw vpl vrb vix vrs vps vq)))])) _
    refine XS.iconst X36.here hx rfl (hb hby at_349) ?_
    show Steps p.tables e below (T36.setTop (mkF m 350 #[.val (.int p1), .val (.int p2), .val (.int p3), .val (.int p4), .val (.int p5), .val (.int vrb), .val (.int vrw), .val (.int vpl), .val (.int vrs), .val (.int vps), .val (.int vix), .val (.int vq), .val (.int vv), .val (.int vf), .val (.int vw), .val (.ref b6), .val (.int got), .unset, .unset] [(.int (1 : Int32)), (.int ((((own_row (0 : Int32) (0 : Int32) vrw vpl vrb vix vrs vps vq) ||| (own_row (0 : Int32) (1 : Int32) vrw vpl vrb vix vrs vps vq)) ||| (own_row (0 : Int32) (2 : Int32) vrw vpl vrb vix vrs vps vq)) ||| (own_row (0 : Int32) (3 : Int32) vrw vpl vrb vix vrs vps vq)))])) _
    refine XS.iconst X36.here hx rfl (hb hby at_350) ?_
    show Steps p.tables e below (T36.setTop (mkF m 351 #[.val (.int p1), .val (.int p2), .val (.int p3), .val (.int p4), .val (.int p5), .val (.int vrb), .val (.int vrw), .val (.int vpl), .val (.int vrs), .val (.int vps), .val (.int vix), .val (.int vq), .val (.int vv), .val (.int vf), .val (.int vw), .val (.ref b6), .val (.int got), .unset, .unset] [(.int (0 : Int32)), (.int (1 : Int32)), (.int ((((own_row (0 : Int32) (0 : Int32) vrw vpl vrb vix vrs vps vq) ||| (own_row (0 : Int32) (1 : Int32) vrw vpl vrb vix vrs vps vq)) ||| (own_row (0 : Int32) (2 : Int32) vrw vpl vrb vix vrs vps vq)) ||| (own_row (0 : Int32) (3 : Int32) vrw vpl vrb vix vrs vps vq)))])) _
    refine XS.iload X36.here hx rfl (hb hby at_351) rfl ?_
    show Steps p.tables e below (T36.setTop (mkF m 353 #[.val (.int p1), .val (.int p2), .val (.int p3), .val (.int p4), .val (.int p5), .val (.int vrb), .val (.int vrw), .val (.int vpl), .val (.int vrs), .val (.int vps), .val (.int vix), .val (.int vq), .val (.int vv), .val (.int vf), .val (.int vw), .val (.ref b6), .val (.int got), .unset, .unset] [(.int vrw), (.int (0 : Int32)), (.int (1 : Int32)), (.int ((((own_row (0 : Int32) (0 : Int32) vrw vpl vrb vix vrs vps vq) ||| (own_row (0 : Int32) (1 : Int32) vrw vpl vrb vix vrs vps vq)) ||| (own_row (0 : Int32) (2 : Int32) vrw vpl vrb vix vrs vps vq)) ||| (own_row (0 : Int32) (3 : Int32) vrw vpl vrb vix vrs vps vq)))])) _
    refine XS.iload X36.here hx rfl (hb hby at_353) rfl ?_
    show Steps p.tables e below (T36.setTop (mkF m 355 #[.val (.int p1), .val (.int p2), .val (.int p3), .val (.int p4), .val (.int p5), .val (.int vrb), .val (.int vrw), .val (.int vpl), .val (.int vrs), .val (.int vps), .val (.int vix), .val (.int vq), .val (.int vv), .val (.int vf), .val (.int vw), .val (.ref b6), .val (.int got), .unset, .unset] [(.int vpl), (.int vrw), (.int (0 : Int32)), (.int (1 : Int32)), (.int ((((own_row (0 : Int32) (0 : Int32) vrw vpl vrb vix vrs vps vq) ||| (own_row (0 : Int32) (1 : Int32) vrw vpl vrb vix vrs vps vq)) ||| (own_row (0 : Int32) (2 : Int32) vrw vpl vrb vix vrs vps vq)) ||| (own_row (0 : Int32) (3 : Int32) vrw vpl vrb vix vrs vps vq)))])) _
    refine XS.iload X36.here hx rfl (hb hby at_355) rfl ?_
    show Steps p.tables e below (T36.setTop (mkF m 357 #[.val (.int p1), .val (.int p2), .val (.int p3), .val (.int p4), .val (.int p5), .val (.int vrb), .val (.int vrw), .val (.int vpl), .val (.int vrs), .val (.int vps), .val (.int vix), .val (.int vq), .val (.int vv), .val (.int vf), .val (.int vw), .val (.ref b6), .val (.int got), .unset, .unset] [(.int vrb), (.int vpl), (.int vrw), (.int (0 : Int32)), (.int (1 : Int32)), (.int ((((own_row (0 : Int32) (0 : Int32) vrw vpl vrb vix vrs vps vq) ||| (own_row (0 : Int32) (1 : Int32) vrw vpl vrb vix vrs vps vq)) ||| (own_row (0 : Int32) (2 : Int32) vrw vpl vrb vix vrs vps vq)) ||| (own_row (0 : Int32) (3 : Int32) vrw vpl vrb vix vrs vps vq)))])) _
    refine XS.iload X36.here hx rfl (hb hby at_357) rfl ?_
    show Steps p.tables e below (T36.setTop (mkF m 359 #[.val (.int p1), .val (.int p2), .val (.int p3), .val (.int p4), .val (.int p5), .val (.int vrb), .val (.int vrw), .val (.int vpl), .val (.int vrs), .val (.int vps), .val (.int vix), .val (.int vq), .val (.int vv), .val (.int vf), .val (.int vw), .val (.ref b6), .val (.int got), .unset, .unset] [(.int vix), (.int vrb), (.int vpl), (.int vrw), (.int (0 : Int32)), (.int (1 : Int32)), (.int ((((own_row (0 : Int32) (0 : Int32) vrw vpl vrb vix vrs vps vq) ||| (own_row (0 : Int32) (1 : Int32) vrw vpl vrb vix vrs vps vq)) ||| (own_row (0 : Int32) (2 : Int32) vrw vpl vrb vix vrs vps vq)) ||| (own_row (0 : Int32) (3 : Int32) vrw vpl vrb vix vrs vps vq)))])) _
    refine XS.iload X36.here hx rfl (hb hby at_359) rfl ?_
    show Steps p.tables e below (T36.setTop (mkF m 361 #[.val (.int p1), .val (.int p2), .val (.int p3), .val (.int p4), .val (.int p5), .val (.int vrb), .val (.int vrw), .val (.int vpl), .val (.int vrs), .val (.int vps), .val (.int vix), .val (.int vq), .val (.int vv), .val (.int vf), .val (.int vw), .val (.ref b6), .val (.int got), .unset, .unset] [(.int vrs), (.int vix), (.int vrb), (.int vpl), (.int vrw), (.int (0 : Int32)), (.int (1 : Int32)), (.int ((((own_row (0 : Int32) (0 : Int32) vrw vpl vrb vix vrs vps vq) ||| (own_row (0 : Int32) (1 : Int32) vrw vpl vrb vix vrs vps vq)) ||| (own_row (0 : Int32) (2 : Int32) vrw vpl vrb vix vrs vps vq)) ||| (own_row (0 : Int32) (3 : Int32) vrw vpl vrb vix vrs vps vq)))])) _
    refine XS.iload X36.here hx rfl (hb hby at_361) rfl ?_
    show Steps p.tables e below (T36.setTop (mkF m 363 #[.val (.int p1), .val (.int p2), .val (.int p3), .val (.int p4), .val (.int p5), .val (.int vrb), .val (.int vrw), .val (.int vpl), .val (.int vrs), .val (.int vps), .val (.int vix), .val (.int vq), .val (.int vv), .val (.int vf), .val (.int vw), .val (.ref b6), .val (.int got), .unset, .unset] [(.int vps), (.int vrs), (.int vix), (.int vrb), (.int vpl), (.int vrw), (.int (0 : Int32)), (.int (1 : Int32)), (.int ((((own_row (0 : Int32) (0 : Int32) vrw vpl vrb vix vrs vps vq) ||| (own_row (0 : Int32) (1 : Int32) vrw vpl vrb vix vrs vps vq)) ||| (own_row (0 : Int32) (2 : Int32) vrw vpl vrb vix vrs vps vq)) ||| (own_row (0 : Int32) (3 : Int32) vrw vpl vrb vix vrs vps vq)))])) _
    refine XS.iload X36.here hx rfl (hb hby at_363) rfl ?_
    show Steps p.tables e below (T36.setTop (mkF m 365 #[.val (.int p1), .val (.int p2), .val (.int p3), .val (.int p4), .val (.int p5), .val (.int vrb), .val (.int vrw), .val (.int vpl), .val (.int vrs), .val (.int vps), .val (.int vix), .val (.int vq), .val (.int vv), .val (.int vf), .val (.int vw), .val (.ref b6), .val (.int got), .unset, .unset] [(.int vq), (.int vps), (.int vrs), (.int vix), (.int vrb), (.int vpl), (.int vrw), (.int (0 : Int32)), (.int (1 : Int32)), (.int ((((own_row (0 : Int32) (0 : Int32) vrw vpl vrb vix vrs vps vq) ||| (own_row (0 : Int32) (1 : Int32) vrw vpl vrb vix vrs vps vq)) ||| (own_row (0 : Int32) (2 : Int32) vrw vpl vrb vix vrs vps vq)) ||| (own_row (0 : Int32) (3 : Int32) vrw vpl vrb vix vrs vps vq)))])) _
    refine st37 _ ?_
    show Steps p.tables e below (T37.setTop (mkF m 368 #[.val (.int p1), .val (.int p2), .val (.int p3), .val (.int p4), .val (.int p5), .val (.int vrb), .val (.int vrw), .val (.int vpl), .val (.int vrs), .val (.int vps), .val (.int vix), .val (.int vq), .val (.int vv), .val (.int vf), .val (.int vw), .val (.ref b6), .val (.int got), .unset, .unset] [(.int (own_row (1 : Int32) (0 : Int32) vrw vpl vrb vix vrs vps vq)), (.int ((((own_row (0 : Int32) (0 : Int32) vrw vpl vrb vix vrs vps vq) ||| (own_row (0 : Int32) (1 : Int32) vrw vpl vrb vix vrs vps vq)) ||| (own_row (0 : Int32) (2 : Int32) vrw vpl vrb vix vrs vps vq)) ||| (own_row (0 : Int32) (3 : Int32) vrw vpl vrb vix vrs vps vq)))])) _
    refine XS.ior X37.here hx rfl (hb hby at_368) rfl ?_
    show Steps p.tables e below (T37.setTop (mkF m 369 #[.val (.int p1), .val (.int p2), .val (.int p3), .val (.int p4), .val (.int p5), .val (.int vrb), .val (.int vrw), .val (.int vpl), .val (.int vrs), .val (.int vps), .val (.int vix), .val (.int vq), .val (.int vv), .val (.int vf), .val (.int vw), .val (.ref b6), .val (.int got), .unset, .unset] [(.int (((((own_row (0 : Int32) (0 : Int32) vrw vpl vrb vix vrs vps vq) ||| (own_row (0 : Int32) (1 : Int32) vrw vpl vrb vix vrs vps vq)) ||| (own_row (0 : Int32) (2 : Int32) vrw vpl vrb vix vrs vps vq)) ||| (own_row (0 : Int32) (3 : Int32) vrw vpl vrb vix vrs vps vq)) ||| (own_row (1 : Int32) (0 : Int32) vrw vpl vrb vix vrs vps vq)))])) _
    refine XS.iconst X37.here hx rfl (hb hby at_369) ?_
    show Steps p.tables e below (T37.setTop (mkF m 370 #[.val (.int p1), .val (.int p2), .val (.int p3), .val (.int p4), .val (.int p5), .val (.int vrb), .val (.int vrw), .val (.int vpl), .val (.int vrs), .val (.int vps), .val (.int vix), .val (.int vq), .val (.int vv), .val (.int vf), .val (.int vw), .val (.ref b6), .val (.int got), .unset, .unset] [(.int (1 : Int32)), (.int (((((own_row (0 : Int32) (0 : Int32) vrw vpl vrb vix vrs vps vq) ||| (own_row (0 : Int32) (1 : Int32) vrw vpl vrb vix vrs vps vq)) ||| (own_row (0 : Int32) (2 : Int32) vrw vpl vrb vix vrs vps vq)) ||| (own_row (0 : Int32) (3 : Int32) vrw vpl vrb vix vrs vps vq)) ||| (own_row (1 : Int32) (0 : Int32) vrw vpl vrb vix vrs vps vq)))])) _
    refine XS.iconst X37.here hx rfl (hb hby at_370) ?_
    show Steps p.tables e below (T37.setTop (mkF m 371 #[.val (.int p1), .val (.int p2), .val (.int p3), .val (.int p4), .val (.int p5), .val (.int vrb), .val (.int vrw), .val (.int vpl), .val (.int vrs), .val (.int vps), .val (.int vix), .val (.int vq), .val (.int vv), .val (.int vf), .val (.int vw), .val (.ref b6), .val (.int got), .unset, .unset] [(.int (1 : Int32)), (.int (1 : Int32)), (.int (((((own_row (0 : Int32) (0 : Int32) vrw vpl vrb vix vrs vps vq) ||| (own_row (0 : Int32) (1 : Int32) vrw vpl vrb vix vrs vps vq)) ||| (own_row (0 : Int32) (2 : Int32) vrw vpl vrb vix vrs vps vq)) ||| (own_row (0 : Int32) (3 : Int32) vrw vpl vrb vix vrs vps vq)) ||| (own_row (1 : Int32) (0 : Int32) vrw vpl vrb vix vrs vps vq)))])) _
    refine XS.iload X37.here hx rfl (hb hby at_371) rfl ?_
    show Steps p.tables e below (T37.setTop (mkF m 373 #[.val (.int p1), .val (.int p2), .val (.int p3), .val (.int p4), .val (.int p5), .val (.int vrb), .val (.int vrw), .val (.int vpl), .val (.int vrs), .val (.int vps), .val (.int vix), .val (.int vq), .val (.int vv), .val (.int vf), .val (.int vw), .val (.ref b6), .val (.int got), .unset, .unset] [(.int vrw), (.int (1 : Int32)), (.int (1 : Int32)), (.int (((((own_row (0 : Int32) (0 : Int32) vrw vpl vrb vix vrs vps vq) ||| (own_row (0 : Int32) (1 : Int32) vrw vpl vrb vix vrs vps vq)) ||| (own_row (0 : Int32) (2 : Int32) vrw vpl vrb vix vrs vps vq)) ||| (own_row (0 : Int32) (3 : Int32) vrw vpl vrb vix vrs vps vq)) ||| (own_row (1 : Int32) (0 : Int32) vrw vpl vrb vix vrs vps vq)))])) _
    refine XS.iload X37.here hx rfl (hb hby at_373) rfl ?_
    show Steps p.tables e below (T37.setTop (mkF m 375 #[.val (.int p1), .val (.int p2), .val (.int p3), .val (.int p4), .val (.int p5), .val (.int vrb), .val (.int vrw), .val (.int vpl), .val (.int vrs), .val (.int vps), .val (.int vix), .val (.int vq), .val (.int vv), .val (.int vf), .val (.int vw), .val (.ref b6), .val (.int got), .unset, .unset] [(.int vpl), (.int vrw), (.int (1 : Int32)), (.int (1 : Int32)), (.int (((((own_row (0 : Int32) (0 : Int32) vrw vpl vrb vix vrs vps vq) ||| (own_row (0 : Int32) (1 : Int32) vrw vpl vrb vix vrs vps vq)) ||| (own_row (0 : Int32) (2 : Int32) vrw vpl vrb vix vrs vps vq)) ||| (own_row (0 : Int32) (3 : Int32) vrw vpl vrb vix vrs vps vq)) ||| (own_row (1 : Int32) (0 : Int32) vrw vpl vrb vix vrs vps vq)))])) _
    refine XS.iload X37.here hx rfl (hb hby at_375) rfl ?_
    show Steps p.tables e below (T37.setTop (mkF m 377 #[.val (.int p1), .val (.int p2), .val (.int p3), .val (.int p4), .val (.int p5), .val (.int vrb), .val (.int vrw), .val (.int vpl), .val (.int vrs), .val (.int vps), .val (.int vix), .val (.int vq), .val (.int vv), .val (.int vf), .val (.int vw), .val (.ref b6), .val (.int got), .unset, .unset] [(.int vrb), (.int vpl), (.int vrw), (.int (1 : Int32)), (.int (1 : Int32)), (.int (((((own_row (0 : Int32) (0 : Int32) vrw vpl vrb vix vrs vps vq) ||| (own_row (0 : Int32) (1 : Int32) vrw vpl vrb vix vrs vps vq)) ||| (own_row (0 : Int32) (2 : Int32) vrw vpl vrb vix vrs vps vq)) ||| (own_row (0 : Int32) (3 : Int32) vrw vpl vrb vix vrs vps vq)) ||| (own_row (1 : Int32) (0 : Int32) vrw vpl vrb vix vrs vps vq)))])) _
    refine XS.iload X37.here hx rfl (hb hby at_377) rfl ?_
    show Steps p.tables e below (T37.setTop (mkF m 379 #[.val (.int p1), .val (.int p2), .val (.int p3), .val (.int p4), .val (.int p5), .val (.int vrb), .val (.int vrw), .val (.int vpl), .val (.int vrs), .val (.int vps), .val (.int vix), .val (.int vq), .val (.int vv), .val (.int vf), .val (.int vw), .val (.ref b6), .val (.int got), .unset, .unset] [(.int vix), (.int vrb), (.int vpl), (.int vrw), (.int (1 : Int32)), (.int (1 : Int32)), (.int (((((own_row (0 : Int32) (0 : Int32) vrw vpl vrb vix vrs vps vq) ||| (own_row (0 : Int32) (1 : Int32) vrw vpl vrb vix vrs vps vq)) ||| (own_row (0 : Int32) (2 : Int32) vrw vpl vrb vix vrs vps vq)) ||| (own_row (0 : Int32) (3 : Int32) vrw vpl vrb vix vrs vps vq)) ||| (own_row (1 : Int32) (0 : Int32) vrw vpl vrb vix vrs vps vq)))])) _
    refine XS.iload X37.here hx rfl (hb hby at_379) rfl ?_
    show Steps p.tables e below (T37.setTop (mkF m 381 #[.val (.int p1), .val (.int p2), .val (.int p3), .val (.int p4), .val (.int p5), .val (.int vrb), .val (.int vrw), .val (.int vpl), .val (.int vrs), .val (.int vps), .val (.int vix), .val (.int vq), .val (.int vv), .val (.int vf), .val (.int vw), .val (.ref b6), .val (.int got), .unset, .unset] [(.int vrs), (.int vix), (.int vrb), (.int vpl), (.int vrw), (.int (1 : Int32)), (.int (1 : Int32)), (.int (((((own_row (0 : Int32) (0 : Int32) vrw vpl vrb vix vrs vps vq) ||| (own_row (0 : Int32) (1 : Int32) vrw vpl vrb vix vrs vps vq)) ||| (own_row (0 : Int32) (2 : Int32) vrw vpl vrb vix vrs vps vq)) ||| (own_row (0 : Int32) (3 : Int32) vrw vpl vrb vix vrs vps vq)) ||| (own_row (1 : Int32) (0 : Int32) vrw vpl vrb vix vrs vps vq)))])) _
    refine XS.iload X37.here hx rfl (hb hby at_381) rfl ?_
    show Steps p.tables e below (T37.setTop (mkF m 383 #[.val (.int p1), .val (.int p2), .val (.int p3), .val (.int p4), .val (.int p5), .val (.int vrb), .val (.int vrw), .val (.int vpl), .val (.int vrs), .val (.int vps), .val (.int vix), .val (.int vq), .val (.int vv), .val (.int vf), .val (.int vw), .val (.ref b6), .val (.int got), .unset, .unset] [(.int vps), (.int vrs), (.int vix), (.int vrb), (.int vpl), (.int vrw), (.int (1 : Int32)), (.int (1 : Int32)), (.int (((((own_row (0 : Int32) (0 : Int32) vrw vpl vrb vix vrs vps vq) ||| (own_row (0 : Int32) (1 : Int32) vrw vpl vrb vix vrs vps vq)) ||| (own_row (0 : Int32) (2 : Int32) vrw vpl vrb vix vrs vps vq)) ||| (own_row (0 : Int32) (3 : Int32) vrw vpl vrb vix vrs vps vq)) ||| (own_row (1 : Int32) (0 : Int32) vrw vpl vrb vix vrs vps vq)))])) _
    refine XS.iload X37.here hx rfl (hb hby at_383) rfl ?_
    show Steps p.tables e below (T37.setTop (mkF m 385 #[.val (.int p1), .val (.int p2), .val (.int p3), .val (.int p4), .val (.int p5), .val (.int vrb), .val (.int vrw), .val (.int vpl), .val (.int vrs), .val (.int vps), .val (.int vix), .val (.int vq), .val (.int vv), .val (.int vf), .val (.int vw), .val (.ref b6), .val (.int got), .unset, .unset] [(.int vq), (.int vps), (.int vrs), (.int vix), (.int vrb), (.int vpl), (.int vrw), (.int (1 : Int32)), (.int (1 : Int32)), (.int (((((own_row (0 : Int32) (0 : Int32) vrw vpl vrb vix vrs vps vq) ||| (own_row (0 : Int32) (1 : Int32) vrw vpl vrb vix vrs vps vq)) ||| (own_row (0 : Int32) (2 : Int32) vrw vpl vrb vix vrs vps vq)) ||| (own_row (0 : Int32) (3 : Int32) vrw vpl vrb vix vrs vps vq)) ||| (own_row (1 : Int32) (0 : Int32) vrw vpl vrb vix vrs vps vq)))])) _
    refine st38 _ ?_
    show Steps p.tables e below (T38.setTop (mkF m 388 #[.val (.int p1), .val (.int p2), .val (.int p3), .val (.int p4), .val (.int p5), .val (.int vrb), .val (.int vrw), .val (.int vpl), .val (.int vrs), .val (.int vps), .val (.int vix), .val (.int vq), .val (.int vv), .val (.int vf), .val (.int vw), .val (.ref b6), .val (.int got), .unset, .unset] [(.int (own_row (1 : Int32) (1 : Int32) vrw vpl vrb vix vrs vps vq)), (.int (((((own_row (0 : Int32) (0 : Int32) vrw vpl vrb vix vrs vps vq) ||| (own_row (0 : Int32) (1 : Int32) vrw vpl vrb vix vrs vps vq)) ||| (own_row (0 : Int32) (2 : Int32) vrw vpl vrb vix vrs vps vq)) ||| (own_row (0 : Int32) (3 : Int32) vrw vpl vrb vix vrs vps vq)) ||| (own_row (1 : Int32) (0 : Int32) vrw vpl vrb vix vrs vps vq)))])) _
    refine XS.ior X38.here hx rfl (hb hby at_388) rfl ?_
    show Steps p.tables e below (T38.setTop (mkF m 389 #[.val (.int p1), .val (.int p2), .val (.int p3), .val (.int p4), .val (.int p5), .val (.int vrb), .val (.int vrw), .val (.int vpl), .val (.int vrs), .val (.int vps), .val (.int vix), .val (.int vq), .val (.int vv), .val (.int vf), .val (.int vw), .val (.ref b6), .val (.int got), .unset, .unset] [(.int ((((((own_row (0 : Int32) (0 : Int32) vrw vpl vrb vix vrs vps vq) ||| (own_row (0 : Int32) (1 : Int32) vrw vpl vrb vix vrs vps vq)) ||| (own_row (0 : Int32) (2 : Int32) vrw vpl vrb vix vrs vps vq)) ||| (own_row (0 : Int32) (3 : Int32) vrw vpl vrb vix vrs vps vq)) ||| (own_row (1 : Int32) (0 : Int32) vrw vpl vrb vix vrs vps vq)) ||| (own_row (1 : Int32) (1 : Int32) vrw vpl vrb vix vrs vps vq)))])) _
    refine XS.iconst X38.here hx rfl (hb hby at_389) ?_
    show Steps p.tables e below (T38.setTop (mkF m 390 #[.val (.int p1), .val (.int p2), .val (.int p3), .val (.int p4), .val (.int p5), .val (.int vrb), .val (.int vrw), .val (.int vpl), .val (.int vrs), .val (.int vps), .val (.int vix), .val (.int vq), .val (.int vv), .val (.int vf), .val (.int vw), .val (.ref b6), .val (.int got), .unset, .unset] [(.int (1 : Int32)), (.int ((((((own_row (0 : Int32) (0 : Int32) vrw vpl vrb vix vrs vps vq) ||| (own_row (0 : Int32) (1 : Int32) vrw vpl vrb vix vrs vps vq)) ||| (own_row (0 : Int32) (2 : Int32) vrw vpl vrb vix vrs vps vq)) ||| (own_row (0 : Int32) (3 : Int32) vrw vpl vrb vix vrs vps vq)) ||| (own_row (1 : Int32) (0 : Int32) vrw vpl vrb vix vrs vps vq)) ||| (own_row (1 : Int32) (1 : Int32) vrw vpl vrb vix vrs vps vq)))])) _
    refine XS.iconst X38.here hx rfl (hb hby at_390) ?_
    show Steps p.tables e below (T38.setTop (mkF m 391 #[.val (.int p1), .val (.int p2), .val (.int p3), .val (.int p4), .val (.int p5), .val (.int vrb), .val (.int vrw), .val (.int vpl), .val (.int vrs), .val (.int vps), .val (.int vix), .val (.int vq), .val (.int vv), .val (.int vf), .val (.int vw), .val (.ref b6), .val (.int got), .unset, .unset] [(.int (2 : Int32)), (.int (1 : Int32)), (.int ((((((own_row (0 : Int32) (0 : Int32) vrw vpl vrb vix vrs vps vq) ||| (own_row (0 : Int32) (1 : Int32) vrw vpl vrb vix vrs vps vq)) ||| (own_row (0 : Int32) (2 : Int32) vrw vpl vrb vix vrs vps vq)) ||| (own_row (0 : Int32) (3 : Int32) vrw vpl vrb vix vrs vps vq)) ||| (own_row (1 : Int32) (0 : Int32) vrw vpl vrb vix vrs vps vq)) ||| (own_row (1 : Int32) (1 : Int32) vrw vpl vrb vix vrs vps vq)))])) _
    refine XS.iload X38.here hx rfl (hb hby at_391) rfl ?_
    show Steps p.tables e below (T38.setTop (mkF m 393 #[.val (.int p1), .val (.int p2), .val (.int p3), .val (.int p4), .val (.int p5), .val (.int vrb), .val (.int vrw), .val (.int vpl), .val (.int vrs), .val (.int vps), .val (.int vix), .val (.int vq), .val (.int vv), .val (.int vf), .val (.int vw), .val (.ref b6), .val (.int got), .unset, .unset] [(.int vrw), (.int (2 : Int32)), (.int (1 : Int32)), (.int ((((((own_row (0 : Int32) (0 : Int32) vrw vpl vrb vix vrs vps vq) ||| (own_row (0 : Int32) (1 : Int32) vrw vpl vrb vix vrs vps vq)) ||| (own_row (0 : Int32) (2 : Int32) vrw vpl vrb vix vrs vps vq)) ||| (own_row (0 : Int32) (3 : Int32) vrw vpl vrb vix vrs vps vq)) ||| (own_row (1 : Int32) (0 : Int32) vrw vpl vrb vix vrs vps vq)) ||| (own_row (1 : Int32) (1 : Int32) vrw vpl vrb vix vrs vps vq)))])) _
    refine XS.iload X38.here hx rfl (hb hby at_393) rfl ?_
    show Steps p.tables e below (T38.setTop (mkF m 395 #[.val (.int p1), .val (.int p2), .val (.int p3), .val (.int p4), .val (.int p5), .val (.int vrb), .val (.int vrw), .val (.int vpl), .val (.int vrs), .val (.int vps), .val (.int vix), .val (.int vq), .val (.int vv), .val (.int vf), .val (.int vw), .val (.ref b6), .val (.int got), .unset, .unset] [(.int vpl), (.int vrw), (.int (2 : Int32)), (.int (1 : Int32)), (.int ((((((own_row (0 : Int32) (0 : Int32) vrw vpl vrb vix vrs vps vq) ||| (own_row (0 : Int32) (1 : Int32) vrw vpl vrb vix vrs vps vq)) ||| (own_row (0 : Int32) (2 : Int32) vrw vpl vrb vix vrs vps vq)) ||| (own_row (0 : Int32) (3 : Int32) vrw vpl vrb vix vrs vps vq)) ||| (own_row (1 : Int32) (0 : Int32) vrw vpl vrb vix vrs vps vq)) ||| (own_row (1 : Int32) (1 : Int32) vrw vpl vrb vix vrs vps vq)))])) _
    refine XS.iload X38.here hx rfl (hb hby at_395) rfl ?_
    show Steps p.tables e below (T38.setTop (mkF m 397 #[.val (.int p1), .val (.int p2), .val (.int p3), .val (.int p4), .val (.int p5), .val (.int vrb), .val (.int vrw), .val (.int vpl), .val (.int vrs), .val (.int vps), .val (.int vix), .val (.int vq), .val (.int vv), .val (.int vf), .val (.int vw), .val (.ref b6), .val (.int got), .unset, .unset] [(.int vrb), (.int vpl), (.int vrw), (.int (2 : Int32)), (.int (1 : Int32)), (.int ((((((own_row (0 : Int32) (0 : Int32) vrw vpl vrb vix vrs vps vq) ||| (own_row (0 : Int32) (1 : Int32) vrw vpl vrb vix vrs vps vq)) ||| (own_row (0 : Int32) (2 : Int32) vrw vpl vrb vix vrs vps vq)) ||| (own_row (0 : Int32) (3 : Int32) vrw vpl vrb vix vrs vps vq)) ||| (own_row (1 : Int32) (0 : Int32) vrw vpl vrb vix vrs vps vq)) ||| (own_row (1 : Int32) (1 : Int32) vrw vpl vrb vix vrs vps vq)))])) _
    refine XS.iload X38.here hx rfl (hb hby at_397) rfl ?_
    show Steps p.tables e below (T38.setTop (mkF m 399 #[.val (.int p1), .val (.int p2), .val (.int p3), .val (.int p4), .val (.int p5), .val (.int vrb), .val (.int vrw), .val (.int vpl), .val (.int vrs), .val (.int vps), .val (.int vix), .val (.int vq), .val (.int vv), .val (.int vf), .val (.int vw), .val (.ref b6), .val (.int got), .unset, .unset] [(.int vix), (.int vrb), (.int vpl), (.int vrw), (.int (2 : Int32)), (.int (1 : Int32)), (.int ((((((own_row (0 : Int32) (0 : Int32) vrw vpl vrb vix vrs vps vq) ||| (own_row (0 : Int32) (1 : Int32) vrw vpl vrb vix vrs vps vq)) ||| (own_row (0 : Int32) (2 : Int32) vrw vpl vrb vix vrs vps vq)) ||| (own_row (0 : Int32) (3 : Int32) vrw vpl vrb vix vrs vps vq)) ||| (own_row (1 : Int32) (0 : Int32) vrw vpl vrb vix vrs vps vq)) ||| (own_row (1 : Int32) (1 : Int32) vrw vpl vrb vix vrs vps vq)))])) _
    refine XS.iload X38.here hx rfl (hb hby at_399) rfl ?_
    show Steps p.tables e below (T38.setTop (mkF m 401 #[.val (.int p1), .val (.int p2), .val (.int p3), .val (.int p4), .val (.int p5), .val (.int vrb), .val (.int vrw), .val (.int vpl), .val (.int vrs), .val (.int vps), .val (.int vix), .val (.int vq), .val (.int vv), .val (.int vf), .val (.int vw), .val (.ref b6), .val (.int got), .unset, .unset] [(.int vrs), (.int vix), (.int vrb), (.int vpl), (.int vrw), (.int (2 : Int32)), (.int (1 : Int32)), (.int ((((((own_row (0 : Int32) (0 : Int32) vrw vpl vrb vix vrs vps vq) ||| (own_row (0 : Int32) (1 : Int32) vrw vpl vrb vix vrs vps vq)) ||| (own_row (0 : Int32) (2 : Int32) vrw vpl vrb vix vrs vps vq)) ||| (own_row (0 : Int32) (3 : Int32) vrw vpl vrb vix vrs vps vq)) ||| (own_row (1 : Int32) (0 : Int32) vrw vpl vrb vix vrs vps vq)) ||| (own_row (1 : Int32) (1 : Int32) vrw vpl vrb vix vrs vps vq)))])) _
    refine XS.iload X38.here hx rfl (hb hby at_401) rfl ?_
    show Steps p.tables e below (T38.setTop (mkF m 403 #[.val (.int p1), .val (.int p2), .val (.int p3), .val (.int p4), .val (.int p5), .val (.int vrb), .val (.int vrw), .val (.int vpl), .val (.int vrs), .val (.int vps), .val (.int vix), .val (.int vq), .val (.int vv), .val (.int vf), .val (.int vw), .val (.ref b6), .val (.int got), .unset, .unset] [(.int vps), (.int vrs), (.int vix), (.int vrb), (.int vpl), (.int vrw), (.int (2 : Int32)), (.int (1 : Int32)), (.int ((((((own_row (0 : Int32) (0 : Int32) vrw vpl vrb vix vrs vps vq) ||| (own_row (0 : Int32) (1 : Int32) vrw vpl vrb vix vrs vps vq)) ||| (own_row (0 : Int32) (2 : Int32) vrw vpl vrb vix vrs vps vq)) ||| (own_row (0 : Int32) (3 : Int32) vrw vpl vrb vix vrs vps vq)) ||| (own_row (1 : Int32) (0 : Int32) vrw vpl vrb vix vrs vps vq)) ||| (own_row (1 : Int32) (1 : Int32) vrw vpl vrb vix vrs vps vq)))])) _
    refine XS.iload X38.here hx rfl (hb hby at_403) rfl ?_
    show Steps p.tables e below (T38.setTop (mkF m 405 #[.val (.int p1), .val (.int p2), .val (.int p3), .val (.int p4), .val (.int p5), .val (.int vrb), .val (.int vrw), .val (.int vpl), .val (.int vrs), .val (.int vps), .val (.int vix), .val (.int vq), .val (.int vv), .val (.int vf), .val (.int vw), .val (.ref b6), .val (.int got), .unset, .unset] [(.int vq), (.int vps), (.int vrs), (.int vix), (.int vrb), (.int vpl), (.int vrw), (.int (2 : Int32)), (.int (1 : Int32)), (.int ((((((own_row (0 : Int32) (0 : Int32) vrw vpl vrb vix vrs vps vq) ||| (own_row (0 : Int32) (1 : Int32) vrw vpl vrb vix vrs vps vq)) ||| (own_row (0 : Int32) (2 : Int32) vrw vpl vrb vix vrs vps vq)) ||| (own_row (0 : Int32) (3 : Int32) vrw vpl vrb vix vrs vps vq)) ||| (own_row (1 : Int32) (0 : Int32) vrw vpl vrb vix vrs vps vq)) ||| (own_row (1 : Int32) (1 : Int32) vrw vpl vrb vix vrs vps vq)))])) _
    refine st39 _ ?_
    show Steps p.tables e below (T39.setTop (mkF m 408 #[.val (.int p1), .val (.int p2), .val (.int p3), .val (.int p4), .val (.int p5), .val (.int vrb), .val (.int vrw), .val (.int vpl), .val (.int vrs), .val (.int vps), .val (.int vix), .val (.int vq), .val (.int vv), .val (.int vf), .val (.int vw), .val (.ref b6), .val (.int got), .unset, .unset] [(.int (own_row (1 : Int32) (2 : Int32) vrw vpl vrb vix vrs vps vq)), (.int ((((((own_row (0 : Int32) (0 : Int32) vrw vpl vrb vix vrs vps vq) ||| (own_row (0 : Int32) (1 : Int32) vrw vpl vrb vix vrs vps vq)) ||| (own_row (0 : Int32) (2 : Int32) vrw vpl vrb vix vrs vps vq)) ||| (own_row (0 : Int32) (3 : Int32) vrw vpl vrb vix vrs vps vq)) ||| (own_row (1 : Int32) (0 : Int32) vrw vpl vrb vix vrs vps vq)) ||| (own_row (1 : Int32) (1 : Int32) vrw vpl vrb vix vrs vps vq)))])) _
    refine XS.ior X39.here hx rfl (hb hby at_408) rfl ?_
    show Steps p.tables e below (T39.setTop (mkF m 409 #[.val (.int p1), .val (.int p2), .val (.int p3), .val (.int p4), .val (.int p5), .val (.int vrb), .val (.int vrw), .val (.int vpl), .val (.int vrs), .val (.int vps), .val (.int vix), .val (.int vq), .val (.int vv), .val (.int vf), .val (.int vw), .val (.ref b6), .val (.int got), .unset, .unset] [(.int (((((((own_row (0 : Int32) (0 : Int32) vrw vpl vrb vix vrs vps vq) ||| (own_row (0 : Int32) (1 : Int32) vrw vpl vrb vix vrs vps vq)) ||| (own_row (0 : Int32) (2 : Int32) vrw vpl vrb vix vrs vps vq)) ||| (own_row (0 : Int32) (3 : Int32) vrw vpl vrb vix vrs vps vq)) ||| (own_row (1 : Int32) (0 : Int32) vrw vpl vrb vix vrs vps vq)) ||| (own_row (1 : Int32) (1 : Int32) vrw vpl vrb vix vrs vps vq)) ||| (own_row (1 : Int32) (2 : Int32) vrw vpl vrb vix vrs vps vq)))])) _
    refine XS.iconst X39.here hx rfl (hb hby at_409) ?_
    show Steps p.tables e below (T39.setTop (mkF m 410 #[.val (.int p1), .val (.int p2), .val (.int p3), .val (.int p4), .val (.int p5), .val (.int vrb), .val (.int vrw), .val (.int vpl), .val (.int vrs), .val (.int vps), .val (.int vix), .val (.int vq), .val (.int vv), .val (.int vf), .val (.int vw), .val (.ref b6), .val (.int got), .unset, .unset] [(.int (1 : Int32)), (.int (((((((own_row (0 : Int32) (0 : Int32) vrw vpl vrb vix vrs vps vq) ||| (own_row (0 : Int32) (1 : Int32) vrw vpl vrb vix vrs vps vq)) ||| (own_row (0 : Int32) (2 : Int32) vrw vpl vrb vix vrs vps vq)) ||| (own_row (0 : Int32) (3 : Int32) vrw vpl vrb vix vrs vps vq)) ||| (own_row (1 : Int32) (0 : Int32) vrw vpl vrb vix vrs vps vq)) ||| (own_row (1 : Int32) (1 : Int32) vrw vpl vrb vix vrs vps vq)) ||| (own_row (1 : Int32) (2 : Int32) vrw vpl vrb vix vrs vps vq)))])) _
    refine XS.iconst X39.here hx rfl (hb hby at_410) ?_
    show Steps p.tables e below (T39.setTop (mkF m 411 #[.val (.int p1), .val (.int p2), .val (.int p3), .val (.int p4), .val (.int p5), .val (.int vrb), .val (.int vrw), .val (.int vpl), .val (.int vrs), .val (.int vps), .val (.int vix), .val (.int vq), .val (.int vv), .val (.int vf), .val (.int vw), .val (.ref b6), .val (.int got), .unset, .unset] [(.int (3 : Int32)), (.int (1 : Int32)), (.int (((((((own_row (0 : Int32) (0 : Int32) vrw vpl vrb vix vrs vps vq) ||| (own_row (0 : Int32) (1 : Int32) vrw vpl vrb vix vrs vps vq)) ||| (own_row (0 : Int32) (2 : Int32) vrw vpl vrb vix vrs vps vq)) ||| (own_row (0 : Int32) (3 : Int32) vrw vpl vrb vix vrs vps vq)) ||| (own_row (1 : Int32) (0 : Int32) vrw vpl vrb vix vrs vps vq)) ||| (own_row (1 : Int32) (1 : Int32) vrw vpl vrb vix vrs vps vq)) ||| (own_row (1 : Int32) (2 : Int32) vrw vpl vrb vix vrs vps vq)))])) _
    refine XS.iload X39.here hx rfl (hb hby at_411) rfl ?_
    show Steps p.tables e below (T39.setTop (mkF m 413 #[.val (.int p1), .val (.int p2), .val (.int p3), .val (.int p4), .val (.int p5), .val (.int vrb), .val (.int vrw), .val (.int vpl), .val (.int vrs), .val (.int vps), .val (.int vix), .val (.int vq), .val (.int vv), .val (.int vf), .val (.int vw), .val (.ref b6), .val (.int got), .unset, .unset] [(.int vrw), (.int (3 : Int32)), (.int (1 : Int32)), (.int (((((((own_row (0 : Int32) (0 : Int32) vrw vpl vrb vix vrs vps vq) ||| (own_row (0 : Int32) (1 : Int32) vrw vpl vrb vix vrs vps vq)) ||| (own_row (0 : Int32) (2 : Int32) vrw vpl vrb vix vrs vps vq)) ||| (own_row (0 : Int32) (3 : Int32) vrw vpl vrb vix vrs vps vq)) ||| (own_row (1 : Int32) (0 : Int32) vrw vpl vrb vix vrs vps vq)) ||| (own_row (1 : Int32) (1 : Int32) vrw vpl vrb vix vrs vps vq)) ||| (own_row (1 : Int32) (2 : Int32) vrw vpl vrb vix vrs vps vq)))])) _
    refine XS.iload X39.here hx rfl (hb hby at_413) rfl ?_
    show Steps p.tables e below (T39.setTop (mkF m 415 #[.val (.int p1), .val (.int p2), .val (.int p3), .val (.int p4), .val (.int p5), .val (.int vrb), .val (.int vrw), .val (.int vpl), .val (.int vrs), .val (.int vps), .val (.int vix), .val (.int vq), .val (.int vv), .val (.int vf), .val (.int vw), .val (.ref b6), .val (.int got), .unset, .unset] [(.int vpl), (.int vrw), (.int (3 : Int32)), (.int (1 : Int32)), (.int (((((((own_row (0 : Int32) (0 : Int32) vrw vpl vrb vix vrs vps vq) ||| (own_row (0 : Int32) (1 : Int32) vrw vpl vrb vix vrs vps vq)) ||| (own_row (0 : Int32) (2 : Int32) vrw vpl vrb vix vrs vps vq)) ||| (own_row (0 : Int32) (3 : Int32) vrw vpl vrb vix vrs vps vq)) ||| (own_row (1 : Int32) (0 : Int32) vrw vpl vrb vix vrs vps vq)) ||| (own_row (1 : Int32) (1 : Int32) vrw vpl vrb vix vrs vps vq)) ||| (own_row (1 : Int32) (2 : Int32) vrw vpl vrb vix vrs vps vq)))])) _
    refine XS.iload X39.here hx rfl (hb hby at_415) rfl ?_
    show Steps p.tables e below (T39.setTop (mkF m 417 #[.val (.int p1), .val (.int p2), .val (.int p3), .val (.int p4), .val (.int p5), .val (.int vrb), .val (.int vrw), .val (.int vpl), .val (.int vrs), .val (.int vps), .val (.int vix), .val (.int vq), .val (.int vv), .val (.int vf), .val (.int vw), .val (.ref b6), .val (.int got), .unset, .unset] [(.int vrb), (.int vpl), (.int vrw), (.int (3 : Int32)), (.int (1 : Int32)), (.int (((((((own_row (0 : Int32) (0 : Int32) vrw vpl vrb vix vrs vps vq) ||| (own_row (0 : Int32) (1 : Int32) vrw vpl vrb vix vrs vps vq)) ||| (own_row (0 : Int32) (2 : Int32) vrw vpl vrb vix vrs vps vq)) ||| (own_row (0 : Int32) (3 : Int32) vrw vpl vrb vix vrs vps vq)) ||| (own_row (1 : Int32) (0 : Int32) vrw vpl vrb vix vrs vps vq)) ||| (own_row (1 : Int32) (1 : Int32) vrw vpl vrb vix vrs vps vq)) ||| (own_row (1 : Int32) (2 : Int32) vrw vpl vrb vix vrs vps vq)))])) _
    refine XS.iload X39.here hx rfl (hb hby at_417) rfl ?_
    show Steps p.tables e below (T39.setTop (mkF m 419 #[.val (.int p1), .val (.int p2), .val (.int p3), .val (.int p4), .val (.int p5), .val (.int vrb), .val (.int vrw), .val (.int vpl), .val (.int vrs), .val (.int vps), .val (.int vix), .val (.int vq), .val (.int vv), .val (.int vf), .val (.int vw), .val (.ref b6), .val (.int got), .unset, .unset] [(.int vix), (.int vrb), (.int vpl), (.int vrw), (.int (3 : Int32)), (.int (1 : Int32)), (.int (((((((own_row (0 : Int32) (0 : Int32) vrw vpl vrb vix vrs vps vq) ||| (own_row (0 : Int32) (1 : Int32) vrw vpl vrb vix vrs vps vq)) ||| (own_row (0 : Int32) (2 : Int32) vrw vpl vrb vix vrs vps vq)) ||| (own_row (0 : Int32) (3 : Int32) vrw vpl vrb vix vrs vps vq)) ||| (own_row (1 : Int32) (0 : Int32) vrw vpl vrb vix vrs vps vq)) ||| (own_row (1 : Int32) (1 : Int32) vrw vpl vrb vix vrs vps vq)) ||| (own_row (1 : Int32) (2 : Int32) vrw vpl vrb vix vrs vps vq)))])) _
    refine XS.iload X39.here hx rfl (hb hby at_419) rfl ?_
    show Steps p.tables e below (T39.setTop (mkF m 421 #[.val (.int p1), .val (.int p2), .val (.int p3), .val (.int p4), .val (.int p5), .val (.int vrb), .val (.int vrw), .val (.int vpl), .val (.int vrs), .val (.int vps), .val (.int vix), .val (.int vq), .val (.int vv), .val (.int vf), .val (.int vw), .val (.ref b6), .val (.int got), .unset, .unset] [(.int vrs), (.int vix), (.int vrb), (.int vpl), (.int vrw), (.int (3 : Int32)), (.int (1 : Int32)), (.int (((((((own_row (0 : Int32) (0 : Int32) vrw vpl vrb vix vrs vps vq) ||| (own_row (0 : Int32) (1 : Int32) vrw vpl vrb vix vrs vps vq)) ||| (own_row (0 : Int32) (2 : Int32) vrw vpl vrb vix vrs vps vq)) ||| (own_row (0 : Int32) (3 : Int32) vrw vpl vrb vix vrs vps vq)) ||| (own_row (1 : Int32) (0 : Int32) vrw vpl vrb vix vrs vps vq)) ||| (own_row (1 : Int32) (1 : Int32) vrw vpl vrb vix vrs vps vq)) ||| (own_row (1 : Int32) (2 : Int32) vrw vpl vrb vix vrs vps vq)))])) _
    refine XS.iload X39.here hx rfl (hb hby at_421) rfl ?_
    show Steps p.tables e below (T39.setTop (mkF m 423 #[.val (.int p1), .val (.int p2), .val (.int p3), .val (.int p4), .val (.int p5), .val (.int vrb), .val (.int vrw), .val (.int vpl), .val (.int vrs), .val (.int vps), .val (.int vix), .val (.int vq), .val (.int vv), .val (.int vf), .val (.int vw), .val (.ref b6), .val (.int got), .unset, .unset] [(.int vps), (.int vrs), (.int vix), (.int vrb), (.int vpl), (.int vrw), (.int (3 : Int32)), (.int (1 : Int32)), (.int (((((((own_row (0 : Int32) (0 : Int32) vrw vpl vrb vix vrs vps vq) ||| (own_row (0 : Int32) (1 : Int32) vrw vpl vrb vix vrs vps vq)) ||| (own_row (0 : Int32) (2 : Int32) vrw vpl vrb vix vrs vps vq)) ||| (own_row (0 : Int32) (3 : Int32) vrw vpl vrb vix vrs vps vq)) ||| (own_row (1 : Int32) (0 : Int32) vrw vpl vrb vix vrs vps vq)) ||| (own_row (1 : Int32) (1 : Int32) vrw vpl vrb vix vrs vps vq)) ||| (own_row (1 : Int32) (2 : Int32) vrw vpl vrb vix vrs vps vq)))])) _
    refine XS.iload X39.here hx rfl (hb hby at_423) rfl ?_
    show Steps p.tables e below (T39.setTop (mkF m 425 #[.val (.int p1), .val (.int p2), .val (.int p3), .val (.int p4), .val (.int p5), .val (.int vrb), .val (.int vrw), .val (.int vpl), .val (.int vrs), .val (.int vps), .val (.int vix), .val (.int vq), .val (.int vv), .val (.int vf), .val (.int vw), .val (.ref b6), .val (.int got), .unset, .unset] [(.int vq), (.int vps), (.int vrs), (.int vix), (.int vrb), (.int vpl), (.int vrw), (.int (3 : Int32)), (.int (1 : Int32)), (.int (((((((own_row (0 : Int32) (0 : Int32) vrw vpl vrb vix vrs vps vq) ||| (own_row (0 : Int32) (1 : Int32) vrw vpl vrb vix vrs vps vq)) ||| (own_row (0 : Int32) (2 : Int32) vrw vpl vrb vix vrs vps vq)) ||| (own_row (0 : Int32) (3 : Int32) vrw vpl vrb vix vrs vps vq)) ||| (own_row (1 : Int32) (0 : Int32) vrw vpl vrb vix vrs vps vq)) ||| (own_row (1 : Int32) (1 : Int32) vrw vpl vrb vix vrs vps vq)) ||| (own_row (1 : Int32) (2 : Int32) vrw vpl vrb vix vrs vps vq)))])) _
    refine st40 _ ?_
    show Steps p.tables e below (T40.setTop (mkF m 428 #[.val (.int p1), .val (.int p2), .val (.int p3), .val (.int p4), .val (.int p5), .val (.int vrb), .val (.int vrw), .val (.int vpl), .val (.int vrs), .val (.int vps), .val (.int vix), .val (.int vq), .val (.int vv), .val (.int vf), .val (.int vw), .val (.ref b6), .val (.int got), .unset, .unset] [(.int (own_row (1 : Int32) (3 : Int32) vrw vpl vrb vix vrs vps vq)), (.int (((((((own_row (0 : Int32) (0 : Int32) vrw vpl vrb vix vrs vps vq) ||| (own_row (0 : Int32) (1 : Int32) vrw vpl vrb vix vrs vps vq)) ||| (own_row (0 : Int32) (2 : Int32) vrw vpl vrb vix vrs vps vq)) ||| (own_row (0 : Int32) (3 : Int32) vrw vpl vrb vix vrs vps vq)) ||| (own_row (1 : Int32) (0 : Int32) vrw vpl vrb vix vrs vps vq)) ||| (own_row (1 : Int32) (1 : Int32) vrw vpl vrb vix vrs vps vq)) ||| (own_row (1 : Int32) (2 : Int32) vrw vpl vrb vix vrs vps vq)))])) _
    refine XS.ior X40.here hx rfl (hb hby at_428) rfl ?_
    show Steps p.tables e below (T40.setTop (mkF m 429 #[.val (.int p1), .val (.int p2), .val (.int p3), .val (.int p4), .val (.int p5), .val (.int vrb), .val (.int vrw), .val (.int vpl), .val (.int vrs), .val (.int vps), .val (.int vix), .val (.int vq), .val (.int vv), .val (.int vf), .val (.int vw), .val (.ref b6), .val (.int got), .unset, .unset] [(.int ((((((((own_row (0 : Int32) (0 : Int32) vrw vpl vrb vix vrs vps vq) ||| (own_row (0 : Int32) (1 : Int32) vrw vpl vrb vix vrs vps vq)) ||| (own_row (0 : Int32) (2 : Int32) vrw vpl vrb vix vrs vps vq)) ||| (own_row (0 : Int32) (3 : Int32) vrw vpl vrb vix vrs vps vq)) ||| (own_row (1 : Int32) (0 : Int32) vrw vpl vrb vix vrs vps vq)) ||| (own_row (1 : Int32) (1 : Int32) vrw vpl vrb vix vrs vps vq)) ||| (own_row (1 : Int32) (2 : Int32) vrw vpl vrb vix vrs vps vq)) ||| (own_row (1 : Int32) (3 : Int32) vrw vpl vrb vix vrs vps vq)))])) _
    refine XS.iconst X40.here hx rfl (hb hby at_429) ?_
    show Steps p.tables e below (T40.setTop (mkF m 430 #[.val (.int p1), .val (.int p2), .val (.int p3), .val (.int p4), .val (.int p5), .val (.int vrb), .val (.int vrw), .val (.int vpl), .val (.int vrs), .val (.int vps), .val (.int vix), .val (.int vq), .val (.int vv), .val (.int vf), .val (.int vw), .val (.ref b6), .val (.int got), .unset, .unset] [(.int (2 : Int32)), (.int ((((((((own_row (0 : Int32) (0 : Int32) vrw vpl vrb vix vrs vps vq) ||| (own_row (0 : Int32) (1 : Int32) vrw vpl vrb vix vrs vps vq)) ||| (own_row (0 : Int32) (2 : Int32) vrw vpl vrb vix vrs vps vq)) ||| (own_row (0 : Int32) (3 : Int32) vrw vpl vrb vix vrs vps vq)) ||| (own_row (1 : Int32) (0 : Int32) vrw vpl vrb vix vrs vps vq)) ||| (own_row (1 : Int32) (1 : Int32) vrw vpl vrb vix vrs vps vq)) ||| (own_row (1 : Int32) (2 : Int32) vrw vpl vrb vix vrs vps vq)) ||| (own_row (1 : Int32) (3 : Int32) vrw vpl vrb vix vrs vps vq)))])) _
    refine XS.iconst X40.here hx rfl (hb hby at_430) ?_
    show Steps p.tables e below (T40.setTop (mkF m 431 #[.val (.int p1), .val (.int p2), .val (.int p3), .val (.int p4), .val (.int p5), .val (.int vrb), .val (.int vrw), .val (.int vpl), .val (.int vrs), .val (.int vps), .val (.int vix), .val (.int vq), .val (.int vv), .val (.int vf), .val (.int vw), .val (.ref b6), .val (.int got), .unset, .unset] [(.int (0 : Int32)), (.int (2 : Int32)), (.int ((((((((own_row (0 : Int32) (0 : Int32) vrw vpl vrb vix vrs vps vq) ||| (own_row (0 : Int32) (1 : Int32) vrw vpl vrb vix vrs vps vq)) ||| (own_row (0 : Int32) (2 : Int32) vrw vpl vrb vix vrs vps vq)) ||| (own_row (0 : Int32) (3 : Int32) vrw vpl vrb vix vrs vps vq)) ||| (own_row (1 : Int32) (0 : Int32) vrw vpl vrb vix vrs vps vq)) ||| (own_row (1 : Int32) (1 : Int32) vrw vpl vrb vix vrs vps vq)) ||| (own_row (1 : Int32) (2 : Int32) vrw vpl vrb vix vrs vps vq)) ||| (own_row (1 : Int32) (3 : Int32) vrw vpl vrb vix vrs vps vq)))])) _
    refine XS.iload X40.here hx rfl (hb hby at_431) rfl ?_
    show Steps p.tables e below (T40.setTop (mkF m 433 #[.val (.int p1), .val (.int p2), .val (.int p3), .val (.int p4), .val (.int p5), .val (.int vrb), .val (.int vrw), .val (.int vpl), .val (.int vrs), .val (.int vps), .val (.int vix), .val (.int vq), .val (.int vv), .val (.int vf), .val (.int vw), .val (.ref b6), .val (.int got), .unset, .unset] [(.int vrw), (.int (0 : Int32)), (.int (2 : Int32)), (.int ((((((((own_row (0 : Int32) (0 : Int32) vrw vpl vrb vix vrs vps vq) ||| (own_row (0 : Int32) (1 : Int32) vrw vpl vrb vix vrs vps vq)) ||| (own_row (0 : Int32) (2 : Int32) vrw vpl vrb vix vrs vps vq)) ||| (own_row (0 : Int32) (3 : Int32) vrw vpl vrb vix vrs vps vq)) ||| (own_row (1 : Int32) (0 : Int32) vrw vpl vrb vix vrs vps vq)) ||| (own_row (1 : Int32) (1 : Int32) vrw vpl vrb vix vrs vps vq)) ||| (own_row (1 : Int32) (2 : Int32) vrw vpl vrb vix vrs vps vq)) ||| (own_row (1 : Int32) (3 : Int32) vrw vpl vrb vix vrs vps vq)))])) _
    refine XS.iload X40.here hx rfl (hb hby at_433) rfl ?_
    show Steps p.tables e below (T40.setTop (mkF m 435 #[.val (.int p1), .val (.int p2), .val (.int p3), .val (.int p4), .val (.int p5), .val (.int vrb), .val (.int vrw), .val (.int vpl), .val (.int vrs), .val (.int vps), .val (.int vix), .val (.int vq), .val (.int vv), .val (.int vf), .val (.int vw), .val (.ref b6), .val (.int got), .unset, .unset] [(.int vpl), (.int vrw), (.int (0 : Int32)), (.int (2 : Int32)), (.int ((((((((own_row (0 : Int32) (0 : Int32) vrw vpl vrb vix vrs vps vq) ||| (own_row (0 : Int32) (1 : Int32) vrw vpl vrb vix vrs vps vq)) ||| (own_row (0 : Int32) (2 : Int32) vrw vpl vrb vix vrs vps vq)) ||| (own_row (0 : Int32) (3 : Int32) vrw vpl vrb vix vrs vps vq)) ||| (own_row (1 : Int32) (0 : Int32) vrw vpl vrb vix vrs vps vq)) ||| (own_row (1 : Int32) (1 : Int32) vrw vpl vrb vix vrs vps vq)) ||| (own_row (1 : Int32) (2 : Int32) vrw vpl vrb vix vrs vps vq)) ||| (own_row (1 : Int32) (3 : Int32) vrw vpl vrb vix vrs vps vq)))])) _
    refine XS.iload X40.here hx rfl (hb hby at_435) rfl ?_
    show Steps p.tables e below (T40.setTop (mkF m 437 #[.val (.int p1), .val (.int p2), .val (.int p3), .val (.int p4), .val (.int p5), .val (.int vrb), .val (.int vrw), .val (.int vpl), .val (.int vrs), .val (.int vps), .val (.int vix), .val (.int vq), .val (.int vv), .val (.int vf), .val (.int vw), .val (.ref b6), .val (.int got), .unset, .unset] [(.int vrb), (.int vpl), (.int vrw), (.int (0 : Int32)), (.int (2 : Int32)), (.int ((((((((own_row (0 : Int32) (0 : Int32) vrw vpl vrb vix vrs vps vq) ||| (own_row (0 : Int32) (1 : Int32) vrw vpl vrb vix vrs vps vq)) ||| (own_row (0 : Int32) (2 : Int32) vrw vpl vrb vix vrs vps vq)) ||| (own_row (0 : Int32) (3 : Int32) vrw vpl vrb vix vrs vps vq)) ||| (own_row (1 : Int32) (0 : Int32) vrw vpl vrb vix vrs vps vq)) ||| (own_row (1 : Int32) (1 : Int32) vrw vpl vrb vix vrs vps vq)) ||| (own_row (1 : Int32) (2 : Int32) vrw vpl vrb vix vrs vps vq)) ||| (own_row (1 : Int32) (3 : Int32) vrw vpl vrb vix vrs vps vq)))])) _
    refine XS.iload X40.here hx rfl (hb hby at_437) rfl ?_
    show Steps p.tables e below (T40.setTop (mkF m 439 #[.val (.int p1), .val (.int p2), .val (.int p3), .val (.int p4), .val (.int p5), .val (.int vrb), .val (.int vrw), .val (.int vpl), .val (.int vrs), .val (.int vps), .val (.int vix), .val (.int vq), .val (.int vv), .val (.int vf), .val (.int vw), .val (.ref b6), .val (.int got), .unset, .unset] [(.int vix), (.int vrb), (.int vpl), (.int vrw), (.int (0 : Int32)), (.int (2 : Int32)), (.int ((((((((own_row (0 : Int32) (0 : Int32) vrw vpl vrb vix vrs vps vq) ||| (own_row (0 : Int32) (1 : Int32) vrw vpl vrb vix vrs vps vq)) ||| (own_row (0 : Int32) (2 : Int32) vrw vpl vrb vix vrs vps vq)) ||| (own_row (0 : Int32) (3 : Int32) vrw vpl vrb vix vrs vps vq)) ||| (own_row (1 : Int32) (0 : Int32) vrw vpl vrb vix vrs vps vq)) ||| (own_row (1 : Int32) (1 : Int32) vrw vpl vrb vix vrs vps vq)) ||| (own_row (1 : Int32) (2 : Int32) vrw vpl vrb vix vrs vps vq)) ||| (own_row (1 : Int32) (3 : Int32) vrw vpl vrb vix vrs vps vq)))])) _
    refine XS.iload X40.here hx rfl (hb hby at_439) rfl ?_
    show Steps p.tables e below (T40.setTop (mkF m 441 #[.val (.int p1), .val (.int p2), .val (.int p3), .val (.int p4), .val (.int p5), .val (.int vrb), .val (.int vrw), .val (.int vpl), .val (.int vrs), .val (.int vps), .val (.int vix), .val (.int vq), .val (.int vv), .val (.int vf), .val (.int vw), .val (.ref b6), .val (.int got), .unset, .unset] [(.int vrs), (.int vix), (.int vrb), (.int vpl), (.int vrw), (.int (0 : Int32)), (.int (2 : Int32)), (.int ((((((((own_row (0 : Int32) (0 : Int32) vrw vpl vrb vix vrs vps vq) ||| (own_row (0 : Int32) (1 : Int32) vrw vpl vrb vix vrs vps vq)) ||| (own_row (0 : Int32) (2 : Int32) vrw vpl vrb vix vrs vps vq)) ||| (own_row (0 : Int32) (3 : Int32) vrw vpl vrb vix vrs vps vq)) ||| (own_row (1 : Int32) (0 : Int32) vrw vpl vrb vix vrs vps vq)) ||| (own_row (1 : Int32) (1 : Int32) vrw vpl vrb vix vrs vps vq)) ||| (own_row (1 : Int32) (2 : Int32) vrw vpl vrb vix vrs vps vq)) ||| (own_row (1 : Int32) (3 : Int32) vrw vpl vrb vix vrs vps vq)))])) _
    refine XS.iload X40.here hx rfl (hb hby at_441) rfl ?_
    show Steps p.tables e below (T40.setTop (mkF m 443 #[.val (.int p1), .val (.int p2), .val (.int p3), .val (.int p4), .val (.int p5), .val (.int vrb), .val (.int vrw), .val (.int vpl), .val (.int vrs), .val (.int vps), .val (.int vix), .val (.int vq), .val (.int vv), .val (.int vf), .val (.int vw), .val (.ref b6), .val (.int got), .unset, .unset] [(.int vps), (.int vrs), (.int vix), (.int vrb), (.int vpl), (.int vrw), (.int (0 : Int32)), (.int (2 : Int32)), (.int ((((((((own_row (0 : Int32) (0 : Int32) vrw vpl vrb vix vrs vps vq) ||| (own_row (0 : Int32) (1 : Int32) vrw vpl vrb vix vrs vps vq)) ||| (own_row (0 : Int32) (2 : Int32) vrw vpl vrb vix vrs vps vq)) ||| (own_row (0 : Int32) (3 : Int32) vrw vpl vrb vix vrs vps vq)) ||| (own_row (1 : Int32) (0 : Int32) vrw vpl vrb vix vrs vps vq)) ||| (own_row (1 : Int32) (1 : Int32) vrw vpl vrb vix vrs vps vq)) ||| (own_row (1 : Int32) (2 : Int32) vrw vpl vrb vix vrs vps vq)) ||| (own_row (1 : Int32) (3 : Int32) vrw vpl vrb vix vrs vps vq)))])) _
    refine XS.iload X40.here hx rfl (hb hby at_443) rfl ?_
    show Steps p.tables e below (T40.setTop (mkF m 445 #[.val (.int p1), .val (.int p2), .val (.int p3), .val (.int p4), .val (.int p5), .val (.int vrb), .val (.int vrw), .val (.int vpl), .val (.int vrs), .val (.int vps), .val (.int vix), .val (.int vq), .val (.int vv), .val (.int vf), .val (.int vw), .val (.ref b6), .val (.int got), .unset, .unset] [(.int vq), (.int vps), (.int vrs), (.int vix), (.int vrb), (.int vpl), (.int vrw), (.int (0 : Int32)), (.int (2 : Int32)), (.int ((((((((own_row (0 : Int32) (0 : Int32) vrw vpl vrb vix vrs vps vq) ||| (own_row (0 : Int32) (1 : Int32) vrw vpl vrb vix vrs vps vq)) ||| (own_row (0 : Int32) (2 : Int32) vrw vpl vrb vix vrs vps vq)) ||| (own_row (0 : Int32) (3 : Int32) vrw vpl vrb vix vrs vps vq)) ||| (own_row (1 : Int32) (0 : Int32) vrw vpl vrb vix vrs vps vq)) ||| (own_row (1 : Int32) (1 : Int32) vrw vpl vrb vix vrs vps vq)) ||| (own_row (1 : Int32) (2 : Int32) vrw vpl vrb vix vrs vps vq)) ||| (own_row (1 : Int32) (3 : Int32) vrw vpl vrb vix vrs vps vq)))])) _
    refine st41 _ ?_
    show Steps p.tables e below (T41.setTop (mkF m 448 #[.val (.int p1), .val (.int p2), .val (.int p3), .val (.int p4), .val (.int p5), .val (.int vrb), .val (.int vrw), .val (.int vpl), .val (.int vrs), .val (.int vps), .val (.int vix), .val (.int vq), .val (.int vv), .val (.int vf), .val (.int vw), .val (.ref b6), .val (.int got), .unset, .unset] [(.int (own_row (2 : Int32) (0 : Int32) vrw vpl vrb vix vrs vps vq)), (.int ((((((((own_row (0 : Int32) (0 : Int32) vrw vpl vrb vix vrs vps vq) ||| (own_row (0 : Int32) (1 : Int32) vrw vpl vrb vix vrs vps vq)) ||| (own_row (0 : Int32) (2 : Int32) vrw vpl vrb vix vrs vps vq)) ||| (own_row (0 : Int32) (3 : Int32) vrw vpl vrb vix vrs vps vq)) ||| (own_row (1 : Int32) (0 : Int32) vrw vpl vrb vix vrs vps vq)) ||| (own_row (1 : Int32) (1 : Int32) vrw vpl vrb vix vrs vps vq)) ||| (own_row (1 : Int32) (2 : Int32) vrw vpl vrb vix vrs vps vq)) ||| (own_row (1 : Int32) (3 : Int32) vrw vpl vrb vix vrs vps vq)))])) _
    refine XS.ior X41.here hx rfl (hb hby at_448) rfl ?_
    show Steps p.tables e below (T41.setTop (mkF m 449 #[.val (.int p1), .val (.int p2), .val (.int p3), .val (.int p4), .val (.int p5), .val (.int vrb), .val (.int vrw), .val (.int vpl), .val (.int vrs), .val (.int vps), .val (.int vix), .val (.int vq), .val (.int vv), .val (.int vf), .val (.int vw), .val (.ref b6), .val (.int got), .unset, .unset] [(.int (((((((((own_row (0 : Int32) (0 : Int32) vrw vpl vrb vix vrs vps vq) ||| (own_row (0 : Int32) (1 : Int32) vrw vpl vrb vix vrs vps vq)) ||| (own_row (0 : Int32) (2 : Int32) vrw vpl vrb vix vrs vps vq)) ||| (own_row (0 : Int32) (3 : Int32) vrw vpl vrb vix vrs vps vq)) ||| (own_row (1 : Int32) (0 : Int32) vrw vpl vrb vix vrs vps vq)) ||| (own_row (1 : Int32) (1 : Int32) vrw vpl vrb vix vrs vps vq)) ||| (own_row (1 : Int32) (2 : Int32) vrw vpl vrb vix vrs vps vq)) ||| (own_row (1 : Int32) (3 : Int32) vrw vpl vrb vix vrs vps vq)) ||| (own_row (2 : Int32) (0 : Int32) vrw vpl vrb vix vrs vps vq)))])) _
    refine XS.iconst X41.here hx rfl (hb hby at_449) ?_
    show Steps p.tables e below (T41.setTop (mkF m 450 #[.val (.int p1), .val (.int p2), .val (.int p3), .val (.int p4), .val (.int p5), .val (.int vrb), .val (.int vrw), .val (.int vpl), .val (.int vrs), .val (.int vps), .val (.int vix), .val (.int vq), .val (.int vv), .val (.int vf), .val (.int vw), .val (.ref b6), .val (.int got), .unset, .unset] [(.int (2 : Int32)), (.int (((((((((own_row (0 : Int32) (0 : Int32) vrw vpl vrb vix vrs vps vq) ||| (own_row (0 : Int32) (1 : Int32) vrw vpl vrb vix vrs vps vq)) ||| (own_row (0 : Int32) (2 : Int32) vrw vpl vrb vix vrs vps vq)) ||| (own_row (0 : Int32) (3 : Int32) vrw vpl vrb vix vrs vps vq)) ||| (own_row (1 : Int32) (0 : Int32) vrw vpl vrb vix vrs vps vq)) ||| (own_row (1 : Int32) (1 : Int32) vrw vpl vrb vix vrs vps vq)) ||| (own_row (1 : Int32) (2 : Int32) vrw vpl vrb vix vrs vps vq)) ||| (own_row (1 : Int32) (3 : Int32) vrw vpl vrb vix vrs vps vq)) ||| (own_row (2 : Int32) (0 : Int32) vrw vpl vrb vix vrs vps vq)))])) _
    refine XS.iconst X41.here hx rfl (hb hby at_450) ?_
    show Steps p.tables e below (T41.setTop (mkF m 451 #[.val (.int p1), .val (.int p2), .val (.int p3), .val (.int p4), .val (.int p5), .val (.int vrb), .val (.int vrw), .val (.int vpl), .val (.int vrs), .val (.int vps), .val (.int vix), .val (.int vq), .val (.int vv), .val (.int vf), .val (.int vw), .val (.ref b6), .val (.int got), .unset, .unset] [(.int (1 : Int32)), (.int (2 : Int32)), (.int (((((((((own_row (0 : Int32) (0 : Int32) vrw vpl vrb vix vrs vps vq) ||| (own_row (0 : Int32) (1 : Int32) vrw vpl vrb vix vrs vps vq)) ||| (own_row (0 : Int32) (2 : Int32) vrw vpl vrb vix vrs vps vq)) ||| (own_row (0 : Int32) (3 : Int32) vrw vpl vrb vix vrs vps vq)) ||| (own_row (1 : Int32) (0 : Int32) vrw vpl vrb vix vrs vps vq)) ||| (own_row (1 : Int32) (1 : Int32) vrw vpl vrb vix vrs vps vq)) ||| (own_row (1 : Int32) (2 : Int32) vrw vpl vrb vix vrs vps vq)) ||| (own_row (1 : Int32) (3 : Int32) vrw vpl vrb vix vrs vps vq)) ||| (own_row (2 : Int32) (0 : Int32) vrw vpl vrb vix vrs vps vq)))])) _
    refine XS.iload X41.here hx rfl (hb hby at_451) rfl ?_
    show Steps p.tables e below (T41.setTop (mkF m 453 #[.val (.int p1), .val (.int p2), .val (.int p3), .val (.int p4), .val (.int p5), .val (.int vrb), .val (.int vrw), .val (.int vpl), .val (.int vrs), .val (.int vps), .val (.int vix), .val (.int vq), .val (.int vv), .val (.int vf), .val (.int vw), .val (.ref b6), .val (.int got), .unset, .unset] [(.int vrw), (.int (1 : Int32)), (.int (2 : Int32)), (.int (((((((((own_row (0 : Int32) (0 : Int32) vrw vpl vrb vix vrs vps vq) ||| (own_row (0 : Int32) (1 : Int32) vrw vpl vrb vix vrs vps vq)) ||| (own_row (0 : Int32) (2 : Int32) vrw vpl vrb vix vrs vps vq)) ||| (own_row (0 : Int32) (3 : Int32) vrw vpl vrb vix vrs vps vq)) ||| (own_row (1 : Int32) (0 : Int32) vrw vpl vrb vix vrs vps vq)) ||| (own_row (1 : Int32) (1 : Int32) vrw vpl vrb vix vrs vps vq)) ||| (own_row (1 : Int32) (2 : Int32) vrw vpl vrb vix vrs vps vq)) ||| (own_row (1 : Int32) (3 : Int32) vrw vpl vrb vix vrs vps vq)) ||| (own_row (2 : Int32) (0 : Int32) vrw vpl vrb vix vrs vps vq)))])) _
    refine XS.iload X41.here hx rfl (hb hby at_453) rfl ?_
    show Steps p.tables e below (T41.setTop (mkF m 455 #[.val (.int p1), .val (.int p2), .val (.int p3), .val (.int p4), .val (.int p5), .val (.int vrb), .val (.int vrw), .val (.int vpl), .val (.int vrs), .val (.int vps), .val (.int vix), .val (.int vq), .val (.int vv), .val (.int vf), .val (.int vw), .val (.ref b6), .val (.int got), .unset, .unset] [(.int vpl), (.int vrw), (.int (1 : Int32)), (.int (2 : Int32)), (.int (((((((((own_row (0 : Int32) (0 : Int32) vrw vpl vrb vix vrs vps vq) ||| (own_row (0 : Int32) (1 : Int32) vrw vpl vrb vix vrs vps vq)) ||| (own_row (0 : Int32) (2 : Int32) vrw vpl vrb vix vrs vps vq)) ||| (own_row (0 : Int32) (3 : Int32) vrw vpl vrb vix vrs vps vq)) ||| (own_row (1 : Int32) (0 : Int32) vrw vpl vrb vix vrs vps vq)) ||| (own_row (1 : Int32) (1 : Int32) vrw vpl vrb vix vrs vps vq)) ||| (own_row (1 : Int32) (2 : Int32) vrw vpl vrb vix vrs vps vq)) ||| (own_row (1 : Int32) (3 : Int32) vrw vpl vrb vix vrs vps vq)) ||| (own_row (2 : Int32) (0 : Int32) vrw vpl vrb vix vrs vps vq)))])) _
    refine XS.iload X41.here hx rfl (hb hby at_455) rfl ?_
    show Steps p.tables e below (T41.setTop (mkF m 457 #[.val (.int p1), .val (.int p2), .val (.int p3), .val (.int p4), .val (.int p5), .val (.int vrb), .val (.int vrw), .val (.int vpl), .val (.int vrs), .val (.int vps), .val (.int vix), .val (.int vq), .val (.int vv), .val (.int vf), .val (.int vw), .val (.ref b6), .val (.int got), .unset, .unset] [(.int vrb), (.int vpl), (.int vrw), (.int (1 : Int32)), (.int (2 : Int32)), (.int (((((((((own_row (0 : Int32) (0 : Int32) vrw vpl vrb vix vrs vps vq) ||| (own_row (0 : Int32) (1 : Int32) vrw vpl vrb vix vrs vps vq)) ||| (own_row (0 : Int32) (2 : Int32) vrw vpl vrb vix vrs vps vq)) ||| (own_row (0 : Int32) (3 : Int32) vrw vpl vrb vix vrs vps vq)) ||| (own_row (1 : Int32) (0 : Int32) vrw vpl vrb vix vrs vps vq)) ||| (own_row (1 : Int32) (1 : Int32) vrw vpl vrb vix vrs vps vq)) ||| (own_row (1 : Int32) (2 : Int32) vrw vpl vrb vix vrs vps vq)) ||| (own_row (1 : Int32) (3 : Int32) vrw vpl vrb vix vrs vps vq)) ||| (own_row (2 : Int32) (0 : Int32) vrw vpl vrb vix vrs vps vq)))])) _
    refine XS.iload X41.here hx rfl (hb hby at_457) rfl ?_
    show Steps p.tables e below (T41.setTop (mkF m 459 #[.val (.int p1), .val (.int p2), .val (.int p3), .val (.int p4), .val (.int p5), .val (.int vrb), .val (.int vrw), .val (.int vpl), .val (.int vrs), .val (.int vps), .val (.int vix), .val (.int vq), .val (.int vv), .val (.int vf), .val (.int vw), .val (.ref b6), .val (.int got), .unset, .unset] [(.int vix), (.int vrb), (.int vpl), (.int vrw), (.int (1 : Int32)), (.int (2 : Int32)), (.int (((((((((own_row (0 : Int32) (0 : Int32) vrw vpl vrb vix vrs vps vq) ||| (own_row (0 : Int32) (1 : Int32) vrw vpl vrb vix vrs vps vq)) ||| (own_row (0 : Int32) (2 : Int32) vrw vpl vrb vix vrs vps vq)) ||| (own_row (0 : Int32) (3 : Int32) vrw vpl vrb vix vrs vps vq)) ||| (own_row (1 : Int32) (0 : Int32) vrw vpl vrb vix vrs vps vq)) ||| (own_row (1 : Int32) (1 : Int32) vrw vpl vrb vix vrs vps vq)) ||| (own_row (1 : Int32) (2 : Int32) vrw vpl vrb vix vrs vps vq)) ||| (own_row (1 : Int32) (3 : Int32) vrw vpl vrb vix vrs vps vq)) ||| (own_row (2 : Int32) (0 : Int32) vrw vpl vrb vix vrs vps vq)))])) _
    refine XS.iload X41.here hx rfl (hb hby at_459) rfl ?_
    show Steps p.tables e below (T41.setTop (mkF m 461 #[.val (.int p1), .val (.int p2), .val (.int p3), .val (.int p4), .val (.int p5), .val (.int vrb), .val (.int vrw), .val (.int vpl), .val (.int vrs), .val (.int vps), .val (.int vix), .val (.int vq), .val (.int vv), .val (.int vf), .val (.int vw), .val (.ref b6), .val (.int got), .unset, .unset] [(.int vrs), (.int vix), (.int vrb), (.int vpl), (.int vrw), (.int (1 : Int32)), (.int (2 : Int32)), (.int (((((((((own_row (0 : Int32) (0 : Int32) vrw vpl vrb vix vrs vps vq) ||| (own_row (0 : Int32) (1 : Int32) vrw vpl vrb vix vrs vps vq)) ||| (own_row (0 : Int32) (2 : Int32) vrw vpl vrb vix vrs vps vq)) ||| (own_row (0 : Int32) (3 : Int32) vrw vpl vrb vix vrs vps vq)) ||| (own_row (1 : Int32) (0 : Int32) vrw vpl vrb vix vrs vps vq)) ||| (own_row (1 : Int32) (1 : Int32) vrw vpl vrb vix vrs vps vq)) ||| (own_row (1 : Int32) (2 : Int32) vrw vpl vrb vix vrs vps vq)) ||| (own_row (1 : Int32) (3 : Int32) vrw vpl vrb vix vrs vps vq)) ||| (own_row (2 : Int32) (0 : Int32) vrw vpl vrb vix vrs vps vq)))])) _
    refine XS.iload X41.here hx rfl (hb hby at_461) rfl ?_
    show Steps p.tables e below (T41.setTop (mkF m 463 #[.val (.int p1), .val (.int p2), .val (.int p3), .val (.int p4), .val (.int p5), .val (.int vrb), .val (.int vrw), .val (.int vpl), .val (.int vrs), .val (.int vps), .val (.int vix), .val (.int vq), .val (.int vv), .val (.int vf), .val (.int vw), .val (.ref b6), .val (.int got), .unset, .unset] [(.int vps), (.int vrs), (.int vix), (.int vrb), (.int vpl), (.int vrw), (.int (1 : Int32)), (.int (2 : Int32)), (.int (((((((((own_row (0 : Int32) (0 : Int32) vrw vpl vrb vix vrs vps vq) ||| (own_row (0 : Int32) (1 : Int32) vrw vpl vrb vix vrs vps vq)) ||| (own_row (0 : Int32) (2 : Int32) vrw vpl vrb vix vrs vps vq)) ||| (own_row (0 : Int32) (3 : Int32) vrw vpl vrb vix vrs vps vq)) ||| (own_row (1 : Int32) (0 : Int32) vrw vpl vrb vix vrs vps vq)) ||| (own_row (1 : Int32) (1 : Int32) vrw vpl vrb vix vrs vps vq)) ||| (own_row (1 : Int32) (2 : Int32) vrw vpl vrb vix vrs vps vq)) ||| (own_row (1 : Int32) (3 : Int32) vrw vpl vrb vix vrs vps vq)) ||| (own_row (2 : Int32) (0 : Int32) vrw vpl vrb vix vrs vps vq)))])) _
    refine XS.iload X41.here hx rfl (hb hby at_463) rfl ?_
    show Steps p.tables e below (T41.setTop (mkF m 465 #[.val (.int p1), .val (.int p2), .val (.int p3), .val (.int p4), .val (.int p5), .val (.int vrb), .val (.int vrw), .val (.int vpl), .val (.int vrs), .val (.int vps), .val (.int vix), .val (.int vq), .val (.int vv), .val (.int vf), .val (.int vw), .val (.ref b6), .val (.int got), .unset, .unset] [(.int vq), (.int vps), (.int vrs), (.int vix), (.int vrb), (.int vpl), (.int vrw), (.int (1 : Int32)), (.int (2 : Int32)), (.int (((((((((own_row (0 : Int32) (0 : Int32) vrw vpl vrb vix vrs vps vq) ||| (own_row (0 : Int32) (1 : Int32) vrw vpl vrb vix vrs vps vq)) ||| (own_row (0 : Int32) (2 : Int32) vrw vpl vrb vix vrs vps vq)) ||| (own_row (0 : Int32) (3 : Int32) vrw vpl vrb vix vrs vps vq)) ||| (own_row (1 : Int32) (0 : Int32) vrw vpl vrb vix vrs vps vq)) ||| (own_row (1 : Int32) (1 : Int32) vrw vpl vrb vix vrs vps vq)) ||| (own_row (1 : Int32) (2 : Int32) vrw vpl vrb vix vrs vps vq)) ||| (own_row (1 : Int32) (3 : Int32) vrw vpl vrb vix vrs vps vq)) ||| (own_row (2 : Int32) (0 : Int32) vrw vpl vrb vix vrs vps vq)))])) _
    refine st42 _ ?_
    show Steps p.tables e below (T42.setTop (mkF m 468 #[.val (.int p1), .val (.int p2), .val (.int p3), .val (.int p4), .val (.int p5), .val (.int vrb), .val (.int vrw), .val (.int vpl), .val (.int vrs), .val (.int vps), .val (.int vix), .val (.int vq), .val (.int vv), .val (.int vf), .val (.int vw), .val (.ref b6), .val (.int got), .unset, .unset] [(.int (own_row (2 : Int32) (1 : Int32) vrw vpl vrb vix vrs vps vq)), (.int (((((((((own_row (0 : Int32) (0 : Int32) vrw vpl vrb vix vrs vps vq) ||| (own_row (0 : Int32) (1 : Int32) vrw vpl vrb vix vrs vps vq)) ||| (own_row (0 : Int32) (2 : Int32) vrw vpl vrb vix vrs vps vq)) ||| (own_row (0 : Int32) (3 : Int32) vrw vpl vrb vix vrs vps vq)) ||| (own_row (1 : Int32) (0 : Int32) vrw vpl vrb vix vrs vps vq)) ||| (own_row (1 : Int32) (1 : Int32) vrw vpl vrb vix vrs vps vq)) ||| (own_row (1 : Int32) (2 : Int32) vrw vpl vrb vix vrs vps vq)) ||| (own_row (1 : Int32) (3 : Int32) vrw vpl vrb vix vrs vps vq)) ||| (own_row (2 : Int32) (0 : Int32) vrw vpl vrb vix vrs vps vq)))])) _
    refine XS.ior X42.here hx rfl (hb hby at_468) rfl ?_
    show Steps p.tables e below (T42.setTop (mkF m 469 #[.val (.int p1), .val (.int p2), .val (.int p3), .val (.int p4), .val (.int p5), .val (.int vrb), .val (.int vrw), .val (.int vpl), .val (.int vrs), .val (.int vps), .val (.int vix), .val (.int vq), .val (.int vv), .val (.int vf), .val (.int vw), .val (.ref b6), .val (.int got), .unset, .unset] [(.int ((((((((((own_row (0 : Int32) (0 : Int32) vrw vpl vrb vix vrs vps vq) ||| (own_row (0 : Int32) (1 : Int32) vrw vpl vrb vix vrs vps vq)) ||| (own_row (0 : Int32) (2 : Int32) vrw vpl vrb vix vrs vps vq)) ||| (own_row (0 : Int32) (3 : Int32) vrw vpl vrb vix vrs vps vq)) ||| (own_row (1 : Int32) (0 : Int32) vrw vpl vrb vix vrs vps vq)) ||| (own_row (1 : Int32) (1 : Int32) vrw vpl vrb vix vrs vps vq)) ||| (own_row (1 : Int32) (2 : Int32) vrw vpl vrb vix vrs vps vq)) ||| (own_row (1 : Int32) (3 : Int32) vrw vpl vrb vix vrs vps vq)) ||| (own_row (2 : Int32) (0 : Int32) vrw vpl vrb vix vrs vps vq)) ||| (own_row (2 : Int32) (1 : Int32) vrw vpl vrb vix vrs vps vq)))])) _
    refine XS.iconst X42.here hx rfl (hb hby at_469) ?_
    show Steps p.tables e below (T42.setTop (mkF m 470 #[.val (.int p1), .val (.int p2), .val (.int p3), .val (.int p4), .val (.int p5), .val (.int vrb), .val (.int vrw), .val (.int vpl), .val (.int vrs), .val (.int vps), .val (.int vix), .val (.int vq), .val (.int vv), .val (.int vf), .val (.int vw), .val (.ref b6), .val (.int got), .unset, .unset] [(.int (2 : Int32)), (.int ((((((((((own_row (0 : Int32) (0 : Int32) vrw vpl vrb vix vrs vps vq) ||| (own_row (0 : Int32) (1 : Int32) vrw vpl vrb vix vrs vps vq)) ||| (own_row (0 : Int32) (2 : Int32) vrw vpl vrb vix vrs vps vq)) ||| (own_row (0 : Int32) (3 : Int32) vrw vpl vrb vix vrs vps vq)) ||| (own_row (1 : Int32) (0 : Int32) vrw vpl vrb vix vrs vps vq)) ||| (own_row (1 : Int32) (1 : Int32) vrw vpl vrb vix vrs vps vq)) ||| (own_row (1 : Int32) (2 : Int32) vrw vpl vrb vix vrs vps vq)) ||| (own_row (1 : Int32) (3 : Int32) vrw vpl vrb vix vrs vps vq)) ||| (own_row (2 : Int32) (0 : Int32) vrw vpl vrb vix vrs vps vq)) ||| (own_row (2 : Int32) (1 : Int32) vrw vpl vrb vix vrs vps vq)))])) _
    refine XS.iconst X42.here hx rfl (hb hby at_470) ?_
    show Steps p.tables e below (T42.setTop (mkF m 471 #[.val (.int p1), .val (.int p2), .val (.int p3), .val (.int p4), .val (.int p5), .val (.int vrb), .val (.int vrw), .val (.int vpl), .val (.int vrs), .val (.int vps), .val (.int vix), .val (.int vq), .val (.int vv), .val (.int vf), .val (.int vw), .val (.ref b6), .val (.int got), .unset, .unset] [(.int (2 : Int32)), (.int (2 : Int32)), (.int ((((((((((own_row (0 : Int32) (0 : Int32) vrw vpl vrb vix vrs vps vq) ||| (own_row (0 : Int32) (1 : Int32) vrw vpl vrb vix vrs vps vq)) ||| (own_row (0 : Int32) (2 : Int32) vrw vpl vrb vix vrs vps vq)) ||| (own_row (0 : Int32) (3 : Int32) vrw vpl vrb vix vrs vps vq)) ||| (own_row (1 : Int32) (0 : Int32) vrw vpl vrb vix vrs vps vq)) ||| (own_row (1 : Int32) (1 : Int32) vrw vpl vrb vix vrs vps vq)) ||| (own_row (1 : Int32) (2 : Int32) vrw vpl vrb vix vrs vps vq)) ||| (own_row (1 : Int32) (3 : Int32) vrw vpl vrb vix vrs vps vq)) ||| (own_row (2 : Int32) (0 : Int32) vrw vpl vrb vix vrs vps vq)) ||| (own_row (2 : Int32) (1 : Int32) vrw vpl vrb vix vrs vps vq)))])) _
    refine XS.iload X42.here hx rfl (hb hby at_471) rfl ?_
    show Steps p.tables e below (T42.setTop (mkF m 473 #[.val (.int p1), .val (.int p2), .val (.int p3), .val (.int p4), .val (.int p5), .val (.int vrb), .val (.int vrw), .val (.int vpl), .val (.int vrs), .val (.int vps), .val (.int vix), .val (.int vq), .val (.int vv), .val (.int vf), .val (.int vw), .val (.ref b6), .val (.int got), .unset, .unset] [(.int vrw), (.int (2 : Int32)), (.int (2 : Int32)), (.int ((((((((((own_row (0 : Int32) (0 : Int32) vrw vpl vrb vix vrs vps vq) ||| (own_row (0 : Int32) (1 : Int32) vrw vpl vrb vix vrs vps vq)) ||| (own_row (0 : Int32) (2 : Int32) vrw vpl vrb vix vrs vps vq)) ||| (own_row (0 : Int32) (3 : Int32) vrw vpl vrb vix vrs vps vq)) ||| (own_row (1 : Int32) (0 : Int32) vrw vpl vrb vix vrs vps vq)) ||| (own_row (1 : Int32) (1 : Int32) vrw vpl vrb vix vrs vps vq)) ||| (own_row (1 : Int32) (2 : Int32) vrw vpl vrb vix vrs vps vq)) ||| (own_row (1 : Int32) (3 : Int32) vrw vpl vrb vix vrs vps vq)) ||| (own_row (2 : Int32) (0 : Int32) vrw vpl vrb vix vrs vps vq)) ||| (own_row (2 : Int32) (1 : Int32) vrw vpl vrb vix vrs vps vq)))])) _
    refine XS.iload X42.here hx rfl (hb hby at_473) rfl ?_
    show Steps p.tables e below (T42.setTop (mkF m 475 #[.val (.int p1), .val (.int p2), .val (.int p3), .val (.int p4), .val (.int p5), .val (.int vrb), .val (.int vrw), .val (.int vpl), .val (.int vrs), .val (.int vps), .val (.int vix), .val (.int vq), .val (.int vv), .val (.int vf), .val (.int vw), .val (.ref b6), .val (.int got), .unset, .unset] [(.int vpl), (.int vrw), (.int (2 : Int32)), (.int (2 : Int32)), (.int ((((((((((own_row (0 : Int32) (0 : Int32) vrw vpl vrb vix vrs vps vq) ||| (own_row (0 : Int32) (1 : Int32) vrw vpl vrb vix vrs vps vq)) ||| (own_row (0 : Int32) (2 : Int32) vrw vpl vrb vix vrs vps vq)) ||| (own_row (0 : Int32) (3 : Int32) vrw vpl vrb vix vrs vps vq)) ||| (own_row (1 : Int32) (0 : Int32) vrw vpl vrb vix vrs vps vq)) ||| (own_row (1 : Int32) (1 : Int32) vrw vpl vrb vix vrs vps vq)) ||| (own_row (1 : Int32) (2 : Int32) vrw vpl vrb vix vrs vps vq)) ||| (own_row (1 : Int32) (3 : Int32) vrw vpl vrb vix vrs vps vq)) ||| (own_row (2 : Int32) (0 : Int32) vrw vpl vrb vix vrs vps vq)) ||| (own_row (2 : Int32) (1 : Int32) vrw vpl vrb vix vrs vps vq)))])) _
    refine XS.iload X42.here hx rfl (hb hby at_475) rfl ?_
    show Steps p.tables e below (T42.setTop (mkF m 477 #[.val (.int p1), .val (.int p2), .val (.int p3), .val (.int p4), .val (.int p5), .val (.int vrb), .val (.int vrw), .val (.int vpl), .val (.int vrs), .val (.int vps), .val (.int vix), .val (.int vq), .val (.int vv), .val (.int vf), .val (.int vw), .val (.ref b6), .val (.int got), .unset, .unset] [(.int vrb), (.int vpl), (.int vrw), (.int (2 : Int32)), (.int (2 : Int32)), (.int ((((((((((own_row (0 : Int32) (0 : Int32) vrw vpl vrb vix vrs vps vq) ||| (own_row (0 : Int32) (1 : Int32) vrw vpl vrb vix vrs vps vq)) ||| (own_row (0 : Int32) (2 : Int32) vrw vpl vrb vix vrs vps vq)) ||| (own_row (0 : Int32) (3 : Int32) vrw vpl vrb vix vrs vps vq)) ||| (own_row (1 : Int32) (0 : Int32) vrw vpl vrb vix vrs vps vq)) ||| (own_row (1 : Int32) (1 : Int32) vrw vpl vrb vix vrs vps vq)) ||| (own_row (1 : Int32) (2 : Int32) vrw vpl vrb vix vrs vps vq)) ||| (own_row (1 : Int32) (3 : Int32) vrw vpl vrb vix vrs vps vq)) ||| (own_row (2 : Int32) (0 : Int32) vrw vpl vrb vix vrs vps vq)) ||| (own_row (2 : Int32) (1 : Int32) vrw vpl vrb vix vrs vps vq)))])) _
    refine XS.iload X42.here hx rfl (hb hby at_477) rfl ?_
    show Steps p.tables e below (T42.setTop (mkF m 479 #[.val (.int p1), .val (.int p2), .val (.int p3), .val (.int p4), .val (.int p5), .val (.int vrb), .val (.int vrw), .val (.int vpl), .val (.int vrs), .val (.int vps), .val (.int vix), .val (.int vq), .val (.int vv), .val (.int vf), .val (.int vw), .val (.ref b6), .val (.int got), .unset, .unset] [(.int vix), (.int vrb), (.int vpl), (.int vrw), (.int (2 : Int32)), (.int (2 : Int32)), (.int ((((((((((own_row (0 : Int32) (0 : Int32) vrw vpl vrb vix vrs vps vq) ||| (own_row (0 : Int32) (1 : Int32) vrw vpl vrb vix vrs vps vq)) ||| (own_row (0 : Int32) (2 : Int32) vrw vpl vrb vix vrs vps vq)) ||| (own_row (0 : Int32) (3 : Int32) vrw vpl vrb vix vrs vps vq)) ||| (own_row (1 : Int32) (0 : Int32) vrw vpl vrb vix vrs vps vq)) ||| (own_row (1 : Int32) (1 : Int32) vrw vpl vrb vix vrs vps vq)) ||| (own_row (1 : Int32) (2 : Int32) vrw vpl vrb vix vrs vps vq)) ||| (own_row (1 : Int32) (3 : Int32) vrw vpl vrb vix vrs vps vq)) ||| (own_row (2 : Int32) (0 : Int32) vrw vpl vrb vix vrs vps vq)) ||| (own_row (2 : Int32) (1 : Int32) vrw vpl vrb vix vrs vps vq)))])) _
    refine XS.iload X42.here hx rfl (hb hby at_479) rfl ?_
    show Steps p.tables e below (T42.setTop (mkF m 481 #[.val (.int p1), .val (.int p2), .val (.int p3), .val (.int p4), .val (.int p5), .val (.int vrb), .val (.int vrw), .val (.int vpl), .val (.int vrs), .val (.int vps), .val (.int vix), .val (.int vq), .val (.int vv), .val (.int vf), .val (.int vw), .val (.ref b6), .val (.int got), .unset, .unset] [(.int vrs), (.int vix), (.int vrb), (.int vpl), (.int vrw), (.int (2 : Int32)), (.int (2 : Int32)), (.int ((((((((((own_row (0 : Int32) (0 : Int32) vrw vpl vrb vix vrs vps vq) ||| (own_row (0 : Int32) (1 : Int32) vrw vpl vrb vix vrs vps vq)) ||| (own_row (0 : Int32) (2 : Int32) vrw vpl vrb vix vrs vps vq)) ||| (own_row (0 : Int32) (3 : Int32) vrw vpl vrb vix vrs vps vq)) ||| (own_row (1 : Int32) (0 : Int32) vrw vpl vrb vix vrs vps vq)) ||| (own_row (1 : Int32) (1 : Int32) vrw vpl vrb vix vrs vps vq)) ||| (own_row (1 : Int32) (2 : Int32) vrw vpl vrb vix vrs vps vq)) ||| (own_row (1 : Int32) (3 : Int32) vrw vpl vrb vix vrs vps vq)) ||| (own_row (2 : Int32) (0 : Int32) vrw vpl vrb vix vrs vps vq)) ||| (own_row (2 : Int32) (1 : Int32) vrw vpl vrb vix vrs vps vq)))])) _
    refine XS.iload X42.here hx rfl (hb hby at_481) rfl ?_
    show Steps p.tables e below (T42.setTop (mkF m 483 #[.val (.int p1), .val (.int p2), .val (.int p3), .val (.int p4), .val (.int p5), .val (.int vrb), .val (.int vrw), .val (.int vpl), .val (.int vrs), .val (.int vps), .val (.int vix), .val (.int vq), .val (.int vv), .val (.int vf), .val (.int vw), .val (.ref b6), .val (.int got), .unset, .unset] [(.int vps), (.int vrs), (.int vix), (.int vrb), (.int vpl), (.int vrw), (.int (2 : Int32)), (.int (2 : Int32)), (.int ((((((((((own_row (0 : Int32) (0 : Int32) vrw vpl vrb vix vrs vps vq) ||| (own_row (0 : Int32) (1 : Int32) vrw vpl vrb vix vrs vps vq)) ||| (own_row (0 : Int32) (2 : Int32) vrw vpl vrb vix vrs vps vq)) ||| (own_row (0 : Int32) (3 : Int32) vrw vpl vrb vix vrs vps vq)) ||| (own_row (1 : Int32) (0 : Int32) vrw vpl vrb vix vrs vps vq)) ||| (own_row (1 : Int32) (1 : Int32) vrw vpl vrb vix vrs vps vq)) ||| (own_row (1 : Int32) (2 : Int32) vrw vpl vrb vix vrs vps vq)) ||| (own_row (1 : Int32) (3 : Int32) vrw vpl vrb vix vrs vps vq)) ||| (own_row (2 : Int32) (0 : Int32) vrw vpl vrb vix vrs vps vq)) ||| (own_row (2 : Int32) (1 : Int32) vrw vpl vrb vix vrs vps vq)))])) _
    refine XS.iload X42.here hx rfl (hb hby at_483) rfl ?_
    show Steps p.tables e below (T42.setTop (mkF m 485 #[.val (.int p1), .val (.int p2), .val (.int p3), .val (.int p4), .val (.int p5), .val (.int vrb), .val (.int vrw), .val (.int vpl), .val (.int vrs), .val (.int vps), .val (.int vix), .val (.int vq), .val (.int vv), .val (.int vf), .val (.int vw), .val (.ref b6), .val (.int got), .unset, .unset] [(.int vq), (.int vps), (.int vrs), (.int vix), (.int vrb), (.int vpl), (.int vrw), (.int (2 : Int32)), (.int (2 : Int32)), (.int ((((((((((own_row (0 : Int32) (0 : Int32) vrw vpl vrb vix vrs vps vq) ||| (own_row (0 : Int32) (1 : Int32) vrw vpl vrb vix vrs vps vq)) ||| (own_row (0 : Int32) (2 : Int32) vrw vpl vrb vix vrs vps vq)) ||| (own_row (0 : Int32) (3 : Int32) vrw vpl vrb vix vrs vps vq)) ||| (own_row (1 : Int32) (0 : Int32) vrw vpl vrb vix vrs vps vq)) ||| (own_row (1 : Int32) (1 : Int32) vrw vpl vrb vix vrs vps vq)) ||| (own_row (1 : Int32) (2 : Int32) vrw vpl vrb vix vrs vps vq)) ||| (own_row (1 : Int32) (3 : Int32) vrw vpl vrb vix vrs vps vq)) ||| (own_row (2 : Int32) (0 : Int32) vrw vpl vrb vix vrs vps vq)) ||| (own_row (2 : Int32) (1 : Int32) vrw vpl vrb vix vrs vps vq)))])) _
    refine st43 _ ?_
    show Steps p.tables e below (T43.setTop (mkF m 488 #[.val (.int p1), .val (.int p2), .val (.int p3), .val (.int p4), .val (.int p5), .val (.int vrb), .val (.int vrw), .val (.int vpl), .val (.int vrs), .val (.int vps), .val (.int vix), .val (.int vq), .val (.int vv), .val (.int vf), .val (.int vw), .val (.ref b6), .val (.int got), .unset, .unset] [(.int (own_row (2 : Int32) (2 : Int32) vrw vpl vrb vix vrs vps vq)), (.int ((((((((((own_row (0 : Int32) (0 : Int32) vrw vpl vrb vix vrs vps vq) ||| (own_row (0 : Int32) (1 : Int32) vrw vpl vrb vix vrs vps vq)) ||| (own_row (0 : Int32) (2 : Int32) vrw vpl vrb vix vrs vps vq)) ||| (own_row (0 : Int32) (3 : Int32) vrw vpl vrb vix vrs vps vq)) ||| (own_row (1 : Int32) (0 : Int32) vrw vpl vrb vix vrs vps vq)) ||| (own_row (1 : Int32) (1 : Int32) vrw vpl vrb vix vrs vps vq)) ||| (own_row (1 : Int32) (2 : Int32) vrw vpl vrb vix vrs vps vq)) ||| (own_row (1 : Int32) (3 : Int32) vrw vpl vrb vix vrs vps vq)) ||| (own_row (2 : Int32) (0 : Int32) vrw vpl vrb vix vrs vps vq)) ||| (own_row (2 : Int32) (1 : Int32) vrw vpl vrb vix vrs vps vq)))])) _
    refine XS.ior X43.here hx rfl (hb hby at_488) rfl ?_
    show Steps p.tables e below (T43.setTop (mkF m 489 #[.val (.int p1), .val (.int p2), .val (.int p3), .val (.int p4), .val (.int p5), .val (.int vrb), .val (.int vrw), .val (.int vpl), .val (.int vrs), .val (.int vps), .val (.int vix), .val (.int vq), .val (.int vv), .val (.int vf), .val (.int vw), .val (.ref b6), .val (.int got), .unset, .unset] [(.int (((((((((((own_row (0 : Int32) (0 : Int32) vrw vpl vrb vix vrs vps vq) ||| (own_row (0 : Int32) (1 : Int32) vrw vpl vrb vix vrs vps vq)) ||| (own_row (0 : Int32) (2 : Int32) vrw vpl vrb vix vrs vps vq)) ||| (own_row (0 : Int32) (3 : Int32) vrw vpl vrb vix vrs vps vq)) ||| (own_row (1 : Int32) (0 : Int32) vrw vpl vrb vix vrs vps vq)) ||| (own_row (1 : Int32) (1 : Int32) vrw vpl vrb vix vrs vps vq)) ||| (own_row (1 : Int32) (2 : Int32) vrw vpl vrb vix vrs vps vq)) ||| (own_row (1 : Int32) (3 : Int32) vrw vpl vrb vix vrs vps vq)) ||| (own_row (2 : Int32) (0 : Int32) vrw vpl vrb vix vrs vps vq)) ||| (own_row (2 : Int32) (1 : Int32) vrw vpl vrb vix vrs vps vq)) ||| (own_row (2 : Int32) (2 : Int32) vrw vpl vrb vix vrs vps vq)))])) _
    refine XS.iconst X43.here hx rfl (hb hby at_489) ?_
    show Steps p.tables e below (T43.setTop (mkF m 490 #[.val (.int p1), .val (.int p2), .val (.int p3), .val (.int p4), .val (.int p5), .val (.int vrb), .val (.int vrw), .val (.int vpl), .val (.int vrs), .val (.int vps), .val (.int vix), .val (.int vq), .val (.int vv), .val (.int vf), .val (.int vw), .val (.ref b6), .val (.int got), .unset, .unset] [(.int (2 : Int32)), (.int (((((((((((own_row (0 : Int32) (0 : Int32) vrw vpl vrb vix vrs vps vq) ||| (own_row (0 : Int32) (1 : Int32) vrw vpl vrb vix vrs vps vq)) ||| (own_row (0 : Int32) (2 : Int32) vrw vpl vrb vix vrs vps vq)) ||| (own_row (0 : Int32) (3 : Int32) vrw vpl vrb vix vrs vps vq)) ||| (own_row (1 : Int32) (0 : Int32) vrw vpl vrb vix vrs vps vq)) ||| (own_row (1 : Int32) (1 : Int32) vrw vpl vrb vix vrs vps vq)) ||| (own_row (1 : Int32) (2 : Int32) vrw vpl vrb vix vrs vps vq)) ||| (own_row (1 : Int32) (3 : Int32) vrw vpl vrb vix vrs vps vq)) ||| (own_row (2 : Int32) (0 : Int32) vrw vpl vrb vix vrs vps vq)) ||| (own_row (2 : Int32) (1 : Int32) vrw vpl vrb vix vrs vps vq)) ||| (own_row (2 : Int32) (2 : Int32) vrw vpl vrb vix vrs vps vq)))])) _
    refine XS.iconst X43.here hx rfl (hb hby at_490) ?_
    show Steps p.tables e below (T43.setTop (mkF m 491 #[.val (.int p1), .val (.int p2), .val (.int p3), .val (.int p4), .val (.int p5), .val (.int vrb), .val (.int vrw), .val (.int vpl), .val (.int vrs), .val (.int vps), .val (.int vix), .val (.int vq), .val (.int vv), .val (.int vf), .val (.int vw), .val (.ref b6), .val (.int got), .unset, .unset] [(.int (3 : Int32)), (.int (2 : Int32)), (.int (((((((((((own_row (0 : Int32) (0 : Int32) vrw vpl vrb vix vrs vps vq) ||| (own_row (0 : Int32) (1 : Int32) vrw vpl vrb vix vrs vps vq)) ||| (own_row (0 : Int32) (2 : Int32) vrw vpl vrb vix vrs vps vq)) ||| (own_row (0 : Int32) (3 : Int32) vrw vpl vrb vix vrs vps vq)) ||| (own_row (1 : Int32) (0 : Int32) vrw vpl vrb vix vrs vps vq)) ||| (own_row (1 : Int32) (1 : Int32) vrw vpl vrb vix vrs vps vq)) ||| (own_row (1 : Int32) (2 : Int32) vrw vpl vrb vix vrs vps vq)) ||| (own_row (1 : Int32) (3 : Int32) vrw vpl vrb vix vrs vps vq)) ||| (own_row (2 : Int32) (0 : Int32) vrw vpl vrb vix vrs vps vq)) ||| (own_row (2 : Int32) (1 : Int32) vrw vpl vrb vix vrs vps vq)) ||| (own_row (2 : Int32) (2 : Int32) vrw vpl vrb vix vrs vps vq)))])) _
    refine XS.iload X43.here hx rfl (hb hby at_491) rfl ?_
    show Steps p.tables e below (T43.setTop (mkF m 493 #[.val (.int p1), .val (.int p2), .val (.int p3), .val (.int p4), .val (.int p5), .val (.int vrb), .val (.int vrw), .val (.int vpl), .val (.int vrs), .val (.int vps), .val (.int vix), .val (.int vq), .val (.int vv), .val (.int vf), .val (.int vw), .val (.ref b6), .val (.int got), .unset, .unset] [(.int vrw), (.int (3 : Int32)), (.int (2 : Int32)), (.int (((((((((((own_row (0 : Int32) (0 : Int32) vrw vpl vrb vix vrs vps vq) ||| (own_row (0 : Int32) (1 : Int32) vrw vpl vrb vix vrs vps vq)) ||| (own_row (0 : Int32) (2 : Int32) vrw vpl vrb vix vrs vps vq)) ||| (own_row (0 : Int32) (3 : Int32) vrw vpl vrb vix vrs vps vq)) ||| (own_row (1 : Int32) (0 : Int32) vrw vpl vrb vix vrs vps vq)) ||| (own_row (1 : Int32) (1 : Int32) vrw vpl vrb vix vrs vps vq)) ||| (own_row (1 : Int32) (2 : Int32) vrw vpl vrb vix vrs vps vq)) ||| (own_row (1 : Int32) (3 : Int32) vrw vpl vrb vix vrs vps vq)) ||| (own_row (2 : Int32) (0 : Int32) vrw vpl vrb vix vrs vps vq)) ||| (own_row (2 : Int32) (1 : Int32) vrw vpl vrb vix vrs vps vq)) ||| (own_row (2 : Int32) (2 : Int32) vrw vpl vrb vix vrs vps vq)))])) _
    refine XS.iload X43.here hx rfl (hb hby at_493) rfl ?_
    show Steps p.tables e below (T43.setTop (mkF m 495 #[.val (.int p1), .val (.int p2), .val (.int p3), .val (.int p4), .val (.int p5), .val (.int vrb), .val (.int vrw), .val (.int vpl), .val (.int vrs), .val (.int vps), .val (.int vix), .val (.int vq), .val (.int vv), .val (.int vf), .val (.int vw), .val (.ref b6), .val (.int got), .unset, .unset] [(.int vpl), (.int vrw), (.int (3 : Int32)), (.int (2 : Int32)), (.int (((((((((((own_row (0 : Int32) (0 : Int32) vrw vpl vrb vix vrs vps vq) ||| (own_row (0 : Int32) (1 : Int32) vrw vpl vrb vix vrs vps vq)) ||| (own_row (0 : Int32) (2 : Int32) vrw vpl vrb vix vrs vps vq)) ||| (own_row (0 : Int32) (3 : Int32) vrw vpl vrb vix vrs vps vq)) ||| (own_row (1 : Int32) (0 : Int32) vrw vpl vrb vix vrs vps vq)) ||| (own_row (1 : Int32) (1 : Int32) vrw vpl vrb vix vrs vps vq)) ||| (own_row (1 : Int32) (2 : Int32) vrw vpl vrb vix vrs vps vq)) ||| (own_row (1 : Int32) (3 : Int32) vrw vpl vrb vix vrs vps vq)) ||| (own_row (2 : Int32) (0 : Int32) vrw vpl vrb vix vrs vps vq)) ||| (own_row (2 : Int32) (1 : Int32) vrw vpl vrb vix vrs vps vq)) ||| (own_row (2 : Int32) (2 : Int32) vrw vpl vrb vix vrs vps vq)))])) _
    refine XS.iload X43.here hx rfl (hb hby at_495) rfl ?_
    show Steps p.tables e below (T43.setTop (mkF m 497 #[.val (.int p1), .val (.int p2), .val (.int p3), .val (.int p4), .val (.int p5), .val (.int vrb), .val (.int vrw), .val (.int vpl), .val (.int vrs), .val (.int vps), .val (.int vix), .val (.int vq), .val (.int vv), .val (.int vf), .val (.int vw), .val (.ref b6), .val (.int got), .unset, .unset] [(.int vrb), (.int vpl), (.int vrw), (.int (3 : Int32)), (.int (2 : Int32)), (.int (((((((((((own_row (0 : Int32) (0 : Int32) vrw vpl vrb vix vrs vps vq) ||| (own_row (0 : Int32) (1 : Int32) vrw vpl vrb vix vrs vps vq)) ||| (own_row (0 : Int32) (2 : Int32) vrw vpl vrb vix vrs vps vq)) ||| (own_row (0 : Int32) (3 : Int32) vrw vpl vrb vix vrs vps vq)) ||| (own_row (1 : Int32) (0 : Int32) vrw vpl vrb vix vrs vps vq)) ||| (own_row (1 : Int32) (1 : Int32) vrw vpl vrb vix vrs vps vq)) ||| (own_row (1 : Int32) (2 : Int32) vrw vpl vrb vix vrs vps vq)) ||| (own_row (1 : Int32) (3 : Int32) vrw vpl vrb vix vrs vps vq)) ||| (own_row (2 : Int32) (0 : Int32) vrw vpl vrb vix vrs vps vq)) ||| (own_row (2 : Int32) (1 : Int32) vrw vpl vrb vix vrs vps vq)) ||| (own_row (2 : Int32) (2 : Int32) vrw vpl vrb vix vrs vps vq)))])) _
    refine XS.iload X43.here hx rfl (hb hby at_497) rfl ?_
    show Steps p.tables e below (T43.setTop (mkF m 499 #[.val (.int p1), .val (.int p2), .val (.int p3), .val (.int p4), .val (.int p5), .val (.int vrb), .val (.int vrw), .val (.int vpl), .val (.int vrs), .val (.int vps), .val (.int vix), .val (.int vq), .val (.int vv), .val (.int vf), .val (.int vw), .val (.ref b6), .val (.int got), .unset, .unset] [(.int vix), (.int vrb), (.int vpl), (.int vrw), (.int (3 : Int32)), (.int (2 : Int32)), (.int (((((((((((own_row (0 : Int32) (0 : Int32) vrw vpl vrb vix vrs vps vq) ||| (own_row (0 : Int32) (1 : Int32) vrw vpl vrb vix vrs vps vq)) ||| (own_row (0 : Int32) (2 : Int32) vrw vpl vrb vix vrs vps vq)) ||| (own_row (0 : Int32) (3 : Int32) vrw vpl vrb vix vrs vps vq)) ||| (own_row (1 : Int32) (0 : Int32) vrw vpl vrb vix vrs vps vq)) ||| (own_row (1 : Int32) (1 : Int32) vrw vpl vrb vix vrs vps vq)) ||| (own_row (1 : Int32) (2 : Int32) vrw vpl vrb vix vrs vps vq)) ||| (own_row (1 : Int32) (3 : Int32) vrw vpl vrb vix vrs vps vq)) ||| (own_row (2 : Int32) (0 : Int32) vrw vpl vrb vix vrs vps vq)) ||| (own_row (2 : Int32) (1 : Int32) vrw vpl vrb vix vrs vps vq)) ||| (own_row (2 : Int32) (2 : Int32) vrw vpl vrb vix vrs vps vq)))])) _
    refine XS.iload X43.here hx rfl (hb hby at_499) rfl ?_
    show Steps p.tables e below (T43.setTop (mkF m 501 #[.val (.int p1), .val (.int p2), .val (.int p3), .val (.int p4), .val (.int p5), .val (.int vrb), .val (.int vrw), .val (.int vpl), .val (.int vrs), .val (.int vps), .val (.int vix), .val (.int vq), .val (.int vv), .val (.int vf), .val (.int vw), .val (.ref b6), .val (.int got), .unset, .unset] [(.int vrs), (.int vix), (.int vrb), (.int vpl), (.int vrw), (.int (3 : Int32)), (.int (2 : Int32)), (.int (((((((((((own_row (0 : Int32) (0 : Int32) vrw vpl vrb vix vrs vps vq) ||| (own_row (0 : Int32) (1 : Int32) vrw vpl vrb vix vrs vps vq)) ||| (own_row (0 : Int32) (2 : Int32) vrw vpl vrb vix vrs vps vq)) ||| (own_row (0 : Int32) (3 : Int32) vrw vpl vrb vix vrs vps vq)) ||| (own_row (1 : Int32) (0 : Int32) vrw vpl vrb vix vrs vps vq)) ||| (own_row (1 : Int32) (1 : Int32) vrw vpl vrb vix vrs vps vq)) ||| (own_row (1 : Int32) (2 : Int32) vrw vpl vrb vix vrs vps vq)) ||| (own_row (1 : Int32) (3 : Int32) vrw vpl vrb vix vrs vps vq)) ||| (own_row (2 : Int32) (0 : Int32) vrw vpl vrb vix vrs vps vq)) ||| (own_row (2 : Int32) (1 : Int32) vrw vpl vrb vix vrs vps vq)) ||| (own_row (2 : Int32) (2 : Int32) vrw vpl vrb vix vrs vps vq)))])) _
    refine XS.iload X43.here hx rfl (hb hby at_501) rfl ?_
    show Steps p.tables e below (T43.setTop (mkF m 503 #[.val (.int p1), .val (.int p2), .val (.int p3), .val (.int p4), .val (.int p5), .val (.int vrb), .val (.int vrw), .val (.int vpl), .val (.int vrs), .val (.int vps), .val (.int vix), .val (.int vq), .val (.int vv), .val (.int vf), .val (.int vw), .val (.ref b6), .val (.int got), .unset, .unset] [(.int vps), (.int vrs), (.int vix), (.int vrb), (.int vpl), (.int vrw), (.int (3 : Int32)), (.int (2 : Int32)), (.int (((((((((((own_row (0 : Int32) (0 : Int32) vrw vpl vrb vix vrs vps vq) ||| (own_row (0 : Int32) (1 : Int32) vrw vpl vrb vix vrs vps vq)) ||| (own_row (0 : Int32) (2 : Int32) vrw vpl vrb vix vrs vps vq)) ||| (own_row (0 : Int32) (3 : Int32) vrw vpl vrb vix vrs vps vq)) ||| (own_row (1 : Int32) (0 : Int32) vrw vpl vrb vix vrs vps vq)) ||| (own_row (1 : Int32) (1 : Int32) vrw vpl vrb vix vrs vps vq)) ||| (own_row (1 : Int32) (2 : Int32) vrw vpl vrb vix vrs vps vq)) ||| (own_row (1 : Int32) (3 : Int32) vrw vpl vrb vix vrs vps vq)) ||| (own_row (2 : Int32) (0 : Int32) vrw vpl vrb vix vrs vps vq)) ||| (own_row (2 : Int32) (1 : Int32) vrw vpl vrb vix vrs vps vq)) ||| (own_row (2 : Int32) (2 : Int32) vrw vpl vrb vix vrs vps vq)))])) _
    refine XS.iload X43.here hx rfl (hb hby at_503) rfl ?_
    show Steps p.tables e below (T43.setTop (mkF m 505 #[.val (.int p1), .val (.int p2), .val (.int p3), .val (.int p4), .val (.int p5), .val (.int vrb), .val (.int vrw), .val (.int vpl), .val (.int vrs), .val (.int vps), .val (.int vix), .val (.int vq), .val (.int vv), .val (.int vf), .val (.int vw), .val (.ref b6), .val (.int got), .unset, .unset] [(.int vq), (.int vps), (.int vrs), (.int vix), (.int vrb), (.int vpl), (.int vrw), (.int (3 : Int32)), (.int (2 : Int32)), (.int (((((((((((own_row (0 : Int32) (0 : Int32) vrw vpl vrb vix vrs vps vq) ||| (own_row (0 : Int32) (1 : Int32) vrw vpl vrb vix vrs vps vq)) ||| (own_row (0 : Int32) (2 : Int32) vrw vpl vrb vix vrs vps vq)) ||| (own_row (0 : Int32) (3 : Int32) vrw vpl vrb vix vrs vps vq)) ||| (own_row (1 : Int32) (0 : Int32) vrw vpl vrb vix vrs vps vq)) ||| (own_row (1 : Int32) (1 : Int32) vrw vpl vrb vix vrs vps vq)) ||| (own_row (1 : Int32) (2 : Int32) vrw vpl vrb vix vrs vps vq)) ||| (own_row (1 : Int32) (3 : Int32) vrw vpl vrb vix vrs vps vq)) ||| (own_row (2 : Int32) (0 : Int32) vrw vpl vrb vix vrs vps vq)) ||| (own_row (2 : Int32) (1 : Int32) vrw vpl vrb vix vrs vps vq)) ||| (own_row (2 : Int32) (2 : Int32) vrw vpl vrb vix vrs vps vq)))])) _
    refine st44 _ ?_
    show Steps p.tables e below (T44.setTop (mkF m 508 #[.val (.int p1), .val (.int p2), .val (.int p3), .val (.int p4), .val (.int p5), .val (.int vrb), .val (.int vrw), .val (.int vpl), .val (.int vrs), .val (.int vps), .val (.int vix), .val (.int vq), .val (.int vv), .val (.int vf), .val (.int vw), .val (.ref b6), .val (.int got), .unset, .unset] [(.int (own_row (2 : Int32) (3 : Int32) vrw vpl vrb vix vrs vps vq)), (.int (((((((((((own_row (0 : Int32) (0 : Int32) vrw vpl vrb vix vrs vps vq) ||| (own_row (0 : Int32) (1 : Int32) vrw vpl vrb vix vrs vps vq)) ||| (own_row (0 : Int32) (2 : Int32) vrw vpl vrb vix vrs vps vq)) ||| (own_row (0 : Int32) (3 : Int32) vrw vpl vrb vix vrs vps vq)) ||| (own_row (1 : Int32) (0 : Int32) vrw vpl vrb vix vrs vps vq)) ||| (own_row (1 : Int32) (1 : Int32) vrw vpl vrb vix vrs vps vq)) ||| (own_row (1 : Int32) (2 : Int32) vrw vpl vrb vix vrs vps vq)) ||| (own_row (1 : Int32) (3 : Int32) vrw vpl vrb vix vrs vps vq)) ||| (own_row (2 : Int32) (0 : Int32) vrw vpl vrb vix vrs vps vq)) ||| (own_row (2 : Int32) (1 : Int32) vrw vpl vrb vix vrs vps vq)) ||| (own_row (2 : Int32) (2 : Int32) vrw vpl vrb vix vrs vps vq)))])) _
    refine XS.ior X44.here hx rfl (hb hby at_508) rfl ?_
    show Steps p.tables e below (T44.setTop (mkF m 509 #[.val (.int p1), .val (.int p2), .val (.int p3), .val (.int p4), .val (.int p5), .val (.int vrb), .val (.int vrw), .val (.int vpl), .val (.int vrs), .val (.int vps), .val (.int vix), .val (.int vq), .val (.int vv), .val (.int vf), .val (.int vw), .val (.ref b6), .val (.int got), .unset, .unset] [(.int ((((((((((((own_row (0 : Int32) (0 : Int32) vrw vpl vrb vix vrs vps vq) ||| (own_row (0 : Int32) (1 : Int32) vrw vpl vrb vix vrs vps vq)) ||| (own_row (0 : Int32) (2 : Int32) vrw vpl vrb vix vrs vps vq)) ||| (own_row (0 : Int32) (3 : Int32) vrw vpl vrb vix vrs vps vq)) ||| (own_row (1 : Int32) (0 : Int32) vrw vpl vrb vix vrs vps vq)) ||| (own_row (1 : Int32) (1 : Int32) vrw vpl vrb vix vrs vps vq)) ||| (own_row (1 : Int32) (2 : Int32) vrw vpl vrb vix vrs vps vq)) ||| (own_row (1 : Int32) (3 : Int32) vrw vpl vrb vix vrs vps vq)) ||| (own_row (2 : Int32) (0 : Int32) vrw vpl vrb vix vrs vps vq)) ||| (own_row (2 : Int32) (1 : Int32) vrw vpl vrb vix vrs vps vq)) ||| (own_row (2 : Int32) (2 : Int32) vrw vpl vrb vix vrs vps vq)) ||| (own_row (2 : Int32) (3 : Int32) vrw vpl vrb vix vrs vps vq)))])) _
    refine XS.iconst X44.here hx rfl (hb hby at_509) ?_
    show Steps p.tables e below (T44.setTop (mkF m 510 #[.val (.int p1), .val (.int p2), .val (.int p3), .val (.int p4), .val (.int p5), .val (.int vrb), .val (.int vrw), .val (.int vpl), .val (.int vrs), .val (.int vps), .val (.int vix), .val (.int vq), .val (.int vv), .val (.int vf), .val (.int vw), .val (.ref b6), .val (.int got), .unset, .unset] [(.int (3 : Int32)), (.int ((((((((((((own_row (0 : Int32) (0 : Int32) vrw vpl vrb vix vrs vps vq) ||| (own_row (0 : Int32) (1 : Int32) vrw vpl vrb vix vrs vps vq)) ||| (own_row (0 : Int32) (2 : Int32) vrw vpl vrb vix vrs vps vq)) ||| (own_row (0 : Int32) (3 : Int32) vrw vpl vrb vix vrs vps vq)) ||| (own_row (1 : Int32) (0 : Int32) vrw vpl vrb vix vrs vps vq)) ||| (own_row (1 : Int32) (1 : Int32) vrw vpl vrb vix vrs vps vq)) ||| (own_row (1 : Int32) (2 : Int32) vrw vpl vrb vix vrs vps vq)) ||| (own_row (1 : Int32) (3 : Int32) vrw vpl vrb vix vrs vps vq)) ||| (own_row (2 : Int32) (0 : Int32) vrw vpl vrb vix vrs vps vq)) ||| (own_row (2 : Int32) (1 : Int32) vrw vpl vrb vix vrs vps vq)) ||| (own_row (2 : Int32) (2 : Int32) vrw vpl vrb vix vrs vps vq)) ||| (own_row (2 : Int32) (3 : Int32) vrw vpl vrb vix vrs vps vq)))])) _
    refine XS.iconst X44.here hx rfl (hb hby at_510) ?_
    show Steps p.tables e below (T44.setTop (mkF m 511 #[.val (.int p1), .val (.int p2), .val (.int p3), .val (.int p4), .val (.int p5), .val (.int vrb), .val (.int vrw), .val (.int vpl), .val (.int vrs), .val (.int vps), .val (.int vix), .val (.int vq), .val (.int vv), .val (.int vf), .val (.int vw), .val (.ref b6), .val (.int got), .unset, .unset] [(.int (0 : Int32)), (.int (3 : Int32)), (.int ((((((((((((own_row (0 : Int32) (0 : Int32) vrw vpl vrb vix vrs vps vq) ||| (own_row (0 : Int32) (1 : Int32) vrw vpl vrb vix vrs vps vq)) ||| (own_row (0 : Int32) (2 : Int32) vrw vpl vrb vix vrs vps vq)) ||| (own_row (0 : Int32) (3 : Int32) vrw vpl vrb vix vrs vps vq)) ||| (own_row (1 : Int32) (0 : Int32) vrw vpl vrb vix vrs vps vq)) ||| (own_row (1 : Int32) (1 : Int32) vrw vpl vrb vix vrs vps vq)) ||| (own_row (1 : Int32) (2 : Int32) vrw vpl vrb vix vrs vps vq)) ||| (own_row (1 : Int32) (3 : Int32) vrw vpl vrb vix vrs vps vq)) ||| (own_row (2 : Int32) (0 : Int32) vrw vpl vrb vix vrs vps vq)) ||| (own_row (2 : Int32) (1 : Int32) vrw vpl vrb vix vrs vps vq)) ||| (own_row (2 : Int32) (2 : Int32) vrw vpl vrb vix vrs vps vq)) ||| (own_row (2 : Int32) (3 : Int32) vrw vpl vrb vix vrs vps vq)))])) _
    refine XS.iload X44.here hx rfl (hb hby at_511) rfl ?_
    show Steps p.tables e below (T44.setTop (mkF m 513 #[.val (.int p1), .val (.int p2), .val (.int p3), .val (.int p4), .val (.int p5), .val (.int vrb), .val (.int vrw), .val (.int vpl), .val (.int vrs), .val (.int vps), .val (.int vix), .val (.int vq), .val (.int vv), .val (.int vf), .val (.int vw), .val (.ref b6), .val (.int got), .unset, .unset] [(.int vrw), (.int (0 : Int32)), (.int (3 : Int32)), (.int ((((((((((((own_row (0 : Int32) (0 : Int32) vrw vpl vrb vix vrs vps vq) ||| (own_row (0 : Int32) (1 : Int32) vrw vpl vrb vix vrs vps vq)) ||| (own_row (0 : Int32) (2 : Int32) vrw vpl vrb vix vrs vps vq)) ||| (own_row (0 : Int32) (3 : Int32) vrw vpl vrb vix vrs vps vq)) ||| (own_row (1 : Int32) (0 : Int32) vrw vpl vrb vix vrs vps vq)) ||| (own_row (1 : Int32) (1 : Int32) vrw vpl vrb vix vrs vps vq)) ||| (own_row (1 : Int32) (2 : Int32) vrw vpl vrb vix vrs vps vq)) ||| (own_row (1 : Int32) (3 : Int32) vrw vpl vrb vix vrs vps vq)) ||| (own_row (2 : Int32) (0 : Int32) vrw vpl vrb vix vrs vps vq)) ||| (own_row (2 : Int32) (1 : Int32) vrw vpl vrb vix vrs vps vq)) ||| (own_row (2 : Int32) (2 : Int32) vrw vpl vrb vix vrs vps vq)) ||| (own_row (2 : Int32) (3 : Int32) vrw vpl vrb vix vrs vps vq)))])) _
    refine XS.iload X44.here hx rfl (hb hby at_513) rfl ?_
    show Steps p.tables e below (T44.setTop (mkF m 515 #[.val (.int p1), .val (.int p2), .val (.int p3), .val (.int p4), .val (.int p5), .val (.int vrb), .val (.int vrw), .val (.int vpl), .val (.int vrs), .val (.int vps), .val (.int vix), .val (.int vq), .val (.int vv), .val (.int vf), .val (.int vw), .val (.ref b6), .val (.int got), .unset, .unset] [(.int vpl), (.int vrw), (.int (0 : Int32)), (.int (3 : Int32)), (.int ((((((((((((own_row (0 : Int32) (0 : Int32) vrw vpl vrb vix vrs vps vq) ||| (own_row (0 : Int32) (1 : Int32) vrw vpl vrb vix vrs vps vq)) ||| (own_row (0 : Int32) (2 : Int32) vrw vpl vrb vix vrs vps vq)) ||| (own_row (0 : Int32) (3 : Int32) vrw vpl vrb vix vrs vps vq)) ||| (own_row (1 : Int32) (0 : Int32) vrw vpl vrb vix vrs vps vq)) ||| (own_row (1 : Int32) (1 : Int32) vrw vpl vrb vix vrs vps vq)) ||| (own_row (1 : Int32) (2 : Int32) vrw vpl vrb vix vrs vps vq)) ||| (own_row (1 : Int32) (3 : Int32) vrw vpl vrb vix vrs vps vq)) ||| (own_row (2 : Int32) (0 : Int32) vrw vpl vrb vix vrs vps vq)) ||| (own_row (2 : Int32) (1 : Int32) vrw vpl vrb vix vrs vps vq)) ||| (own_row (2 : Int32) (2 : Int32) vrw vpl vrb vix vrs vps vq)) ||| (own_row (2 : Int32) (3 : Int32) vrw vpl vrb vix vrs vps vq)))])) _
    refine XS.iload X44.here hx rfl (hb hby at_515) rfl ?_
    show Steps p.tables e below (T44.setTop (mkF m 517 #[.val (.int p1), .val (.int p2), .val (.int p3), .val (.int p4), .val (.int p5), .val (.int vrb), .val (.int vrw), .val (.int vpl), .val (.int vrs), .val (.int vps), .val (.int vix), .val (.int vq), .val (.int vv), .val (.int vf), .val (.int vw), .val (.ref b6), .val (.int got), .unset, .unset] [(.int vrb), (.int vpl), (.int vrw), (.int (0 : Int32)), (.int (3 : Int32)), (.int ((((((((((((own_row (0 : Int32) (0 : Int32) vrw vpl vrb vix vrs vps vq) ||| (own_row (0 : Int32) (1 : Int32) vrw vpl vrb vix vrs vps vq)) ||| (own_row (0 : Int32) (2 : Int32) vrw vpl vrb vix vrs vps vq)) ||| (own_row (0 : Int32) (3 : Int32) vrw vpl vrb vix vrs vps vq)) ||| (own_row (1 : Int32) (0 : Int32) vrw vpl vrb vix vrs vps vq)) ||| (own_row (1 : Int32) (1 : Int32) vrw vpl vrb vix vrs vps vq)) ||| (own_row (1 : Int32) (2 : Int32) vrw vpl vrb vix vrs vps vq)) ||| (own_row (1 : Int32) (3 : Int32) vrw vpl vrb vix vrs vps vq)) ||| (own_row (2 : Int32) (0 : Int32) vrw vpl vrb vix vrs vps vq)) ||| (own_row (2 : Int32) (1 : Int32) vrw vpl vrb vix vrs vps vq)) ||| (own_row (2 : Int32) (2 : Int32) vrw vpl vrb vix vrs vps vq)) ||| (own_row (2 : Int32) (3 : Int32) vrw vpl vrb vix vrs vps vq)))])) _
    refine XS.iload X44.here hx rfl (hb hby at_517) rfl ?_
    show Steps p.tables e below (T44.setTop (mkF m 519 #[.val (.int p1), .val (.int p2), .val (.int p3), .val (.int p4), .val (.int p5), .val (.int vrb), .val (.int vrw), .val (.int vpl), .val (.int vrs), .val (.int vps), .val (.int vix), .val (.int vq), .val (.int vv), .val (.int vf), .val (.int vw), .val (.ref b6), .val (.int got), .unset, .unset] [(.int vix), (.int vrb), (.int vpl), (.int vrw), (.int (0 : Int32)), (.int (3 : Int32)), (.int ((((((((((((own_row (0 : Int32) (0 : Int32) vrw vpl vrb vix vrs vps vq) ||| (own_row (0 : Int32) (1 : Int32) vrw vpl vrb vix vrs vps vq)) ||| (own_row (0 : Int32) (2 : Int32) vrw vpl vrb vix vrs vps vq)) ||| (own_row (0 : Int32) (3 : Int32) vrw vpl vrb vix vrs vps vq)) ||| (own_row (1 : Int32) (0 : Int32) vrw vpl vrb vix vrs vps vq)) ||| (own_row (1 : Int32) (1 : Int32) vrw vpl vrb vix vrs vps vq)) ||| (own_row (1 : Int32) (2 : Int32) vrw vpl vrb vix vrs vps vq)) ||| (own_row (1 : Int32) (3 : Int32) vrw vpl vrb vix vrs vps vq)) ||| (own_row (2 : Int32) (0 : Int32) vrw vpl vrb vix vrs vps vq)) ||| (own_row (2 : Int32) (1 : Int32) vrw vpl vrb vix vrs vps vq)) ||| (own_row (2 : Int32) (2 : Int32) vrw vpl vrb vix vrs vps vq)) ||| (own_row (2 : Int32) (3 : Int32) vrw vpl vrb vix vrs vps vq)))])) _
    refine XS.iload X44.here hx rfl (hb hby at_519) rfl ?_
    show Steps p.tables e below (T44.setTop (mkF m 521 #[.val (.int p1), .val (.int p2), .val (.int p3), .val (.int p4), .val (.int p5), .val (.int vrb), .val (.int vrw), .val (.int vpl), .val (.int vrs), .val (.int vps), .val (.int vix), .val (.int vq), .val (.int vv), .val (.int vf), .val (.int vw), .val (.ref b6), .val (.int got), .unset, .unset] [(.int vrs), (.int vix), (.int vrb), (.int vpl), (.int vrw), (.int (0 : Int32)), (.int (3 : Int32)), (.int ((((((((((((own_row (0 : Int32) (0 : Int32) vrw vpl vrb vix vrs vps vq) ||| (own_row (0 : Int32) (1 : Int32) vrw vpl vrb vix vrs vps vq)) ||| (own_row (0 : Int32) (2 : Int32) vrw vpl vrb vix vrs vps vq)) ||| (own_row (0 : Int32) (3 : Int32) vrw vpl vrb vix vrs vps vq)) ||| (own_row (1 : Int32) (0 : Int32) vrw vpl vrb vix vrs vps vq)) ||| (own_row (1 : Int32) (1 : Int32) vrw vpl vrb vix vrs vps vq)) ||| (own_row (1 : Int32) (2 : Int32) vrw vpl vrb vix vrs vps vq)) ||| (own_row (1 : Int32) (3 : Int32) vrw vpl vrb vix vrs vps vq)) ||| (own_row (2 : Int32) (0 : Int32) vrw vpl vrb vix vrs vps vq)) ||| (own_row (2 : Int32) (1 : Int32) vrw vpl vrb vix vrs vps vq)) ||| (own_row (2 : Int32) (2 : Int32) vrw vpl vrb vix vrs vps vq)) ||| (own_row (2 : Int32) (3 : Int32) vrw vpl vrb vix vrs vps vq)))])) _
    refine XS.iload X44.here hx rfl (hb hby at_521) rfl ?_
    show Steps p.tables e below (T44.setTop (mkF m 523 #[.val (.int p1), .val (.int p2), .val (.int p3), .val (.int p4), .val (.int p5), .val (.int vrb), .val (.int vrw), .val (.int vpl), .val (.int vrs), .val (.int vps), .val (.int vix), .val (.int vq), .val (.int vv), .val (.int vf), .val (.int vw), .val (.ref b6), .val (.int got), .unset, .unset] [(.int vps), (.int vrs), (.int vix), (.int vrb), (.int vpl), (.int vrw), (.int (0 : Int32)), (.int (3 : Int32)), (.int ((((((((((((own_row (0 : Int32) (0 : Int32) vrw vpl vrb vix vrs vps vq) ||| (own_row (0 : Int32) (1 : Int32) vrw vpl vrb vix vrs vps vq)) ||| (own_row (0 : Int32) (2 : Int32) vrw vpl vrb vix vrs vps vq)) ||| (own_row (0 : Int32) (3 : Int32) vrw vpl vrb vix vrs vps vq)) ||| (own_row (1 : Int32) (0 : Int32) vrw vpl vrb vix vrs vps vq)) ||| (own_row (1 : Int32) (1 : Int32) vrw vpl vrb vix vrs vps vq)) ||| (own_row (1 : Int32) (2 : Int32) vrw vpl vrb vix vrs vps vq)) ||| (own_row (1 : Int32) (3 : Int32) vrw vpl vrb vix vrs vps vq)) ||| (own_row (2 : Int32) (0 : Int32) vrw vpl vrb vix vrs vps vq)) ||| (own_row (2 : Int32) (1 : Int32) vrw vpl vrb vix vrs vps vq)) ||| (own_row (2 : Int32) (2 : Int32) vrw vpl vrb vix vrs vps vq)) ||| (own_row (2 : Int32) (3 : Int32) vrw vpl vrb vix vrs vps vq)))])) _
    refine XS.iload X44.here hx rfl (hb hby at_523) rfl ?_
    show Steps p.tables e below (T44.setTop (mkF m 525 #[.val (.int p1), .val (.int p2), .val (.int p3), .val (.int p4), .val (.int p5), .val (.int vrb), .val (.int vrw), .val (.int vpl), .val (.int vrs), .val (.int vps), .val (.int vix), .val (.int vq), .val (.int vv), .val (.int vf), .val (.int vw), .val (.ref b6), .val (.int got), .unset, .unset] [(.int vq), (.int vps), (.int vrs), (.int vix), (.int vrb), (.int vpl), (.int vrw), (.int (0 : Int32)), (.int (3 : Int32)), (.int ((((((((((((own_row (0 : Int32) (0 : Int32) vrw vpl vrb vix vrs vps vq) ||| (own_row (0 : Int32) (1 : Int32) vrw vpl vrb vix vrs vps vq)) ||| (own_row (0 : Int32) (2 : Int32) vrw vpl vrb vix vrs vps vq)) ||| (own_row (0 : Int32) (3 : Int32) vrw vpl vrb vix vrs vps vq)) ||| (own_row (1 : Int32) (0 : Int32) vrw vpl vrb vix vrs vps vq)) ||| (own_row (1 : Int32) (1 : Int32) vrw vpl vrb vix vrs vps vq)) ||| (own_row (1 : Int32) (2 : Int32) vrw vpl vrb vix vrs vps vq)) ||| (own_row (1 : Int32) (3 : Int32) vrw vpl vrb vix vrs vps vq)) ||| (own_row (2 : Int32) (0 : Int32) vrw vpl vrb vix vrs vps vq)) ||| (own_row (2 : Int32) (1 : Int32) vrw vpl vrb vix vrs vps vq)) ||| (own_row (2 : Int32) (2 : Int32) vrw vpl vrb vix vrs vps vq)) ||| (own_row (2 : Int32) (3 : Int32) vrw vpl vrb vix vrs vps vq)))])) _
    refine st45 _ ?_
    show Steps p.tables e below (T45.setTop (mkF m 528 #[.val (.int p1), .val (.int p2), .val (.int p3), .val (.int p4), .val (.int p5), .val (.int vrb), .val (.int vrw), .val (.int vpl), .val (.int vrs), .val (.int vps), .val (.int vix), .val (.int vq), .val (.int vv), .val (.int vf), .val (.int vw), .val (.ref b6), .val (.int got), .unset, .unset] [(.int (own_row (3 : Int32) (0 : Int32) vrw vpl vrb vix vrs vps vq)), (.int ((((((((((((own_row (0 : Int32) (0 : Int32) vrw vpl vrb vix vrs vps vq) ||| (own_row (0 : Int32) (1 : Int32) vrw vpl vrb vix vrs vps vq)) ||| (own_row (0 : Int32) (2 : Int32) vrw vpl vrb vix vrs vps vq)) ||| (own_row (0 : Int32) (3 : Int32) vrw vpl vrb vix vrs vps vq)) ||| (own_row (1 : Int32) (0 : Int32) vrw vpl vrb vix vrs vps vq)) ||| (own_row (1 : Int32) (1 : Int32) vrw vpl vrb vix vrs vps vq)) ||| (own_row (1 : Int32) (2 : Int32) vrw vpl vrb vix vrs vps vq)) ||| (own_row (1 : Int32) (3 : Int32) vrw vpl vrb vix vrs vps vq)) ||| (own_row (2 : Int32) (0 : Int32) vrw vpl vrb vix vrs vps vq)) ||| (own_row (2 : Int32) (1 : Int32) vrw vpl vrb vix vrs vps vq)) ||| (own_row (2 : Int32) (2 : Int32) vrw vpl vrb vix vrs vps vq)) ||| (own_row (2 : Int32) (3 : Int32) vrw vpl vrb vix vrs vps vq)))])) _
    refine XS.ior X45.here hx rfl (hb hby at_528) rfl ?_
    show Steps p.tables e below (T45.setTop (mkF m 529 #[.val (.int p1), .val (.int p2), .val (.int p3), .val (.int p4), .val (.int p5), .val (.int vrb), .val (.int vrw), .val (.int vpl), .val (.int vrs), .val (.int vps), .val (.int vix), .val (.int vq), .val (.int vv), .val (.int vf), .val (.int vw), .val (.ref b6), .val (.int got), .unset, .unset] [(.int (((((((((((((own_row (0 : Int32) (0 : Int32) vrw vpl vrb vix vrs vps vq) ||| (own_row (0 : Int32) (1 : Int32) vrw vpl vrb vix vrs vps vq)) ||| (own_row (0 : Int32) (2 : Int32) vrw vpl vrb vix vrs vps vq)) ||| (own_row (0 : Int32) (3 : Int32) vrw vpl vrb vix vrs vps vq)) ||| (own_row (1 : Int32) (0 : Int32) vrw vpl vrb vix vrs vps vq)) ||| (own_row (1 : Int32) (1 : Int32) vrw vpl vrb vix vrs vps vq)) ||| (own_row (1 : Int32) (2 : Int32) vrw vpl vrb vix vrs vps vq)) ||| (own_row (1 : Int32) (3 : Int32) vrw vpl vrb vix vrs vps vq)) ||| (own_row (2 : Int32) (0 : Int32) vrw vpl vrb vix vrs vps vq)) ||| (own_row (2 : Int32) (1 : Int32) vrw vpl vrb vix vrs vps vq)) ||| (own_row (2 : Int32) (2 : Int32) vrw vpl vrb vix vrs vps vq)) ||| (own_row (2 : Int32) (3 : Int32) vrw vpl vrb vix vrs vps vq)) ||| (own_row (3 : Int32) (0 : Int32) vrw vpl vrb vix vrs vps vq)))])) _
    refine XS.iconst X45.here hx rfl (hb hby at_529) ?_
    show Steps p.tables e below (T45.setTop (mkF m 530 #[.val (.int p1), .val (.int p2), .val (.int p3), .val (.int p4), .val (.int p5), .val (.int vrb), .val (.int vrw), .val (.int vpl), .val (.int vrs), .val (.int vps), .val (.int vix), .val (.int vq), .val (.int vv), .val (.int vf), .val (.int vw), .val (.ref b6), .val (.int got), .unset, .unset] [(.int (3 : Int32)), (.int (((((((((((((own_row (0 : Int32) (0 : Int32) vrw vpl vrb vix vrs vps vq) ||| (own_row (0 : Int32) (1 : Int32) vrw vpl vrb vix vrs vps vq)) ||| (own_row (0 : Int32) (2 : Int32) vrw vpl vrb vix vrs vps vq)) ||| (own_row (0 : Int32) (3 : Int32) vrw vpl vrb vix vrs vps vq)) ||| (own_row (1 : Int32) (0 : Int32) vrw vpl vrb vix vrs vps vq)) ||| (own_row (1 : Int32) (1 : Int32) vrw vpl vrb vix vrs vps vq)) ||| (own_row (1 : Int32) (2 : Int32) vrw vpl vrb vix vrs vps vq)) ||| (own_row (1 : Int32) (3 : Int32) vrw vpl vrb vix vrs vps vq)) ||| (own_row (2 : Int32) (0 : Int32) vrw vpl vrb vix vrs vps vq)) ||| (own_row (2 : Int32) (1 : Int32) vrw vpl vrb vix vrs vps vq)) ||| (own_row (2 : Int32) (2 : Int32) vrw vpl vrb vix vrs vps vq)) ||| (own_row (2 : Int32) (3 : Int32) vrw vpl vrb vix vrs vps vq)) ||| (own_row (3 : Int32) (0 : Int32) vrw vpl vrb vix vrs vps vq)))])) _
    refine XS.iconst X45.here hx rfl (hb hby at_530) ?_
    show Steps p.tables e below (T45.setTop (mkF m 531 #[.val (.int p1), .val (.int p2), .val (.int p3), .val (.int p4), .val (.int p5), .val (.int vrb), .val (.int vrw), .val (.int vpl), .val (.int vrs), .val (.int vps), .val (.int vix), .val (.int vq), .val (.int vv), .val (.int vf), .val (.int vw), .val (.ref b6), .val (.int got), .unset, .unset] [(.int (1 : Int32)), (.int (3 : Int32)), (.int (((((((((((((own_row (0 : Int32) (0 : Int32) vrw vpl vrb vix vrs vps vq) ||| (own_row (0 : Int32) (1 : Int32) vrw vpl vrb vix vrs vps vq)) ||| (own_row (0 : Int32) (2 : Int32) vrw vpl vrb vix vrs vps vq)) ||| (own_row (0 : Int32) (3 : Int32) vrw vpl vrb vix vrs vps vq)) ||| (own_row (1 : Int32) (0 : Int32) vrw vpl vrb vix vrs vps vq)) ||| (own_row (1 : Int32) (1 : Int32) vrw vpl vrb vix vrs vps vq)) ||| (own_row (1 : Int32) (2 : Int32) vrw vpl vrb vix vrs vps vq)) ||| (own_row (1 : Int32) (3 : Int32) vrw vpl vrb vix vrs vps vq)) ||| (own_row (2 : Int32) (0 : Int32) vrw vpl vrb vix vrs vps vq)) ||| (own_row (2 : Int32) (1 : Int32) vrw vpl vrb vix vrs vps vq)) ||| (own_row (2 : Int32) (2 : Int32) vrw vpl vrb vix vrs vps vq)) ||| (own_row (2 : Int32) (3 : Int32) vrw vpl vrb vix vrs vps vq)) ||| (own_row (3 : Int32) (0 : Int32) vrw vpl vrb vix vrs vps vq)))])) _
    refine XS.iload X45.here hx rfl (hb hby at_531) rfl ?_
    show Steps p.tables e below (T45.setTop (mkF m 533 #[.val (.int p1), .val (.int p2), .val (.int p3), .val (.int p4), .val (.int p5), .val (.int vrb), .val (.int vrw), .val (.int vpl), .val (.int vrs), .val (.int vps), .val (.int vix), .val (.int vq), .val (.int vv), .val (.int vf), .val (.int vw), .val (.ref b6), .val (.int got), .unset, .unset] [(.int vrw), (.int (1 : Int32)), (.int (3 : Int32)), (.int (((((((((((((own_row (0 : Int32) (0 : Int32) vrw vpl vrb vix vrs vps vq) ||| (own_row (0 : Int32) (1 : Int32) vrw vpl vrb vix vrs vps vq)) ||| (own_row (0 : Int32) (2 : Int32) vrw vpl vrb vix vrs vps vq)) ||| (own_row (0 : Int32) (3 : Int32) vrw vpl vrb vix vrs vps vq)) ||| (own_row (1 : Int32) (0 : Int32) vrw vpl vrb vix vrs vps vq)) ||| (own_row (1 : Int32) (1 : Int32) vrw vpl vrb vix vrs vps vq)) ||| (own_row (1 : Int32) (2 : Int32) vrw vpl vrb vix vrs vps vq)) ||| (own_row (1 : Int32) (3 : Int32) vrw vpl vrb vix vrs vps vq)) ||| (own_row (2 : Int32) (0 : Int32) vrw vpl vrb vix vrs vps vq)) ||| (own_row (2 : Int32) (1 : Int32) vrw vpl vrb vix vrs vps vq)) ||| (own_row (2 : Int32) (2 : Int32) vrw vpl vrb vix vrs vps vq)) ||| (own_row (2 : Int32) (3 : Int32) vrw vpl vrb vix vrs vps vq)) ||| (own_row (3 : Int32) (0 : Int32) vrw vpl vrb vix vrs vps vq)))])) _
    refine XS.iload X45.here hx rfl (hb hby at_533) rfl ?_
    show Steps p.tables e below (T45.setTop (mkF m 535 #[.val (.int p1), .val (.int p2), .val (.int p3), .val (.int p4), .val (.int p5), .val (.int vrb), .val (.int vrw), .val (.int vpl), .val (.int vrs), .val (.int vps), .val (.int vix), .val (.int vq), .val (.int vv), .val (.int vf), .val (.int vw), .val (.ref b6), .val (.int got), .unset, .unset] [(.int vpl), (.int vrw), (.int (1 : Int32)), (.int (3 : Int32)), (.int (((((((((((((own_row (0 : Int32) (0 : Int32) vrw vpl vrb vix vrs vps vq) ||| (own_row (0 : Int32) (1 : Int32) vrw vpl vrb vix vrs vps vq)) ||| (own_row (0 : Int32) (2 : Int32) vrw vpl vrb vix vrs vps vq)) ||| (own_row (0 : Int32) (3 : Int32) vrw vpl vrb vix vrs vps vq)) ||| (own_row (1 : Int32) (0 : Int32) vrw vpl vrb vix vrs vps vq)) ||| (own_row (1 : Int32) (1 : Int32) vrw vpl vrb vix vrs vps vq)) ||| (own_row (1 : Int32) (2 : Int32) vrw vpl vrb vix vrs vps vq)) ||| (own_row (1 : Int32) (3 : Int32) vrw vpl vrb vix vrs vps vq)) ||| (own_row (2 : Int32) (0 : Int32) vrw vpl vrb vix vrs vps vq)) ||| (own_row (2 : Int32) (1 : Int32) vrw vpl vrb vix vrs vps vq)) ||| (own_row (2 : Int32) (2 : Int32) vrw vpl vrb vix vrs vps vq)) ||| (own_row (2 : Int32) (3 : Int32) vrw vpl vrb vix vrs vps vq)) ||| (own_row (3 : Int32) (0 : Int32) vrw vpl vrb vix vrs vps vq)))])) _
    refine XS.iload X45.here hx rfl (hb hby at_535) rfl ?_
    show Steps p.tables e below (T45.setTop (mkF m 537 #[.val (.int p1), .val (.int p2), .val (.int p3), .val (.int p4), .val (.int p5), .val (.int vrb), .val (.int vrw), .val (.int vpl), .val (.int vrs), .val (.int vps), .val (.int vix), .val (.int vq), .val (.int vv), .val (.int vf), .val (.int vw), .val (.ref b6), .val (.int got), .unset, .unset] [(.int vrb), (.int vpl), (.int vrw), (.int (1 : Int32)), (.int (3 : Int32)), (.int (((((((((((((own_row (0 : Int32) (0 : Int32) vrw vpl vrb vix vrs vps vq) ||| (own_row (0 : Int32) (1 : Int32) vrw vpl vrb vix vrs vps vq)) ||| (own_row (0 : Int32) (2 : Int32) vrw vpl vrb vix vrs vps vq)) ||| (own_row (0 : Int32) (3 : Int32) vrw vpl vrb vix vrs vps vq)) ||| (own_row (1 : Int32) (0 : Int32) vrw vpl vrb vix vrs vps vq)) ||| (own_row (1 : Int32) (1 : Int32) vrw vpl vrb vix vrs vps vq)) ||| (own_row (1 : Int32) (2 : Int32) vrw vpl vrb vix vrs vps vq)) ||| (own_row (1 : Int32) (3 : Int32) vrw vpl vrb vix vrs vps vq)) ||| (own_row (2 : Int32) (0 : Int32) vrw vpl vrb vix vrs vps vq)) ||| (own_row (2 : Int32) (1 : Int32) vrw vpl vrb vix vrs vps vq)) ||| (own_row (2 : Int32) (2 : Int32) vrw vpl vrb vix vrs vps vq)) ||| (own_row (2 : Int32) (3 : Int32) vrw vpl vrb vix vrs vps vq)) ||| (own_row (3 : Int32) (0 : Int32) vrw vpl vrb vix vrs vps vq)))])) _
    refine XS.iload X45.here hx rfl (hb hby at_537) rfl ?_
    show Steps p.tables e below (T45.setTop (mkF m 539 #[.val (.int p1), .val (.int p2), .val (.int p3), .val (.int p4), .val (.int p5), .val (.int vrb), .val (.int vrw), .val (.int vpl), .val (.int vrs), .val (.int vps), .val (.int vix), .val (.int vq), .val (.int vv), .val (.int vf), .val (.int vw), .val (.ref b6), .val (.int got), .unset, .unset] [(.int vix), (.int vrb), (.int vpl), (.int vrw), (.int (1 : Int32)), (.int (3 : Int32)), (.int (((((((((((((own_row (0 : Int32) (0 : Int32) vrw vpl vrb vix vrs vps vq) ||| (own_row (0 : Int32) (1 : Int32) vrw vpl vrb vix vrs vps vq)) ||| (own_row (0 : Int32) (2 : Int32) vrw vpl vrb vix vrs vps vq)) ||| (own_row (0 : Int32) (3 : Int32) vrw vpl vrb vix vrs vps vq)) ||| (own_row (1 : Int32) (0 : Int32) vrw vpl vrb vix vrs vps vq)) ||| (own_row (1 : Int32) (1 : Int32) vrw vpl vrb vix vrs vps vq)) ||| (own_row (1 : Int32) (2 : Int32) vrw vpl vrb vix vrs vps vq)) ||| (own_row (1 : Int32) (3 : Int32) vrw vpl vrb vix vrs vps vq)) ||| (own_row (2 : Int32) (0 : Int32) vrw vpl vrb vix vrs vps vq)) ||| (own_row (2 : Int32) (1 : Int32) vrw vpl vrb vix vrs vps vq)) ||| (own_row (2 : Int32) (2 : Int32) vrw vpl vrb vix vrs vps vq)) ||| (own_row (2 : Int32) (3 : Int32) vrw vpl vrb vix vrs vps vq)) ||| (own_row (3 : Int32) (0 : Int32) vrw vpl vrb vix vrs vps vq)))])) _
    refine XS.iload X45.here hx rfl (hb hby at_539) rfl ?_
    show Steps p.tables e below (T45.setTop (mkF m 541 #[.val (.int p1), .val (.int p2), .val (.int p3), .val (.int p4), .val (.int p5), .val (.int vrb), .val (.int vrw), .val (.int vpl), .val (.int vrs), .val (.int vps), .val (.int vix), .val (.int vq), .val (.int vv), .val (.int vf), .val (.int vw), .val (.ref b6), .val (.int got), .unset, .unset] [(.int vrs), (.int vix), (.int vrb), (.int vpl), (.int vrw), (.int (1 : Int32)), (.int (3 : Int32)), (.int (((((((((((((own_row (0 : Int32) (0 : Int32) vrw vpl vrb vix vrs vps vq) ||| (own_row (0 : Int32) (1 : Int32) vrw vpl vrb vix vrs vps vq)) ||| (own_row (0 : Int32) (2 : Int32) vrw vpl vrb vix vrs vps vq)) ||| (own_row (0 : Int32) (3 : Int32) vrw vpl vrb vix vrs vps vq)) ||| (own_row (1 : Int32) (0 : Int32) vrw vpl vrb vix vrs vps vq)) ||| (own_row (1 : Int32) (1 : Int32) vrw vpl vrb vix vrs vps vq)) ||| (own_row (1 : Int32) (2 : Int32) vrw vpl vrb vix vrs vps vq)) ||| (own_row (1 : Int32) (3 : Int32) vrw vpl vrb vix vrs vps vq)) ||| (own_row (2 : Int32) (0 : Int32) vrw vpl vrb vix vrs vps vq)) ||| (own_row (2 : Int32) (1 : Int32) vrw vpl vrb vix vrs vps vq)) ||| (own_row (2 : Int32) (2 : Int32) vrw vpl vrb vix vrs vps vq)) ||| (own_row (2 : Int32) (3 : Int32) vrw vpl vrb vix vrs vps vq)) ||| (own_row (3 : Int32) (0 : Int32) vrw vpl vrb vix vrs vps vq)))])) _
    refine XS.iload X45.here hx rfl (hb hby at_541) rfl ?_
    show Steps p.tables e below (T45.setTop (mkF m 543 #[.val (.int p1), .val (.int p2), .val (.int p3), .val (.int p4), .val (.int p5), .val (.int vrb), .val (.int vrw), .val (.int vpl), .val (.int vrs), .val (.int vps), .val (.int vix), .val (.int vq), .val (.int vv), .val (.int vf), .val (.int vw), .val (.ref b6), .val (.int got), .unset, .unset] [(.int vps), (.int vrs), (.int vix), (.int vrb), (.int vpl), (.int vrw), (.int (1 : Int32)), (.int (3 : Int32)), (.int (((((((((((((own_row (0 : Int32) (0 : Int32) vrw vpl vrb vix vrs vps vq) ||| (own_row (0 : Int32) (1 : Int32) vrw vpl vrb vix vrs vps vq)) ||| (own_row (0 : Int32) (2 : Int32) vrw vpl vrb vix vrs vps vq)) ||| (own_row (0 : Int32) (3 : Int32) vrw vpl vrb vix vrs vps vq)) ||| (own_row (1 : Int32) (0 : Int32) vrw vpl vrb vix vrs vps vq)) ||| (own_row (1 : Int32) (1 : Int32) vrw vpl vrb vix vrs vps vq)) ||| (own_row (1 : Int32) (2 : Int32) vrw vpl vrb vix vrs vps vq)) ||| (own_row (1 : Int32) (3 : Int32) vrw vpl vrb vix vrs vps vq)) ||| (own_row (2 : Int32) (0 : Int32) vrw vpl vrb vix vrs vps vq)) ||| (own_row (2 : Int32) (1 : Int32) vrw vpl vrb vix vrs vps vq)) ||| (own_row (2 : Int32) (2 : Int32) vrw vpl vrb vix vrs vps vq)) ||| (own_row (2 : Int32) (3 : Int32) vrw vpl vrb vix vrs vps vq)) ||| (own_row (3 : Int32) (0 : Int32) vrw vpl vrb vix vrs vps vq)))])) _
    refine XS.iload X45.here hx rfl (hb hby at_543) rfl ?_
    show Steps p.tables e below (T45.setTop (mkF m 545 #[.val (.int p1), .val (.int p2), .val (.int p3), .val (.int p4), .val (.int p5), .val (.int vrb), .val (.int vrw), .val (.int vpl), .val (.int vrs), .val (.int vps), .val (.int vix), .val (.int vq), .val (.int vv), .val (.int vf), .val (.int vw), .val (.ref b6), .val (.int got), .unset, .unset] [(.int vq), (.int vps), (.int vrs), (.int vix), (.int vrb), (.int vpl), (.int vrw), (.int (1 : Int32)), (.int (3 : Int32)), (.int (((((((((((((own_row (0 : Int32) (0 : Int32) vrw vpl vrb vix vrs vps vq) ||| (own_row (0 : Int32) (1 : Int32) vrw vpl vrb vix vrs vps vq)) ||| (own_row (0 : Int32) (2 : Int32) vrw vpl vrb vix vrs vps vq)) ||| (own_row (0 : Int32) (3 : Int32) vrw vpl vrb vix vrs vps vq)) ||| (own_row (1 : Int32) (0 : Int32) vrw vpl vrb vix vrs vps vq)) ||| (own_row (1 : Int32) (1 : Int32) vrw vpl vrb vix vrs vps vq)) ||| (own_row (1 : Int32) (2 : Int32) vrw vpl vrb vix vrs vps vq)) ||| (own_row (1 : Int32) (3 : Int32) vrw vpl vrb vix vrs vps vq)) ||| (own_row (2 : Int32) (0 : Int32) vrw vpl vrb vix vrs vps vq)) ||| (own_row (2 : Int32) (1 : Int32) vrw vpl vrb vix vrs vps vq)) ||| (own_row (2 : Int32) (2 : Int32) vrw vpl vrb vix vrs vps vq)) ||| (own_row (2 : Int32) (3 : Int32) vrw vpl vrb vix vrs vps vq)) ||| (own_row (3 : Int32) (0 : Int32) vrw vpl vrb vix vrs vps vq)))])) _
    refine st46 _ ?_
    show Steps p.tables e below (T46.setTop (mkF m 548 #[.val (.int p1), .val (.int p2), .val (.int p3), .val (.int p4), .val (.int p5), .val (.int vrb), .val (.int vrw), .val (.int vpl), .val (.int vrs), .val (.int vps), .val (.int vix), .val (.int vq), .val (.int vv), .val (.int vf), .val (.int vw), .val (.ref b6), .val (.int got), .unset, .unset] [(.int (own_row (3 : Int32) (1 : Int32) vrw vpl vrb vix vrs vps vq)), (.int (((((((((((((own_row (0 : Int32) (0 : Int32) vrw vpl vrb vix vrs vps vq) ||| (own_row (0 : Int32) (1 : Int32) vrw vpl vrb vix vrs vps vq)) ||| (own_row (0 : Int32) (2 : Int32) vrw vpl vrb vix vrs vps vq)) ||| (own_row (0 : Int32) (3 : Int32) vrw vpl vrb vix vrs vps vq)) ||| (own_row (1 : Int32) (0 : Int32) vrw vpl vrb vix vrs vps vq)) ||| (own_row (1 : Int32) (1 : Int32) vrw vpl vrb vix vrs vps vq)) ||| (own_row (1 : Int32) (2 : Int32) vrw vpl vrb vix vrs vps vq)) ||| (own_row (1 : Int32) (3 : Int32) vrw vpl vrb vix vrs vps vq)) ||| (own_row (2 : Int32) (0 : Int32) vrw vpl vrb vix vrs vps vq)) ||| (own_row (2 : Int32) (1 : Int32) vrw vpl vrb vix vrs vps vq)) ||| (own_row (2 : Int32) (2 : Int32) vrw vpl vrb vix vrs vps vq)) ||| (own_row (2 : Int32) (3 : Int32) vrw vpl vrb vix vrs vps vq)) ||| (own_row (3 : Int32) (0 : Int32) vrw vpl vrb vix vrs vps vq)))])) _
    refine XS.ior X46.here hx rfl (hb hby at_548) rfl ?_
    show Steps p.tables e below (T46.setTop (mkF m 549 #[.val (.int p1), .val (.int p2), .val (.int p3), .val (.int p4), .val (.int p5), .val (.int vrb), .val (.int vrw), .val (.int vpl), .val (.int vrs), .val (.int vps), .val (.int vix), .val (.int vq), .val (.int vv), .val (.int vf), .val (.int vw), .val (.ref b6), .val (.int got), .unset, .unset] [(.int ((((((((((((((own_row (0 : Int32) (0 : Int32) vrw vpl vrb vix vrs vps vq) ||| (own_row (0 : Int32) (1 : Int32) vrw vpl vrb vix vrs vps vq)) ||| (own_row (0 : Int32) (2 : Int32) vrw vpl vrb vix vrs vps vq)) ||| (own_row (0 : Int32) (3 : Int32) vrw vpl vrb vix vrs vps vq)) ||| (own_row (1 : Int32) (0 : Int32) vrw vpl vrb vix vrs vps vq)) ||| (own_row (1 : Int32) (1 : Int32) vrw vpl vrb vix vrs vps vq)) ||| (own_row (1 : Int32) (2 : Int32) vrw vpl vrb vix vrs vps vq)) ||| (own_row (1 : Int32) (3 : Int32) vrw vpl vrb vix vrs vps vq)) ||| (own_row (2 : Int32) (0 : Int32) vrw vpl vrb vix vrs vps vq)) ||| (own_row (2 : Int32) (1 : Int32) vrw vpl vrb vix vrs vps vq)) ||| (own_row (2 : Int32) (2 : Int32) vrw vpl vrb vix vrs vps vq)) ||| (own_row (2 : Int32) (3 : Int32) vrw vpl vrb vix vrs vps vq)) ||| (own_row (3 : Int32) (0 : Int32) vrw vpl vrb vix vrs vps vq)) ||| (own_row (3 : Int32) (1 : Int32) vrw vpl vrb vix vrs vps vq)))])) _
    refine XS.iconst X46.here hx rfl (hb hby at_549) ?_
    show Steps p.tables e below (T46.setTop (mkF m 550 #[.val (.int p1), .val (.int p2), .val (.int p3), .val (.int p4), .val (.int p5), .val (.int vrb), .val (.int vrw), .val (.int vpl), .val (.int vrs), .val (.int vps), .val (.int vix), .val (.int vq), .val (.int vv), .val (.int vf), .val (.int vw), .val (.ref b6), .val (.int got), .unset, .unset] [(.int (3 : Int32)), (.int ((((((((((((((own_row (0 : Int32) (0 : Int32) vrw vpl vrb vix vrs vps vq) ||| (own_row (0 : Int32) (1 : Int32) vrw vpl vrb vix vrs vps vq)) ||| (own_row (0 : Int32) (2 : Int32) vrw vpl vrb vix vrs vps vq)) ||| (own_row (0 : Int32) (3 : Int32) vrw vpl vrb vix vrs vps vq)) ||| (own_row (1 : Int32) (0 : Int32) vrw vpl vrb vix vrs vps vq)) ||| (own_row (1 : Int32) (1 : Int32) vrw vpl vrb vix vrs vps vq)) ||| (own_row (1 : Int32) (2 : Int32) vrw vpl vrb vix vrs vps vq)) ||| (own_row (1 : Int32) (3 : Int32) vrw vpl vrb vix vrs vps vq)) ||| (own_row (2 : Int32) (0 : Int32) vrw vpl vrb vix vrs vps vq)) ||| (own_row (2 : Int32) (1 : Int32) vrw vpl vrb vix vrs vps vq)) ||| (own_row (2 : Int32) (2 : Int32) vrw vpl vrb vix vrs vps vq)) ||| (own_row (2 : Int32) (3 : Int32) vrw vpl vrb vix vrs vps vq)) ||| (own_row (3 : Int32) (0 : Int32) vrw vpl vrb vix vrs vps vq)) ||| (own_row (3 : Int32) (1 : Int32) vrw vpl vrb vix vrs vps vq)))])) _
    refine XS.iconst X46.here hx rfl (hb hby at_550) ?_
    show Steps p.tables e below (T46.setTop (mkF m 551 #[.val (.int p1), .val (.int p2), .val (.int p3), .val (.int p4), .val (.int p5), .val (.int vrb), .val (.int vrw), .val (.int vpl), .val (.int vrs), .val (.int vps), .val (.int vix), .val (.int vq), .val (.int vv), .val (.int vf), .val (.int vw), .val (.ref b6), .val (.int got), .unset, .unset] [(.int (2 : Int32)), (.int (3 : Int32)), (.int ((((((((((((((own_row (0 : Int32) (0 : Int32) vrw vpl vrb vix vrs vps vq) ||| (own_row (0 : Int32) (1 : Int32) vrw vpl vrb vix vrs vps vq)) ||| (own_row (0 : Int32) (2 : Int32) vrw vpl vrb vix vrs vps vq)) ||| (own_row (0 : Int32) (3 : Int32) vrw vpl vrb vix vrs vps vq)) ||| (own_row (1 : Int32) (0 : Int32) vrw vpl vrb vix vrs vps vq)) ||| (own_row (1 : Int32) (1 : Int32) vrw vpl vrb vix vrs vps vq)) ||| (own_row (1 : Int32) (2 : Int32) vrw vpl vrb vix vrs vps vq)) ||| (own_row (1 : Int32) (3 : Int32) vrw vpl vrb vix vrs vps vq)) ||| (own_row (2 : Int32) (0 : Int32) vrw vpl vrb vix vrs vps vq)) ||| (own_row (2 : Int32) (1 : Int32) vrw vpl vrb vix vrs vps vq)) ||| (own_row (2 : Int32) (2 : Int32) vrw vpl vrb vix vrs vps vq)) ||| (own_row (2 : Int32) (3 : Int32) vrw vpl vrb vix vrs vps vq)) ||| (own_row (3 : Int32) (0 : Int32) vrw vpl vrb vix vrs vps vq)) ||| (own_row (3 : Int32) (1 : Int32) vrw vpl vrb vix vrs vps vq)))])) _
    refine XS.iload X46.here hx rfl (hb hby at_551) rfl ?_
    show Steps p.tables e below (T46.setTop (mkF m 553 #[.val (.int p1), .val (.int p2), .val (.int p3), .val (.int p4), .val (.int p5), .val (.int vrb), .val (.int vrw), .val (.int vpl), .val (.int vrs), .val (.int vps), .val (.int vix), .val (.int vq), .val (.int vv), .val (.int vf), .val (.int vw), .val (.ref b6), .val (.int got), .unset, .unset] [(.int vrw), (.int (2 : Int32)), (.int (3 : Int32)), (.int ((((((((((((((own_row (0 : Int32) (0 : Int32) vrw vpl vrb vix vrs vps vq) ||| (own_row (0 : Int32) (1 : Int32) vrw vpl vrb vix vrs vps vq)) ||| (own_row (0 : Int32) (2 : Int32) vrw vpl vrb vix vrs vps vq)) ||| (own_row (0 : Int32) (3 : Int32) vrw vpl vrb vix vrs vps vq)) ||| (own_row (1 : Int32) (0 : Int32) vrw vpl vrb vix vrs vps vq)) ||| (own_row (1 : Int32) (1 : Int32) vrw vpl vrb vix vrs vps vq)) ||| (own_row (1 : Int32) (2 : Int32) vrw vpl vrb vix vrs vps vq)) ||| (own_row (1 : Int32) (3 : Int32) vrw vpl vrb vix vrs vps vq)) ||| (own_row (2 : Int32) (0 : Int32) vrw vpl vrb vix vrs vps vq)) ||| (own_row (2 : Int32) (1 : Int32) vrw vpl vrb vix vrs vps vq)) ||| (own_row (2 : Int32) (2 : Int32) vrw vpl vrb vix vrs vps vq)) ||| (own_row (2 : Int32) (3 : Int32) vrw vpl vrb vix vrs vps vq)) ||| (own_row (3 : Int32) (0 : Int32) vrw vpl vrb vix vrs vps vq)) ||| (own_row (3 : Int32) (1 : Int32) vrw vpl vrb vix vrs vps vq)))])) _
    refine XS.iload X46.here hx rfl (hb hby at_553) rfl ?_
    show Steps p.tables e below (T46.setTop (mkF m 555 #[.val (.int p1), .val (.int p2), .val (.int p3), .val (.int p4), .val (.int p5), .val (.int vrb), .val (.int vrw), .val (.int vpl), .val (.int vrs), .val (.int vps), .val (.int vix), .val (.int vq), .val (.int vv), .val (.int vf), .val (.int vw), .val (.ref b6), .val (.int got), .unset, .unset] [(.int vpl), (.int vrw), (.int (2 : Int32)), (.int (3 : Int32)), (.int ((((((((((((((own_row (0 : Int32) (0 : Int32) vrw vpl vrb vix vrs vps vq) ||| (own_row (0 : Int32) (1 : Int32) vrw vpl vrb vix vrs vps vq)) ||| (own_row (0 : Int32) (2 : Int32) vrw vpl vrb vix vrs vps vq)) ||| (own_row (0 : Int32) (3 : Int32) vrw vpl vrb vix vrs vps vq)) ||| (own_row (1 : Int32) (0 : Int32) vrw vpl vrb vix vrs vps vq)) ||| (own_row (1 : Int32) (1 : Int32) vrw vpl vrb vix vrs vps vq)) ||| (own_row (1 : Int32) (2 : Int32) vrw vpl vrb vix vrs vps vq)) ||| (own_row (1 : Int32) (3 : Int32) vrw vpl vrb vix vrs vps vq)) ||| (own_row (2 : Int32) (0 : Int32) vrw vpl vrb vix vrs vps vq)) ||| (own_row (2 : Int32) (1 : Int32) vrw vpl vrb vix vrs vps vq)) ||| (own_row (2 : Int32) (2 : Int32) vrw vpl vrb vix vrs vps vq)) ||| (own_row (2 : Int32) (3 : Int32) vrw vpl vrb vix vrs vps vq)) ||| (own_row (3 : Int32) (0 : Int32) vrw vpl vrb vix vrs vps vq)) ||| (own_row (3 : Int32) (1 : Int32) vrw vpl vrb vix vrs vps vq)))])) _
    refine XS.iload X46.here hx rfl (hb hby at_555) rfl ?_
    show Steps p.tables e below (T46.setTop (mkF m 557 #[.val (.int p1), .val (.int p2), .val (.int p3), .val (.int p4), .val (.int p5), .val (.int vrb), .val (.int vrw), .val (.int vpl), .val (.int vrs), .val (.int vps), .val (.int vix), .val (.int vq), .val (.int vv), .val (.int vf), .val (.int vw), .val (.ref b6), .val (.int got), .unset, .unset] [(.int vrb), (.int vpl), (.int vrw), (.int (2 : Int32)), (.int (3 : Int32)), (.int ((((((((((((((own_row (0 : Int32) (0 : Int32) vrw vpl vrb vix vrs vps vq) ||| (own_row (0 : Int32) (1 : Int32) vrw vpl vrb vix vrs vps vq)) ||| (own_row (0 : Int32) (2 : Int32) vrw vpl vrb vix vrs vps vq)) ||| (own_row (0 : Int32) (3 : Int32) vrw vpl vrb vix vrs vps vq)) ||| (own_row (1 : Int32) (0 : Int32) vrw vpl vrb vix vrs vps vq)) ||| (own_row (1 : Int32) (1 : Int32) vrw vpl vrb vix vrs vps vq)) ||| (own_row (1 : Int32) (2 : Int32) vrw vpl vrb vix vrs vps vq)) ||| (own_row (1 : Int32) (3 : Int32) vrw vpl vrb vix vrs vps vq)) ||| (own_row (2 : Int32) (0 : Int32) vrw vpl vrb vix vrs vps vq)) ||| (own_row (2 : Int32) (1 : Int32) vrw vpl vrb vix vrs vps vq)) ||| (own_row (2 : Int32) (2 : Int32) vrw vpl vrb vix vrs vps vq)) ||| (own_row (2 : Int32) (3 : Int32) vrw vpl vrb vix vrs vps vq)) ||| (own_row (3 : Int32) (0 : Int32) vrw vpl vrb vix vrs vps vq)) ||| (own_row (3 : Int32) (1 : Int32) vrw vpl vrb vix vrs vps vq)))])) _
    refine XS.iload X46.here hx rfl (hb hby at_557) rfl ?_
    show Steps p.tables e below (T46.setTop (mkF m 559 #[.val (.int p1), .val (.int p2), .val (.int p3), .val (.int p4), .val (.int p5), .val (.int vrb), .val (.int vrw), .val (.int vpl), .val (.int vrs), .val (.int vps), .val (.int vix), .val (.int vq), .val (.int vv), .val (.int vf), .val (.int vw), .val (.ref b6), .val (.int got), .unset, .unset] [(.int vix), (.int vrb), (.int vpl), (.int vrw), (.int (2 : Int32)), (.int (3 : Int32)), (.int ((((((((((((((own_row (0 : Int32) (0 : Int32) vrw vpl vrb vix vrs vps vq) ||| (own_row (0 : Int32) (1 : Int32) vrw vpl vrb vix vrs vps vq)) ||| (own_row (0 : Int32) (2 : Int32) vrw vpl vrb vix vrs vps vq)) ||| (own_row (0 : Int32) (3 : Int32) vrw vpl vrb vix vrs vps vq)) ||| (own_row (1 : Int32) (0 : Int32) vrw vpl vrb vix vrs vps vq)) ||| (own_row (1 : Int32) (1 : Int32) vrw vpl vrb vix vrs vps vq)) ||| (own_row (1 : Int32) (2 : Int32) vrw vpl vrb vix vrs vps vq)) ||| (own_row (1 : Int32) (3 : Int32) vrw vpl vrb vix vrs vps vq)) ||| (own_row (2 : Int32) (0 : Int32) vrw vpl vrb vix vrs vps vq)) ||| (own_row (2 : Int32) (1 : Int32) vrw vpl vrb vix vrs vps vq)) ||| (own_row (2 : Int32) (2 : Int32) vrw vpl vrb vix vrs vps vq)) ||| (own_row (2 : Int32) (3 : Int32) vrw vpl vrb vix vrs vps vq)) ||| (own_row (3 : Int32) (0 : Int32) vrw vpl vrb vix vrs vps vq)) ||| (own_row (3 : Int32) (1 : Int32) vrw vpl vrb vix vrs vps vq)))])) _
    refine XS.iload X46.here hx rfl (hb hby at_559) rfl ?_
    show Steps p.tables e below (T46.setTop (mkF m 561 #[.val (.int p1), .val (.int p2), .val (.int p3), .val (.int p4), .val (.int p5), .val (.int vrb), .val (.int vrw), .val (.int vpl), .val (.int vrs), .val (.int vps), .val (.int vix), .val (.int vq), .val (.int vv), .val (.int vf), .val (.int vw), .val (.ref b6), .val (.int got), .unset, .unset] [(.int vrs), (.int vix), (.int vrb), (.int vpl), (.int vrw), (.int (2 : Int32)), (.int (3 : Int32)), (.int ((((((((((((((own_row (0 : Int32) (0 : Int32) vrw vpl vrb vix vrs vps vq) ||| (own_row (0 : Int32) (1 : Int32) vrw vpl vrb vix vrs vps vq)) ||| (own_row (0 : Int32) (2 : Int32) vrw vpl vrb vix vrs vps vq)) ||| (own_row (0 : Int32) (3 : Int32) vrw vpl vrb vix vrs vps vq)) ||| (own_row (1 : Int32) (0 : Int32) vrw vpl vrb vix vrs vps vq)) ||| (own_row (1 : Int32) (1 : Int32) vrw vpl vrb vix vrs vps vq)) ||| (own_row (1 : Int32) (2 : Int32) vrw vpl vrb vix vrs vps vq)) ||| (own_row (1 : Int32) (3 : Int32) vrw vpl vrb vix vrs vps vq)) ||| (own_row (2 : Int32) (0 : Int32) vrw vpl vrb vix vrs vps vq)) ||| (own_row (2 : Int32) (1 : Int32) vrw vpl vrb vix vrs vps vq)) ||| (own_row (2 : Int32) (2 : Int32) vrw vpl vrb vix vrs vps vq)) ||| (own_row (2 : Int32) (3 : Int32) vrw vpl vrb vix vrs vps vq)) ||| (own_row (3 : Int32) (0 : Int32) vrw vpl vrb vix vrs vps vq)) ||| (own_row (3 : Int32) (1 : Int32) vrw vpl vrb vix vrs vps vq)))])) _
    refine XS.iload X46.here hx rfl (hb hby at_561) rfl ?_
    show Steps p.tables e below (T46.setTop (mkF m 563 #[.val (.int p1), .val (.int p2), .val (.int p3), .val (.int p4), .val (.int p5), .val (.int vrb), .val (.int vrw), .val (.int vpl), .val (.int vrs), .val (.int vps), .val (.int vix), .val (.int vq), .val (.int vv), .val (.int vf), .val (.int vw), .val (.ref b6), .val (.int got), .unset, .unset] [(.int vps), (.int vrs), (.int vix), (.int vrb), (.int vpl), (.int vrw), (.int (2 : Int32)), (.int (3 : Int32)), (.int ((((((((((((((own_row (0 : Int32) (0 : Int32) vrw vpl vrb vix vrs vps vq) ||| (own_row (0 : Int32) (1 : Int32) vrw vpl vrb vix vrs vps vq)) ||| (own_row (0 : Int32) (2 : Int32) vrw vpl vrb vix vrs vps vq)) ||| (own_row (0 : Int32) (3 : Int32) vrw vpl vrb vix vrs vps vq)) ||| (own_row (1 : Int32) (0 : Int32) vrw vpl vrb vix vrs vps vq)) ||| (own_row (1 : Int32) (1 : Int32) vrw vpl vrb vix vrs vps vq)) ||| (own_row (1 : Int32) (2 : Int32) vrw vpl vrb vix vrs vps vq)) ||| (own_row (1 : Int32) (3 : Int32) vrw vpl vrb vix vrs vps vq)) ||| (own_row (2 : Int32) (0 : Int32) vrw vpl vrb vix vrs vps vq)) ||| (own_row (2 : Int32) (1 : Int32) vrw vpl vrb vix vrs vps vq)) ||| (own_row (2 : Int32) (2 : Int32) vrw vpl vrb vix vrs vps vq)) ||| (own_row (2 : Int32) (3 : Int32) vrw vpl vrb vix vrs vps vq)) ||| (own_row (3 : Int32) (0 : Int32) vrw vpl vrb vix vrs vps vq)) ||| (own_row (3 : Int32) (1 : Int32) vrw vpl vrb vix vrs vps vq)))])) _
    refine XS.iload X46.here hx rfl (hb hby at_563) rfl ?_
    show Steps p.tables e below (T46.setTop (mkF m 565 #[.val (.int p1), .val (.int p2), .val (.int p3), .val (.int p4), .val (.int p5), .val (.int vrb), .val (.int vrw), .val (.int vpl), .val (.int vrs), .val (.int vps), .val (.int vix), .val (.int vq), .val (.int vv), .val (.int vf), .val (.int vw), .val (.ref b6), .val (.int got), .unset, .unset] [(.int vq), (.int vps), (.int vrs), (.int vix), (.int vrb), (.int vpl), (.int vrw), (.int (2 : Int32)), (.int (3 : Int32)), (.int ((((((((((((((own_row (0 : Int32) (0 : Int32) vrw vpl vrb vix vrs vps vq) ||| (own_row (0 : Int32) (1 : Int32) vrw vpl vrb vix vrs vps vq)) ||| (own_row (0 : Int32) (2 : Int32) vrw vpl vrb vix vrs vps vq)) ||| (own_row (0 : Int32) (3 : Int32) vrw vpl vrb vix vrs vps vq)) ||| (own_row (1 : Int32) (0 : Int32) vrw vpl vrb vix vrs vps vq)) ||| (own_row (1 : Int32) (1 : Int32) vrw vpl vrb vix vrs vps vq)) ||| (own_row (1 : Int32) (2 : Int32) vrw vpl vrb vix vrs vps vq)) ||| (own_row (1 : Int32) (3 : Int32) vrw vpl vrb vix vrs vps vq)) ||| (own_row (2 : Int32) (0 : Int32) vrw vpl vrb vix vrs vps vq)) ||| (own_row (2 : Int32) (1 : Int32) vrw vpl vrb vix vrs vps vq)) ||| (own_row (2 : Int32) (2 : Int32) vrw vpl vrb vix vrs vps vq)) ||| (own_row (2 : Int32) (3 : Int32) vrw vpl vrb vix vrs vps vq)) ||| (own_row (3 : Int32) (0 : Int32) vrw vpl vrb vix vrs vps vq)) ||| (own_row (3 : Int32) (1 : Int32) vrw vpl vrb vix vrs vps vq)))])) _
    refine st47 _ ?_
    show Steps p.tables e below (T47.setTop (mkF m 568 #[.val (.int p1), .val (.int p2), .val (.int p3), .val (.int p4), .val (.int p5), .val (.int vrb), .val (.int vrw), .val (.int vpl), .val (.int vrs), .val (.int vps), .val (.int vix), .val (.int vq), .val (.int vv), .val (.int vf), .val (.int vw), .val (.ref b6), .val (.int got), .unset, .unset] [(.int (own_row (3 : Int32) (2 : Int32) vrw vpl vrb vix vrs vps vq)), (.int ((((((((((((((own_row (0 : Int32) (0 : Int32) vrw vpl vrb vix vrs vps vq) ||| (own_row (0 : Int32) (1 : Int32) vrw vpl vrb vix vrs vps vq)) ||| (own_row (0 : Int32) (2 : Int32) vrw vpl vrb vix vrs vps vq)) ||| (own_row (0 : Int32) (3 : Int32) vrw vpl vrb vix vrs vps vq)) ||| (own_row (1 : Int32) (0 : Int32) vrw vpl vrb vix vrs vps vq)) ||| (own_row (1 : Int32) (1 : Int32) vrw vpl vrb vix vrs vps vq)) ||| (own_row (1 : Int32) (2 : Int32) vrw vpl vrb vix vrs vps vq)) ||| (own_row (1 : Int32) (3 : Int32) vrw vpl vrb vix vrs vps vq)) ||| (own_row (2 : Int32) (0 : Int32) vrw vpl vrb vix vrs vps vq)) ||| (own_row (2 : Int32) (1 : Int32) vrw vpl vrb vix vrs vps vq)) ||| (own_row (2 : Int32) (2 : Int32) vrw vpl vrb vix vrs vps vq)) ||| (own_row (2 : Int32) (3 : Int32) vrw vpl vrb vix vrs vps vq)) ||| (own_row (3 : Int32) (0 : Int32) vrw vpl vrb vix vrs vps vq)) ||| (own_row (3 : Int32) (1 : Int32) vrw vpl vrb vix vrs vps vq)))])) _
    refine XS.ior X47.here hx rfl (hb hby at_568) rfl ?_
    show Steps p.tables e below (T47.setTop (mkF m 569 #[.val (.int p1), .val (.int p2), .val (.int p3), .val (.int p4), .val (.int p5), .val (.int vrb), .val (.int vrw), .val (.int vpl), .val (.int vrs), .val (.int vps), .val (.int vix), .val (.int vq), .val (.int vv), .val (.int vf), .val (.int vw), .val (.ref b6), .val (.int got), .unset, .unset] [(.int (((((((((((((((own_row (0 : Int32) (0 : Int32) vrw vpl vrb vix vrs vps vq) ||| (own_row (0 : Int32) (1 : Int32) vrw vpl vrb vix vrs vps vq)) ||| (own_row (0 : Int32) (2 : Int32) vrw vpl vrb vix vrs vps vq)) ||| (own_row (0 : Int32) (3 : Int32) vrw vpl vrb vix vrs vps vq)) ||| (own_row (1 : Int32) (0 : Int32) vrw vpl vrb vix vrs vps vq)) ||| (own_row (1 : Int32) (1 : Int32) vrw vpl vrb vix vrs vps vq)) ||| (own_row (1 : Int32) (2 : Int32) vrw vpl vrb vix vrs vps vq)) ||| (own_row (1 : Int32) (3 : Int32) vrw vpl vrb vix vrs vps vq)) ||| (own_row (2 : Int32) (0 : Int32) vrw vpl vrb vix vrs vps vq)) ||| (own_row (2 : Int32) (1 : Int32) vrw vpl vrb vix vrs vps vq)) ||| (own_row (2 : Int32) (2 : Int32) vrw vpl vrb vix vrs vps vq)) ||| (own_row (2 : Int32) (3 : Int32) vrw vpl vrb vix vrs vps vq)) ||| (own_row (3 : Int32) (0 : Int32) vrw vpl vrb vix vrs vps vq)) ||| (own_row (3 : Int32) (1 : Int32) vrw vpl vrb vix vrs vps vq)) ||| (own_row (3 : Int32) (2 : Int32) vrw vpl vrb vix vrs vps vq)))])) _
    refine XS.iconst X47.here hx rfl (hb hby at_569) ?_
    show Steps p.tables e below (T47.setTop (mkF m 570 #[.val (.int p1), .val (.int p2), .val (.int p3), .val (.int p4), .val (.int p5), .val (.int vrb), .val (.int vrw), .val (.int vpl), .val (.int vrs), .val (.int vps), .val (.int vix), .val (.int vq), .val (.int vv), .val (.int vf), .val (.int vw), .val (.ref b6), .val (.int got), .unset, .unset] [(.int (3 : Int32)), (.int (((((((((((((((own_row (0 : Int32) (0 : Int32) vrw vpl vrb vix vrs vps vq) ||| (own_row (0 : Int32) (1 : Int32) vrw vpl vrb vix vrs vps vq)) ||| (own_row (0 : Int32) (2 : Int32) vrw vpl vrb vix vrs vps vq)) ||| (own_row (0 : Int32) (3 : Int32) vrw vpl vrb vix vrs vps vq)) ||| (own_row (1 : Int32) (0 : Int32) vrw vpl vrb vix vrs vps vq)) ||| (own_row (1 : Int32) (1 : Int32) vrw vpl vrb vix vrs vps vq)) ||| (own_row (1 : Int32) (2 : Int32) vrw vpl vrb vix vrs vps vq)) ||| (own_row (1 : Int32) (3 : Int32) vrw vpl vrb vix vrs vps vq)) ||| (own_row (2 : Int32) (0 : Int32) vrw vpl vrb vix vrs vps vq)) ||| (own_row (2 : Int32) (1 : Int32) vrw vpl vrb vix vrs vps vq)) ||| (own_row (2 : Int32) (2 : Int32) vrw vpl vrb vix vrs vps vq)) ||| (own_row (2 : Int32) (3 : Int32) vrw vpl vrb vix vrs vps vq)) ||| (own_row (3 : Int32) (0 : Int32) vrw vpl vrb vix vrs vps vq)) ||| (own_row (3 : Int32) (1 : Int32) vrw vpl vrb vix vrs vps vq)) ||| (own_row (3 : Int32) (2 : Int32) vrw vpl vrb vix vrs vps vq)))])) _
    refine XS.iconst X47.here hx rfl (hb hby at_570) ?_
    show Steps p.tables e below (T47.setTop (mkF m 571 #[.val (.int p1), .val (.int p2), .val (.int p3), .val (.int p4), .val (.int p5), .val (.int vrb), .val (.int vrw), .val (.int vpl), .val (.int vrs), .val (.int vps), .val (.int vix), .val (.int vq), .val (.int vv), .val (.int vf), .val (.int vw), .val (.ref b6), .val (.int got), .unset, .unset] [(.int (3 : Int32)), (.int (3 : Int32)), (.int (((((((((((((((own_row (0 : Int32) (0 : Int32) vrw vpl vrb vix vrs vps vq) ||| (own_row (0 : Int32) (1 : Int32) vrw vpl vrb vix vrs vps vq)) ||| (own_row (0 : Int32) (2 : Int32) vrw vpl vrb vix vrs vps vq)) ||| (own_row (0 : Int32) (3 : Int32) vrw vpl vrb vix vrs vps vq)) ||| (own_row (1 : Int32) (0 : Int32) vrw vpl vrb vix vrs vps vq)) ||| (own_row (1 : Int32) (1 : Int32) vrw vpl vrb vix vrs vps vq)) ||| (own_row (1 : Int32) (2 : Int32) vrw vpl vrb vix vrs vps vq)) ||| (own_row (1 : Int32) (3 : Int32) vrw vpl vrb vix vrs vps vq)) ||| (own_row (2 : Int32) (0 : Int32) vrw vpl vrb vix vrs vps vq)) ||| (own_row (2 : Int32) (1 : Int32) vrw vpl vrb vix vrs vps vq)) ||| (own_row (2 : Int32) (2 : Int32) vrw vpl vrb vix vrs vps vq)) ||| (own_row (2 : Int32) (3 : Int32) vrw vpl vrb vix vrs vps vq)) ||| (own_row (3 : Int32) (0 : Int32) vrw vpl vrb vix vrs vps vq)) ||| (own_row (3 : Int32) (1 : Int32) vrw vpl vrb vix vrs vps vq)) ||| (own_row (3 : Int32) (2 : Int32) vrw vpl vrb vix vrs vps vq)))])) _
    refine XS.iload X47.here hx rfl (hb hby at_571) rfl ?_
    show Steps p.tables e below (T47.setTop (mkF m 573 #[.val (.int p1), .val (.int p2), .val (.int p3), .val (.int p4), .val (.int p5), .val (.int vrb), .val (.int vrw), .val (.int vpl), .val (.int vrs), .val (.int vps), .val (.int vix), .val (.int vq), .val (.int vv), .val (.int vf), .val (.int vw), .val (.ref b6), .val (.int got), .unset, .unset] [(.int vrw), (.int (3 : Int32)), (.int (3 : Int32)), (.int (((((((((((((((own_row (0 : Int32) (0 : Int32) vrw vpl vrb vix vrs vps vq) ||| (own_row (0 : Int32) (1 : Int32) vrw vpl vrb vix vrs vps vq)) ||| (own_row (0 : Int32) (2 : Int32) vrw vpl vrb vix vrs vps vq)) ||| (own_row (0 : Int32) (3 : Int32) vrw vpl vrb vix vrs vps vq)) ||| (own_row (1 : Int32) (0 : Int32) vrw vpl vrb vix vrs vps vq)) ||| (own_row (1 : Int32) (1 : Int32) vrw vpl vrb vix vrs vps vq)) ||| (own_row (1 : Int32) (2 : Int32) vrw vpl vrb vix vrs vps vq)) ||| (own_row (1 : Int32) (3 : Int32) vrw vpl vrb vix vrs vps vq)) ||| (own_row (2 : Int32) (0 : Int32) vrw vpl vrb vix vrs vps vq)) ||| (own_row (2 : Int32) (1 : Int32) vrw vpl vrb vix vrs vps vq)) ||| (own_row (2 : Int32) (2 : Int32) vrw vpl vrb vix vrs vps vq)) ||| (own_row (2 : Int32) (3 : Int32) vrw vpl vrb vix vrs vps vq)) ||| (own_row (3 : Int32) (0 : Int32) vrw vpl vrb vix vrs vps vq)) ||| (own_row (3 : Int32) (1 : Int32) vrw vpl vrb vix vrs vps vq)) ||| (own_row (3 : Int32) (2 : Int32) vrw vpl vrb vix vrs vps vq)))])) _
    refine XS.iload X47.here hx rfl (hb hby at_573) rfl ?_
    show Steps p.tables e below (T47.setTop (mkF m 575 #[.val (.int p1), .val (.int p2), .val (.int p3), .val (.int p4), .val (.int p5), .val (.int vrb), .val (.int vrw), .val (.int vpl), .val (.int vrs), .val (.int vps), .val (.int vix), .val (.int vq), .val (.int vv), .val (.int vf), .val (.int vw), .val (.ref b6), .val (.int got), .unset, .unset] [(.int vpl), (.int vrw), (.int (3 : Int32)), (.int (3 : Int32)), (.int (((((((((((((((own_row (0 : Int32) (0 : Int32) vrw vpl vrb vix vrs vps vq) ||| (own_row (0 : Int32) (1 : Int32) vrw vpl vrb vix vrs vps vq)) ||| (own_row (0 : Int32) (2 : Int32) vrw vpl vrb vix vrs vps vq)) ||| (own_row (0 : Int32) (3 : Int32) vrw vpl vrb vix vrs vps vq)) ||| (own_row (1 : Int32) (0 : Int32) vrw vpl vrb vix vrs vps vq)) ||| (own_row (1 : Int32) (1 : Int32) vrw vpl vrb vix vrs vps vq)) ||| (own_row (1 : Int32) (2 : Int32) vrw vpl vrb vix vrs vps vq)) ||| (own_row (1 : Int32) (3 : Int32) vrw vpl vrb vix vrs vps vq)) ||| (own_row (2 : Int32) (0 : Int32) vrw vpl vrb vix vrs vps vq)) ||| (own_row (2 : Int32) (1 : Int32) vrw vpl vrb vix vrs vps vq)) ||| (own_row (2 : Int32) (2 : Int32) vrw vpl vrb vix vrs vps vq)) ||| (own_row (2 : Int32) (3 : Int32) vrw vpl vrb vix vrs vps vq)) ||| (own_row (3 : Int32) (0 : Int32) vrw vpl vrb vix vrs vps vq)) ||| (own_row (3 : Int32) (1 : Int32) vrw vpl vrb vix vrs vps vq)) ||| (own_row (3 : Int32) (2 : Int32) vrw vpl vrb vix vrs vps vq)))])) _
    refine XS.iload X47.here hx rfl (hb hby at_575) rfl ?_
    show Steps p.tables e below (T47.setTop (mkF m 577 #[.val (.int p1), .val (.int p2), .val (.int p3), .val (.int p4), .val (.int p5), .val (.int vrb), .val (.int vrw), .val (.int vpl), .val (.int vrs), .val (.int vps), .val (.int vix), .val (.int vq), .val (.int vv), .val (.int vf), .val (.int vw), .val (.ref b6), .val (.int got), .unset, .unset] [(.int vrb), (.int vpl), (.int vrw), (.int (3 : Int32)), (.int (3 : Int32)), (.int (((((((((((((((own_row (0 : Int32) (0 : Int32) vrw vpl vrb vix vrs vps vq) ||| (own_row (0 : Int32) (1 : Int32) vrw vpl vrb vix vrs vps vq)) ||| (own_row (0 : Int32) (2 : Int32) vrw vpl vrb vix vrs vps vq)) ||| (own_row (0 : Int32) (3 : Int32) vrw vpl vrb vix vrs vps vq)) ||| (own_row (1 : Int32) (0 : Int32) vrw vpl vrb vix vrs vps vq)) ||| (own_row (1 : Int32) (1 : Int32) vrw vpl vrb vix vrs vps vq)) ||| (own_row (1 : Int32) (2 : Int32) vrw vpl vrb vix vrs vps vq)) ||| (own_row (1 : Int32) (3 : Int32) vrw vpl vrb vix vrs vps vq)) ||| (own_row (2 : Int32) (0 : Int32) vrw vpl vrb vix vrs vps vq)) ||| (own_row (2 : Int32) (1 : Int32) vrw vpl vrb vix vrs vps vq)) ||| (own_row (2 : Int32) (2 : Int32) vrw vpl vrb vix vrs vps vq)) ||| (own_row (2 : Int32) (3 : Int32) vrw vpl vrb vix vrs vps vq)) ||| (own_row (3 : Int32) (0 : Int32) vrw vpl vrb vix vrs vps vq)) ||| (own_row (3 : Int32) (1 : Int32) vrw vpl vrb vix vrs vps vq)) ||| (own_row (3 : Int32) (2 : Int32) vrw vpl vrb vix vrs vps vq)))])) _
    refine XS.iload X47.here hx rfl (hb hby at_577) rfl ?_
    show Steps p.tables e below (T47.setTop (mkF m 579 #[.val (.int p1), .val (.int p2), .val (.int p3), .val (.int p4), .val (.int p5), .val (.int vrb), .val (.int vrw), .val (.int vpl), .val (.int vrs), .val (.int vps), .val (.int vix), .val (.int vq), .val (.int vv), .val (.int vf), .val (.int vw), .val (.ref b6), .val (.int got), .unset, .unset] [(.int vix), (.int vrb), (.int vpl), (.int vrw), (.int (3 : Int32)), (.int (3 : Int32)), (.int (((((((((((((((own_row (0 : Int32) (0 : Int32) vrw vpl vrb vix vrs vps vq) ||| (own_row (0 : Int32) (1 : Int32) vrw vpl vrb vix vrs vps vq)) ||| (own_row (0 : Int32) (2 : Int32) vrw vpl vrb vix vrs vps vq)) ||| (own_row (0 : Int32) (3 : Int32) vrw vpl vrb vix vrs vps vq)) ||| (own_row (1 : Int32) (0 : Int32) vrw vpl vrb vix vrs vps vq)) ||| (own_row (1 : Int32) (1 : Int32) vrw vpl vrb vix vrs vps vq)) ||| (own_row (1 : Int32) (2 : Int32) vrw vpl vrb vix vrs vps vq)) ||| (own_row (1 : Int32) (3 : Int32) vrw vpl vrb vix vrs vps vq)) ||| (own_row (2 : Int32) (0 : Int32) vrw vpl vrb vix vrs vps vq)) ||| (own_row (2 : Int32) (1 : Int32) vrw vpl vrb vix vrs vps vq)) ||| (own_row (2 : Int32) (2 : Int32) vrw vpl vrb vix vrs vps vq)) ||| (own_row (2 : Int32) (3 : Int32) vrw vpl vrb vix vrs vps vq)) ||| (own_row (3 : Int32) (0 : Int32) vrw vpl vrb vix vrs vps vq)) ||| (own_row (3 : Int32) (1 : Int32) vrw vpl vrb vix vrs vps vq)) ||| (own_row (3 : Int32) (2 : Int32) vrw vpl vrb vix vrs vps vq)))])) _
    refine XS.iload X47.here hx rfl (hb hby at_579) rfl ?_
    show Steps p.tables e below (T47.setTop (mkF m 581 #[.val (.int p1), .val (.int p2), .val (.int p3), .val (.int p4), .val (.int p5), .val (.int vrb), .val (.int vrw), .val (.int vpl), .val (.int vrs), .val (.int vps), .val (.int vix), .val (.int vq), .val (.int vv), .val (.int vf), .val (.int vw), .val (.ref b6), .val (.int got), .unset, .unset] [(.int vrs), (.int vix), (.int vrb), (.int vpl), (.int vrw), (.int (3 : Int32)), (.int (3 : Int32)), (.int (((((((((((((((own_row (0 : Int32) (0 : Int32) vrw vpl vrb vix vrs vps vq) ||| (own_row (0 : Int32) (1 : Int32) vrw vpl vrb vix vrs vps vq)) ||| (own_row (0 : Int32) (2 : Int32) vrw vpl vrb vix vrs vps vq)) ||| (own_row (0 : Int32) (3 : Int32) vrw vpl vrb vix vrs vps vq)) ||| (own_row (1 : Int32) (0 : Int32) vrw vpl vrb vix vrs vps vq)) ||| (own_row (1 : Int32) (1 : Int32) vrw vpl vrb vix vrs vps vq)) ||| (own_row (1 : Int32) (2 : Int32) vrw vpl vrb vix vrs vps vq)) ||| (own_row (1 : Int32) (3 : Int32) vrw vpl vrb vix vrs vps vq)) ||| (own_row (2 : Int32) (0 : Int32) vrw vpl vrb vix vrs vps vq)) ||| (own_row (2 : Int32) (1 : Int32) vrw vpl vrb vix vrs vps vq)) ||| (own_row (2 : Int32) (2 : Int32) vrw vpl vrb vix vrs vps vq)) ||| (own_row (2 : Int32) (3 : Int32) vrw vpl vrb vix vrs vps vq)) ||| (own_row (3 : Int32) (0 : Int32) vrw vpl vrb vix vrs vps vq)) ||| (own_row (3 : Int32) (1 : Int32) vrw vpl vrb vix vrs vps vq)) ||| (own_row (3 : Int32) (2 : Int32) vrw vpl vrb vix vrs vps vq)))])) _
    refine XS.iload X47.here hx rfl (hb hby at_581) rfl ?_
    show Steps p.tables e below (T47.setTop (mkF m 583 #[.val (.int p1), .val (.int p2), .val (.int p3), .val (.int p4), .val (.int p5), .val (.int vrb), .val (.int vrw), .val (.int vpl), .val (.int vrs), .val (.int vps), .val (.int vix), .val (.int vq), .val (.int vv), .val (.int vf), .val (.int vw), .val (.ref b6), .val (.int got), .unset, .unset] [(.int vps), (.int vrs), (.int vix), (.int vrb), (.int vpl), (.int vrw), (.int (3 : Int32)), (.int (3 : Int32)), (.int (((((((((((((((own_row (0 : Int32) (0 : Int32) vrw vpl vrb vix vrs vps vq) ||| (own_row (0 : Int32) (1 : Int32) vrw vpl vrb vix vrs vps vq)) ||| (own_row (0 : Int32) (2 : Int32) vrw vpl vrb vix vrs vps vq)) ||| (own_row (0 : Int32) (3 : Int32) vrw vpl vrb vix vrs vps vq)) ||| (own_row (1 : Int32) (0 : Int32) vrw vpl vrb vix vrs vps vq)) ||| (own_row (1 : Int32) (1 : Int32) vrw vpl vrb vix vrs vps vq)) ||| (own_row (1 : Int32) (2 : Int32) vrw vpl vrb vix vrs vps vq)) ||| (own_row (1 : Int32) (3 : Int32) vrw vpl vrb vix vrs vps vq)) ||| (own_row (2 : Int32) (0 : Int32) vrw vpl vrb vix vrs vps vq)) ||| (own_row (2 : Int32) (1 : Int32) vrw vpl vrb vix vrs vps vq)) ||| (own_row (2 : Int32) (2 : Int32) vrw vpl vrb vix vrs vps vq)) ||| (own_row (2 : Int32) (3 : Int32) vrw vpl vrb vix vrs vps vq)) ||| (own_row (3 : Int32) (0 : Int32) vrw vpl vrb vix vrs vps vq)) ||| (own_row (3 : Int32) (1 : Int32) vrw vpl vrb vix vrs vps vq)) ||| (own_row (3 : Int32) (2 : Int32) vrw vpl vrb vix vrs vps vq)))])) _
    refine XS.iload X47.here hx rfl (hb hby at_583) rfl ?_
    show Steps p.tables e below (T47.setTop (mkF m 585 #[.val (.int p1), .val (.int p2), .val (.int p3), .val (.int p4), .val (.int p5), .val (.int vrb), .val (.int vrw), .val (.int vpl), .val (.int vrs), .val (.int vps), .val (.int vix), .val (.int vq), .val (.int vv), .val (.int vf), .val (.int vw), .val (.ref b6), .val (.int got), .unset, .unset] [(.int vq), (.int vps), (.int vrs), (.int vix), (.int vrb), (.int vpl), (.int vrw), (.int (3 : Int32)), (.int (3 : Int32)), (.int (((((((((((((((own_row (0 : Int32) (0 : Int32) vrw vpl vrb vix vrs vps vq) ||| (own_row (0 : Int32) (1 : Int32) vrw vpl vrb vix vrs vps vq)) ||| (own_row (0 : Int32) (2 : Int32) vrw vpl vrb vix vrs vps vq)) ||| (own_row (0 : Int32) (3 : Int32) vrw vpl vrb vix vrs vps vq)) ||| (own_row (1 : Int32) (0 : Int32) vrw vpl vrb vix vrs vps vq)) ||| (own_row (1 : Int32) (1 : Int32) vrw vpl vrb vix vrs vps vq)) ||| (own_row (1 : Int32) (2 : Int32) vrw vpl vrb vix vrs vps vq)) ||| (own_row (1 : Int32) (3 : Int32) vrw vpl vrb vix vrs vps vq)) ||| (own_row (2 : Int32) (0 : Int32) vrw vpl vrb vix vrs vps vq)) ||| (own_row (2 : Int32) (1 : Int32) vrw vpl vrb vix vrs vps vq)) ||| (own_row (2 : Int32) (2 : Int32) vrw vpl vrb vix vrs vps vq)) ||| (own_row (2 : Int32) (3 : Int32) vrw vpl vrb vix vrs vps vq)) ||| (own_row (3 : Int32) (0 : Int32) vrw vpl vrb vix vrs vps vq)) ||| (own_row (3 : Int32) (1 : Int32) vrw vpl vrb vix vrs vps vq)) ||| (own_row (3 : Int32) (2 : Int32) vrw vpl vrb vix vrs vps vq)))])) _
    refine st48 _ ?_
    show Steps p.tables e below (T48.setTop (mkF m 588 #[.val (.int p1), .val (.int p2), .val (.int p3), .val (.int p4), .val (.int p5), .val (.int vrb), .val (.int vrw), .val (.int vpl), .val (.int vrs), .val (.int vps), .val (.int vix), .val (.int vq), .val (.int vv), .val (.int vf), .val (.int vw), .val (.ref b6), .val (.int got), .unset, .unset] [(.int (own_row (3 : Int32) (3 : Int32) vrw vpl vrb vix vrs vps vq)), (.int (((((((((((((((own_row (0 : Int32) (0 : Int32) vrw vpl vrb vix vrs vps vq) ||| (own_row (0 : Int32) (1 : Int32) vrw vpl vrb vix vrs vps vq)) ||| (own_row (0 : Int32) (2 : Int32) vrw vpl vrb vix vrs vps vq)) ||| (own_row (0 : Int32) (3 : Int32) vrw vpl vrb vix vrs vps vq)) ||| (own_row (1 : Int32) (0 : Int32) vrw vpl vrb vix vrs vps vq)) ||| (own_row (1 : Int32) (1 : Int32) vrw vpl vrb vix vrs vps vq)) ||| (own_row (1 : Int32) (2 : Int32) vrw vpl vrb vix vrs vps vq)) ||| (own_row (1 : Int32) (3 : Int32) vrw vpl vrb vix vrs vps vq)) ||| (own_row (2 : Int32) (0 : Int32) vrw vpl vrb vix vrs vps vq)) ||| (own_row (2 : Int32) (1 : Int32) vrw vpl vrb vix vrs vps vq)) ||| (own_row (2 : Int32) (2 : Int32) vrw vpl vrb vix vrs vps vq)) ||| (own_row (2 : Int32) (3 : Int32) vrw vpl vrb vix vrs vps vq)) ||| (own_row (3 : Int32) (0 : Int32) vrw vpl vrb vix vrs vps vq)) ||| (own_row (3 : Int32) (1 : Int32) vrw vpl vrb vix vrs vps vq)) ||| (own_row (3 : Int32) (2 : Int32) vrw vpl vrb vix vrs vps vq)))])) _
    refine XS.ior X48.here hx rfl (hb hby at_588) rfl ?_
    show Steps p.tables e below (T48.setTop (mkF m 589 #[.val (.int p1), .val (.int p2), .val (.int p3), .val (.int p4), .val (.int p5), .val (.int vrb), .val (.int vrw), .val (.int vpl), .val (.int vrs), .val (.int vps), .val (.int vix), .val (.int vq), .val (.int vv), .val (.int vf), .val (.int vw), .val (.ref b6), .val (.int got), .unset, .unset] [(.int ((((((((((((((((own_row (0 : Int32) (0 : Int32) vrw vpl vrb vix vrs vps vq) ||| (own_row (0 : Int32) (1 : Int32) vrw vpl vrb vix vrs vps vq)) ||| (own_row (0 : Int32) (2 : Int32) vrw vpl vrb vix vrs vps vq)) ||| (own_row (0 : Int32) (3 : Int32) vrw vpl vrb vix vrs vps vq)) ||| (own_row (1 : Int32) (0 : Int32) vrw vpl vrb vix vrs vps vq)) ||| (own_row (1 : Int32) (1 : Int32) vrw vpl vrb vix vrs vps vq)) ||| (own_row (1 : Int32) (2 : Int32) vrw vpl vrb vix vrs vps vq)) ||| (own_row (1 : Int32) (3 : Int32) vrw vpl vrb vix vrs vps vq)) ||| (own_row (2 : Int32) (0 : Int32) vrw vpl vrb vix vrs vps vq)) ||| (own_row (2 : Int32) (1 : Int32) vrw vpl vrb vix vrs vps vq)) ||| (own_row (2 : Int32) (2 : Int32) vrw vpl vrb vix vrs vps vq)) ||| (own_row (2 : Int32) (3 : Int32) vrw vpl vrb vix vrs vps vq)) ||| (own_row (3 : Int32) (0 : Int32) vrw vpl vrb vix vrs vps vq)) ||| (own_row (3 : Int32) (1 : Int32) vrw vpl vrb vix vrs vps vq)) ||| (own_row (3 : Int32) (2 : Int32) vrw vpl vrb vix vrs vps vq)) ||| (own_row (3 : Int32) (3 : Int32) vrw vpl vrb vix vrs vps vq)))])) _
    refine XS.istore X48.here hx rfl (hb hby at_589) (x := cov) (rest := []) (by subst h_cov; rfl) (l' := #[.val (.int p1), .val (.int p2), .val (.int p3), .val (.int p4), .val (.int p5), .val (.int vrb), .val (.int vrw), .val (.int vpl), .val (.int vrs), .val (.int vps), .val (.int vix), .val (.int vq), .val (.int vv), .val (.int vf), .val (.int vw), .val (.ref b6), .val (.int got), .val (.int cov), .unset]) rfl ?_
    show Steps p.tables e below (T48.setTop (mkF m 591 #[.val (.int p1), .val (.int p2), .val (.int p3), .val (.int p4), .val (.int p5), .val (.int vrb), .val (.int vrw), .val (.int vpl), .val (.int vrs), .val (.int vps), .val (.int vix), .val (.int vq), .val (.int vv), .val (.int vf), .val (.int vw), .val (.ref b6), .val (.int got), .val (.int cov), .unset] [])) _
    refine px _ _ _ _ _ _ _ _ _ _ _ _ _ _ _ _ _ _ _ X48 hx hZ hw hby hml hown e48 _ ?_
    show Steps p.tables e below (T48.setTop (mkF m 624 #[.val (.int p1), .val (.int p2), .val (.int p3), .val (.int p4), .val (.int p5), .val (.int vrb), .val (.int vrw), .val (.int vpl), .val (.int vrs), .val (.int vps), .val (.int vix), .val (.int vq), .val (.int vv), .val (.int vf), .val (.int vw), .val (.ref b6), .val (.int got), .val (.int cov), .unset] [(.int (own_e cov vw vv vf))])) _
    refine XS.istore X48.here hx rfl (hb hby at_624) (x := xp) (rest := []) (by subst h_xp; rfl) (l' := #[.val (.int p1), .val (.int p2), .val (.int p3), .val (.int p4), .val (.int p5), .val (.int vrb), .val (.int vrw), .val (.int vpl), .val (.int vrs), .val (.int vps), .val (.int vix), .val (.int vq), .val (.int vv), .val (.int vf), .val (.int vw), .val (.ref b6), .val (.int got), .val (.int cov), .val (.int xp)]) rfl ?_
    show Steps p.tables e below (T48.setTop (mkF m 626 #[.val (.int p1), .val (.int p2), .val (.int p3), .val (.int p4), .val (.int p5), .val (.int vrb), .val (.int vrw), .val (.int vpl), .val (.int vrs), .val (.int vps), .val (.int vix), .val (.int vq), .val (.int vv), .val (.int vf), .val (.int vw), .val (.ref b6), .val (.int got), .val (.int cov), .val (.int xp)] [])) _
    refine XS.iload X48.here hx rfl (hb hby at_626) rfl ?_
    show Steps p.tables e below (T48.setTop (mkF m 628 #[.val (.int p1), .val (.int p2), .val (.int p3), .val (.int p4), .val (.int p5), .val (.int vrb), .val (.int vrw), .val (.int vpl), .val (.int vrs), .val (.int vps), .val (.int vix), .val (.int vq), .val (.int vv), .val (.int vf), .val (.int vw), .val (.ref b6), .val (.int got), .val (.int cov), .val (.int xp)] [(.int got)])) _
    refine XS.iload X48.here hx rfl (hb hby at_628) rfl ?_
    show Steps p.tables e below (T48.setTop (mkF m 630 #[.val (.int p1), .val (.int p2), .val (.int p3), .val (.int p4), .val (.int p5), .val (.int vrb), .val (.int vrw), .val (.int vpl), .val (.int vrs), .val (.int vps), .val (.int vix), .val (.int vq), .val (.int vv), .val (.int vf), .val (.int vw), .val (.ref b6), .val (.int got), .val (.int cov), .val (.int xp)] [(.int xp), (.int got)])) _
    refine XS.icmpNo X48.here hx rfl (hb hby at_630) rfl (teq hc630).2 ?_
    show Steps p.tables e below (T48.setTop (mkF m 633 #[.val (.int p1), .val (.int p2), .val (.int p3), .val (.int p4), .val (.int p5), .val (.int vrb), .val (.int vrw), .val (.int vpl), .val (.int vrs), .val (.int vps), .val (.int vix), .val (.int vq), .val (.int vv), .val (.int vf), .val (.int vw), .val (.ref b6), .val (.int got), .val (.int cov), .val (.int xp)] [])) _
    refine XS.iconst X48.here hx rfl (hb hby at_633) ?_
    show Steps p.tables e below (T48.setTop (mkF m 634 #[.val (.int p1), .val (.int p2), .val (.int p3), .val (.int p4), .val (.int p5), .val (.int vrb), .val (.int vrw), .val (.int vpl), .val (.int vrs), .val (.int vps), .val (.int vix), .val (.int vq), .val (.int vv), .val (.int vf), .val (.int vw), .val (.ref b6), .val (.int got), .val (.int cov), .val (.int xp)] [(.int (1 : Int32))])) _
    refine XS.goto X48.here hx rfl (pc0 := 634) (pc' := 638) rfl (hb hby at_634) (by decide) (by decide) ?_
    show Steps p.tables e below (T48.setTop (mkF m 638 #[.val (.int p1), .val (.int p2), .val (.int p3), .val (.int p4), .val (.int p5), .val (.int vrb), .val (.int vrw), .val (.int vpl), .val (.int vrs), .val (.int vps), .val (.int vix), .val (.int vq), .val (.int vv), .val (.int vf), .val (.int vw), .val (.ref b6), .val (.int got), .val (.int cov), .val (.int xp)] [(.int (1 : Int32))])) _
    exact retN X48 hx (t := .boolean) Bd.returns (by simp) (hb hby at_638) hr
  · show Q0 Z p1 p2 p3 p4 p5 h0 n0 _ T48.heap _
    rw [e48]
    exact ⟨rfl, N48⟩
set_option maxRecDepth 65536 in
set_option maxHeartbeats 40000000 in
theorem comes_1 {Post : Tables → Env → Array Value → State → Outcome → State → Prop} (hpost : ∀ tb e args s v u, (limb_1_1.after args s (.returned v) u = true ∧ limb_1_2.after args s (.returned v) u = true ∧ True) → FrameEnd s (.returned v) u (Jvm.fieldLocs frame_1_writes args s ++ Jvm.arrayLocs frame_1_arrays args s ++ Jvm.staticLocs frame_1_statics s) 16 128 → Post tb e args s (.returned v) u) :
    ArmFor flags0 classFile x code maxLocals ret World_1 tables_1 room_1 Calls_1 rest_1 Pre_1 Post := by
  intro l hfl _ _ p e ha hc hk s m args below hf hA hF happ hP
  obtain ⟨hcalls, hrest, hpre⟩ := hP
  obtain ⟨-, -, -, hnamed, -, -, -, hat⟩ := (Spec.applies_iff hf).mp happ
  obtain ⟨hg, hn⟩ := and_e (Cond.before_iff.mp (show (Jvm.Cond.and given_1 narrow_1).before args s = true from hpre))
  obtain ⟨g49, g50⟩ := and_e hg
  obtain ⟨g51, g52⟩ := and_e g50
  obtain ⟨g53, g54⟩ := and_e g52
  obtain ⟨g55, g56⟩ := and_e g54
  obtain ⟨g57, g58⟩ := and_e g56
  obtain ⟨w0, w1, w2, w3, w4, rfl⟩ : ∃ w0 w1 w2 w3 w4 : Value, args = #[w0, w1, w2, w3, w4] := by
    have hs : args.size = 5 := by simpa [Cond.value, given_1] using g49
    obtain ⟨L⟩ := args
    match L, hs with
    | [w0, w1, w2, w3, w4], _ => exact ⟨w0, w1, w2, w3, w4, rfl⟩
  have hw := fun d (hd : d ∈ tables_1) => atoms_spec (ws := Jvm.Cond.code x code maxLocals ret :: tables_1) hat d (List.mem_cons_of_mem _ hd)
  have hfit : Fit s := fun {y c} hc i hi => by
    obtain ⟨ha, rfl⟩ := Array.getElem?_eq_some_iff.mp hc
    have q := List.all_eq_true.mp ((Array.all_eq_true_iff_forall_mem.mp hF) _ (Array.getElem_mem ha)) i (List.mem_range.mpr hi)
    simpa [Array.getElem?_eq_getElem hi] using q
  obtain ⟨i0, ei0⟩ := is_v g51
  obtain rfl : w0 = (.int i0) := Option.some.inj ei0
  obtain ⟨i1, ei1⟩ := is_v g53
  obtain rfl : w1 = (.int i1) := Option.some.inj ei1
  obtain ⟨i2, ei2⟩ := is_v g55
  obtain rfl : w2 = (.int i2) := Option.some.inj ei2
  obtain ⟨i3, ei3⟩ := is_v g57
  obtain rfl : w3 = (.int i3) := Option.some.inj ei3
  obtain ⟨i4, ei4⟩ := is_v g58
  obtain rfl : w4 = (.int i4) := Option.some.inj ei4
  obtain ⟨n, o, h1, h2, h3, _, L, rfl, ⟨rfl, N⟩, hq⟩ := rm0 l s _ hw tables_1 i0 i1 i2 i3 i4 s.heap s.heap.size (Nat.le_refl _) p e ha hc hk s m _ below hf ((Spec.applies_iff_loose hf).mp happ).1 ⟨rfl, State.Warmed39.refl s, rfl⟩ trivial
  refine ⟨n, _, h1, h2, h3, hpost _ _ _ _ _ _ ⟨Cond.after_iff.mpr rfl, Cond.after_iff.mpr (eq_i res_at (Term.int_eval (1)) rfl), trivial⟩ ⟨hq.1, hq.2.1, (hq.2.2.sift fun y hy => Or.inr (N y hy)).mono (by decide) (by decide)⟩⟩
theorem main_1_1 : Claimed_1_1 := comes_1 fun _ _ _ _ _ _ h hF => ⟨h.1, hF⟩
theorem main_1_2 : Claimed_1_2 := comes_1 fun _ _ _ _ _ _ h hF => ⟨h.2.1, hF⟩
end Jvm.Pilot.@@N@@
namespace Jvm.Pilot.@@N@@
open Jvm Jvm.ClassFile Sem Op Lib Jvm.Free Jvm.Stand Jvm.Pilot.@@N@@.Jvm.D
/-! MADE BY PROGRAM (witnessworld.py) out of the Statement's table words and the real class files: 9 classes; the members and pool entries that the words name. The judged class is class 1, her method 1. -/
namespace start1
open Jvm.ClassFile
def u (s : String) : CpInfo := .utf8 (stringToUtf16 s)
/-- a pool by its gaps: so many unusable entries, then the entry; so many at the end -/
def gap : Nat → List CpInfo → List CpInfo
  | 0, r => r
  | n + 1, r => .unusable :: gap n r
def poolList (es : List (Nat × CpInfo)) (last : Nat) : List CpInfo := es.foldr (fun e r => gap e.1 (e.2 :: r)) (gap last [])
def pool (es : List (Nat × CpInfo)) (last : Nat) : Array CpInfo := ⟨poolList es last⟩
def fileOf (pool : Array CpInfo) (this : Nat) (attrs : Array Attribute := #[]) (ms : Array MethodInfo := #[]) (fl : Nat := 33) (sup : Nat := 0) (ifs : Array Nat := #[]) (fds : Array FieldInfo := #[]) : ClassFile where
  minorVersion := 0
  majorVersion := 65
  constantPool := pool
  accessFlags := fl
  thisClass := this
  superClass := sup
  interfaces := ifs
  fields := fds
  methods := ms
  attributes := attrs
def plain (name : String) (sup : Option ClassId) : Class where
  name := name
  kind := .ordinary
  loader := none
  accessFlags := 33
  super := sup
  interfaces := #[]
  cf := none
  fields := #[]
  methods := #[]
  instanceTypes := #[]
  staticTypes := #[]
  resolved := #[]
  callSites := []
  init := .initialized
  statics := none
  mirror := none

def pool0 : Array CpInfo := pool [(5, u "<init>"), (0, u "()V"), (1, .class_ 10), (1, u "java/lang/Object")] 113

def k0m0 : Method := { name := "<init>", desc := "()V", sig := { parameters := [], returnType := none }, accessFlags := 1, code := none }
/-- java/lang/Object -/
def k0 : Class := { plain "java/lang/Object" none with
  accessFlags := 33
  interfaces := #[]
  cf := some (fileOf pool0 8 #[] #[{ accessFlags := 1, nameIndex := 5, descriptorIndex := 6, attributes := #[] }] 33 0 #[] #[])
  fields := #[]
  methods := #[k0m0]
  instanceTypes := #[]
  staticTypes := #[]
  resolved := Array.replicate 124 none
  statics := none }

def pool1 : Array CpInfo := pool [(2, .class_ 4), (1, u "java/lang/Object"), (0, u "<init>"), (0, u "()V"), (0, .integer 2147483647), (0, .methodref 9 10), (0, .class_ 11), (0, .nameAndType 12 13), (0, u "com/example/chunkwell/chunkwell/codecs/RowCopies"), (0, u "eachByteIs"), (0, u "([BJJJIIJB)Z"), (0, .methodref 15 16), (0, .class_ 17), (0, .nameAndType 18 19), (0, u "com/example/chunkwell/chunkwell/codecs/RowCopiesEachByteIsPinLaw"), (0, u "row"), (0, u "(IIIIIIIII)I"), (2, u "law"), (0, u "(IIIII)Z")] 5

def k1m0 : Method := { name := "<init>", desc := "()V", sig := { parameters := [], returnType := none }, accessFlags := 2, code := none }
def k1c1 : Code := { maxStack := 12, maxLocals := 19, code := code, exceptionTable := #[], attributes := #[] }
def k1m1 : Method := { name := "law", desc := "(IIIII)Z", sig := { parameters := [.int, .int, .int, .int, .int], returnType := some .boolean }, accessFlags := 9, code := some k1c1 }
def k1c2 : Code := { maxStack := 3, maxLocals := 11, code := method_3_code, exceptionTable := #[], attributes := #[] }
def k1m2 : Method := { name := "row", desc := "(IIIIIIIII)I", sig := { parameters := [.int, .int, .int, .int, .int, .int, .int, .int, .int], returnType := some .int }, accessFlags := 10, code := some k1c2 }
/-- com/example/chunkwell/chunkwell/codecs/RowCopiesEachByteIsPinLaw -/
def k1 : Class := { plain "com/example/chunkwell/chunkwell/codecs/RowCopiesEachByteIsPinLaw" (some 0) with
  accessFlags := 49
  interfaces := #[]
  cf := some (fileOf pool1 15 #[] #[{ accessFlags := 2, nameIndex := 5, descriptorIndex := 6, attributes := #[] }, { accessFlags := 9, nameIndex := 22, descriptorIndex := 23, attributes := #[] }, { accessFlags := 10, nameIndex := 18, descriptorIndex := 19, attributes := #[] }] 49 2 #[] #[])
  fields := #[]
  methods := #[k1m0, k1m1, k1m2]
  instanceTypes := #[]
  staticTypes := #[]
  resolved := Array.replicate 29 none
  statics := none }

def pool2 : Array CpInfo := pool [(2, .class_ 4), (1, u "java/lang/Object"), (0, u "<init>"), (0, u "()V"), (1, .class_ 10), (1, u "com/example/chunkwell/chunkwell/codecs/RowCopies"), (5, u "LIBRARY"), (0, u "Lcom/example/chunkwell/chunkwell/codecs/NativeLibrary;"), (14, .class_ 33), (0, u "com/example/chunkwell/chunkwell/codecs/RowCopies$1"), (13, u "([BJJJIIJB)Z"), (0, .class_ 49), (0, u "com/example/chunkwell/chunkwell/codecs/RowCopies$2"), (5, u "eachByteIs"), (13, .class_ 71), (1, u "com/example/chunkwell/chunkwell/codecs/RowCopies$PinnedPart"), (29, u "MOST_PINNED_BYTES"), (0, u "I"), (1, u "ALL_ARE"), (1, u "NOT_ALL"), (1, u "NOT_HANDED_OUT")] 26

def k2m0 : Method := { name := "<init>", desc := "()V", sig := { parameters := [], returnType := none }, accessFlags := 2, code := none }
def k2c1 : Code := { maxStack := 6, maxLocals := 19, code := prog_137_method_5_code, exceptionTable := #[], attributes := #[] }
def k2m1 : Method := { name := "eachByteIs", desc := "([BJJJIIJB)Z", sig := { parameters := [(.array .byte), .long, .long, .long, .int, .int, .long, .byte], returnType := some .boolean }, accessFlags := 8, code := some k2c1 }
/-- com/example/chunkwell/chunkwell/codecs/RowCopies -/
def k2 : Class := { plain "com/example/chunkwell/chunkwell/codecs/RowCopies" (some 0) with
  accessFlags := 49
  interfaces := #[]
  cf := some (fileOf pool2 8 #[.nestMembers #[69, 48, 32]] #[{ accessFlags := 2, nameIndex := 5, descriptorIndex := 6, attributes := #[] }, { accessFlags := 8, nameIndex := 55, descriptorIndex := 47, attributes := #[] }] 49 2 #[] #[{ accessFlags := 24, nameIndex := 16, descriptorIndex := 17, attributes := #[] }, { accessFlags := 24, nameIndex := 101, descriptorIndex := 102, attributes := #[] }, { accessFlags := 26, nameIndex := 104, descriptorIndex := 102, attributes := #[] }, { accessFlags := 26, nameIndex := 106, descriptorIndex := 102, attributes := #[] }, { accessFlags := 26, nameIndex := 108, descriptorIndex := 102, attributes := #[] }])
  fields := #[{ name := "LIBRARY", type := (.object "com/example/chunkwell/chunkwell/codecs/NativeLibrary"), accessFlags := 24, slot := 0, constantValue := 0 }, { name := "MOST_PINNED_BYTES", type := .int, accessFlags := 24, slot := 1, constantValue := 0 }, { name := "ALL_ARE", type := .int, accessFlags := 26, slot := 2, constantValue := 0 }, { name := "NOT_ALL", type := .int, accessFlags := 26, slot := 3, constantValue := 0 }, { name := "NOT_HANDED_OUT", type := .int, accessFlags := 26, slot := 4, constantValue := 0 }]
  methods := #[k2m0, k2m1]
  instanceTypes := #[]
  staticTypes := #[(.object "com/example/chunkwell/chunkwell/codecs/NativeLibrary"), .int, .int, .int, .int]
  resolved := Array.replicate 135 none
  statics := none }

def pool3 : Array CpInfo := pool [(1, u "java/lang/Cloneable"), (0, .class_ 1), (0, u "java/lang/Object"), (0, .class_ 3)] 3

/-- java/lang/Cloneable -/
def k3 : Class := { plain "java/lang/Cloneable" (some 0) with
  accessFlags := 1537
  interfaces := #[]
  cf := some (fileOf pool3 2 #[] #[] 1537 4 #[] #[])
  fields := #[]
  methods := #[]
  instanceTypes := #[]
  staticTypes := #[]
  resolved := Array.replicate 8 none
  statics := none }

def pool4 : Array CpInfo := pool [(1, u "java/io/Serializable"), (0, .class_ 1), (0, u "java/lang/Object"), (0, .class_ 3)] 3

/-- java/io/Serializable -/
def k4 : Class := { plain "java/io/Serializable" (some 0) with
  accessFlags := 1537
  interfaces := #[]
  cf := some (fileOf pool4 2 #[] #[] 1537 4 #[] #[])
  fields := #[]
  methods := #[]
  instanceTypes := #[]
  staticTypes := #[]
  resolved := Array.replicate 8 none
  statics := none }

/-- the primitive byte -/
def k5 : Class := { plain "byte" none with kind := .primitive 'B', accessFlags := 0x411 }
/-- [B -/
def k6 : Class := { plain "[B" (some 0) with kind := .array 5 .byte, interfaces := #[3, 4], accessFlags := 1041 }

/-- the primitive int -/
def k7 : Class := { plain "int" none with kind := .primitive 'I', accessFlags := 0x411 }
/-- [I -/
def k8 : Class := { plain "[I" (some 0) with kind := .array 7 .int, interfaces := #[3, 4], accessFlags := 1041 }

def heap : Heap := #[]
def classes : Array Class := #[k0, k1, k2, k3, k4, k5, k6, k7, k8]
def interned : List (Array UInt16 × Addr) := []
def slotsUsed : Nat := 0
def theMethod : MethodId := ⟨1, 1⟩
def args0 : Array Value := #[.int 1365, .int 20, .int 0, .int 7, .int 9]
def aboutOver (below : List Frame) : State where
  vm := { classes := classes, interned := interned.toArray }
  heap := heap
  slotsUsed := slotsUsed
  threads := #[{ frames := .invoking theMethod args0 :: below }]
def below0 : List Frame := [.native { method := ⟨0, 0⟩, args := #[] }]
def about1 : State := aboutOver below0
def p0 : Program := .bare "" "" ""
def e0 : Env := launch0.env 0 0 0
theorem w_frames : about1.frames = Frame.invoking theMethod args0 :: below0 := rfl
set_option maxRecDepth 65536 in
theorem w_args : argsFit about1.vm theMethod args0 = true := by decide +kernel
set_option maxRecDepth 65536 in
theorem w_heap : heapFits about1 = true := by decide +kernel
set_option maxRecDepth 65536 in
theorem w_runnable : about1.curStatus? = some .runnable := by decide +kernel
set_option maxRecDepth 65536 in
theorem w_alone : about1.alone = true := by decide +kernel
set_option maxRecDepth 65536 in
theorem w_named : about1.methodNamed? x = some theMethod := by decide +kernel
set_option maxRecDepth 65536 in
theorem w_hears : about1.hears theMethod below0 = true := by decide +kernel
set_option maxRecDepth 65536 in
theorem w_ripe : about1.ripe theMethod args0 below0 = true := by decide +kernel
theorem w_running : about1.status = .running := rfl
set_option maxRecDepth 65536 in
theorem w_room : about1.hasRoom e0.platform room_1 = true :=
  launch0.hasRoom_least _ room_1 (by decide +kernel) (by decide +kernel) (by decide +kernel) (by decide +kernel) (by decide +kernel) (by decide +kernel)
theorem allAtoms_all (ts : List Jvm.Cond) (a : Array Jvm.Value) (st : Jvm.State) : (allAtoms ts).before a st = ts.all (fun c => c.before a st) := by
  induction ts with
  | nil => rfl
  | cons c t ih =>
    show (Jvm.Cond.and c (allAtoms t)).before a st = _
    rw [Jvm.Cond.before_and, ih, List.all_cons]
def words1 : List Jvm.Cond := Jvm.Cond.code x code maxLocals ret :: tables_1
/-- a 'code' word, met by the world's own term for the bytes: nothing is compared byte by byte -/
theorem code_word {y : MethodName} {bytes : ByteArray} {mx : Nat} {rt : Option FieldType} {a : Array Value} {s : State} {m : MethodId} {meth : Method} {c : Code} (h1 : s.methodNamed? y = some m) (h2 : s.vm.method? m = some meth) (h3 : meth.code = some c) (h4 : c.code = bytes)
    (h5 : (c.maxLocals == mx && c.exceptionTable.isEmpty && decide (c.maxStack ≤ mostOperands) && decide (meth.sig.returnType = rt) && !meth.locks && decide (parseMethodDescriptor y.desc = some meth.sig)) = true) : (Jvm.Cond.code y bytes mx rt).before a s = true := by
  simp only [Bool.and_eq_true, beq_iff_eq, Bool.not_eq_true', decide_eq_true_eq] at h5
  obtain ⟨⟨⟨⟨⟨g1, g2⟩, g3⟩, g4⟩, g5⟩, g6⟩ := h5
  simp [Cond.before, Cond.holds, Cond.value, h1, h2, h3, h4, g1, g2, g3, g4, g5, g6]
def isCode : Jvm.Cond → Bool
  | .code _ _ _ _ => true
  | _ => false
theorem all_split {L : List Jvm.Cond} {P : Jvm.Cond → Bool} (h1 : L.all (fun c => isCode c || P c) = true) (h2 : ∀ c ∈ L.filter isCode, P c = true) : L.all P = true := by
  refine List.all_eq_true.mpr fun c hc => ?_
  have h := List.all_eq_true.mp h1 c hc
  rcases Bool.eq_false_or_eq_true (isCode c) with hi | hi
  · exact h2 c (List.mem_filter.mpr ⟨hc, hi⟩)
  · simpa [hi] using h
set_option maxRecDepth 65536 in
theorem w_c0 : (Jvm.Cond.code x code maxLocals ret).before args0 about1 = true := code_word (m := ⟨1, 1⟩) (meth := k1m1) (c := k1c1) (by decide +kernel) rfl rfl rfl (by decide +kernel)
set_option maxRecDepth 65536 in
theorem w_c1 : (Jvm.Cond.code ({ cls := "com/example/chunkwell/chunkwell/codecs/RowCopies", name := "eachByteIs", desc := "([BJJJIIJB)Z" } : Jvm.MethodName) prog_137_method_5_code (19 : Nat) (Option.some Jvm.ClassFile.FieldType.boolean)).before args0 about1 = true := code_word (m := ⟨2, 1⟩) (meth := k2m1) (c := k2c1) (by decide +kernel) rfl rfl rfl (by decide +kernel)
set_option maxRecDepth 65536 in
theorem w_c2 : (Jvm.Cond.code ({ cls := "com/example/chunkwell/chunkwell/codecs/RowCopiesEachByteIsPinLaw", name := "row", desc := "(IIIIIIIII)I" } : Jvm.MethodName) method_3_code (11 : Nat) (Option.some Jvm.ClassFile.FieldType.int)).before args0 about1 = true := code_word (m := ⟨1, 2⟩) (meth := k1m2) (c := k1c2) (by decide +kernel) rfl rfl rfl (by decide +kernel)
def codes1 : List Jvm.Cond := [Jvm.Cond.code x code maxLocals ret, Jvm.Cond.code ({ cls := "com/example/chunkwell/chunkwell/codecs/RowCopies", name := "eachByteIs", desc := "([BJJJIIJB)Z" } : Jvm.MethodName) prog_137_method_5_code (19 : Nat) (Option.some Jvm.ClassFile.FieldType.boolean), Jvm.Cond.code ({ cls := "com/example/chunkwell/chunkwell/codecs/RowCopiesEachByteIsPinLaw", name := "row", desc := "(IIIIIIIII)I" } : Jvm.MethodName) method_3_code (11 : Nat) (Option.some Jvm.ClassFile.FieldType.int)]
set_option maxRecDepth 65536 in
theorem codes_eq : words1.filter isCode = codes1 := rfl
theorem w_codes : ∀ c ∈ words1.filter isCode, c.before args0 about1 = true := by
  rw [codes_eq]
  intro c hc
  simp only [codes1, List.mem_cons, List.not_mem_nil, or_false] at hc
  rcases hc with rfl | rfl | rfl
  · exact w_c0
  · exact w_c1
  · exact w_c2
set_option maxRecDepth 65536 in
theorem w_t1 : words1.all (fun c => isCode c || c.before args0 about1) = true := by decide +kernel
theorem w_tables : (allAtoms (Jvm.Cond.code x code maxLocals ret :: tables_1)).before args0 about1 = true := by
  rw [allAtoms_all]
  show words1.all (fun c => c.before args0 about1) = true
  refine all_split ?_ w_codes
  rw [w_t1]
set_option maxRecDepth 65536 in
theorem w_case : (Jvm.Cond.and given_1 narrow_1).before args0 about1 = true := by decide +kernel
theorem w_applies : (headSpec (Jvm.Cond.code x code maxLocals ret :: tables_1) room_1).applies x e0.platform about1 = true :=
  (Spec.applies_iff w_frames).mpr ⟨w_running, w_runnable, w_alone, w_named, w_hears, w_ripe, w_room, w_tables⟩
theorem atStart : AtStart classFile x code maxLocals ret World_1 tables_1 room_1 Calls_1 rest_1 Pre_1 launch0 p0 e0 about1 theMethod args0 below0 :=
  ⟨lists_1, trivial, launch0.admits_env _ _ _, launch0.least_env, fairChoices_fair.cas, fairChoices_fair.clock, w_frames, w_args, w_heap, w_applies, trivial, trivial, w_case⟩
end start1
theorem witness_1 : WitnessClaimed_1 := ⟨start1.p0, start1.e0, start1.about1, start1.theMethod, start1.args0, start1.below0, start1.atStart⟩
end Jvm.Pilot.@@N@@
