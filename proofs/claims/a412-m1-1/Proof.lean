import JvmDerived
import JvmDerived.Pilot.@@N@@Statement
import JvmDerived.Pilot.@@N@@Code
set_option linter.unusedVariables false
set_option linter.unusedSimpArgs false
namespace Jvm.RoadKit
open Sem ClassFile Op Lib Jvm.Stand Jvm.Free Jvm.LawKit
section New
variable {p : Program} {l : Launch} {e : Env} {R : Room} {s : State} {m : MethodId} {args : Array Value} {below : List Frame} {meth : Method} {c : Code} {T T' : State} {locs : List Loc} {cells slots : Nat}
theorem retI (X : Stand p l e R s m args below meth c T locs cells slots) (hx : p.tables.exec = Jvm.exec) {pc : Nat} {Ls : Array Slot} {z : Int32} {rest : List Value} (hret : meth.sig.returnType = some .int) (hd : decode c.code pc = .ok (.ireturn, 1)) {fs : List Frame}
    (hl : ∀ (f : JFrame) (acts : List Action), f.method = m → f.locked = none → f.entered = [] → (doReturn e (T.setTop f) acts (some (.int z))).1 = T.setFrames fs) : Steps p.tables e below (T.setTop (mkF m pc Ls (.int z :: rest))) (T.setFrames fs) := by
  have hm' : T.vm.method? m = some meth := X.method'
  have hn : narrow .int (.int z) = .int z := rfl
  show Steps p.tables e below (T.setTop { method := m, pc := pc, locals := Ls, stack := _ :: rest, locked := none }) _
  jvm_step X.here [X.here.top, hx, hd, hm', hret, hn]
  first | (intro acts; rw [hl _ acts rfl rfl rfl]) | rw [hl _ _ rfl rfl rfl]
  exact Steps.refl _
/-- from this frame the run comes to an end of which P holds -/
def OEnds (p : Program) (e : Env) (below : List Frame) (P : Outcome → State → Prop) (T : State) (g : JFrame) : Prop :=
  ∃ s₂ o, Steps p.tables e below (T.setTop g) s₂ ∧ s₂.status = .running ∧ Ended s₂ below o ∧ P o s₂
theorem OEnds.go {P : Outcome → State → Prop} {g g' : JFrame} (h : ∀ t, Steps p.tables e below (T'.setTop g') t → Steps p.tables e below (T.setTop g) t) (k : OEnds p e below P T' g') : OEnds p e below P T g := by
  obtain ⟨s₂, o, h1, h2⟩ := k
  exact ⟨s₂, o, h _ h1, h2⟩
theorem OEnds.tr {P : Outcome → State → Prop} {g g' : JFrame} (h : Steps p.tables e below (T.setTop g) (T'.setTop g')) (k : OEnds p e below P T' g') : OEnds p e below P T g :=
  OEnds.go (fun _ q => h.trans q) k
/-- what a contract of this family says of the end -/
def OEndP (s : State) (Q : Option Value → Heap → List Loc → Prop) (C N : Nat) (o : Outcome) (U' : State) : Prop := ∃ v L, o = .returned v ∧ Q v U'.heap L ∧ FrameEnd s o U' L C N
theorem OEnds.out (X : Stand p l e R s m args below meth c T locs cells slots) (hlocks : meth.locks = false) {v : Option Value} (hv : meth.sig.returnType = none → v = none) {Q : Option Value → Heap → List Loc → Prop} {C N : Nat} {g : JFrame}
    (hs : ∀ fs, (∀ (f : JFrame) (acts : List Action), f.method = m → f.locked = none → f.entered = [] → (doReturn e (T.setTop f) acts v).1 = T.setFrames fs) → Steps p.tables e below (T.setTop g) (T.setFrames fs))
    (hq : Q v T.heap locs) (hc : cells ≤ C) (hn : slots ≤ N) : OEnds p e below (OEndP s Q C N) T g := by
  obtain ⟨fs, hr, hrun, hended, hW, hsame⟩ := X.leave (v := v) hv hlocks
  exact ⟨_, _, hs fs hr, hrun, hended, _, _, rfl, hq, ⟨_, rfl⟩, hW, hsame.mono hc hn⟩
theorem OEnds.outN (X : Stand p l e R s m args below meth c T locs cells slots) (hlocks : meth.locks = false) (hx : p.tables.exec = Jvm.exec) {pc : Nat} {Ls : Array Slot} {z : Int32} {t : FieldType} {rest : List Value} (hret : meth.sig.returnType = some t) (ht : t = .boolean ∨ t = .byte ∨ t = .char ∨ t = .short)
    (hd : decode c.code pc = .ok (.ireturn, 1)) {Q : Option Value → Heap → List Loc → Prop} {C N : Nat} (hq : Q (some (.int (nar t z))) T.heap locs) (hc : cells ≤ C) (hn : slots ≤ N) : OEnds p e below (OEndP s Q C N) T (mkF m pc Ls (.int z :: rest)) :=
  OEnds.out X hlocks (fun h => by rw [hret] at h; cases h) (fun fs hr => retN X hx hret ht hd hr) hq hc hn
theorem OEnds.outI (X : Stand p l e R s m args below meth c T locs cells slots) (hlocks : meth.locks = false) (hx : p.tables.exec = Jvm.exec) {pc : Nat} {Ls : Array Slot} {z : Int32} {rest : List Value} (hret : meth.sig.returnType = some .int)
    (hd : decode c.code pc = .ok (.ireturn, 1)) {Q : Option Value → Heap → List Loc → Prop} {C N : Nat} (hq : Q (some (.int z)) T.heap locs) (hc : cells ≤ C) (hn : slots ≤ N) : OEnds p e below (OEndP s Q C N) T (mkF m pc Ls (.int z :: rest)) :=
  OEnds.out X hlocks (fun h => by rw [hret] at h; cases h) (fun fs hr => retI X hx hret hd hr) hq hc hn
theorem OEnds.outJ (X : Stand p l e R s m args below meth c T locs cells slots) (hlocks : meth.locks = false) (hx : p.tables.exec = Jvm.exec) {pc : Nat} {Ls : Array Slot} {z : Int64} {rest : List Value} (hret : meth.sig.returnType = some .long)
    (hd : decode c.code pc = .ok (.lreturn, 1)) {Q : Option Value → Heap → List Loc → Prop} {C N : Nat} (hq : Q (some (.long z)) T.heap locs) (hc : cells ≤ C) (hn : slots ≤ N) : OEnds p e below (OEndP s Q C N) T (mkF m pc Ls (.long z :: rest)) :=
  OEnds.out X hlocks (fun h => by rw [hret] at h; cases h) (fun fs hr => retOut X hx hret rfl (Or.inr (Or.inl ⟨rfl, rfl, z, rfl⟩)) hd hr) hq hc hn
theorem OEnds.outA (X : Stand p l e R s m args below meth c T locs cells slots) (hlocks : meth.locks = false) (hx : p.tables.exec = Jvm.exec) {pc : Nat} {Ls : Array Slot} {w : Value} {t : FieldType} {rest : List Value} (hret : meth.sig.returnType = some t) (ht : t.isReference = true) (hw : w.isRef = true)
    (hd : decode c.code pc = .ok (.areturn, 1)) {Q : Option Value → Heap → List Loc → Prop} {C N : Nat} (hq : Q (some w) T.heap locs) (hc : cells ≤ C) (hn : slots ≤ N) : OEnds p e below (OEndP s Q C N) T (mkF m pc Ls (w :: rest)) :=
  OEnds.out X hlocks (fun h => by rw [hret] at h; cases h) (fun fs hr => retOut X hx hret (by rcases ref_cases hw with rfl | ⟨a, rfl⟩ <;> cases t <;> first | rfl | cases ht) (Or.inr (Or.inr (Or.inr (Or.inr ⟨rfl, ht, hw⟩)))) hd hr) hq hc hn
theorem OEnds.outV (X : Stand p l e R s m args below meth c T locs cells slots) (hlocks : meth.locks = false) (hx : p.tables.exec = Jvm.exec) {pc : Nat} {Ls : Array Slot} (hret : meth.sig.returnType = none)
    (hd : decode c.code pc = .ok (.return_, 1)) {Q : Option Value → Heap → List Loc → Prop} {C N : Nat} (hq : Q none T.heap locs) (hc : cells ≤ C) (hn : slots ≤ N) : OEnds p e below (OEndP s Q C N) T (mkF m pc Ls []) :=
  OEnds.out X hlocks (fun _ => rfl) (fun fs hr => X.returnOut hx hret hd hr) hq hc hn
end New
end Jvm.RoadKit
namespace Jvm.Pilot.@@N@@
open Jvm Jvm.ClassFile Sem Op Lib Jvm.Free Jvm.Stand Jvm.LawKit Jvm.RoadKit Bundle Jvm.Pilot.@@N@@.Jvm.D
theorem d1_0 : decode method_3_code 0 = .ok (.iload_n 0, 1) := by decide +kernel
theorem d1_1 : decode method_3_code 1 = .ok (.ldc 31, 2) := by decide +kernel
theorem d1_3 : decode method_3_code 3 = .ok (.iand, 1) := by decide +kernel
theorem d1_4 : decode method_3_code 4 = .ok (.bipush 22, 2) := by decide +kernel
theorem d1_6 : decode method_3_code 6 = .ok (.irem, 1) := by decide +kernel
theorem d1_7 : decode method_3_code 7 = .ok (.ireturn, 1) := by decide +kernel
theorem d2_0 : decode method_4_code 0 = .ok (.iload_n 0, 1) := by decide +kernel
theorem d2_1 : decode method_4_code 1 = .ok (.bipush 10, 2) := by decide +kernel
theorem d2_3 : decode method_4_code 3 = .ok (.if_icmp .ge 9, 3) := by decide +kernel
theorem d2_6 : decode method_4_code 6 = .ok (.bipush 48, 2) := by decide +kernel
theorem d2_8 : decode method_4_code 8 = .ok (.iload_n 0, 1) := by decide +kernel
theorem d2_9 : decode method_4_code 9 = .ok (.iadd, 1) := by decide +kernel
theorem d2_10 : decode method_4_code 10 = .ok (.i2c, 1) := by decide +kernel
theorem d2_11 : decode method_4_code 11 = .ok (.ireturn, 1) := by decide +kernel
theorem d2_12 : decode method_4_code 12 = .ok (.iload_n 0, 1) := by decide +kernel
theorem d2_13 : decode method_4_code 13 = .ok (.bipush 16, 2) := by decide +kernel
theorem d2_15 : decode method_4_code 15 = .ok (.if_icmp .ge 12, 3) := by decide +kernel
theorem d2_18 : decode method_4_code 18 = .ok (.bipush 97, 2) := by decide +kernel
theorem d2_20 : decode method_4_code 20 = .ok (.iload_n 0, 1) := by decide +kernel
theorem d2_21 : decode method_4_code 21 = .ok (.bipush 10, 2) := by decide +kernel
theorem d2_23 : decode method_4_code 23 = .ok (.isub, 1) := by decide +kernel
theorem d2_24 : decode method_4_code 24 = .ok (.iadd, 1) := by decide +kernel
theorem d2_25 : decode method_4_code 25 = .ok (.i2c, 1) := by decide +kernel
theorem d2_26 : decode method_4_code 26 = .ok (.ireturn, 1) := by decide +kernel
theorem d2_27 : decode method_4_code 27 = .ok (.bipush 65, 2) := by decide +kernel
theorem d2_29 : decode method_4_code 29 = .ok (.iload_n 0, 1) := by decide +kernel
theorem d2_30 : decode method_4_code 30 = .ok (.bipush 16, 2) := by decide +kernel
theorem d2_32 : decode method_4_code 32 = .ok (.isub, 1) := by decide +kernel
theorem d2_33 : decode method_4_code 33 = .ok (.iadd, 1) := by decide +kernel
theorem d2_34 : decode method_4_code 34 = .ok (.i2c, 1) := by decide +kernel
theorem d2_35 : decode method_4_code 35 = .ok (.ireturn, 1) := by decide +kernel
theorem d3_0 : decode jdk_42_method_3_code 0 = .ok (.aload_n 0, 1) := by decide +kernel
theorem d3_1 : decode jdk_42_method_3_code 1 = .ok (.aload_n 1, 1) := by decide +kernel
theorem d3_2 : decode jdk_42_method_3_code 2 = .ok (.iconst 0, 1) := by decide +kernel
theorem d3_3 : decode jdk_42_method_3_code 3 = .ok (.aload_n 1, 1) := by decide +kernel
theorem d3_4 : decode jdk_42_method_3_code 4 = .ok (.arraylength, 1) := by decide +kernel
theorem d3_5 : decode jdk_42_method_3_code 5 = .ok (.aconst_null, 1) := by decide +kernel
theorem d3_6 : decode jdk_42_method_3_code 6 = .ok (.invokespecial 27, 3) := by decide +kernel
theorem d3_9 : decode jdk_42_method_3_code 9 = .ok (.return_, 1) := by decide +kernel
theorem d4_0 : decode jdk_42_method_149_code 0 = .ok (.aload_n 0, 1) := by decide +kernel
theorem d4_1 : decode jdk_42_method_149_code 1 = .ok (.invokespecial 1, 3) := by decide +kernel
theorem d4_4 : decode jdk_42_method_149_code 4 = .ok (.iload_n 3, 1) := by decide +kernel
theorem d4_5 : decode jdk_42_method_149_code 5 = .ok (.ifCond .ne 22, 3) := by decide +kernel
theorem d4_27 : decode jdk_42_method_149_code 27 = .ok (.getstatic 38, 3) := by decide +kernel
theorem d4_30 : decode jdk_42_method_149_code 30 = .ok (.ifCond .eq 28, 3) := by decide +kernel
theorem d4_33 : decode jdk_42_method_149_code 33 = .ok (.aload_n 1, 1) := by decide +kernel
theorem d4_34 : decode jdk_42_method_149_code 34 = .ok (.iload_n 2, 1) := by decide +kernel
theorem d4_35 : decode jdk_42_method_149_code 35 = .ok (.iload_n 3, 1) := by decide +kernel
theorem d4_36 : decode jdk_42_method_149_code 36 = .ok (.invokestatic 177, 3) := by decide +kernel
theorem d4_39 : decode jdk_42_method_149_code 39 = .ok (.astore 5, 2) := by decide +kernel
theorem d4_41 : decode jdk_42_method_149_code 41 = .ok (.aload_n 0, 1) := by decide +kernel
theorem d4_42 : decode jdk_42_method_149_code 42 = .ok (.aload 5, 2) := by decide +kernel
theorem d4_44 : decode jdk_42_method_149_code 44 = .ok (.iload_n 3, 1) := by decide +kernel
theorem d4_45 : decode jdk_42_method_149_code 45 = .ok (.invokestatic 47, 3) := by decide +kernel
theorem d4_48 : decode jdk_42_method_149_code 48 = .ok (.putfield 15, 3) := by decide +kernel
theorem d4_51 : decode jdk_42_method_149_code 51 = .ok (.aload_n 0, 1) := by decide +kernel
theorem d4_52 : decode jdk_42_method_149_code 52 = .ok (.aload 5, 2) := by decide +kernel
theorem d4_54 : decode jdk_42_method_149_code 54 = .ok (.putfield 9, 3) := by decide +kernel
theorem d4_57 : decode jdk_42_method_149_code 57 = .ok (.return_, 1) := by decide +kernel
theorem d6_0 : decode jdk_52_method_16_code 0 = .ok (.iload_n 2, 1) := by decide +kernel
theorem d6_1 : decode jdk_52_method_16_code 1 = .ok (.newarray .byte, 2) := by decide +kernel
theorem d6_3 : decode jdk_52_method_16_code 3 = .ok (.astore_n 3, 1) := by decide +kernel
theorem d6_4 : decode jdk_52_method_16_code 4 = .ok (.aload_n 0, 1) := by decide +kernel
theorem d6_5 : decode jdk_52_method_16_code 5 = .ok (.iload_n 1, 1) := by decide +kernel
theorem d6_6 : decode jdk_52_method_16_code 6 = .ok (.aload_n 3, 1) := by decide +kernel
theorem d6_7 : decode jdk_52_method_16_code 7 = .ok (.iconst 0, 1) := by decide +kernel
theorem d6_8 : decode jdk_52_method_16_code 8 = .ok (.iload_n 2, 1) := by decide +kernel
theorem d6_9 : decode jdk_52_method_16_code 9 = .ok (.invokestatic 115, 3) := by decide +kernel
theorem d6_12 : decode jdk_52_method_16_code 12 = .ok (.istore 4, 2) := by decide +kernel
theorem d6_14 : decode jdk_52_method_16_code 14 = .ok (.iload 4, 2) := by decide +kernel
theorem d6_16 : decode jdk_52_method_16_code 16 = .ok (.iload_n 2, 1) := by decide +kernel
theorem d6_17 : decode jdk_52_method_16_code 17 = .ok (.if_icmp .eq 40, 3) := by decide +kernel
theorem d6_57 : decode jdk_52_method_16_code 57 = .ok (.aload_n 3, 1) := by decide +kernel
theorem d6_58 : decode jdk_52_method_16_code 58 = .ok (.areturn, 1) := by decide +kernel
theorem d7_0 : decode jdk_52_method_21_code 0 = .ok (.iconst 0, 1) := by decide +kernel
theorem d7_1 : decode jdk_52_method_21_code 1 = .ok (.istore 5, 2) := by decide +kernel
theorem d7_3 : decode jdk_52_method_21_code 3 = .ok (.iload 5, 2) := by decide +kernel
theorem d7_5 : decode jdk_52_method_21_code 5 = .ok (.iload 4, 2) := by decide +kernel
theorem d7_7 : decode jdk_52_method_21_code 7 = .ok (.if_icmp .ge 37, 3) := by decide +kernel
theorem d7_10 : decode jdk_52_method_21_code 10 = .ok (.aload_n 0, 1) := by decide +kernel
theorem d7_11 : decode jdk_52_method_21_code 11 = .ok (.iload_n 1, 1) := by decide +kernel
theorem d7_12 : decode jdk_52_method_21_code 12 = .ok (.caload, 1) := by decide +kernel
theorem d7_13 : decode jdk_52_method_21_code 13 = .ok (.istore 6, 2) := by decide +kernel
theorem d7_15 : decode jdk_52_method_21_code 15 = .ok (.iload 6, 2) := by decide +kernel
theorem d7_17 : decode jdk_52_method_21_code 17 = .ok (.sipush 255, 3) := by decide +kernel
theorem d7_20 : decode jdk_52_method_21_code 20 = .ok (.if_icmp .le 6, 3) := by decide +kernel
theorem d7_26 : decode jdk_52_method_21_code 26 = .ok (.aload_n 2, 1) := by decide +kernel
theorem d7_27 : decode jdk_52_method_21_code 27 = .ok (.iload_n 3, 1) := by decide +kernel
theorem d7_28 : decode jdk_52_method_21_code 28 = .ok (.iload 6, 2) := by decide +kernel
theorem d7_30 : decode jdk_52_method_21_code 30 = .ok (.i2b, 1) := by decide +kernel
theorem d7_31 : decode jdk_52_method_21_code 31 = .ok (.bastore, 1) := by decide +kernel
theorem d7_32 : decode jdk_52_method_21_code 32 = .ok (.iinc 1 1, 3) := by decide +kernel
theorem d7_35 : decode jdk_52_method_21_code 35 = .ok (.iinc 3 1, 3) := by decide +kernel
theorem d7_38 : decode jdk_52_method_21_code 38 = .ok (.iinc 5 1, 3) := by decide +kernel
theorem d7_41 : decode jdk_52_method_21_code 41 = .ok (.goto (-38), 3) := by decide +kernel
theorem d7_44 : decode jdk_52_method_21_code 44 = .ok (.iload 4, 2) := by decide +kernel
theorem d7_46 : decode jdk_52_method_21_code 46 = .ok (.ireturn, 1) := by decide +kernel
theorem d8_0 : decode jdk_52_method_15_code 0 = .ok (.iload_n 1, 1) := by decide +kernel
theorem d8_1 : decode jdk_52_method_15_code 1 = .ok (.aload_n 0, 1) := by decide +kernel
theorem d8_2 : decode jdk_52_method_15_code 2 = .ok (.arraylength, 1) := by decide +kernel
theorem d8_3 : decode jdk_52_method_15_code 3 = .ok (.isub, 1) := by decide +kernel
theorem d8_4 : decode jdk_52_method_15_code 4 = .ok (.bipush 31, 2) := by decide +kernel
theorem d8_6 : decode jdk_52_method_15_code 6 = .ok (.iushr, 1) := by decide +kernel
theorem d8_7 : decode jdk_52_method_15_code 7 = .ok (.i2b, 1) := by decide +kernel
theorem d8_8 : decode jdk_52_method_15_code 8 = .ok (.ireturn, 1) := by decide +kernel
theorem d9_0 : decode prog_50_method_2_code 0 = .ok (.aload_n 0, 1) := by decide +kernel
theorem d9_1 : decode prog_50_method_2_code 1 = .ok (.getstatic 7, 3) := by decide +kernel
theorem d9_4 : decode prog_50_method_2_code 4 = .ok (.invokevirtual 13, 3) := by decide +kernel
theorem d9_7 : decode prog_50_method_2_code 7 = .ok (.astore_n 1, 1) := by decide +kernel
theorem d9_8 : decode prog_50_method_2_code 8 = .ok (.aload_n 1, 1) := by decide +kernel
theorem d9_9 : decode prog_50_method_2_code 9 = .ok (.arraylength, 1) := by decide +kernel
theorem d9_10 : decode prog_50_method_2_code 10 = .ok (.istore_n 2, 1) := by decide +kernel
theorem d9_11 : decode prog_50_method_2_code 11 = .ok (.iload_n 2, 1) := by decide +kernel
theorem d9_12 : decode prog_50_method_2_code 12 = .ok (.iconst 2, 1) := by decide +kernel
theorem d9_13 : decode prog_50_method_2_code 13 = .ok (.idiv, 1) := by decide +kernel
theorem d9_14 : decode prog_50_method_2_code 14 = .ok (.newarray .byte, 2) := by decide +kernel
theorem d9_16 : decode prog_50_method_2_code 16 = .ok (.astore_n 3, 1) := by decide +kernel
theorem d9_17 : decode prog_50_method_2_code 17 = .ok (.iconst 0, 1) := by decide +kernel
theorem d9_18 : decode prog_50_method_2_code 18 = .ok (.istore 4, 2) := by decide +kernel
theorem d9_20 : decode prog_50_method_2_code 20 = .ok (.iload 4, 2) := by decide +kernel
theorem d9_22 : decode prog_50_method_2_code 22 = .ok (.iconst 1, 1) := by decide +kernel
theorem d9_23 : decode prog_50_method_2_code 23 = .ok (.iadd, 1) := by decide +kernel
theorem d9_24 : decode prog_50_method_2_code 24 = .ok (.iload_n 2, 1) := by decide +kernel
theorem d9_25 : decode prog_50_method_2_code 25 = .ok (.if_icmp .ge 72, 3) := by decide +kernel
theorem d9_28 : decode prog_50_method_2_code 28 = .ok (.aload_n 1, 1) := by decide +kernel
theorem d9_29 : decode prog_50_method_2_code 29 = .ok (.iload 4, 2) := by decide +kernel
theorem d9_31 : decode prog_50_method_2_code 31 = .ok (.baload, 1) := by decide +kernel
theorem d9_32 : decode prog_50_method_2_code 32 = .ok (.invokestatic 19, 3) := by decide +kernel
theorem d9_35 : decode prog_50_method_2_code 35 = .ok (.istore 5, 2) := by decide +kernel
theorem d9_37 : decode prog_50_method_2_code 37 = .ok (.aload_n 1, 1) := by decide +kernel
theorem d9_38 : decode prog_50_method_2_code 38 = .ok (.iload 4, 2) := by decide +kernel
theorem d9_40 : decode prog_50_method_2_code 40 = .ok (.iconst 1, 1) := by decide +kernel
theorem d9_41 : decode prog_50_method_2_code 41 = .ok (.iadd, 1) := by decide +kernel
theorem d9_42 : decode prog_50_method_2_code 42 = .ok (.baload, 1) := by decide +kernel
theorem d9_43 : decode prog_50_method_2_code 43 = .ok (.invokestatic 19, 3) := by decide +kernel
theorem d9_46 : decode prog_50_method_2_code 46 = .ok (.istore 6, 2) := by decide +kernel
theorem d9_48 : decode prog_50_method_2_code 48 = .ok (.iload 5, 2) := by decide +kernel
theorem d9_50 : decode prog_50_method_2_code 50 = .ok (.ifCond .lt 8, 3) := by decide +kernel
theorem d9_53 : decode prog_50_method_2_code 53 = .ok (.iload 6, 2) := by decide +kernel
theorem d9_55 : decode prog_50_method_2_code 55 = .ok (.ifCond .ge 22, 3) := by decide +kernel
theorem d9_77 : decode prog_50_method_2_code 77 = .ok (.aload_n 3, 1) := by decide +kernel
theorem d9_78 : decode prog_50_method_2_code 78 = .ok (.iload 4, 2) := by decide +kernel
theorem d9_80 : decode prog_50_method_2_code 80 = .ok (.iconst 2, 1) := by decide +kernel
theorem d9_81 : decode prog_50_method_2_code 81 = .ok (.idiv, 1) := by decide +kernel
theorem d9_82 : decode prog_50_method_2_code 82 = .ok (.iload 5, 2) := by decide +kernel
theorem d9_84 : decode prog_50_method_2_code 84 = .ok (.iconst 4, 1) := by decide +kernel
theorem d9_85 : decode prog_50_method_2_code 85 = .ok (.ishl, 1) := by decide +kernel
theorem d9_86 : decode prog_50_method_2_code 86 = .ok (.iload 6, 2) := by decide +kernel
theorem d9_88 : decode prog_50_method_2_code 88 = .ok (.ior, 1) := by decide +kernel
theorem d9_89 : decode prog_50_method_2_code 89 = .ok (.i2b, 1) := by decide +kernel
theorem d9_90 : decode prog_50_method_2_code 90 = .ok (.bastore, 1) := by decide +kernel
theorem d9_91 : decode prog_50_method_2_code 91 = .ok (.iinc 4 2, 3) := by decide +kernel
theorem d9_94 : decode prog_50_method_2_code 94 = .ok (.goto (-74), 3) := by decide +kernel
theorem d9_97 : decode prog_50_method_2_code 97 = .ok (.iload_n 2, 1) := by decide +kernel
theorem d9_98 : decode prog_50_method_2_code 98 = .ok (.iconst 2, 1) := by decide +kernel
theorem d9_99 : decode prog_50_method_2_code 99 = .ok (.irem, 1) := by decide +kernel
theorem d9_100 : decode prog_50_method_2_code 100 = .ok (.ifCond .eq 36, 3) := by decide +kernel
theorem d9_136 : decode prog_50_method_2_code 136 = .ok (.aload_n 3, 1) := by decide +kernel
theorem d9_137 : decode prog_50_method_2_code 137 = .ok (.areturn, 1) := by decide +kernel
theorem d10_0 : decode jdk_42_method_64_code 0 = .ok (.aload_n 1, 1) := by decide +kernel
theorem d10_1 : decode jdk_42_method_64_code 1 = .ok (.ifnonnull 11, 3) := by decide +kernel
theorem d10_12 : decode jdk_42_method_64_code 12 = .ok (.aload_n 1, 1) := by decide +kernel
theorem d10_13 : decode jdk_42_method_64_code 13 = .ok (.aload_n 0, 1) := by decide +kernel
theorem d10_14 : decode jdk_42_method_64_code 14 = .ok (.invokevirtual 335, 3) := by decide +kernel
theorem d10_17 : decode jdk_42_method_64_code 17 = .ok (.aload_n 0, 1) := by decide +kernel
theorem d10_18 : decode jdk_42_method_64_code 18 = .ok (.getfield 9, 3) := by decide +kernel
theorem d10_21 : decode jdk_42_method_64_code 21 = .ok (.invokestatic 535, 3) := by decide +kernel
theorem d10_24 : decode jdk_42_method_64_code 24 = .ok (.areturn, 1) := by decide +kernel
theorem d11_0 : decode jdk_42_method_152_code 0 = .ok (.getstatic 38, 3) := by decide +kernel
theorem d11_3 : decode jdk_42_method_152_code 3 = .ok (.ifCond .eq 10, 3) := by decide +kernel
theorem d11_6 : decode jdk_42_method_152_code 6 = .ok (.aload_n 0, 1) := by decide +kernel
theorem d11_7 : decode jdk_42_method_152_code 7 = .ok (.getfield 15, 3) := by decide +kernel
theorem d11_10 : decode jdk_42_method_152_code 10 = .ok (.goto 4, 3) := by decide +kernel
theorem d11_14 : decode jdk_42_method_152_code 14 = .ok (.ireturn, 1) := by decide +kernel
theorem d12_0 : decode jdk_42_method_18_code 0 = .ok (.aload_n 0, 1) := by decide +kernel
theorem d12_1 : decode jdk_42_method_18_code 1 = .ok (.getstatic 86, 3) := by decide +kernel
theorem d12_4 : decode jdk_42_method_18_code 4 = .ok (.if_acmp .ne 10, 3) := by decide +kernel
theorem d12_14 : decode jdk_42_method_18_code 14 = .ok (.aload_n 0, 1) := by decide +kernel
theorem d12_15 : decode jdk_42_method_18_code 15 = .ok (.getstatic 116, 3) := by decide +kernel
theorem d12_18 : decode jdk_42_method_18_code 18 = .ok (.if_acmp .ne 9, 3) := by decide +kernel
theorem d12_21 : decode jdk_42_method_18_code 21 = .ok (.iload_n 1, 1) := by decide +kernel
theorem d12_22 : decode jdk_42_method_18_code 22 = .ok (.aload_n 2, 1) := by decide +kernel
theorem d12_23 : decode jdk_42_method_18_code 23 = .ok (.invokestatic 256, 3) := by decide +kernel
theorem d12_26 : decode jdk_42_method_18_code 26 = .ok (.areturn, 1) := by decide +kernel
theorem d13_0 : decode jdk_42_method_26_code 0 = .ok (.iload_n 0, 1) := by decide +kernel
theorem d13_1 : decode jdk_42_method_26_code 1 = .ok (.aload_n 1, 1) := by decide +kernel
theorem d13_2 : decode jdk_42_method_26_code 2 = .ok (.iconst 1, 1) := by decide +kernel
theorem d13_3 : decode jdk_42_method_26_code 3 = .ok (.invokestatic 351, 3) := by decide +kernel
theorem d13_6 : decode jdk_42_method_26_code 6 = .ok (.areturn, 1) := by decide +kernel
theorem d14_0 : decode jdk_42_method_27_code 0 = .ok (.iload_n 0, 1) := by decide +kernel
theorem d14_1 : decode jdk_42_method_27_code 1 = .ok (.ifCond .ne 11, 3) := by decide +kernel
theorem d14_4 : decode jdk_42_method_27_code 4 = .ok (.aload_n 1, 1) := by decide +kernel
theorem d14_5 : decode jdk_42_method_27_code 5 = .ok (.invokevirtual 279, 3) := by decide +kernel
theorem d14_8 : decode jdk_42_method_27_code 8 = .ok (.checkcast 280, 3) := by decide +kernel
theorem d14_11 : decode jdk_42_method_27_code 11 = .ok (.areturn, 1) := by decide +kernel
theorem d15_0 : decode prog_50_method_5_code 0 = .ok (.iload_n 0, 1) := by decide +kernel
theorem d15_1 : decode prog_50_method_5_code 1 = .ok (.sipush 255, 3) := by decide +kernel
theorem d15_4 : decode prog_50_method_5_code 4 = .ok (.iand, 1) := by decide +kernel
theorem d15_5 : decode prog_50_method_5_code 5 = .ok (.i2c, 1) := by decide +kernel
theorem d15_6 : decode prog_50_method_5_code 6 = .ok (.invokestatic 49, 3) := by decide +kernel
theorem d15_9 : decode prog_50_method_5_code 9 = .ok (.ireturn, 1) := by decide +kernel
theorem d16_0 : decode prog_50_method_6_code 0 = .ok (.iload_n 0, 1) := by decide +kernel
theorem d16_1 : decode prog_50_method_6_code 1 = .ok (.bipush 48, 2) := by decide +kernel
theorem d16_3 : decode prog_50_method_6_code 3 = .ok (.if_icmp .lt 14, 3) := by decide +kernel
theorem d16_6 : decode prog_50_method_6_code 6 = .ok (.iload_n 0, 1) := by decide +kernel
theorem d16_7 : decode prog_50_method_6_code 7 = .ok (.bipush 57, 2) := by decide +kernel
theorem d16_9 : decode prog_50_method_6_code 9 = .ok (.if_icmp .gt 8, 3) := by decide +kernel
theorem d16_12 : decode prog_50_method_6_code 12 = .ok (.iload_n 0, 1) := by decide +kernel
theorem d16_13 : decode prog_50_method_6_code 13 = .ok (.bipush 48, 2) := by decide +kernel
theorem d16_15 : decode prog_50_method_6_code 15 = .ok (.isub, 1) := by decide +kernel
theorem d16_16 : decode prog_50_method_6_code 16 = .ok (.ireturn, 1) := by decide +kernel
theorem d16_17 : decode prog_50_method_6_code 17 = .ok (.iload_n 0, 1) := by decide +kernel
theorem d16_18 : decode prog_50_method_6_code 18 = .ok (.bipush 97, 2) := by decide +kernel
theorem d16_20 : decode prog_50_method_6_code 20 = .ok (.if_icmp .lt 17, 3) := by decide +kernel
theorem d16_23 : decode prog_50_method_6_code 23 = .ok (.iload_n 0, 1) := by decide +kernel
theorem d16_24 : decode prog_50_method_6_code 24 = .ok (.bipush 102, 2) := by decide +kernel
theorem d16_26 : decode prog_50_method_6_code 26 = .ok (.if_icmp .gt 11, 3) := by decide +kernel
theorem d16_29 : decode prog_50_method_6_code 29 = .ok (.iload_n 0, 1) := by decide +kernel
theorem d16_30 : decode prog_50_method_6_code 30 = .ok (.bipush 97, 2) := by decide +kernel
theorem d16_32 : decode prog_50_method_6_code 32 = .ok (.isub, 1) := by decide +kernel
theorem d16_33 : decode prog_50_method_6_code 33 = .ok (.bipush 10, 2) := by decide +kernel
theorem d16_35 : decode prog_50_method_6_code 35 = .ok (.iadd, 1) := by decide +kernel
theorem d16_36 : decode prog_50_method_6_code 36 = .ok (.ireturn, 1) := by decide +kernel
theorem d16_37 : decode prog_50_method_6_code 37 = .ok (.iload_n 0, 1) := by decide +kernel
theorem d16_38 : decode prog_50_method_6_code 38 = .ok (.bipush 65, 2) := by decide +kernel
theorem d16_40 : decode prog_50_method_6_code 40 = .ok (.if_icmp .lt 17, 3) := by decide +kernel
theorem d16_43 : decode prog_50_method_6_code 43 = .ok (.iload_n 0, 1) := by decide +kernel
theorem d16_44 : decode prog_50_method_6_code 44 = .ok (.bipush 70, 2) := by decide +kernel
theorem d16_46 : decode prog_50_method_6_code 46 = .ok (.if_icmp .gt 11, 3) := by decide +kernel
theorem d16_49 : decode prog_50_method_6_code 49 = .ok (.iload_n 0, 1) := by decide +kernel
theorem d16_50 : decode prog_50_method_6_code 50 = .ok (.bipush 65, 2) := by decide +kernel
theorem d16_52 : decode prog_50_method_6_code 52 = .ok (.isub, 1) := by decide +kernel
theorem d16_53 : decode prog_50_method_6_code 53 = .ok (.bipush 10, 2) := by decide +kernel
theorem d16_55 : decode prog_50_method_6_code 55 = .ok (.iadd, 1) := by decide +kernel
theorem d16_56 : decode prog_50_method_6_code 56 = .ok (.ireturn, 1) := by decide +kernel
theorem d16_57 : decode prog_50_method_6_code 57 = .ok (.iconst (-1), 1) := by decide +kernel
theorem d16_58 : decode prog_50_method_6_code 58 = .ok (.ireturn, 1) := by decide +kernel
theorem d17_0 : decode method_5_code 0 = .ok (.iload_n 0, 1) := by decide +kernel
theorem d17_1 : decode method_5_code 1 = .ok (.bipush 16, 2) := by decide +kernel
theorem d17_3 : decode method_5_code 3 = .ok (.if_icmp .ge 7, 3) := by decide +kernel
theorem d17_6 : decode method_5_code 6 = .ok (.iload_n 0, 1) := by decide +kernel
theorem d17_7 : decode method_5_code 7 = .ok (.goto 7, 3) := by decide +kernel
theorem d17_10 : decode method_5_code 10 = .ok (.iload_n 0, 1) := by decide +kernel
theorem d17_11 : decode method_5_code 11 = .ok (.bipush 6, 2) := by decide +kernel
theorem d17_13 : decode method_5_code 13 = .ok (.isub, 1) := by decide +kernel
theorem d17_14 : decode method_5_code 14 = .ok (.ireturn, 1) := by decide +kernel
theorem pn_0 : plainName "java/lang/StringUTF16" = true := by first | (simp [plainName, overriddenIn]; done) | decide +kernel
theorem pn_1 : plainName "java/lang/String" = true := by first | (simp [plainName, overriddenIn]; done) | decide +kernel
theorem pn_2 : plainName "cardtalk/message/Hex" = true := by first | (simp [plainName, overriddenIn]; done) | decide +kernel
theorem pn_3 : plainName "cardtalk/message/HexDigitPinLaw" = true := by first | (simp [plainName, overriddenIn]; done) | decide +kernel
theorem pd_0 : parseMethodDescriptor "([CI[BII)I" = some ⟨[(.array .char), .int, (.array .byte), .int, .int], some .int⟩ := by decide +kernel
theorem pd_1 : parseMethodDescriptor "([CII)[B" = some ⟨[(.array .char), .int, .int], some (.array .byte)⟩ := by decide +kernel
theorem pd_2 : parseMethodDescriptor "([BI)B" = some ⟨[(.array .byte), .int], some .byte⟩ := by decide +kernel
theorem pd_3 : parseMethodDescriptor "([CIILjava/lang/Void;)V" = some ⟨[(.array .char), .int, .int, (.object "java/lang/Void")], none⟩ := by decide +kernel
theorem pd_4 : parseMethodDescriptor "(B[BZ)[B" = some ⟨[.byte, (.array .byte), .boolean], some (.array .byte)⟩ := by decide +kernel
theorem pd_5 : parseMethodDescriptor "(B[B)[B" = some ⟨[.byte, (.array .byte)], some (.array .byte)⟩ := by decide +kernel
theorem pd_6 : parseMethodDescriptor "()B" = some ⟨[], some .byte⟩ := by decide +kernel
theorem pd_7 : parseMethodDescriptor "(Ljava/nio/charset/Charset;B[B)[B" = some ⟨[(.object "java/nio/charset/Charset"), .byte, (.array .byte)], some (.array .byte)⟩ := by decide +kernel
theorem pd_8 : parseMethodDescriptor "(C)I" = some ⟨[.char], some .int⟩ := by decide +kernel
theorem pd_9 : parseMethodDescriptor "(Ljava/nio/charset/Charset;)[B" = some ⟨[(.object "java/nio/charset/Charset")], some (.array .byte)⟩ := by decide +kernel
theorem pd_10 : parseMethodDescriptor "(B)I" = some ⟨[.byte], some .int⟩ := by decide +kernel
theorem pd_11 : parseMethodDescriptor "(I)I" = some ⟨[.int], some .int⟩ := by decide +kernel
theorem pd_12 : parseMethodDescriptor "(I)C" = some ⟨[.int], some .char⟩ := by decide +kernel
theorem pd_13 : parseMethodDescriptor "([C)V" = some ⟨[(.array .char)], none⟩ := by decide +kernel
theorem pd_14 : parseMethodDescriptor "(Ljava/lang/String;)[B" = some ⟨[(.object "java/lang/String")], some (.array .byte)⟩ := by decide +kernel
theorem own_nat (c : Int32) (h0 : 0 ≤ c.toInt) : c = Int32.ofNat c.toInt.toNat := by
  apply Int32.toInt_inj.mp
  have h1 := c.toInt_lt
  rw [Int32.toInt_ofNat_of_lt (by omega)]
  omega
theorem own_fin {P : Int32 → Prop} (K : Nat) (h : ∀ n : Fin K, P (Int32.ofNat n.1)) (c : Int32) (h0 : 0 ≤ c.toInt) (h1 : c.toInt < K) : P c := by
  rw [own_nat c h0]; exact h ⟨c.toInt.toNat, by omega⟩
theorem own_fin' {P : Int32 → Prop} (K : Nat) (c : Int32) (h0 : 0 ≤ c.toInt) (h1 : c.toInt < K) (h : ∀ n : Fin K, P (Int32.ofNat n.1)) : P c := own_fin K h c h0 h1
theorem own_no {G : Prop} {x : Int32} (h : x = 1) (h' : x = 0) : G := absurd (h.symm.trans h') (by decide)
theorem own_eqint {args : Array Value} {Z : State} {t : Term} {n : Int32} (h : (Jvm.Cond.eq t (.int n)).value args Z none Z [] = some true) : t.eval args Z none [] Z = some (.int n) := by
  simp only [Cond.value, Term.eval] at h
  cases ht : t.eval args Z none [] Z with
  | none => simp [ht] at h
  | some x => cases x <;> simp [ht] at h ⊢; exact h
theorem own_len {args : Array Value} {Z : State} {t : Term} {x : Addr} {cl : Cell} {ty : FieldType} {n : Int32} (ht : t.eval args Z none [] Z = some (.ref x)) (A : Arr Z Z.heap x cl ty) (h : (Jvm.Cond.eq (.length t) (.int n)).value args Z none Z [] = some true) : cl.slots.size < 2 ^ 31 ∧ cl.slots.size.toInt32 = n := by
  have e := own_eqint h
  have ha : Z.arrayAt? x = some cl := A.fin (Vm.Alike.refl _)
  by_cases hl : cl.slots.size < 2 ^ 31
  · rw [len_f ht ha hl] at e
    exact ⟨hl, Value.int.inj (Option.some.inj e)⟩
  · simp [Term.eval, ht, ha, hl] at e
theorem own_elem {args : Array Value} {Z : State} {t u : Term} {x y : Addr} {cl : Cell} {j : Int32} (ht : t.eval args Z none [] Z = some (.ref x)) (hc : Z.heap[x]? = some cl) (hu : u.eval args Z none [] Z = some (.ref y)) (h : (Jvm.Cond.eq (.elem t (.int j)) u).value args Z none Z [] = some true) : cl.slots[j.toNatClampNeg]? = some (.ref y) := by
  obtain ⟨v, w, e1, e2, -⟩ := cmp_v (Or.inl h)
  cases hu.symm.trans e2
  obtain ⟨h1, h2⟩ := elem_in e1 ht (Term.int_eval j) hc
  have hr : v.isRef = true := by
    have := h
    cases v <;> simp [Cond.value, e1, e2, Value.isRef] at this ⊢
  have q := gotT (eq_R e1 e2 hr rfl) h
  rw [h2, q]
theorem own_fldI {args : Array Value} {Z : State} {t : Term} {x : Addr} {C n d : String} {v : Int32} (ht : t.eval args Z none [] Z = some (.ref x)) (h : (Jvm.Cond.eq (.field t C n d) (.int v)).value args Z none Z [] = some true) : Fld Z Z.heap x C n d (.int v) := by
  have e := own_eqint h
  rw [fld_at ht] at e
  exact Fld.start e
theorem own_catI (x : Int32) : (Value.int x).category = 1 := rfl
theorem own_catJ (x : Int64) : (Value.long x).category = 2 := rfl
theorem own_catR (x : Addr) : (Value.ref x).category = 1 := rfl
theorem own_catN : (Value.null).category = 1 := rfl
theorem own_cat {v : Value} (h : v.isRef = true) : v.category = 1 := by rcases ref_cases h with rfl | ⟨_, rfl⟩ <;> rfl
def own_by (c : Int32) : Int32 := (c.toInt8.toInt32).toInt8.toInt32
theorem own_cc {c : Int32} (h : 0 ≤ c.toInt ∧ c.toInt ≤ 255) : (c.toUInt32.toUInt16.toUInt32.toInt32) = c := by
  have q := c_i2c c
  exact Int32.toInt_inj.mp (by omega)
theorem own_le {c : Int32} (h : 0 ≤ c.toInt ∧ c.toInt ≤ 255) : ¬ (255 : Int32) < c := by
  have e : (255 : Int32).toInt = 255 := by decide
  rw [Int32.lt_iff_toInt_lt]; omega
theorem own_ch (x : Int32) : 0 ≤ ((x &&& (255 : Int32)).toUInt32.toUInt16.toUInt32.toInt32).toInt ∧ ((x &&& (255 : Int32)).toUInt32.toUInt16.toUInt32.toInt32).toInt ≤ 255 := by
  have q := c_i2c (x &&& (255 : Int32))
  have h := c_mask x 255 8 (by decide) (by decide)
  omega
theorem own_sta_keep {Z : State} {h h' : Heap} {C n d : String} {v : Value} {ws : List Addr} (F : Sta Z h C n d v) (K : Keep h h' ws) (q : ∀ x ∈ ws, ∃ c : Cell, h[x]? = some c ∧ c.vm.isStatics = false) : Sta Z h' C n d v := by
  obtain ⟨cf, i, k, f, st, cell, h1, h2, h3, h4, h5, h6, h7⟩ := F
  refine ⟨cf, i, k, f, st, cell, h1, h2, h3, h4, K.2.1 st cell h5 ?_, h6, h7⟩
  intro hm
  obtain ⟨c, e1, e2⟩ := q st hm
  cases h5.symm.trans e1
  rw [h6] at e2; cases e2
theorem own_plE {Z : State} {h : Heap} {a : Addr} {C : String} (F : Exa Z h a C) : ∃ c : Cell, h[a]? = some c ∧ c.vm.isStatics = false := by
  obtain ⟨c, _, h1, -, -, h4, -⟩ := F; exact ⟨c, h1, h4⟩
theorem own_plV {Z : State} {h : Heap} {a : Addr} {k : ClassId} {ty : FieldType} {n : Int32} {vs : List Value} {d : Value} (F : Arv Z h a k ty n vs d) : ∃ c : Cell, h[a]? = some c ∧ c.vm.isStatics = false := by
  obtain ⟨c, A, -⟩ := F; exact ⟨c, A.1, A.plain⟩
theorem ef_rmC4_4 (m : MethodId) (x0 : Addr) (x1 : Int32) (x2 : Addr) (x3 : Int32) (x4 : Int32) : entryFrame m #[(.ref x0), (.int x1), (.ref x2), (.int x3), (.int x4)] 7 = mkF m 0 #[.val (.ref x0), .val (.int x1), .val (.ref x2), .val (.int x3), .val (.int x4), .unset, .unset] [] := by first | (simp [entryFrame, mkF, argsToLocals, Value.category]; done) | rfl
def Q_rmC4_4 (Z : State) (arr : Addr) (dst : Addr) (ka : ClassId) (c0 : Int32) (c1 : Int32) (c2 : Int32) (c3 : Int32) (kd : ClassId) (h0 : Heap) (n0 : Nat) (v : Option Value) (h : Heap) (L : List Loc) : Prop := v = some (.int (4 : Int32)) ∧ Fr n0 L ∧ Keep h0 h [dst] ∧ Arv Z h dst kd .byte (4 : Int32) [(.int (own_by c0)), (.int (own_by c1)), (.int (own_by c2)), (.int (own_by c3))] (.int (0 : Int32))
set_option maxRecDepth 65536 in
set_option maxHeartbeats 40000000 in
theorem rmC4_4 (l : Launch) (Z : State) (a0 : Array Value) (hw : ∀ d ∈ tables_1, d.before a0 Z = true) (ws : List Jvm.Cond) (arr : Addr) (dst : Addr) (ka : ClassId) (c0 : Int32) (c1 : Int32) (c2 : Int32) (c3 : Int32) (kd : ClassId) (h0 : Heap) (n0 : Nat) (Z0 : n0 ≤ h0.size) (Vc : Arv Z h0 arr ka .char (4 : Int32) [(.int c0), (.int c1), (.int c2), (.int c3)] (.int (0 : Int32))) (Vd : Arv Z h0 dst kd .byte (4 : Int32) [(.int (0 : Int32)), (.int (0 : Int32)), (.int (0 : Int32)), (.int (0 : Int32))] (.int (0 : Int32))) (g_dst : n0 ≤ dst) (hne : arr ≠ dst) (hc0 : 0 ≤ c0.toInt ∧ c0.toInt ≤ 255) (hc1 : 0 ≤ c1.toInt ∧ c1.toInt ≤ 255) (hc2 : 0 ≤ c2.toInt ∧ c2.toInt ≤ 255) (hc3 : 0 ≤ c3.toInt ∧ c3.toInt ≤ 255) :
    MetFree l (⟨"java/lang/StringUTF16", "compress", "([CI[BII)I"⟩ : MethodName) (head1 (Jvm.Cond.code (⟨"java/lang/StringUTF16", "compress", "([CI[BII)I"⟩ : MethodName) jdk_52_method_21_code 7 (some .int) :: ws) ({ frames := 0, cells := 0, slots := 0, locals := 0 } : Room)) (fun aa_ U => aa_ = #[(.ref arr), (.int (0 : Int32)), (.ref dst), (.int (0 : Int32)), (.int (4 : Int32))] ∧ Z.Warmed39 U.vm ∧ U.heap = h0) (fun _ _ _ _ _ => True) (fun _ U o U' => ∃ v L, o = .returned v ∧ Q_rmC4_4 Z arr dst ka c0 c1 c2 c3 kd h0 n0 v U'.heap L ∧ FrameEnd U o U' L ({ frames := 0, cells := 0, slots := 0, locals := 0 } : Room).cells ({ frames := 0, cells := 0, slots := 0, locals := 0 } : Room).slots) := by
  refine MetFree.of_bodySF (plainFor_of_name pn_0) hisR ?_
  intro p e s m args below meth c s₁ Bd hml0 hP hK
  obtain ⟨rfl, hZ, hh⟩ := hP
  have hx := Bd.exec
  have hby := Bd.bytes
  have hml : c.maxLocals = 7 := hml0
  have hown : s.vm.findClass "java/lang/StringUTF16" = some m.cls := findClass_of_methodNamed Bd.named
  have hnm := (name_of_methodNamed Bd.named Bd.method).1
  have X0 : Stand p l e ({ frames := 0, cells := 0, slots := 0, locals := 0 } : Room) s m #[(.ref arr), (.int (0 : Int32)), (.ref dst), (.int (0 : Int32)), (.int (4 : Int32))] below meth c s₁ [] 0 0 := Stand.of_body Bd
  have e0 : s₁.heap = h0 := by rw [← hh, Bd.state]; rfl
  have N0 := Fr.nil n0
  show OEnds p e below (OEndP s (Q_rmC4_4 Z arr dst ka c0 c1 c2 c3 kd h0 n0) ({ frames := 0, cells := 0, slots := 0, locals := 0 } : Room).cells ({ frames := 0, cells := 0, slots := 0, locals := 0 } : Room).slots) s₁ (entryFrame m #[(.ref arr), (.int (0 : Int32)), (.ref dst), (.int (0 : Int32)), (.int (4 : Int32))] 7)
  rw [ef_rmC4_4 m arr (0 : Int32) dst (0 : Int32) (4 : Int32)]
  refine OEnds.go (g' := (mkF m 1 #[.val (.ref arr), .val (.int (0 : Int32)), .val (.ref dst), .val (.int (0 : Int32)), .val (.int (4 : Int32)), .unset, .unset] [(.int (0 : Int32))])) (fun t k => XS.iconst X0.here hx rfl (hb hby d7_0) k) ?_
  refine OEnds.go (g' := (mkF m 3 #[.val (.ref arr), .val (.int (0 : Int32)), .val (.ref dst), .val (.int (0 : Int32)), .val (.int (4 : Int32)), .val (.int (0 : Int32)), .unset] [])) (fun t k => XS.istore X0.here hx rfl (hb hby d7_1) rfl (l' := #[.val (.ref arr), .val (.int (0 : Int32)), .val (.ref dst), .val (.int (0 : Int32)), .val (.int (4 : Int32)), .val (.int (0 : Int32)), .unset]) rfl k) ?_
  refine OEnds.go (g' := (mkF m 5 #[.val (.ref arr), .val (.int (0 : Int32)), .val (.ref dst), .val (.int (0 : Int32)), .val (.int (4 : Int32)), .val (.int (0 : Int32)), .unset] [(.int (0 : Int32))])) (fun t k => XS.iload X0.here hx rfl (hb hby d7_3) rfl k) ?_
  refine OEnds.go (g' := (mkF m 7 #[.val (.ref arr), .val (.int (0 : Int32)), .val (.ref dst), .val (.int (0 : Int32)), .val (.int (4 : Int32)), .val (.int (0 : Int32)), .unset] [(.int (4 : Int32)), (.int (0 : Int32))])) (fun t k => XS.iload X0.here hx rfl (hb hby d7_5) rfl k) ?_
  refine OEnds.go (g' := (mkF m 10 #[.val (.ref arr), .val (.int (0 : Int32)), .val (.ref dst), .val (.int (0 : Int32)), .val (.int (4 : Int32)), .val (.int (0 : Int32)), .unset] [])) (fun t k => XS.icmpNo X0.here hx rfl (hb hby d7_7) rfl (tlt (by decide : ((0 : Int32) < (4 : Int32)))).2.1 k) ?_
  refine OEnds.go (g' := (mkF m 11 #[.val (.ref arr), .val (.int (0 : Int32)), .val (.ref dst), .val (.int (0 : Int32)), .val (.int (4 : Int32)), .val (.int (0 : Int32)), .unset] [(.ref arr)])) (fun t k => XS.aloadN X0.here hx rfl (hb hby d7_10) rfl rfl k) ?_
  refine OEnds.go (g' := (mkF m 12 #[.val (.ref arr), .val (.int (0 : Int32)), .val (.ref dst), .val (.int (0 : Int32)), .val (.int (4 : Int32)), .val (.int (0 : Int32)), .unset] [(.int (0 : Int32)), (.ref arr)])) (fun t k => XS.iloadN X0.here hx rfl (hb hby d7_11) rfl k) ?_
  obtain ⟨cl1, Ar1, qa1, Sa1, Na1, Ha1, Ga1⟩ := @id _ Vc
  have hin1 : ¬ ((0 : Int32) < 0 ∨ cl1.slots.size ≤ ((0 : Int32)).toNatClampNeg) := inb_of Sa1 ⟨by decide, by decide⟩
  have hat1 : cl1.slots[((0 : Int32)).toNatClampNeg]? = some (.int c0) := Has.at Ha1 hin1 rfl
  refine OEnds.go (g' := (mkF m 13 #[.val (.ref arr), .val (.int (0 : Int32)), .val (.ref dst), .val (.int (0 : Int32)), .val (.int (4 : Int32)), .val (.int (0 : Int32)), .unset] [(.int c0)])) (X0.caload hx (j := (0 : Int32)) (v := (.int c0)) (by rw [e0]; exact Ar1.1) (State.isArrayOf_alike hZ.alike Ar1.2.1) Ar1.2.2 hin1 hat1 (g := (mkF m 12 #[.val (.ref arr), .val (.int (0 : Int32)), .val (.ref dst), .val (.int (0 : Int32)), .val (.int (4 : Int32)), .val (.int (0 : Int32)), .unset] [(.int (0 : Int32)), (.ref arr)])) rfl rfl (hb hby d7_12)) ?_
  refine OEnds.go (g' := (mkF m 15 #[.val (.ref arr), .val (.int (0 : Int32)), .val (.ref dst), .val (.int (0 : Int32)), .val (.int (4 : Int32)), .val (.int (0 : Int32)), .val (.int c0)] [])) (fun t k => XS.istore X0.here hx rfl (hb hby d7_13) rfl (l' := #[.val (.ref arr), .val (.int (0 : Int32)), .val (.ref dst), .val (.int (0 : Int32)), .val (.int (4 : Int32)), .val (.int (0 : Int32)), .val (.int c0)]) rfl k) ?_
  refine OEnds.go (g' := (mkF m 17 #[.val (.ref arr), .val (.int (0 : Int32)), .val (.ref dst), .val (.int (0 : Int32)), .val (.int (4 : Int32)), .val (.int (0 : Int32)), .val (.int c0)] [(.int c0)])) (fun t k => XS.iload X0.here hx rfl (hb hby d7_15) rfl k) ?_
  refine OEnds.go (g' := (mkF m 20 #[.val (.ref arr), .val (.int (0 : Int32)), .val (.ref dst), .val (.int (0 : Int32)), .val (.int (4 : Int32)), .val (.int (0 : Int32)), .val (.int c0)] [(.int (255 : Int32)), (.int c0)])) (fun t k => XS.sipush X0.here hx rfl (hb hby d7_17) k) ?_
  refine OEnds.go (g' := (mkF m 26 #[.val (.ref arr), .val (.int (0 : Int32)), .val (.ref dst), .val (.int (0 : Int32)), .val (.int (4 : Int32)), .val (.int (0 : Int32)), .val (.int c0)] [])) (fun t k => XS.icmpYes X0.here hx rfl (pc0 := 20) (pc' := 26) rfl (hb hby d7_20) rfl (flt (own_le hc0 : ¬ ((255 : Int32) < c0))).2.2.2 (by decide) (by decide) k) ?_
  refine OEnds.go (g' := (mkF m 27 #[.val (.ref arr), .val (.int (0 : Int32)), .val (.ref dst), .val (.int (0 : Int32)), .val (.int (4 : Int32)), .val (.int (0 : Int32)), .val (.int c0)] [(.ref dst)])) (fun t k => XS.aloadN X0.here hx rfl (hb hby d7_26) rfl rfl k) ?_
  refine OEnds.go (g' := (mkF m 28 #[.val (.ref arr), .val (.int (0 : Int32)), .val (.ref dst), .val (.int (0 : Int32)), .val (.int (4 : Int32)), .val (.int (0 : Int32)), .val (.int c0)] [(.int (0 : Int32)), (.ref dst)])) (fun t k => XS.iloadN X0.here hx rfl (hb hby d7_27) rfl k) ?_
  refine OEnds.go (g' := (mkF m 30 #[.val (.ref arr), .val (.int (0 : Int32)), .val (.ref dst), .val (.int (0 : Int32)), .val (.int (4 : Int32)), .val (.int (0 : Int32)), .val (.int c0)] [(.int c0), (.int (0 : Int32)), (.ref dst)])) (fun t k => XS.iload X0.here hx rfl (hb hby d7_28) rfl k) ?_
  refine OEnds.go (g' := (mkF m 31 #[.val (.ref arr), .val (.int (0 : Int32)), .val (.ref dst), .val (.int (0 : Int32)), .val (.int (4 : Int32)), .val (.int (0 : Int32)), .val (.int c0)] [(.int (c0.toInt8.toInt32)), (.int (0 : Int32)), (.ref dst)])) (fun t k => XS.i2b X0.here hx rfl (hb hby d7_30) rfl k) ?_
  obtain ⟨cl2, Ar2, qa2, Sa2, Na2, Ha2, Ga2⟩ := @id _ Vd
  have hin2 : ¬ ((0 : Int32) < 0 ∨ cl2.slots.size ≤ ((0 : Int32)).toNatClampNeg) := inb_of Sa2 ⟨by decide, by decide⟩
  obtain ⟨T3, h3, X3, e3, W3, st3⟩ := stB X0 hx hZ e0 Ar2 (j := (0 : Int32)) hin2 (g := (mkF m 31 #[.val (.ref arr), .val (.int (0 : Int32)), .val (.ref dst), .val (.int (0 : Int32)), .val (.int (4 : Int32)), .val (.int (0 : Int32)), .val (.int c0)] [(.int (c0.toInt8.toInt32)), (.int (0 : Int32)), (.ref dst)])) rfl rfl (hb hby d7_31)
  have N3 := Fr.snoc X3 N0 g_dst
  have K3 : Keep h0 h3 [dst] := (Keep.refl h0 [dst]).wr W3 (Or.inl (by simp))
  have V3_dst : Arv Z h3 dst kd .byte (4 : Int32) [(.int ((c0.toInt8.toInt32).toInt8.toInt32)), (.int (0 : Int32)), (.int (0 : Int32)), (.int (0 : Int32))] (.int (0 : Int32)) := Arv.set Ar2 qa2 Sa2 Na2 Ha2 Ga2 (fits_nar_byte _) W3 0 rfl (Nat.le_of_ble_eq_true rfl)
  refine OEnds.go (g' := (mkF m 32 #[.val (.ref arr), .val (.int (0 : Int32)), .val (.ref dst), .val (.int (0 : Int32)), .val (.int (4 : Int32)), .val (.int (0 : Int32)), .val (.int c0)] [])) st3 ?_
  refine OEnds.go (g' := (mkF m 35 #[.val (.ref arr), .val (.int ((0 : Int32) + (1 : Int32))), .val (.ref dst), .val (.int (0 : Int32)), .val (.int (4 : Int32)), .val (.int (0 : Int32)), .val (.int c0)] [])) (fun t k => XS.iinc X3.here hx rfl (hb hby d7_32) rfl (l' := #[.val (.ref arr), .val (.int ((0 : Int32) + (1 : Int32))), .val (.ref dst), .val (.int (0 : Int32)), .val (.int (4 : Int32)), .val (.int (0 : Int32)), .val (.int c0)]) rfl k) ?_
  rw [show ((0 : Int32) + (1 : Int32)) = (1 : Int32) from by decide]
  refine OEnds.go (g' := (mkF m 38 #[.val (.ref arr), .val (.int (1 : Int32)), .val (.ref dst), .val (.int ((0 : Int32) + (1 : Int32))), .val (.int (4 : Int32)), .val (.int (0 : Int32)), .val (.int c0)] [])) (fun t k => XS.iinc X3.here hx rfl (hb hby d7_35) rfl (l' := #[.val (.ref arr), .val (.int (1 : Int32)), .val (.ref dst), .val (.int ((0 : Int32) + (1 : Int32))), .val (.int (4 : Int32)), .val (.int (0 : Int32)), .val (.int c0)]) rfl k) ?_
  rw [show ((0 : Int32) + (1 : Int32)) = (1 : Int32) from by decide]
  refine OEnds.go (g' := (mkF m 41 #[.val (.ref arr), .val (.int (1 : Int32)), .val (.ref dst), .val (.int (1 : Int32)), .val (.int (4 : Int32)), .val (.int ((0 : Int32) + (1 : Int32))), .val (.int c0)] [])) (fun t k => XS.iinc X3.here hx rfl (hb hby d7_38) rfl (l' := #[.val (.ref arr), .val (.int (1 : Int32)), .val (.ref dst), .val (.int (1 : Int32)), .val (.int (4 : Int32)), .val (.int ((0 : Int32) + (1 : Int32))), .val (.int c0)]) rfl k) ?_
  rw [show ((0 : Int32) + (1 : Int32)) = (1 : Int32) from by decide]
  refine OEnds.go (g' := (mkF m 3 #[.val (.ref arr), .val (.int (1 : Int32)), .val (.ref dst), .val (.int (1 : Int32)), .val (.int (4 : Int32)), .val (.int (1 : Int32)), .val (.int c0)] [])) (fun t k => XS.goto X3.here hx rfl (pc0 := 41) (pc' := 3) rfl (hb hby d7_41) (by decide) (by decide) k) ?_
  refine OEnds.go (g' := (mkF m 5 #[.val (.ref arr), .val (.int (1 : Int32)), .val (.ref dst), .val (.int (1 : Int32)), .val (.int (4 : Int32)), .val (.int (1 : Int32)), .val (.int c0)] [(.int (1 : Int32))])) (fun t k => XS.iload X3.here hx rfl (hb hby d7_3) rfl k) ?_
  refine OEnds.go (g' := (mkF m 7 #[.val (.ref arr), .val (.int (1 : Int32)), .val (.ref dst), .val (.int (1 : Int32)), .val (.int (4 : Int32)), .val (.int (1 : Int32)), .val (.int c0)] [(.int (4 : Int32)), (.int (1 : Int32))])) (fun t k => XS.iload X3.here hx rfl (hb hby d7_5) rfl k) ?_
  refine OEnds.go (g' := (mkF m 10 #[.val (.ref arr), .val (.int (1 : Int32)), .val (.ref dst), .val (.int (1 : Int32)), .val (.int (4 : Int32)), .val (.int (1 : Int32)), .val (.int c0)] [])) (fun t k => XS.icmpNo X3.here hx rfl (hb hby d7_7) rfl (tlt (by decide : ((1 : Int32) < (4 : Int32)))).2.1 k) ?_
  refine OEnds.go (g' := (mkF m 11 #[.val (.ref arr), .val (.int (1 : Int32)), .val (.ref dst), .val (.int (1 : Int32)), .val (.int (4 : Int32)), .val (.int (1 : Int32)), .val (.int c0)] [(.ref arr)])) (fun t k => XS.aloadN X3.here hx rfl (hb hby d7_10) rfl rfl k) ?_
  refine OEnds.go (g' := (mkF m 12 #[.val (.ref arr), .val (.int (1 : Int32)), .val (.ref dst), .val (.int (1 : Int32)), .val (.int (4 : Int32)), .val (.int (1 : Int32)), .val (.int c0)] [(.int (1 : Int32)), (.ref arr)])) (fun t k => XS.iloadN X3.here hx rfl (hb hby d7_11) rfl k) ?_
  obtain ⟨cl4, Ar4, qa4, Sa4, Na4, Ha4, Ga4⟩ := @id _ (Vc.other W3 hne)
  have hin4 : ¬ ((1 : Int32) < 0 ∨ cl4.slots.size ≤ ((1 : Int32)).toNatClampNeg) := inb_of Sa4 ⟨by decide, by decide⟩
  have hat4 : cl4.slots[((1 : Int32)).toNatClampNeg]? = some (.int c1) := Has.at Ha4 hin4 rfl
  refine OEnds.go (g' := (mkF m 13 #[.val (.ref arr), .val (.int (1 : Int32)), .val (.ref dst), .val (.int (1 : Int32)), .val (.int (4 : Int32)), .val (.int (1 : Int32)), .val (.int c0)] [(.int c1)])) (X3.caload hx (j := (1 : Int32)) (v := (.int c1)) (by rw [e3]; exact Ar4.1) (State.isArrayOf_alike hZ.alike Ar4.2.1) Ar4.2.2 hin4 hat4 (g := (mkF m 12 #[.val (.ref arr), .val (.int (1 : Int32)), .val (.ref dst), .val (.int (1 : Int32)), .val (.int (4 : Int32)), .val (.int (1 : Int32)), .val (.int c0)] [(.int (1 : Int32)), (.ref arr)])) rfl rfl (hb hby d7_12)) ?_
  refine OEnds.go (g' := (mkF m 15 #[.val (.ref arr), .val (.int (1 : Int32)), .val (.ref dst), .val (.int (1 : Int32)), .val (.int (4 : Int32)), .val (.int (1 : Int32)), .val (.int c1)] [])) (fun t k => XS.istore X3.here hx rfl (hb hby d7_13) rfl (l' := #[.val (.ref arr), .val (.int (1 : Int32)), .val (.ref dst), .val (.int (1 : Int32)), .val (.int (4 : Int32)), .val (.int (1 : Int32)), .val (.int c1)]) rfl k) ?_
  refine OEnds.go (g' := (mkF m 17 #[.val (.ref arr), .val (.int (1 : Int32)), .val (.ref dst), .val (.int (1 : Int32)), .val (.int (4 : Int32)), .val (.int (1 : Int32)), .val (.int c1)] [(.int c1)])) (fun t k => XS.iload X3.here hx rfl (hb hby d7_15) rfl k) ?_
  refine OEnds.go (g' := (mkF m 20 #[.val (.ref arr), .val (.int (1 : Int32)), .val (.ref dst), .val (.int (1 : Int32)), .val (.int (4 : Int32)), .val (.int (1 : Int32)), .val (.int c1)] [(.int (255 : Int32)), (.int c1)])) (fun t k => XS.sipush X3.here hx rfl (hb hby d7_17) k) ?_
  refine OEnds.go (g' := (mkF m 26 #[.val (.ref arr), .val (.int (1 : Int32)), .val (.ref dst), .val (.int (1 : Int32)), .val (.int (4 : Int32)), .val (.int (1 : Int32)), .val (.int c1)] [])) (fun t k => XS.icmpYes X3.here hx rfl (pc0 := 20) (pc' := 26) rfl (hb hby d7_20) rfl (flt (own_le hc1 : ¬ ((255 : Int32) < c1))).2.2.2 (by decide) (by decide) k) ?_
  refine OEnds.go (g' := (mkF m 27 #[.val (.ref arr), .val (.int (1 : Int32)), .val (.ref dst), .val (.int (1 : Int32)), .val (.int (4 : Int32)), .val (.int (1 : Int32)), .val (.int c1)] [(.ref dst)])) (fun t k => XS.aloadN X3.here hx rfl (hb hby d7_26) rfl rfl k) ?_
  refine OEnds.go (g' := (mkF m 28 #[.val (.ref arr), .val (.int (1 : Int32)), .val (.ref dst), .val (.int (1 : Int32)), .val (.int (4 : Int32)), .val (.int (1 : Int32)), .val (.int c1)] [(.int (1 : Int32)), (.ref dst)])) (fun t k => XS.iloadN X3.here hx rfl (hb hby d7_27) rfl k) ?_
  refine OEnds.go (g' := (mkF m 30 #[.val (.ref arr), .val (.int (1 : Int32)), .val (.ref dst), .val (.int (1 : Int32)), .val (.int (4 : Int32)), .val (.int (1 : Int32)), .val (.int c1)] [(.int c1), (.int (1 : Int32)), (.ref dst)])) (fun t k => XS.iload X3.here hx rfl (hb hby d7_28) rfl k) ?_
  refine OEnds.go (g' := (mkF m 31 #[.val (.ref arr), .val (.int (1 : Int32)), .val (.ref dst), .val (.int (1 : Int32)), .val (.int (4 : Int32)), .val (.int (1 : Int32)), .val (.int c1)] [(.int (c1.toInt8.toInt32)), (.int (1 : Int32)), (.ref dst)])) (fun t k => XS.i2b X3.here hx rfl (hb hby d7_30) rfl k) ?_
  obtain ⟨cl5, Ar5, qa5, Sa5, Na5, Ha5, Ga5⟩ := @id _ V3_dst
  have hin5 : ¬ ((1 : Int32) < 0 ∨ cl5.slots.size ≤ ((1 : Int32)).toNatClampNeg) := inb_of Sa5 ⟨by decide, by decide⟩
  obtain ⟨T6, h6, X6, e6, W6, st6⟩ := stB X3 hx hZ e3 Ar5 (j := (1 : Int32)) hin5 (g := (mkF m 31 #[.val (.ref arr), .val (.int (1 : Int32)), .val (.ref dst), .val (.int (1 : Int32)), .val (.int (4 : Int32)), .val (.int (1 : Int32)), .val (.int c1)] [(.int (c1.toInt8.toInt32)), (.int (1 : Int32)), (.ref dst)])) rfl rfl (hb hby d7_31)
  have N6 := Fr.snoc X6 N3 g_dst
  have K6 : Keep h0 h6 [dst] := K3.wr W6 (Or.inl (by simp))
  have V6_dst : Arv Z h6 dst kd .byte (4 : Int32) [(.int ((c0.toInt8.toInt32).toInt8.toInt32)), (.int ((c1.toInt8.toInt32).toInt8.toInt32)), (.int (0 : Int32)), (.int (0 : Int32))] (.int (0 : Int32)) := Arv.set Ar5 qa5 Sa5 Na5 Ha5 Ga5 (fits_nar_byte _) W6 1 rfl (Nat.le_of_ble_eq_true rfl)
  refine OEnds.go (g' := (mkF m 32 #[.val (.ref arr), .val (.int (1 : Int32)), .val (.ref dst), .val (.int (1 : Int32)), .val (.int (4 : Int32)), .val (.int (1 : Int32)), .val (.int c1)] [])) st6 ?_
  refine OEnds.go (g' := (mkF m 35 #[.val (.ref arr), .val (.int ((1 : Int32) + (1 : Int32))), .val (.ref dst), .val (.int (1 : Int32)), .val (.int (4 : Int32)), .val (.int (1 : Int32)), .val (.int c1)] [])) (fun t k => XS.iinc X6.here hx rfl (hb hby d7_32) rfl (l' := #[.val (.ref arr), .val (.int ((1 : Int32) + (1 : Int32))), .val (.ref dst), .val (.int (1 : Int32)), .val (.int (4 : Int32)), .val (.int (1 : Int32)), .val (.int c1)]) rfl k) ?_
  rw [show ((1 : Int32) + (1 : Int32)) = (2 : Int32) from by decide]
  refine OEnds.go (g' := (mkF m 38 #[.val (.ref arr), .val (.int (2 : Int32)), .val (.ref dst), .val (.int ((1 : Int32) + (1 : Int32))), .val (.int (4 : Int32)), .val (.int (1 : Int32)), .val (.int c1)] [])) (fun t k => XS.iinc X6.here hx rfl (hb hby d7_35) rfl (l' := #[.val (.ref arr), .val (.int (2 : Int32)), .val (.ref dst), .val (.int ((1 : Int32) + (1 : Int32))), .val (.int (4 : Int32)), .val (.int (1 : Int32)), .val (.int c1)]) rfl k) ?_
  rw [show ((1 : Int32) + (1 : Int32)) = (2 : Int32) from by decide]
  refine OEnds.go (g' := (mkF m 41 #[.val (.ref arr), .val (.int (2 : Int32)), .val (.ref dst), .val (.int (2 : Int32)), .val (.int (4 : Int32)), .val (.int ((1 : Int32) + (1 : Int32))), .val (.int c1)] [])) (fun t k => XS.iinc X6.here hx rfl (hb hby d7_38) rfl (l' := #[.val (.ref arr), .val (.int (2 : Int32)), .val (.ref dst), .val (.int (2 : Int32)), .val (.int (4 : Int32)), .val (.int ((1 : Int32) + (1 : Int32))), .val (.int c1)]) rfl k) ?_
  rw [show ((1 : Int32) + (1 : Int32)) = (2 : Int32) from by decide]
  refine OEnds.go (g' := (mkF m 3 #[.val (.ref arr), .val (.int (2 : Int32)), .val (.ref dst), .val (.int (2 : Int32)), .val (.int (4 : Int32)), .val (.int (2 : Int32)), .val (.int c1)] [])) (fun t k => XS.goto X6.here hx rfl (pc0 := 41) (pc' := 3) rfl (hb hby d7_41) (by decide) (by decide) k) ?_
  refine OEnds.go (g' := (mkF m 5 #[.val (.ref arr), .val (.int (2 : Int32)), .val (.ref dst), .val (.int (2 : Int32)), .val (.int (4 : Int32)), .val (.int (2 : Int32)), .val (.int c1)] [(.int (2 : Int32))])) (fun t k => XS.iload X6.here hx rfl (hb hby d7_3) rfl k) ?_
  refine OEnds.go (g' := (mkF m 7 #[.val (.ref arr), .val (.int (2 : Int32)), .val (.ref dst), .val (.int (2 : Int32)), .val (.int (4 : Int32)), .val (.int (2 : Int32)), .val (.int c1)] [(.int (4 : Int32)), (.int (2 : Int32))])) (fun t k => XS.iload X6.here hx rfl (hb hby d7_5) rfl k) ?_
  refine OEnds.go (g' := (mkF m 10 #[.val (.ref arr), .val (.int (2 : Int32)), .val (.ref dst), .val (.int (2 : Int32)), .val (.int (4 : Int32)), .val (.int (2 : Int32)), .val (.int c1)] [])) (fun t k => XS.icmpNo X6.here hx rfl (hb hby d7_7) rfl (tlt (by decide : ((2 : Int32) < (4 : Int32)))).2.1 k) ?_
  refine OEnds.go (g' := (mkF m 11 #[.val (.ref arr), .val (.int (2 : Int32)), .val (.ref dst), .val (.int (2 : Int32)), .val (.int (4 : Int32)), .val (.int (2 : Int32)), .val (.int c1)] [(.ref arr)])) (fun t k => XS.aloadN X6.here hx rfl (hb hby d7_10) rfl rfl k) ?_
  refine OEnds.go (g' := (mkF m 12 #[.val (.ref arr), .val (.int (2 : Int32)), .val (.ref dst), .val (.int (2 : Int32)), .val (.int (4 : Int32)), .val (.int (2 : Int32)), .val (.int c1)] [(.int (2 : Int32)), (.ref arr)])) (fun t k => XS.iloadN X6.here hx rfl (hb hby d7_11) rfl k) ?_
  obtain ⟨cl7, Ar7, qa7, Sa7, Na7, Ha7, Ga7⟩ := @id _ ((Vc.other W3 hne).other W6 hne)
  have hin7 : ¬ ((2 : Int32) < 0 ∨ cl7.slots.size ≤ ((2 : Int32)).toNatClampNeg) := inb_of Sa7 ⟨by decide, by decide⟩
  have hat7 : cl7.slots[((2 : Int32)).toNatClampNeg]? = some (.int c2) := Has.at Ha7 hin7 rfl
  refine OEnds.go (g' := (mkF m 13 #[.val (.ref arr), .val (.int (2 : Int32)), .val (.ref dst), .val (.int (2 : Int32)), .val (.int (4 : Int32)), .val (.int (2 : Int32)), .val (.int c1)] [(.int c2)])) (X6.caload hx (j := (2 : Int32)) (v := (.int c2)) (by rw [e6]; exact Ar7.1) (State.isArrayOf_alike hZ.alike Ar7.2.1) Ar7.2.2 hin7 hat7 (g := (mkF m 12 #[.val (.ref arr), .val (.int (2 : Int32)), .val (.ref dst), .val (.int (2 : Int32)), .val (.int (4 : Int32)), .val (.int (2 : Int32)), .val (.int c1)] [(.int (2 : Int32)), (.ref arr)])) rfl rfl (hb hby d7_12)) ?_
  refine OEnds.go (g' := (mkF m 15 #[.val (.ref arr), .val (.int (2 : Int32)), .val (.ref dst), .val (.int (2 : Int32)), .val (.int (4 : Int32)), .val (.int (2 : Int32)), .val (.int c2)] [])) (fun t k => XS.istore X6.here hx rfl (hb hby d7_13) rfl (l' := #[.val (.ref arr), .val (.int (2 : Int32)), .val (.ref dst), .val (.int (2 : Int32)), .val (.int (4 : Int32)), .val (.int (2 : Int32)), .val (.int c2)]) rfl k) ?_
  refine OEnds.go (g' := (mkF m 17 #[.val (.ref arr), .val (.int (2 : Int32)), .val (.ref dst), .val (.int (2 : Int32)), .val (.int (4 : Int32)), .val (.int (2 : Int32)), .val (.int c2)] [(.int c2)])) (fun t k => XS.iload X6.here hx rfl (hb hby d7_15) rfl k) ?_
  refine OEnds.go (g' := (mkF m 20 #[.val (.ref arr), .val (.int (2 : Int32)), .val (.ref dst), .val (.int (2 : Int32)), .val (.int (4 : Int32)), .val (.int (2 : Int32)), .val (.int c2)] [(.int (255 : Int32)), (.int c2)])) (fun t k => XS.sipush X6.here hx rfl (hb hby d7_17) k) ?_
  refine OEnds.go (g' := (mkF m 26 #[.val (.ref arr), .val (.int (2 : Int32)), .val (.ref dst), .val (.int (2 : Int32)), .val (.int (4 : Int32)), .val (.int (2 : Int32)), .val (.int c2)] [])) (fun t k => XS.icmpYes X6.here hx rfl (pc0 := 20) (pc' := 26) rfl (hb hby d7_20) rfl (flt (own_le hc2 : ¬ ((255 : Int32) < c2))).2.2.2 (by decide) (by decide) k) ?_
  refine OEnds.go (g' := (mkF m 27 #[.val (.ref arr), .val (.int (2 : Int32)), .val (.ref dst), .val (.int (2 : Int32)), .val (.int (4 : Int32)), .val (.int (2 : Int32)), .val (.int c2)] [(.ref dst)])) (fun t k => XS.aloadN X6.here hx rfl (hb hby d7_26) rfl rfl k) ?_
  refine OEnds.go (g' := (mkF m 28 #[.val (.ref arr), .val (.int (2 : Int32)), .val (.ref dst), .val (.int (2 : Int32)), .val (.int (4 : Int32)), .val (.int (2 : Int32)), .val (.int c2)] [(.int (2 : Int32)), (.ref dst)])) (fun t k => XS.iloadN X6.here hx rfl (hb hby d7_27) rfl k) ?_
  refine OEnds.go (g' := (mkF m 30 #[.val (.ref arr), .val (.int (2 : Int32)), .val (.ref dst), .val (.int (2 : Int32)), .val (.int (4 : Int32)), .val (.int (2 : Int32)), .val (.int c2)] [(.int c2), (.int (2 : Int32)), (.ref dst)])) (fun t k => XS.iload X6.here hx rfl (hb hby d7_28) rfl k) ?_
  refine OEnds.go (g' := (mkF m 31 #[.val (.ref arr), .val (.int (2 : Int32)), .val (.ref dst), .val (.int (2 : Int32)), .val (.int (4 : Int32)), .val (.int (2 : Int32)), .val (.int c2)] [(.int (c2.toInt8.toInt32)), (.int (2 : Int32)), (.ref dst)])) (fun t k => XS.i2b X6.here hx rfl (hb hby d7_30) rfl k) ?_
  obtain ⟨cl8, Ar8, qa8, Sa8, Na8, Ha8, Ga8⟩ := @id _ V6_dst
  have hin8 : ¬ ((2 : Int32) < 0 ∨ cl8.slots.size ≤ ((2 : Int32)).toNatClampNeg) := inb_of Sa8 ⟨by decide, by decide⟩
  obtain ⟨T9, h9, X9, e9, W9, st9⟩ := stB X6 hx hZ e6 Ar8 (j := (2 : Int32)) hin8 (g := (mkF m 31 #[.val (.ref arr), .val (.int (2 : Int32)), .val (.ref dst), .val (.int (2 : Int32)), .val (.int (4 : Int32)), .val (.int (2 : Int32)), .val (.int c2)] [(.int (c2.toInt8.toInt32)), (.int (2 : Int32)), (.ref dst)])) rfl rfl (hb hby d7_31)
  have N9 := Fr.snoc X9 N6 g_dst
  have K9 : Keep h0 h9 [dst] := K6.wr W9 (Or.inl (by simp))
  have V9_dst : Arv Z h9 dst kd .byte (4 : Int32) [(.int ((c0.toInt8.toInt32).toInt8.toInt32)), (.int ((c1.toInt8.toInt32).toInt8.toInt32)), (.int ((c2.toInt8.toInt32).toInt8.toInt32)), (.int (0 : Int32))] (.int (0 : Int32)) := Arv.set Ar8 qa8 Sa8 Na8 Ha8 Ga8 (fits_nar_byte _) W9 2 rfl (Nat.le_of_ble_eq_true rfl)
  refine OEnds.go (g' := (mkF m 32 #[.val (.ref arr), .val (.int (2 : Int32)), .val (.ref dst), .val (.int (2 : Int32)), .val (.int (4 : Int32)), .val (.int (2 : Int32)), .val (.int c2)] [])) st9 ?_
  refine OEnds.go (g' := (mkF m 35 #[.val (.ref arr), .val (.int ((2 : Int32) + (1 : Int32))), .val (.ref dst), .val (.int (2 : Int32)), .val (.int (4 : Int32)), .val (.int (2 : Int32)), .val (.int c2)] [])) (fun t k => XS.iinc X9.here hx rfl (hb hby d7_32) rfl (l' := #[.val (.ref arr), .val (.int ((2 : Int32) + (1 : Int32))), .val (.ref dst), .val (.int (2 : Int32)), .val (.int (4 : Int32)), .val (.int (2 : Int32)), .val (.int c2)]) rfl k) ?_
  rw [show ((2 : Int32) + (1 : Int32)) = (3 : Int32) from by decide]
  refine OEnds.go (g' := (mkF m 38 #[.val (.ref arr), .val (.int (3 : Int32)), .val (.ref dst), .val (.int ((2 : Int32) + (1 : Int32))), .val (.int (4 : Int32)), .val (.int (2 : Int32)), .val (.int c2)] [])) (fun t k => XS.iinc X9.here hx rfl (hb hby d7_35) rfl (l' := #[.val (.ref arr), .val (.int (3 : Int32)), .val (.ref dst), .val (.int ((2 : Int32) + (1 : Int32))), .val (.int (4 : Int32)), .val (.int (2 : Int32)), .val (.int c2)]) rfl k) ?_
  rw [show ((2 : Int32) + (1 : Int32)) = (3 : Int32) from by decide]
  refine OEnds.go (g' := (mkF m 41 #[.val (.ref arr), .val (.int (3 : Int32)), .val (.ref dst), .val (.int (3 : Int32)), .val (.int (4 : Int32)), .val (.int ((2 : Int32) + (1 : Int32))), .val (.int c2)] [])) (fun t k => XS.iinc X9.here hx rfl (hb hby d7_38) rfl (l' := #[.val (.ref arr), .val (.int (3 : Int32)), .val (.ref dst), .val (.int (3 : Int32)), .val (.int (4 : Int32)), .val (.int ((2 : Int32) + (1 : Int32))), .val (.int c2)]) rfl k) ?_
  rw [show ((2 : Int32) + (1 : Int32)) = (3 : Int32) from by decide]
  refine OEnds.go (g' := (mkF m 3 #[.val (.ref arr), .val (.int (3 : Int32)), .val (.ref dst), .val (.int (3 : Int32)), .val (.int (4 : Int32)), .val (.int (3 : Int32)), .val (.int c2)] [])) (fun t k => XS.goto X9.here hx rfl (pc0 := 41) (pc' := 3) rfl (hb hby d7_41) (by decide) (by decide) k) ?_
  refine OEnds.go (g' := (mkF m 5 #[.val (.ref arr), .val (.int (3 : Int32)), .val (.ref dst), .val (.int (3 : Int32)), .val (.int (4 : Int32)), .val (.int (3 : Int32)), .val (.int c2)] [(.int (3 : Int32))])) (fun t k => XS.iload X9.here hx rfl (hb hby d7_3) rfl k) ?_
  refine OEnds.go (g' := (mkF m 7 #[.val (.ref arr), .val (.int (3 : Int32)), .val (.ref dst), .val (.int (3 : Int32)), .val (.int (4 : Int32)), .val (.int (3 : Int32)), .val (.int c2)] [(.int (4 : Int32)), (.int (3 : Int32))])) (fun t k => XS.iload X9.here hx rfl (hb hby d7_5) rfl k) ?_
  refine OEnds.go (g' := (mkF m 10 #[.val (.ref arr), .val (.int (3 : Int32)), .val (.ref dst), .val (.int (3 : Int32)), .val (.int (4 : Int32)), .val (.int (3 : Int32)), .val (.int c2)] [])) (fun t k => XS.icmpNo X9.here hx rfl (hb hby d7_7) rfl (tlt (by decide : ((3 : Int32) < (4 : Int32)))).2.1 k) ?_
  refine OEnds.go (g' := (mkF m 11 #[.val (.ref arr), .val (.int (3 : Int32)), .val (.ref dst), .val (.int (3 : Int32)), .val (.int (4 : Int32)), .val (.int (3 : Int32)), .val (.int c2)] [(.ref arr)])) (fun t k => XS.aloadN X9.here hx rfl (hb hby d7_10) rfl rfl k) ?_
  refine OEnds.go (g' := (mkF m 12 #[.val (.ref arr), .val (.int (3 : Int32)), .val (.ref dst), .val (.int (3 : Int32)), .val (.int (4 : Int32)), .val (.int (3 : Int32)), .val (.int c2)] [(.int (3 : Int32)), (.ref arr)])) (fun t k => XS.iloadN X9.here hx rfl (hb hby d7_11) rfl k) ?_
  obtain ⟨cl10, Ar10, qa10, Sa10, Na10, Ha10, Ga10⟩ := @id _ (((Vc.other W3 hne).other W6 hne).other W9 hne)
  have hin10 : ¬ ((3 : Int32) < 0 ∨ cl10.slots.size ≤ ((3 : Int32)).toNatClampNeg) := inb_of Sa10 ⟨by decide, by decide⟩
  have hat10 : cl10.slots[((3 : Int32)).toNatClampNeg]? = some (.int c3) := Has.at Ha10 hin10 rfl
  refine OEnds.go (g' := (mkF m 13 #[.val (.ref arr), .val (.int (3 : Int32)), .val (.ref dst), .val (.int (3 : Int32)), .val (.int (4 : Int32)), .val (.int (3 : Int32)), .val (.int c2)] [(.int c3)])) (X9.caload hx (j := (3 : Int32)) (v := (.int c3)) (by rw [e9]; exact Ar10.1) (State.isArrayOf_alike hZ.alike Ar10.2.1) Ar10.2.2 hin10 hat10 (g := (mkF m 12 #[.val (.ref arr), .val (.int (3 : Int32)), .val (.ref dst), .val (.int (3 : Int32)), .val (.int (4 : Int32)), .val (.int (3 : Int32)), .val (.int c2)] [(.int (3 : Int32)), (.ref arr)])) rfl rfl (hb hby d7_12)) ?_
  refine OEnds.go (g' := (mkF m 15 #[.val (.ref arr), .val (.int (3 : Int32)), .val (.ref dst), .val (.int (3 : Int32)), .val (.int (4 : Int32)), .val (.int (3 : Int32)), .val (.int c3)] [])) (fun t k => XS.istore X9.here hx rfl (hb hby d7_13) rfl (l' := #[.val (.ref arr), .val (.int (3 : Int32)), .val (.ref dst), .val (.int (3 : Int32)), .val (.int (4 : Int32)), .val (.int (3 : Int32)), .val (.int c3)]) rfl k) ?_
  refine OEnds.go (g' := (mkF m 17 #[.val (.ref arr), .val (.int (3 : Int32)), .val (.ref dst), .val (.int (3 : Int32)), .val (.int (4 : Int32)), .val (.int (3 : Int32)), .val (.int c3)] [(.int c3)])) (fun t k => XS.iload X9.here hx rfl (hb hby d7_15) rfl k) ?_
  refine OEnds.go (g' := (mkF m 20 #[.val (.ref arr), .val (.int (3 : Int32)), .val (.ref dst), .val (.int (3 : Int32)), .val (.int (4 : Int32)), .val (.int (3 : Int32)), .val (.int c3)] [(.int (255 : Int32)), (.int c3)])) (fun t k => XS.sipush X9.here hx rfl (hb hby d7_17) k) ?_
  refine OEnds.go (g' := (mkF m 26 #[.val (.ref arr), .val (.int (3 : Int32)), .val (.ref dst), .val (.int (3 : Int32)), .val (.int (4 : Int32)), .val (.int (3 : Int32)), .val (.int c3)] [])) (fun t k => XS.icmpYes X9.here hx rfl (pc0 := 20) (pc' := 26) rfl (hb hby d7_20) rfl (flt (own_le hc3 : ¬ ((255 : Int32) < c3))).2.2.2 (by decide) (by decide) k) ?_
  refine OEnds.go (g' := (mkF m 27 #[.val (.ref arr), .val (.int (3 : Int32)), .val (.ref dst), .val (.int (3 : Int32)), .val (.int (4 : Int32)), .val (.int (3 : Int32)), .val (.int c3)] [(.ref dst)])) (fun t k => XS.aloadN X9.here hx rfl (hb hby d7_26) rfl rfl k) ?_
  refine OEnds.go (g' := (mkF m 28 #[.val (.ref arr), .val (.int (3 : Int32)), .val (.ref dst), .val (.int (3 : Int32)), .val (.int (4 : Int32)), .val (.int (3 : Int32)), .val (.int c3)] [(.int (3 : Int32)), (.ref dst)])) (fun t k => XS.iloadN X9.here hx rfl (hb hby d7_27) rfl k) ?_
  refine OEnds.go (g' := (mkF m 30 #[.val (.ref arr), .val (.int (3 : Int32)), .val (.ref dst), .val (.int (3 : Int32)), .val (.int (4 : Int32)), .val (.int (3 : Int32)), .val (.int c3)] [(.int c3), (.int (3 : Int32)), (.ref dst)])) (fun t k => XS.iload X9.here hx rfl (hb hby d7_28) rfl k) ?_
  refine OEnds.go (g' := (mkF m 31 #[.val (.ref arr), .val (.int (3 : Int32)), .val (.ref dst), .val (.int (3 : Int32)), .val (.int (4 : Int32)), .val (.int (3 : Int32)), .val (.int c3)] [(.int (c3.toInt8.toInt32)), (.int (3 : Int32)), (.ref dst)])) (fun t k => XS.i2b X9.here hx rfl (hb hby d7_30) rfl k) ?_
  obtain ⟨cl11, Ar11, qa11, Sa11, Na11, Ha11, Ga11⟩ := @id _ V9_dst
  have hin11 : ¬ ((3 : Int32) < 0 ∨ cl11.slots.size ≤ ((3 : Int32)).toNatClampNeg) := inb_of Sa11 ⟨by decide, by decide⟩
  obtain ⟨T12, h12, X12, e12, W12, st12⟩ := stB X9 hx hZ e9 Ar11 (j := (3 : Int32)) hin11 (g := (mkF m 31 #[.val (.ref arr), .val (.int (3 : Int32)), .val (.ref dst), .val (.int (3 : Int32)), .val (.int (4 : Int32)), .val (.int (3 : Int32)), .val (.int c3)] [(.int (c3.toInt8.toInt32)), (.int (3 : Int32)), (.ref dst)])) rfl rfl (hb hby d7_31)
  have N12 := Fr.snoc X12 N9 g_dst
  have K12 : Keep h0 h12 [dst] := K9.wr W12 (Or.inl (by simp))
  have V12_dst : Arv Z h12 dst kd .byte (4 : Int32) [(.int ((c0.toInt8.toInt32).toInt8.toInt32)), (.int ((c1.toInt8.toInt32).toInt8.toInt32)), (.int ((c2.toInt8.toInt32).toInt8.toInt32)), (.int ((c3.toInt8.toInt32).toInt8.toInt32))] (.int (0 : Int32)) := Arv.set Ar11 qa11 Sa11 Na11 Ha11 Ga11 (fits_nar_byte _) W12 3 rfl (Nat.le_of_ble_eq_true rfl)
  refine OEnds.go (g' := (mkF m 32 #[.val (.ref arr), .val (.int (3 : Int32)), .val (.ref dst), .val (.int (3 : Int32)), .val (.int (4 : Int32)), .val (.int (3 : Int32)), .val (.int c3)] [])) st12 ?_
  refine OEnds.go (g' := (mkF m 35 #[.val (.ref arr), .val (.int ((3 : Int32) + (1 : Int32))), .val (.ref dst), .val (.int (3 : Int32)), .val (.int (4 : Int32)), .val (.int (3 : Int32)), .val (.int c3)] [])) (fun t k => XS.iinc X12.here hx rfl (hb hby d7_32) rfl (l' := #[.val (.ref arr), .val (.int ((3 : Int32) + (1 : Int32))), .val (.ref dst), .val (.int (3 : Int32)), .val (.int (4 : Int32)), .val (.int (3 : Int32)), .val (.int c3)]) rfl k) ?_
  rw [show ((3 : Int32) + (1 : Int32)) = (4 : Int32) from by decide]
  refine OEnds.go (g' := (mkF m 38 #[.val (.ref arr), .val (.int (4 : Int32)), .val (.ref dst), .val (.int ((3 : Int32) + (1 : Int32))), .val (.int (4 : Int32)), .val (.int (3 : Int32)), .val (.int c3)] [])) (fun t k => XS.iinc X12.here hx rfl (hb hby d7_35) rfl (l' := #[.val (.ref arr), .val (.int (4 : Int32)), .val (.ref dst), .val (.int ((3 : Int32) + (1 : Int32))), .val (.int (4 : Int32)), .val (.int (3 : Int32)), .val (.int c3)]) rfl k) ?_
  rw [show ((3 : Int32) + (1 : Int32)) = (4 : Int32) from by decide]
  refine OEnds.go (g' := (mkF m 41 #[.val (.ref arr), .val (.int (4 : Int32)), .val (.ref dst), .val (.int (4 : Int32)), .val (.int (4 : Int32)), .val (.int ((3 : Int32) + (1 : Int32))), .val (.int c3)] [])) (fun t k => XS.iinc X12.here hx rfl (hb hby d7_38) rfl (l' := #[.val (.ref arr), .val (.int (4 : Int32)), .val (.ref dst), .val (.int (4 : Int32)), .val (.int (4 : Int32)), .val (.int ((3 : Int32) + (1 : Int32))), .val (.int c3)]) rfl k) ?_
  rw [show ((3 : Int32) + (1 : Int32)) = (4 : Int32) from by decide]
  refine OEnds.go (g' := (mkF m 3 #[.val (.ref arr), .val (.int (4 : Int32)), .val (.ref dst), .val (.int (4 : Int32)), .val (.int (4 : Int32)), .val (.int (4 : Int32)), .val (.int c3)] [])) (fun t k => XS.goto X12.here hx rfl (pc0 := 41) (pc' := 3) rfl (hb hby d7_41) (by decide) (by decide) k) ?_
  refine OEnds.go (g' := (mkF m 5 #[.val (.ref arr), .val (.int (4 : Int32)), .val (.ref dst), .val (.int (4 : Int32)), .val (.int (4 : Int32)), .val (.int (4 : Int32)), .val (.int c3)] [(.int (4 : Int32))])) (fun t k => XS.iload X12.here hx rfl (hb hby d7_3) rfl k) ?_
  refine OEnds.go (g' := (mkF m 7 #[.val (.ref arr), .val (.int (4 : Int32)), .val (.ref dst), .val (.int (4 : Int32)), .val (.int (4 : Int32)), .val (.int (4 : Int32)), .val (.int c3)] [(.int (4 : Int32)), (.int (4 : Int32))])) (fun t k => XS.iload X12.here hx rfl (hb hby d7_5) rfl k) ?_
  refine OEnds.go (g' := (mkF m 44 #[.val (.ref arr), .val (.int (4 : Int32)), .val (.ref dst), .val (.int (4 : Int32)), .val (.int (4 : Int32)), .val (.int (4 : Int32)), .val (.int c3)] [])) (fun t k => XS.icmpYes X12.here hx rfl (pc0 := 7) (pc' := 44) rfl (hb hby d7_7) rfl (flt (by decide : ¬ ((4 : Int32) < (4 : Int32)))).2.1 (by decide) (by decide) k) ?_
  refine OEnds.go (g' := (mkF m 46 #[.val (.ref arr), .val (.int (4 : Int32)), .val (.ref dst), .val (.int (4 : Int32)), .val (.int (4 : Int32)), .val (.int (4 : Int32)), .val (.int c3)] [(.int (4 : Int32))])) (fun t k => XS.iload X12.here hx rfl (hb hby d7_44) rfl k) ?_
  exact OEnds.outI X12 Bd.notSynchronized hx Bd.returns (hb hby d7_46) (by rw [e12]; exact ⟨rfl, N12, K12, V12_dst⟩) (by decide) (by decide)
theorem ef_rmC3_4 (m : MethodId) (x0 : Addr) (x1 : Int32) (x2 : Int32) : entryFrame m #[(.ref x0), (.int x1), (.int x2)] 6 = mkF m 0 #[.val (.ref x0), .val (.int x1), .val (.int x2), .unset, .unset, .unset] [] := by first | (simp [entryFrame, mkF, argsToLocals, Value.category]; done) | rfl
def Q_rmC3_4 (Z : State) (arr : Addr) (ka : ClassId) (c0 : Int32) (c1 : Int32) (c2 : Int32) (c3 : Int32) (h0 : Heap) (n0 : Nat) (v : Option Value) (h : Heap) (L : List Loc) : Prop := ∃ (b : Addr) (kb : ClassId), v = some (.ref b) ∧ Fr n0 L ∧ Keep h0 h [] ∧ n0 ≤ b ∧ h0.size ≤ b ∧ Arv Z h b kb .byte (4 : Int32) [(.int (own_by c0)), (.int (own_by c1)), (.int (own_by c2)), (.int (own_by c3))] (.int (0 : Int32)) ∧ Exa Z h b "[B"
set_option maxRecDepth 65536 in
set_option maxHeartbeats 40000000 in
theorem rmC3_4 (l : Launch) (Z : State) (a0 : Array Value) (hw : ∀ d ∈ tables_1, d.before a0 Z = true) (ws : List Jvm.Cond) (arr : Addr) (ka : ClassId) (c0 : Int32) (c1 : Int32) (c2 : Int32) (c3 : Int32) (h0 : Heap) (n0 : Nat) (Z0 : n0 ≤ h0.size) (Vc : Arv Z h0 arr ka .char (4 : Int32) [(.int c0), (.int c1), (.int c2), (.int c3)] (.int (0 : Int32))) (hc0 : 0 ≤ c0.toInt ∧ c0.toInt ≤ 255) (hc1 : 0 ≤ c1.toInt ∧ c1.toInt ≤ 255) (hc2 : 0 ≤ c2.toInt ∧ c2.toInt ≤ 255) (hc3 : 0 ≤ c3.toInt ∧ c3.toInt ≤ 255) :
    MetFree l (⟨"java/lang/StringUTF16", "compress", "([CII)[B"⟩ : MethodName) (head1 (Jvm.Cond.code (⟨"java/lang/StringUTF16", "compress", "([CII)[B"⟩ : MethodName) jdk_52_method_16_code 6 (some (.array .byte)) :: ws) ({ frames := 1, cells := 1, slots := 4, locals := 30 } : Room)) (fun aa_ U => aa_ = #[(.ref arr), (.int (0 : Int32)), (.int (4 : Int32))] ∧ Z.Warmed39 U.vm ∧ U.heap = h0) (fun _ _ _ _ _ => True) (fun _ U o U' => ∃ v L, o = .returned v ∧ Q_rmC3_4 Z arr ka c0 c1 c2 c3 h0 n0 v U'.heap L ∧ FrameEnd U o U' L ({ frames := 1, cells := 1, slots := 4, locals := 30 } : Room).cells ({ frames := 1, cells := 1, slots := 4, locals := 30 } : Room).slots) := by
  refine MetFree.of_bodySF (plainFor_of_name pn_0) hisR ?_
  intro p e s m args below meth c s₁ Bd hml0 hP hK
  obtain ⟨rfl, hZ, hh⟩ := hP
  have hx := Bd.exec
  have hby := Bd.bytes
  have hml : c.maxLocals = 6 := hml0
  have hown : s.vm.findClass "java/lang/StringUTF16" = some m.cls := findClass_of_methodNamed Bd.named
  have hnm := (name_of_methodNamed Bd.named Bd.method).1
  have X0 : Stand p l e ({ frames := 1, cells := 1, slots := 4, locals := 30 } : Room) s m #[(.ref arr), (.int (0 : Int32)), (.int (4 : Int32))] below meth c s₁ [] 0 0 := Stand.of_body Bd
  have e0 : s₁.heap = h0 := by rw [← hh, Bd.state]; rfl
  have N0 := Fr.nil n0
  show OEnds p e below (OEndP s (Q_rmC3_4 Z arr ka c0 c1 c2 c3 h0 n0) ({ frames := 1, cells := 1, slots := 4, locals := 30 } : Room).cells ({ frames := 1, cells := 1, slots := 4, locals := 30 } : Room).slots) s₁ (entryFrame m #[(.ref arr), (.int (0 : Int32)), (.int (4 : Int32))] 6)
  rw [ef_rmC3_4 m arr (0 : Int32) (4 : Int32)]
  refine OEnds.go (g' := (mkF m 1 #[.val (.ref arr), .val (.int (0 : Int32)), .val (.int (4 : Int32)), .unset, .unset, .unset] [(.int (4 : Int32))])) (fun t k => XS.iloadN X0.here hx rfl (hb hby d6_0) rfl k) ?_
  obtain ⟨T1, h1, k1, X1, e1, E1, A1, XA1, st1⟩ := newPE X0 hx hZ (hw _ (List.mem_of_getElem? (i := 27) rfl)) e0 (g := (mkF m 1 #[.val (.ref arr), .val (.int (0 : Int32)), .val (.int (4 : Int32)), .unset, .unset, .unset] [(.int (4 : Int32))])) rfl (hb hby d6_1) rfl (by decide) (cap := 4) (by decide) (by decide) (by decide) (by decide) (ad := "[B") (by decide)
  obtain ⟨b1, g1⟩ : ∃ z, z = h0.size := ⟨_, rfl⟩
  rw [← g1] at A1 st1 XA1
  have g_b1 : n0 ≤ b1 := Nat.le_trans Z0 (Nat.le_of_eq g1.symm)
  have sz_b1 : h0.size ≤ b1 := Nat.le_trans (Keep.refl h0 []).1 (Nat.le_of_eq g1.symm)
  have K1 : Keep h0 h1 [] := (Keep.refl h0 []).ext E1
  have V_b1 : Arv Z h1 b1 k1 .byte (4 : Int32) [(.int (0 : Int32)), (.int (0 : Int32)), (.int (0 : Int32)), (.int (0 : Int32))] (.int (0 : Int32)) := (Arv.new A1 (by decide)).pad (pad_rep [] (.int (0 : Int32)) 4)
  refine OEnds.go (g' := (mkF m 3 #[.val (.ref arr), .val (.int (0 : Int32)), .val (.int (4 : Int32)), .unset, .unset, .unset] [(.ref b1)])) st1 ?_
  refine OEnds.go (g' := (mkF m 4 #[.val (.ref arr), .val (.int (0 : Int32)), .val (.int (4 : Int32)), .val (.ref b1), .unset, .unset] [])) (fun t k => XS.astoreN X1.here hx rfl (hb hby d6_3) rfl rfl (l' := #[.val (.ref arr), .val (.int (0 : Int32)), .val (.int (4 : Int32)), .val (.ref b1), .unset, .unset]) rfl k) ?_
  refine OEnds.go (g' := (mkF m 5 #[.val (.ref arr), .val (.int (0 : Int32)), .val (.int (4 : Int32)), .val (.ref b1), .unset, .unset] [(.ref arr)])) (fun t k => XS.aloadN X1.here hx rfl (hb hby d6_4) rfl rfl k) ?_
  refine OEnds.go (g' := (mkF m 6 #[.val (.ref arr), .val (.int (0 : Int32)), .val (.int (4 : Int32)), .val (.ref b1), .unset, .unset] [(.int (0 : Int32)), (.ref arr)])) (fun t k => XS.iloadN X1.here hx rfl (hb hby d6_5) rfl k) ?_
  refine OEnds.go (g' := (mkF m 7 #[.val (.ref arr), .val (.int (0 : Int32)), .val (.int (4 : Int32)), .val (.ref b1), .unset, .unset] [(.ref b1), (.int (0 : Int32)), (.ref arr)])) (fun t k => XS.aloadN X1.here hx rfl (hb hby d6_6) rfl rfl k) ?_
  refine OEnds.go (g' := (mkF m 8 #[.val (.ref arr), .val (.int (0 : Int32)), .val (.int (4 : Int32)), .val (.ref b1), .unset, .unset] [(.int (0 : Int32)), (.ref b1), (.int (0 : Int32)), (.ref arr)])) (fun t k => XS.iconst X1.here hx rfl (hb hby d6_7) k) ?_
  refine OEnds.go (g' := (mkF m 9 #[.val (.ref arr), .val (.int (0 : Int32)), .val (.int (4 : Int32)), .val (.ref b1), .unset, .unset] [(.int (4 : Int32)), (.int (0 : Int32)), (.ref b1), (.int (0 : Int32)), (.ref arr)])) (fun t k => XS.iloadN X1.here hx rfl (hb hby d6_8) rfl k) ?_
  obtain ⟨_, _, ⟨T2, L2, k2, n2⟩, -, X2, ⟨Lc2, hQ2, l2, y2, z2⟩, st2⟩ := Jvm.LawKit.callS X1 hx (y := (⟨"java/lang/StringUTF16", "compress", "([CI[BII)I"⟩ : MethodName)) hown (mvT hZ (hw _ (List.mem_of_getElem? (i := 28) rfl))) (mvT hZ (hw _ (List.mem_of_getElem? (i := 29) rfl))) (mvT hZ (hw _ (List.mem_of_getElem? (i := 25) rfl))) (mvT hZ (hw _ (List.mem_of_getElem? (i := 30) rfl))) (by decide) (backOf (W := 0) (rmC4_4 l Z a0 hw [] arr b1 ka c0 c1 c2 c3 k1 h1 n0 (Nat.le_trans Z0 E1.1) (Vc.ext E1) V_b1 g_b1 (Nat.ne_of_lt (Nat.lt_of_lt_of_le Vc.lt (Nat.le_of_eq g1.symm))) hc0 hc1 hc2 hc3) hZ (hw _ (List.mem_of_getElem? (i := 30) rfl)) (hw _ (List.mem_of_getElem? (i := 25) rfl)) (by decide) (by decide)) (g := (mkF m 9 #[.val (.ref arr), .val (.int (0 : Int32)), .val (.int (4 : Int32)), .val (.ref b1), .unset, .unset] [(.int (4 : Int32)), (.int (0 : Int32)), (.ref b1), (.int (0 : Int32)), (.ref arr)])) rfl (by rw [hml]; rfl) (argsL := [(.ref arr), (.int (0 : Int32)), (.ref b1), (.int (0 : Int32)), (.int (4 : Int32))]) (rest := []) (lenOf pd_0 rfl) rfl (by show 2 * 0 + _ ≤ _; exact Nat.le_of_eq rfl) (hb hby d6_9) (fun _ _ => ⟨rfl, e1, (by decide : 1 + 0 ≤ _), (by decide : 4 + 0 ≤ _)⟩)
  dsimp only [Pt.U, Pt.locs, Pt.cells, Pt.slots] at X2 l2 y2 z2 st2 hQ2
  subst l2 y2 z2
  obtain ⟨rfl, N2q, K2q, V2q⟩ := hQ2
  have N2 := Fr.app N0 N2q
  have K2 : Keep h0 T2.heap [] := K1.trans K2q (allS (Or.inr sz_b1) all0)
  refine OEnds.go (g' := (mkF m 12 #[.val (.ref arr), .val (.int (0 : Int32)), .val (.int (4 : Int32)), .val (.ref b1), .unset, .unset] [(.int (4 : Int32))])) st2 ?_
  refine OEnds.go (g' := (mkF m 14 #[.val (.ref arr), .val (.int (0 : Int32)), .val (.int (4 : Int32)), .val (.ref b1), .val (.int (4 : Int32)), .unset] [])) (fun t k => XS.istore X2.here hx rfl (hb hby d6_12) rfl (l' := #[.val (.ref arr), .val (.int (0 : Int32)), .val (.int (4 : Int32)), .val (.ref b1), .val (.int (4 : Int32)), .unset]) rfl k) ?_
  refine OEnds.go (g' := (mkF m 16 #[.val (.ref arr), .val (.int (0 : Int32)), .val (.int (4 : Int32)), .val (.ref b1), .val (.int (4 : Int32)), .unset] [(.int (4 : Int32))])) (fun t k => XS.iload X2.here hx rfl (hb hby d6_14) rfl k) ?_
  refine OEnds.go (g' := (mkF m 17 #[.val (.ref arr), .val (.int (0 : Int32)), .val (.int (4 : Int32)), .val (.ref b1), .val (.int (4 : Int32)), .unset] [(.int (4 : Int32)), (.int (4 : Int32))])) (fun t k => XS.iloadN X2.here hx rfl (hb hby d6_16) rfl k) ?_
  refine OEnds.go (g' := (mkF m 57 #[.val (.ref arr), .val (.int (0 : Int32)), .val (.int (4 : Int32)), .val (.ref b1), .val (.int (4 : Int32)), .unset] [])) (fun t k => XS.icmpYes X2.here hx rfl (pc0 := 17) (pc' := 57) rfl (hb hby d6_17) rfl (teq (by decide : ((4 : Int32) = (4 : Int32)))).1 (by decide) (by decide) k) ?_
  refine OEnds.go (g' := (mkF m 58 #[.val (.ref arr), .val (.int (0 : Int32)), .val (.int (4 : Int32)), .val (.ref b1), .val (.int (4 : Int32)), .unset] [(.ref b1)])) (fun t k => XS.aloadN X2.here hx rfl (hb hby d6_57) rfl rfl k) ?_
  exact OEnds.outA X2 Bd.notSynchronized hx Bd.returns rfl rfl (hb hby d6_58) ⟨b1, k1, rfl, N2, K2, g_b1, sz_b1, V2q, (XA1.keep K2q)⟩ (by decide) (by decide)
theorem ef_rmCo_4 (m : MethodId) (x0 : Addr) (x1 : Int32) : entryFrame m #[(.ref x0), (.int x1)] 2 = mkF m 0 #[.val (.ref x0), .val (.int x1)] [] := by first | (simp [entryFrame, mkF, argsToLocals, Value.category]; done) | rfl
def fCo_4  : Int32 := (0 : Int32)
def Q_rmCo_4 (Z : State) (bb : Addr) (kb : ClassId) (y0_ : Int32) (y1_ : Int32) (y2_ : Int32) (y3_ : Int32) (h0 : Heap) (n0 : Nat) (v : Option Value) (h : Heap) (L : List Loc) : Prop := v = some (.int fCo_4) ∧ Fr n0 L ∧ h = h0
set_option maxRecDepth 65536 in
set_option maxHeartbeats 40000000 in
theorem rmCo_4 (l : Launch) (Z : State) (a0 : Array Value) (hw : ∀ d ∈ tables_1, d.before a0 Z = true) (ws : List Jvm.Cond) (bb : Addr) (kb : ClassId) (y0_ : Int32) (y1_ : Int32) (y2_ : Int32) (y3_ : Int32) (h0 : Heap) (n0 : Nat) (Z0 : n0 ≤ h0.size) (Vb : Arv Z h0 bb kb .byte (4 : Int32) [(.int y0_), (.int y1_), (.int y2_), (.int y3_)] (.int (0 : Int32))) :
    MetFree l (⟨"java/lang/StringUTF16", "coderFromArrayLen", "([BI)B"⟩ : MethodName) (head1 (Jvm.Cond.code (⟨"java/lang/StringUTF16", "coderFromArrayLen", "([BI)B"⟩ : MethodName) jdk_52_method_15_code 2 (some .byte) :: ws) ({ frames := 0, cells := 0, slots := 0, locals := 0 } : Room)) (fun aa_ U => aa_ = #[(.ref bb), (.int (4 : Int32))] ∧ Z.Warmed39 U.vm ∧ U.heap = h0) (fun _ _ _ _ _ => True) (fun _ U o U' => ∃ v L, o = .returned v ∧ Q_rmCo_4 Z bb kb y0_ y1_ y2_ y3_ h0 n0 v U'.heap L ∧ FrameEnd U o U' L ({ frames := 0, cells := 0, slots := 0, locals := 0 } : Room).cells ({ frames := 0, cells := 0, slots := 0, locals := 0 } : Room).slots) := by
  refine MetFree.of_bodySF (plainFor_of_name pn_0) hisR ?_
  intro p e s m args below meth c s₁ Bd hml0 hP hK
  obtain ⟨rfl, hZ, hh⟩ := hP
  have hx := Bd.exec
  have hby := Bd.bytes
  have hml : c.maxLocals = 2 := hml0
  have hown : s.vm.findClass "java/lang/StringUTF16" = some m.cls := findClass_of_methodNamed Bd.named
  have hnm := (name_of_methodNamed Bd.named Bd.method).1
  have X0 : Stand p l e ({ frames := 0, cells := 0, slots := 0, locals := 0 } : Room) s m #[(.ref bb), (.int (4 : Int32))] below meth c s₁ [] 0 0 := Stand.of_body Bd
  have e0 : s₁.heap = h0 := by rw [← hh, Bd.state]; rfl
  have N0 := Fr.nil n0
  show OEnds p e below (OEndP s (Q_rmCo_4 Z bb kb y0_ y1_ y2_ y3_ h0 n0) ({ frames := 0, cells := 0, slots := 0, locals := 0 } : Room).cells ({ frames := 0, cells := 0, slots := 0, locals := 0 } : Room).slots) s₁ (entryFrame m #[(.ref bb), (.int (4 : Int32))] 2)
  rw [ef_rmCo_4 m bb (4 : Int32)]
  refine OEnds.go (g' := (mkF m 1 #[.val (.ref bb), .val (.int (4 : Int32))] [(.int (4 : Int32))])) (fun t k => XS.iloadN X0.here hx rfl (hb hby d8_0) rfl k) ?_
  refine OEnds.go (g' := (mkF m 2 #[.val (.ref bb), .val (.int (4 : Int32))] [(.ref bb), (.int (4 : Int32))])) (fun t k => XS.aloadN X0.here hx rfl (hb hby d8_1) rfl rfl k) ?_
  obtain ⟨cl1, Ar1, qa1, Sa1, Na1, Ha1, Ga1⟩ := @id _ Vb
  refine OEnds.go (g' := (mkF m 3 #[.val (.ref bb), .val (.int (4 : Int32))] [(.int (4 : Int32)), (.int (4 : Int32))])) (fun t k => X0.arraylength hx (by rw [e0]; exact Ar1.1) (State.isArrayOf_alike hZ.alike Ar1.2.1) (g := (mkF m 2 #[.val (.ref bb), .val (.int (4 : Int32))] [(.ref bb), (.int (4 : Int32))])) rfl rfl (hb hby d8_2) t (by rw [len_of Sa1 Na1]; exact k)) ?_
  refine OEnds.go (g' := (mkF m 4 #[.val (.ref bb), .val (.int (4 : Int32))] [(.int ((4 : Int32) - (4 : Int32)))])) (fun t k => XS.isub X0.here hx rfl (hb hby d8_3) rfl k) ?_
  rw [show ((4 : Int32) - (4 : Int32)) = (0 : Int32) from by decide]
  refine OEnds.go (g' := (mkF m 6 #[.val (.ref bb), .val (.int (4 : Int32))] [(.int (31 : Int32)), (.int (0 : Int32))])) (fun t k => XS.bipush X0.here hx rfl (hb hby d8_4) k) ?_
  refine OEnds.go (g' := (mkF m 7 #[.val (.ref bb), .val (.int (4 : Int32))] [(.int (((0 : Int32).toUInt32 >>> ((31 : Int32) &&& 31).toUInt32).toInt32))])) (fun t k => XS.iushr X0.here hx rfl (hb hby d8_6) rfl k) ?_
  rw [show (((0 : Int32).toUInt32 >>> ((31 : Int32) &&& 31).toUInt32).toInt32) = (0 : Int32) from by decide]
  refine OEnds.go (g' := (mkF m 8 #[.val (.ref bb), .val (.int (4 : Int32))] [(.int ((0 : Int32).toInt8.toInt32))])) (fun t k => XS.i2b X0.here hx rfl (hb hby d8_7) rfl k) ?_
  rw [show ((0 : Int32).toInt8.toInt32) = (0 : Int32) from by decide]
  exact OEnds.outN X0 Bd.notSynchronized hx (t := .byte) Bd.returns (by simp) (hb hby d8_8) ⟨by show (some (.int (0 : Int32)) : Option Value) = some (.int fCo_4); rw [fCo_4], N0, e0⟩ (by decide) (by decide)
theorem ef_rmI4_4 (m : MethodId) (x0 : Addr) (x1 : Addr) (x2 : Int32) (x3 : Int32) : entryFrame m #[(.ref x0), (.ref x1), (.int x2), (.int x3), .null] 6 = mkF m 0 #[.val (.ref x0), .val (.ref x1), .val (.int x2), .val (.int x3), .val .null, .unset] [] := by first | (simp [entryFrame, mkF, argsToLocals, Value.category]; done) | rfl
def Q_rmI4_4 (Z : State) (a : Addr) (arr : Addr) (ka : ClassId) (c0 : Int32) (c1 : Int32) (c2 : Int32) (c3 : Int32) (csv : Int32) (h0 : Heap) (n0 : Nat) (v : Option Value) (h : Heap) (L : List Loc) : Prop := v = none ∧ Fr n0 L ∧ Keep h0 h [a] ∧ Exa Z h a "java/lang/String" ∧ Fld Z h a "java/lang/String" "coder" "B" (.int (0 : Int32)) ∧ ∃ (b : Addr) (kb : ClassId), Fld Z h a "java/lang/String" "value" "[B" (.ref b) ∧ n0 ≤ b ∧ h0.size ≤ b ∧ Arv Z h b kb .byte (4 : Int32) [(.int (own_by c0)), (.int (own_by c1)), (.int (own_by c2)), (.int (own_by c3))] (.int (0 : Int32)) ∧ Exa Z h b "[B"
set_option maxRecDepth 65536 in
set_option maxHeartbeats 40000000 in
theorem rmI4_4 (l : Launch) (Z : State) (a0 : Array Value) (hw : ∀ d ∈ tables_1, d.before a0 Z = true) (ws : List Jvm.Cond) (a : Addr) (arr : Addr) (ka : ClassId) (c0 : Int32) (c1 : Int32) (c2 : Int32) (c3 : Int32) (csv : Int32) (h0 : Heap) (n0 : Nat) (Z0 : n0 ≤ h0.size) (E0 : Exa Z h0 a "java/lang/String") (Fc0 : Fld Z h0 a "java/lang/String" "coder" "B" (.int (0 : Int32))) (Fv0 : Fld Z h0 a "java/lang/String" "value" "[B" .null) (g_a : n0 ≤ a) (Vc : Arv Z h0 arr ka .char (4 : Int32) [(.int c0), (.int c1), (.int c2), (.int c3)] (.int (0 : Int32))) (SC : Sta Z h0 "java/lang/String" "COMPACT_STRINGS" "Z" (.int csv)) (hcs : ¬ csv = (0 : Int32)) (hne : arr ≠ a) (hc0 : 0 ≤ c0.toInt ∧ c0.toInt ≤ 255) (hc1 : 0 ≤ c1.toInt ∧ c1.toInt ≤ 255) (hc2 : 0 ≤ c2.toInt ∧ c2.toInt ≤ 255) (hc3 : 0 ≤ c3.toInt ∧ c3.toInt ≤ 255) :
    MetFree l (⟨"java/lang/String", "<init>", "([CIILjava/lang/Void;)V"⟩ : MethodName) (head1 (Jvm.Cond.code (⟨"java/lang/String", "<init>", "([CIILjava/lang/Void;)V"⟩ : MethodName) jdk_42_method_149_code 6 none :: ws) ({ frames := 2, cells := 1, slots := 4, locals := 70 } : Room)) (fun aa_ U => aa_ = #[(.ref a), (.ref arr), (.int (0 : Int32)), (.int (4 : Int32)), .null] ∧ Z.Warmed39 U.vm ∧ U.heap = h0) (fun _ _ _ _ _ => True) (fun _ U o U' => ∃ v L, o = .returned v ∧ Q_rmI4_4 Z a arr ka c0 c1 c2 c3 csv h0 n0 v U'.heap L ∧ FrameEnd U o U' L ({ frames := 2, cells := 1, slots := 4, locals := 70 } : Room).cells ({ frames := 2, cells := 1, slots := 4, locals := 70 } : Room).slots) := by
  refine MetFree.of_bodySF (plainFor_of_name pn_1) hisR ?_
  intro p e s m args below meth c s₁ Bd hml0 hP hK
  obtain ⟨rfl, hZ, hh⟩ := hP
  have hx := Bd.exec
  have hby := Bd.bytes
  have hml : c.maxLocals = 6 := hml0
  have hown : s.vm.findClass "java/lang/String" = some m.cls := findClass_of_methodNamed Bd.named
  have hnm := (name_of_methodNamed Bd.named Bd.method).1
  have X0 : Stand p l e ({ frames := 2, cells := 1, slots := 4, locals := 70 } : Room) s m #[(.ref a), (.ref arr), (.int (0 : Int32)), (.int (4 : Int32)), .null] below meth c s₁ [] 0 0 := Stand.of_body Bd
  have e0 : s₁.heap = h0 := by rw [← hh, Bd.state]; rfl
  have N0 := Fr.nil n0
  show OEnds p e below (OEndP s (Q_rmI4_4 Z a arr ka c0 c1 c2 c3 csv h0 n0) ({ frames := 2, cells := 1, slots := 4, locals := 70 } : Room).cells ({ frames := 2, cells := 1, slots := 4, locals := 70 } : Room).slots) s₁ (entryFrame m #[(.ref a), (.ref arr), (.int (0 : Int32)), (.int (4 : Int32)), .null] 6)
  rw [ef_rmI4_4 m a arr (0 : Int32) (4 : Int32)]
  refine OEnds.go (g' := (mkF m 1 #[.val (.ref a), .val (.ref arr), .val (.int (0 : Int32)), .val (.int (4 : Int32)), .val .null, .unset] [(.ref a)])) (fun t k => XS.aloadN X0.here hx rfl (hb hby d4_0) rfl rfl k) ?_
  obtain ⟨T1, X1, e1, st1⟩ := initO X0 hx hZ hown (hw _ (List.mem_of_getElem? (i := 19) rfl)) (hw _ (List.mem_of_getElem? (i := 20) rfl)) (hw _ (List.mem_of_getElem? (i := 21) rfl)) e0 (g := (mkF m 1 #[.val (.ref a), .val (.ref arr), .val (.int (0 : Int32)), .val (.int (4 : Int32)), .val .null, .unset] [(.ref a)])) rfl (by rw [hml]; rfl) rfl (hb hby d4_1) (by decide) (W := 0) (by show 2 * 0 + _ ≤ _; exact Nat.le_of_eq rfl) (by decide)
  refine OEnds.go (g' := (mkF m 4 #[.val (.ref a), .val (.ref arr), .val (.int (0 : Int32)), .val (.int (4 : Int32)), .val .null, .unset] [])) st1 ?_
  refine OEnds.go (g' := (mkF m 5 #[.val (.ref a), .val (.ref arr), .val (.int (0 : Int32)), .val (.int (4 : Int32)), .val .null, .unset] [(.int (4 : Int32))])) (fun t k => XS.iloadN X1.here hx rfl (hb hby d4_4) rfl k) ?_
  refine OEnds.go (g' := (mkF m 27 #[.val (.ref a), .val (.ref arr), .val (.int (0 : Int32)), .val (.int (4 : Int32)), .val .null, .unset] [])) (fun t k => XS.ifYes X1.here hx rfl (pc0 := 5) (pc' := 27) rfl (hb hby d4_5) rfl ((if0 _ _).trans (feq (by decide : ¬ ((4 : Int32) = (0 : Int32)))).2) (by decide) (by decide) k) ?_
  obtain ⟨T2, X2, e2, st2⟩ := getS2 X1 hx hZ hown (host := "") (Or.inl (hw _ (List.mem_of_getElem? (i := 22) rfl))) Via.refl e1 SC (g := (mkF m 27 #[.val (.ref a), .val (.ref arr), .val (.int (0 : Int32)), .val (.int (4 : Int32)), .val .null, .unset] [])) rfl (hb hby d4_27)
  refine OEnds.go (g' := (mkF m 30 #[.val (.ref a), .val (.ref arr), .val (.int (0 : Int32)), .val (.int (4 : Int32)), .val .null, .unset] [(.int csv)])) st2 ?_
  refine OEnds.go (g' := (mkF m 33 #[.val (.ref a), .val (.ref arr), .val (.int (0 : Int32)), .val (.int (4 : Int32)), .val .null, .unset] [])) (fun t k => XS.ifNo X2.here hx rfl (hb hby d4_30) rfl ((if0 _ _).trans (feq (hcs : ¬ (csv = (0 : Int32)))).1) k) ?_
  refine OEnds.go (g' := (mkF m 34 #[.val (.ref a), .val (.ref arr), .val (.int (0 : Int32)), .val (.int (4 : Int32)), .val .null, .unset] [(.ref arr)])) (fun t k => XS.aloadN X2.here hx rfl (hb hby d4_33) rfl rfl k) ?_
  refine OEnds.go (g' := (mkF m 35 #[.val (.ref a), .val (.ref arr), .val (.int (0 : Int32)), .val (.int (4 : Int32)), .val .null, .unset] [(.int (0 : Int32)), (.ref arr)])) (fun t k => XS.iloadN X2.here hx rfl (hb hby d4_34) rfl k) ?_
  refine OEnds.go (g' := (mkF m 36 #[.val (.ref a), .val (.ref arr), .val (.int (0 : Int32)), .val (.int (4 : Int32)), .val .null, .unset] [(.int (4 : Int32)), (.int (0 : Int32)), (.ref arr)])) (fun t k => XS.iloadN X2.here hx rfl (hb hby d4_35) rfl k) ?_
  obtain ⟨_, _, ⟨T3, L3, k3, n3⟩, -, X3, ⟨Lc3, hQ3, l3, y3, z3⟩, st3⟩ := Jvm.LawKit.callS X2 hx (y := (⟨"java/lang/StringUTF16", "compress", "([CII)[B"⟩ : MethodName)) hown (mvT hZ (hw _ (List.mem_of_getElem? (i := 23) rfl))) (mvT hZ (hw _ (List.mem_of_getElem? (i := 24) rfl))) (mvT hZ (hw _ (List.mem_of_getElem? (i := 25) rfl))) (mvT hZ (hw _ (List.mem_of_getElem? (i := 26) rfl))) (by decide) (backOf (W := 0) (rmC3_4 l Z a0 hw [] arr ka c0 c1 c2 c3 h0 n0 Z0 Vc hc0 hc1 hc2 hc3) hZ (hw _ (List.mem_of_getElem? (i := 26) rfl)) (hw _ (List.mem_of_getElem? (i := 25) rfl)) (by decide) (by decide)) (g := (mkF m 36 #[.val (.ref a), .val (.ref arr), .val (.int (0 : Int32)), .val (.int (4 : Int32)), .val .null, .unset] [(.int (4 : Int32)), (.int (0 : Int32)), (.ref arr)])) rfl (by rw [hml]; rfl) (argsL := [(.ref arr), (.int (0 : Int32)), (.int (4 : Int32))]) (rest := []) (lenOf pd_1 rfl) rfl (by show 2 * 0 + _ ≤ _; exact Nat.le_of_eq rfl) (hb hby d4_36) (fun _ _ => ⟨rfl, e2, (by decide : 0 + 1 ≤ _), (by decide : 0 + 4 ≤ _)⟩)
  dsimp only [Pt.U, Pt.locs, Pt.cells, Pt.slots] at X3 l3 y3 z3 st3 hQ3
  subst l3 y3 z3
  obtain ⟨b3, kb3, rfl, N3q, K3q, g_b3, s_b3, V3q, X3q⟩ := hQ3
  have N3 := Fr.app N0 N3q
  have K3 : Keep h0 T3.heap [a] := (Keep.refl h0 [a]).trans K3q all0
  have sz_b3 : h0.size ≤ b3 := Nat.le_trans (Keep.refl h0 [a]).1 s_b3
  refine OEnds.go (g' := (mkF m 39 #[.val (.ref a), .val (.ref arr), .val (.int (0 : Int32)), .val (.int (4 : Int32)), .val .null, .unset] [(.ref b3)])) st3 ?_
  refine OEnds.go (g' := (mkF m 41 #[.val (.ref a), .val (.ref arr), .val (.int (0 : Int32)), .val (.int (4 : Int32)), .val .null, .val (.ref b3)] [])) (fun t k => XS.astore X3.here hx rfl (hb hby d4_39) rfl rfl (l' := #[.val (.ref a), .val (.ref arr), .val (.int (0 : Int32)), .val (.int (4 : Int32)), .val .null, .val (.ref b3)]) rfl k) ?_
  refine OEnds.go (g' := (mkF m 42 #[.val (.ref a), .val (.ref arr), .val (.int (0 : Int32)), .val (.int (4 : Int32)), .val .null, .val (.ref b3)] [(.ref a)])) (fun t k => XS.aloadN X3.here hx rfl (hb hby d4_41) rfl rfl k) ?_
  refine OEnds.go (g' := (mkF m 44 #[.val (.ref a), .val (.ref arr), .val (.int (0 : Int32)), .val (.int (4 : Int32)), .val .null, .val (.ref b3)] [(.ref b3), (.ref a)])) (fun t k => XS.aload X3.here hx rfl (hb hby d4_42) rfl rfl k) ?_
  refine OEnds.go (g' := (mkF m 45 #[.val (.ref a), .val (.ref arr), .val (.int (0 : Int32)), .val (.int (4 : Int32)), .val .null, .val (.ref b3)] [(.int (4 : Int32)), (.ref b3), (.ref a)])) (fun t k => XS.iloadN X3.here hx rfl (hb hby d4_44) rfl k) ?_
  obtain ⟨_, _, ⟨T4, L4, k4, n4⟩, -, X4, ⟨Lc4, hQ4, l4, y4, z4⟩, st4⟩ := Jvm.LawKit.callS X3 hx (y := (⟨"java/lang/StringUTF16", "coderFromArrayLen", "([BI)B"⟩ : MethodName)) hown (mvT hZ (hw _ (List.mem_of_getElem? (i := 31) rfl))) (mvT hZ (hw _ (List.mem_of_getElem? (i := 32) rfl))) (mvT hZ (hw _ (List.mem_of_getElem? (i := 25) rfl))) (mvT hZ (hw _ (List.mem_of_getElem? (i := 33) rfl))) (by decide) (backOf (W := 1) (rmCo_4 l Z a0 hw [] b3 kb3 (own_by c0) (own_by c1) (own_by c2) (own_by c3) T3.heap n0 (Nat.le_trans Z0 K3q.1) V3q) hZ (hw _ (List.mem_of_getElem? (i := 33) rfl)) (hw _ (List.mem_of_getElem? (i := 25) rfl)) (by decide) (by decide)) (g := (mkF m 45 #[.val (.ref a), .val (.ref arr), .val (.int (0 : Int32)), .val (.int (4 : Int32)), .val .null, .val (.ref b3)] [(.int (4 : Int32)), (.ref b3), (.ref a)])) rfl (by rw [hml]; rfl) (argsL := [(.ref b3), (.int (4 : Int32))]) (rest := [(.ref a)]) (lenOf pd_2 rfl) rfl (by show 2 * 0 + _ ≤ _; exact Nat.le_of_eq rfl) (hb hby d4_45) (fun _ _ => ⟨rfl, rfl, (by decide : 1 + 0 ≤ _), (by decide : 4 + 0 ≤ _)⟩)
  dsimp only [Pt.U, Pt.locs, Pt.cells, Pt.slots] at X4 l4 y4 z4 st4 hQ4
  subst l4 y4 z4
  obtain ⟨rfl, N4q, e4⟩ := hQ4
  have N4 := Fr.app N3 N4q
  refine OEnds.go (g' := (mkF m 48 #[.val (.ref a), .val (.ref arr), .val (.int (0 : Int32)), .val (.int (4 : Int32)), .val .null, .val (.ref b3)] [(.int (0 : Int32)), (.ref a)])) st4 ?_
  obtain ⟨T5, h5, X5, e5, W5, st5⟩ := putFN X4 hx hZ hown (hw _ (List.mem_of_getElem? (i := 34) rfl)) Via.refl e4 (Fc0.keep K3q nin0) (E0.keep K3q) (Or.inr ⟨(hw _ (List.mem_of_getElem? (i := 35) rfl)), rfl, hnm⟩) (hw _ (List.mem_of_getElem? (i := 10) rfl)) (ty := .byte) (v' := (.int (nar .byte (0 : Int32)))) (by decide) rfl (fits_nar_byte _) (g := (mkF m 48 #[.val (.ref a), .val (.ref arr), .val (.int (0 : Int32)), .val (.int (4 : Int32)), .val .null, .val (.ref b3)] [(.int (0 : Int32)), (.ref a)])) rfl rfl (hb hby d4_48)
  have N5 := Fr.snoc X5 N4 g_a
  have K5 : Keep h0 h5 [a] := K3.wr W5 (Or.inl (by simp))
  have Fw5 := (Fc0.keep K3q nin0).same W5
  refine OEnds.go (g' := (mkF m 51 #[.val (.ref a), .val (.ref arr), .val (.int (0 : Int32)), .val (.int (4 : Int32)), .val .null, .val (.ref b3)] [])) st5 ?_
  refine OEnds.go (g' := (mkF m 52 #[.val (.ref a), .val (.ref arr), .val (.int (0 : Int32)), .val (.int (4 : Int32)), .val .null, .val (.ref b3)] [(.ref a)])) (fun t k => XS.aloadN X5.here hx rfl (hb hby d4_51) rfl rfl k) ?_
  refine OEnds.go (g' := (mkF m 54 #[.val (.ref a), .val (.ref arr), .val (.int (0 : Int32)), .val (.int (4 : Int32)), .val .null, .val (.ref b3)] [(.ref b3), (.ref a)])) (fun t k => XS.aload X5.here hx rfl (hb hby d4_52) rfl rfl k) ?_
  obtain ⟨T6, h6, X6, e6, W6, st6⟩ := putF X5 hx hZ hown (host := "") (Or.inl (hw _ (List.mem_of_getElem? (i := 36) rfl))) Via.refl e5 ((Fv0.keep K3q nin0).other W5 (Or.inr (slot_ne (Or.inr (hw _ (List.mem_of_getElem? (i := 37) rfl))) (Or.inr (hw _ (List.mem_of_getElem? (i := 35) rfl))) (by decide) (t := (.array .byte)) (t' := .byte) (by decide) (by decide)))) ((E0.keep K3q).wr W5) (Or.inr ⟨(hw _ (List.mem_of_getElem? (i := 37) rfl)), rfl, hnm⟩) (hw _ (List.mem_of_getElem? (i := 10) rfl)) (ty := (.array .byte)) (by decide) rfl rfl (g := (mkF m 54 #[.val (.ref a), .val (.ref arr), .val (.int (0 : Int32)), .val (.int (4 : Int32)), .val .null, .val (.ref b3)] [(.ref b3), (.ref a)])) rfl rfl (hb hby d4_54)
  have N6 := Fr.snoc X6 N5 g_a
  have K6 : Keep h0 h6 [a] := K5.wr W6 (Or.inl (by simp))
  have Fw6 := ((Fv0.keep K3q nin0).other W5 (Or.inr (slot_ne (Or.inr (hw _ (List.mem_of_getElem? (i := 37) rfl))) (Or.inr (hw _ (List.mem_of_getElem? (i := 35) rfl))) (by decide) (t := (.array .byte)) (t' := .byte) (by decide) (by decide)))).same W6
  refine OEnds.go (g' := (mkF m 57 #[.val (.ref a), .val (.ref arr), .val (.int (0 : Int32)), .val (.int (4 : Int32)), .val .null, .val (.ref b3)] [])) st6 ?_
  exact OEnds.outV X6 Bd.notSynchronized hx Bd.returns (hb hby d4_57) (by rw [e6]; exact ⟨rfl, N6, K6, (((E0.keep K3q).wr W5).wr W6), (Fw5.other W6 (Or.inr (slot_ne (Or.inr (hw _ (List.mem_of_getElem? (i := 35) rfl))) (Or.inr (hw _ (List.mem_of_getElem? (i := 37) rfl))) (by decide) (t := .byte) (t' := (.array .byte)) (by decide) (by decide)))), b3, kb3, Fw6, g_b3, sz_b3, ((V3q.other W5 (Ne.symm (Nat.ne_of_lt (Nat.lt_of_lt_of_le E0.lt s_b3)))).other W6 (Ne.symm (Nat.ne_of_lt (Nat.lt_of_lt_of_le E0.lt s_b3)))), ((X3q.wr W5).wr W6)⟩) (by decide) (by decide)
theorem ef_rmI1_4 (m : MethodId) (x0 : Addr) (x1 : Addr) : entryFrame m #[(.ref x0), (.ref x1)] 2 = mkF m 0 #[.val (.ref x0), .val (.ref x1)] [] := by first | (simp [entryFrame, mkF, argsToLocals, Value.category]; done) | rfl
def Q_rmI1_4 (Z : State) (a : Addr) (arr : Addr) (ka : ClassId) (c0 : Int32) (c1 : Int32) (c2 : Int32) (c3 : Int32) (csv : Int32) (h0 : Heap) (n0 : Nat) (v : Option Value) (h : Heap) (L : List Loc) : Prop := v = none ∧ Fr n0 L ∧ Keep h0 h [a] ∧ Exa Z h a "java/lang/String" ∧ Fld Z h a "java/lang/String" "coder" "B" (.int (0 : Int32)) ∧ ∃ (b : Addr) (kb : ClassId), Fld Z h a "java/lang/String" "value" "[B" (.ref b) ∧ n0 ≤ b ∧ h0.size ≤ b ∧ Arv Z h b kb .byte (4 : Int32) [(.int (own_by c0)), (.int (own_by c1)), (.int (own_by c2)), (.int (own_by c3))] (.int (0 : Int32)) ∧ Exa Z h b "[B"
set_option maxRecDepth 65536 in
set_option maxHeartbeats 40000000 in
theorem rmI1_4 (l : Launch) (Z : State) (a0 : Array Value) (hw : ∀ d ∈ tables_1, d.before a0 Z = true) (ws : List Jvm.Cond) (a : Addr) (arr : Addr) (ka : ClassId) (c0 : Int32) (c1 : Int32) (c2 : Int32) (c3 : Int32) (csv : Int32) (h0 : Heap) (n0 : Nat) (Z0 : n0 ≤ h0.size) (E0 : Exa Z h0 a "java/lang/String") (Fc0 : Fld Z h0 a "java/lang/String" "coder" "B" (.int (0 : Int32))) (Fv0 : Fld Z h0 a "java/lang/String" "value" "[B" .null) (g_a : n0 ≤ a) (Vc : Arv Z h0 arr ka .char (4 : Int32) [(.int c0), (.int c1), (.int c2), (.int c3)] (.int (0 : Int32))) (SC : Sta Z h0 "java/lang/String" "COMPACT_STRINGS" "Z" (.int csv)) (hcs : ¬ csv = (0 : Int32)) (hne : arr ≠ a) (hc0 : 0 ≤ c0.toInt ∧ c0.toInt ≤ 255) (hc1 : 0 ≤ c1.toInt ∧ c1.toInt ≤ 255) (hc2 : 0 ≤ c2.toInt ∧ c2.toInt ≤ 255) (hc3 : 0 ≤ c3.toInt ∧ c3.toInt ≤ 255) :
    MetFree l (⟨"java/lang/String", "<init>", "([C)V"⟩ : MethodName) (head1 (Jvm.Cond.code (⟨"java/lang/String", "<init>", "([C)V"⟩ : MethodName) jdk_42_method_3_code 2 none :: ws) ({ frames := 3, cells := 1, slots := 4, locals := 100 } : Room)) (fun aa_ U => aa_ = #[(.ref a), (.ref arr)] ∧ Z.Warmed39 U.vm ∧ U.heap = h0) (fun _ _ _ _ _ => True) (fun _ U o U' => ∃ v L, o = .returned v ∧ Q_rmI1_4 Z a arr ka c0 c1 c2 c3 csv h0 n0 v U'.heap L ∧ FrameEnd U o U' L ({ frames := 3, cells := 1, slots := 4, locals := 100 } : Room).cells ({ frames := 3, cells := 1, slots := 4, locals := 100 } : Room).slots) := by
  refine MetFree.of_bodySF (plainFor_of_name pn_1) hisR ?_
  intro p e s m args below meth c s₁ Bd hml0 hP hK
  obtain ⟨rfl, hZ, hh⟩ := hP
  have hx := Bd.exec
  have hby := Bd.bytes
  have hml : c.maxLocals = 2 := hml0
  have hown : s.vm.findClass "java/lang/String" = some m.cls := findClass_of_methodNamed Bd.named
  have hnm := (name_of_methodNamed Bd.named Bd.method).1
  have X0 : Stand p l e ({ frames := 3, cells := 1, slots := 4, locals := 100 } : Room) s m #[(.ref a), (.ref arr)] below meth c s₁ [] 0 0 := Stand.of_body Bd
  have e0 : s₁.heap = h0 := by rw [← hh, Bd.state]; rfl
  have N0 := Fr.nil n0
  show OEnds p e below (OEndP s (Q_rmI1_4 Z a arr ka c0 c1 c2 c3 csv h0 n0) ({ frames := 3, cells := 1, slots := 4, locals := 100 } : Room).cells ({ frames := 3, cells := 1, slots := 4, locals := 100 } : Room).slots) s₁ (entryFrame m #[(.ref a), (.ref arr)] 2)
  rw [ef_rmI1_4 m a arr]
  refine OEnds.go (g' := (mkF m 1 #[.val (.ref a), .val (.ref arr)] [(.ref a)])) (fun t k => XS.aloadN X0.here hx rfl (hb hby d3_0) rfl rfl k) ?_
  refine OEnds.go (g' := (mkF m 2 #[.val (.ref a), .val (.ref arr)] [(.ref arr), (.ref a)])) (fun t k => XS.aloadN X0.here hx rfl (hb hby d3_1) rfl rfl k) ?_
  refine OEnds.go (g' := (mkF m 3 #[.val (.ref a), .val (.ref arr)] [(.int (0 : Int32)), (.ref arr), (.ref a)])) (fun t k => XS.iconst X0.here hx rfl (hb hby d3_2) k) ?_
  refine OEnds.go (g' := (mkF m 4 #[.val (.ref a), .val (.ref arr)] [(.ref arr), (.int (0 : Int32)), (.ref arr), (.ref a)])) (fun t k => XS.aloadN X0.here hx rfl (hb hby d3_3) rfl rfl k) ?_
  obtain ⟨cl1, Ar1, qa1, Sa1, Na1, Ha1, Ga1⟩ := @id _ Vc
  refine OEnds.go (g' := (mkF m 5 #[.val (.ref a), .val (.ref arr)] [(.int (4 : Int32)), (.int (0 : Int32)), (.ref arr), (.ref a)])) (fun t k => X0.arraylength hx (by rw [e0]; exact Ar1.1) (State.isArrayOf_alike hZ.alike Ar1.2.1) (g := (mkF m 4 #[.val (.ref a), .val (.ref arr)] [(.ref arr), (.int (0 : Int32)), (.ref arr), (.ref a)])) rfl rfl (hb hby d3_4) t (by rw [len_of Sa1 Na1]; exact k)) ?_
  refine OEnds.go (g' := (mkF m 6 #[.val (.ref a), .val (.ref arr)] [.null, (.int (4 : Int32)), (.int (0 : Int32)), (.ref arr), (.ref a)])) (fun t k => XS.aconstNull X0.here hx rfl (hb hby d3_5) k) ?_
  obtain ⟨_, _, ⟨T2, L2, k2, n2⟩, -, X2, ⟨Lc2, hQ2, l2, y2, z2⟩, st2⟩ := X0.specialBack hx (y := (⟨"java/lang/String", "<init>", "([CIILjava/lang/Void;)V"⟩ : MethodName)) rfl hown (mvT hZ (hw _ (List.mem_of_getElem? (i := 15) rfl))) (mvT hZ (hw _ (List.mem_of_getElem? (i := 16) rfl))) (mvT hZ (hw _ (List.mem_of_getElem? (i := 18) rfl))) (by decide) (backOf (W := 0) (rmI4_4 l Z a0 hw [] a arr ka c0 c1 c2 c3 csv h0 n0 Z0 E0 Fc0 Fv0 g_a Vc SC hcs hne hc0 hc1 hc2 hc3) hZ (hw _ (List.mem_of_getElem? (i := 18) rfl)) (hw _ (List.mem_of_getElem? (i := 11) rfl)) (by decide) (by decide)) (g := (mkF m 6 #[.val (.ref a), .val (.ref arr)] [.null, (.int (4 : Int32)), (.int (0 : Int32)), (.ref arr), (.ref a)])) rfl (by rw [hml]; rfl) (Steps.refl _) (a := a) (argsL := [(.ref arr), (.int (0 : Int32)), (.int (4 : Int32)), .null]) (rest := []) (lenOf pd_3 rfl) rfl (by show 2 * 0 + _ ≤ _; exact Nat.le_of_eq rfl) (hb hby d3_6) (fun _ _ => ⟨rfl, e0, (by decide : 0 + 1 ≤ _), (by decide : 0 + 4 ≤ _)⟩)
  dsimp only [Pt.U, Pt.locs, Pt.cells, Pt.slots] at X2 l2 y2 z2 st2 hQ2
  subst l2 y2 z2
  obtain ⟨rfl, N2q, K2q, E2q, Fc2q, b2, kb2, Fv2q, g_b2, s_b2, V2q, X2q⟩ := hQ2
  have N2 := Fr.app N0 N2q
  have K2 : Keep h0 T2.heap [a] := (Keep.refl h0 [a]).trans K2q (allS (Or.inl (by simp)) all0)
  have sz_b2 : h0.size ≤ b2 := s_b2
  refine OEnds.tr (g' := (mkF m 9 #[.val (.ref a), .val (.ref arr)] [])) st2 ?_
  exact OEnds.outV X2 Bd.notSynchronized hx Bd.returns (hb hby d3_9) ⟨rfl, N2, K2, E2q, Fc2q, b2, kb2, Fv2q, g_b2, sz_b2, V2q, X2q⟩ (by decide) (by decide)
theorem own_ne0 {args : Array Value} {Z : State} {t : Term} {x : Int32} (ht : t.eval args Z none [] Z = some (.int x)) (h : (Jvm.Cond.not (.eq t (.int 0))).value args Z none Z [] = some true) : ¬ x = 0 := by
  have q := not_v h
  have e : (Jvm.Cond.eq t (.int 0)).value args Z none Z [] = some (decide (x = 0)) := by simp [Cond.value, ht, Term.int_eval]
  exact gotF e q
theorem ef_rm_coder_11_4 (m : MethodId) (x0 : Addr) : entryFrame m #[(.ref x0)] 1 = mkF m 0 #[.val (.ref x0)] [] := by first | (simp [entryFrame, mkF, argsToLocals, Value.category]; done) | rfl
def f_coder_11_4 (c0 : Int32) (c1 : Int32) (c2 : Int32) (c3 : Int32) : Int32 := (0 : Int32)
def Q_rm_coder_11_4 (Z : State) (sx : Addr) (bb : Addr) (kb : ClassId) (c0 : Int32) (c1 : Int32) (c2 : Int32) (c3 : Int32) (csv : Int32) (h0 : Heap) (n0 : Nat) (v : Option Value) (h : Heap) (L : List Loc) : Prop := v = some (.int (f_coder_11_4 c0 c1 c2 c3)) ∧ Fr n0 L ∧ h = h0
set_option maxRecDepth 65536 in
set_option maxHeartbeats 40000000 in
theorem rm_coder_11_4 (l : Launch) (Z : State) (a0 : Array Value) (hw : ∀ d ∈ tables_1, d.before a0 Z = true) (ws : List Jvm.Cond) (sx : Addr) (bb : Addr) (kb : ClassId) (c0 : Int32) (c1 : Int32) (c2 : Int32) (c3 : Int32) (csv : Int32) (h0 : Heap) (n0 : Nat) (Z0 : n0 ≤ h0.size) (E_sx : Exa Z h0 sx "java/lang/String") (Fc_sx : Fld Z h0 sx "java/lang/String" "coder" "B" (.int (0 : Int32))) (Fv_sx : Fld Z h0 sx "java/lang/String" "value" "[B" (.ref bb)) (V_sx : Arv Z h0 bb kb .byte (4 : Int32) [(.int (own_by c0)), (.int (own_by c1)), (.int (own_by c2)), (.int (own_by c3))] (.int (0 : Int32))) (X_sx : Exa Z h0 bb "[B") (SC : Sta Z h0 "java/lang/String" "COMPACT_STRINGS" "Z" (.int csv)) (hcs : ¬ csv = (0 : Int32)) :
    MetFree l (⟨"java/lang/String", "coder", "()B"⟩ : MethodName) (head1 (Jvm.Cond.code (⟨"java/lang/String", "coder", "()B"⟩ : MethodName) jdk_42_method_152_code 1 (some .byte) :: ws) ({ frames := 0, cells := 0, slots := 0, locals := 0 } : Room)) (fun aa_ U => aa_ = #[(.ref sx)] ∧ Z.Warmed39 U.vm ∧ U.heap = h0) (fun _ _ _ _ _ => True) (fun _ U o U' => ∃ v L, o = .returned v ∧ Q_rm_coder_11_4 Z sx bb kb c0 c1 c2 c3 csv h0 n0 v U'.heap L ∧ FrameEnd U o U' L ({ frames := 0, cells := 0, slots := 0, locals := 0 } : Room).cells ({ frames := 0, cells := 0, slots := 0, locals := 0 } : Room).slots) := by
  refine MetFree.of_bodySF (plainFor_of_name pn_1) hisR ?_
  intro p e s m args below meth c s₁ Bd hml0 hP hK
  obtain ⟨rfl, hZ, hh⟩ := hP
  have hx := Bd.exec
  have hby := Bd.bytes
  have hml : c.maxLocals = 1 := hml0
  have hown : s.vm.findClass "java/lang/String" = some m.cls := findClass_of_methodNamed Bd.named
  have hnm := (name_of_methodNamed Bd.named Bd.method).1
  have X0 : Stand p l e ({ frames := 0, cells := 0, slots := 0, locals := 0 } : Room) s m #[(.ref sx)] below meth c s₁ [] 0 0 := Stand.of_body Bd
  have e0 : s₁.heap = h0 := by rw [← hh, Bd.state]; rfl
  have N0 := Fr.nil n0
  show OEnds p e below (OEndP s (Q_rm_coder_11_4 Z sx bb kb c0 c1 c2 c3 csv h0 n0) ({ frames := 0, cells := 0, slots := 0, locals := 0 } : Room).cells ({ frames := 0, cells := 0, slots := 0, locals := 0 } : Room).slots) s₁ (entryFrame m #[(.ref sx)] 1)
  rw [ef_rm_coder_11_4 m sx]
  obtain ⟨T1, X1, e1, st1⟩ := getS2 X0 hx hZ hown (host := "") (Or.inl (hw _ (List.mem_of_getElem? (i := 22) rfl))) Via.refl e0 SC (g := (mkF m 0 #[.val (.ref sx)] [])) rfl (hb hby d11_0)
  refine OEnds.go (g' := (mkF m 3 #[.val (.ref sx)] [(.int csv)])) st1 ?_
  refine OEnds.go (g' := (mkF m 6 #[.val (.ref sx)] [])) (fun t k => XS.ifNo X1.here hx rfl (hb hby d11_3) rfl ((if0 _ _).trans (feq (hcs : ¬ (csv = (0 : Int32)))).1) k) ?_
  refine OEnds.go (g' := (mkF m 7 #[.val (.ref sx)] [(.ref sx)])) (fun t k => XS.aloadN X1.here hx rfl (hb hby d11_6) rfl rfl k) ?_
  obtain ⟨T2, X2, e2, st2⟩ := getF X1 hx hZ hown (host := "") (Or.inl (hw _ (List.mem_of_getElem? (i := 34) rfl))) Via.refl e1 Fc_sx (g := (mkF m 7 #[.val (.ref sx)] [(.ref sx)])) rfl rfl (hb hby d11_7)
  refine OEnds.go (g' := (mkF m 10 #[.val (.ref sx)] [(.int (0 : Int32))])) st2 ?_
  refine OEnds.go (g' := (mkF m 14 #[.val (.ref sx)] [(.int (0 : Int32))])) (fun t k => XS.goto X2.here hx rfl (pc0 := 10) (pc' := 14) rfl (hb hby d11_10) (by decide) (by decide) k) ?_
  exact OEnds.outN X2 Bd.notSynchronized hx (t := .byte) Bd.returns (by simp) (hb hby d11_14) ⟨by show (some (.int (0 : Int32)) : Option Value) = some (.int (f_coder_11_4 c0 c1 c2 c3)); rw [f_coder_11_4], N0, e2⟩ (by decide) (by decide)
theorem ef_rmE3 (m : MethodId) (x0 : Int32) (x1 : Addr) (x2 : Int32) : entryFrame m #[(.int x0), (.ref x1), (.int x2)] 10 = mkF m 0 #[.val (.int x0), .val (.ref x1), .val (.int x2), .unset, .unset, .unset, .unset, .unset, .unset, .unset] [] := by first | (simp [entryFrame, mkF, argsToLocals, Value.category]; done) | rfl
def Q_rmE3 (Z : State) (bb : Addr) (kb : ClassId) (c0 : Int32) (c1 : Int32) (c2 : Int32) (c3 : Int32) (h0 : Heap) (n0 : Nat) (v : Option Value) (h : Heap) (L : List Loc) : Prop := ∃ b : Addr, v = some (.ref b) ∧ Fr n0 L ∧ Keep h0 h [] ∧ n0 ≤ b ∧ h0.size ≤ b ∧ Arv Z h b kb .byte (4 : Int32) [(.int (own_by c0)), (.int (own_by c1)), (.int (own_by c2)), (.int (own_by c3))] (.int (0 : Int32))
set_option maxRecDepth 65536 in
set_option maxHeartbeats 40000000 in
theorem rmE3 (l : Launch) (Z : State) (a0 : Array Value) (hw : ∀ d ∈ tables_1, d.before a0 Z = true) (ws : List Jvm.Cond) (bb : Addr) (kb : ClassId) (c0 : Int32) (c1 : Int32) (c2 : Int32) (c3 : Int32) (h0 : Heap) (n0 : Nat) (Z0 : n0 ≤ h0.size) (V0 : Arv Z h0 bb kb .byte (4 : Int32) [(.int (own_by c0)), (.int (own_by c1)), (.int (own_by c2)), (.int (own_by c3))] (.int (0 : Int32))) (X0_ : Exa Z h0 bb "[B") :
    MetFree l (⟨"java/lang/String", "encode8859_1", "(B[BZ)[B"⟩ : MethodName) (head1 (Jvm.Cond.code (⟨"java/lang/String", "encode8859_1", "(B[BZ)[B"⟩ : MethodName) jdk_42_method_27_code 10 (some (.array .byte)) :: ws) ({ frames := 1, cells := 1, slots := 4, locals := 30 } : Room)) (fun aa_ U => aa_ = #[(.int (0 : Int32)), (.ref bb), (.int (1 : Int32))] ∧ Z.Warmed39 U.vm ∧ U.heap = h0) (fun _ _ _ _ _ => True) (fun _ U o U' => ∃ v L, o = .returned v ∧ Q_rmE3 Z bb kb c0 c1 c2 c3 h0 n0 v U'.heap L ∧ FrameEnd U o U' L ({ frames := 1, cells := 1, slots := 4, locals := 30 } : Room).cells ({ frames := 1, cells := 1, slots := 4, locals := 30 } : Room).slots) := by
  refine MetFree.of_bodySF (plainFor_of_name pn_1) hisR ?_
  intro p e s m args below meth c s₁ Bd hml0 hP hK
  obtain ⟨rfl, hZ, hh⟩ := hP
  have hx := Bd.exec
  have hby := Bd.bytes
  have hml : c.maxLocals = 10 := hml0
  have hown : s.vm.findClass "java/lang/String" = some m.cls := findClass_of_methodNamed Bd.named
  have hnm := (name_of_methodNamed Bd.named Bd.method).1
  have X0 : Stand p l e ({ frames := 1, cells := 1, slots := 4, locals := 30 } : Room) s m #[(.int (0 : Int32)), (.ref bb), (.int (1 : Int32))] below meth c s₁ [] 0 0 := Stand.of_body Bd
  have e0 : s₁.heap = h0 := by rw [← hh, Bd.state]; rfl
  have N0 := Fr.nil n0
  show OEnds p e below (OEndP s (Q_rmE3 Z bb kb c0 c1 c2 c3 h0 n0) ({ frames := 1, cells := 1, slots := 4, locals := 30 } : Room).cells ({ frames := 1, cells := 1, slots := 4, locals := 30 } : Room).slots) s₁ (entryFrame m #[(.int (0 : Int32)), (.ref bb), (.int (1 : Int32))] 10)
  rw [ef_rmE3 m (0 : Int32) bb (1 : Int32)]
  refine OEnds.go (g' := (mkF m 1 #[.val (.int (0 : Int32)), .val (.ref bb), .val (.int (1 : Int32)), .unset, .unset, .unset, .unset, .unset, .unset, .unset] [(.int (0 : Int32))])) (fun t k => XS.iloadN X0.here hx rfl (hb hby d14_0) rfl k) ?_
  refine OEnds.go (g' := (mkF m 4 #[.val (.int (0 : Int32)), .val (.ref bb), .val (.int (1 : Int32)), .unset, .unset, .unset, .unset, .unset, .unset, .unset] [])) (fun t k => XS.ifNo X0.here hx rfl (hb hby d14_1) rfl ((if0 _ _).trans (teq (by decide : ((0 : Int32) = (0 : Int32)))).2) k) ?_
  refine OEnds.go (g' := (mkF m 5 #[.val (.int (0 : Int32)), .val (.ref bb), .val (.int (1 : Int32)), .unset, .unset, .unset, .unset, .unset, .unset, .unset] [(.ref bb)])) (fun t k => XS.aloadN X0.here hx rfl (hb hby d14_4) rfl rfl k) ?_
  obtain ⟨T1, h1, X1, e1, E1, V_1, XA1, st1⟩ := cloneH X0 hx hZ hown (hw _ (List.mem_of_getElem? (i := 67) rfl)) (hw _ (List.mem_of_getElem? (i := 68) rfl)) (hw _ (List.mem_of_getElem? (i := 72) rfl)) (hw _ (List.mem_of_getElem? (i := 70) rfl)) (hw _ (List.mem_of_getElem? (i := 71) rfl)) (hw _ (List.mem_of_getElem? (i := 73) rfl)) e0 (Arv.arh V0) X0_ (g := (mkF m 5 #[.val (.int (0 : Int32)), .val (.ref bb), .val (.int (1 : Int32)), .unset, .unset, .unset, .unset, .unset, .unset, .unset] [(.ref bb)])) rfl (by rw [hml]; rfl) rfl (hb hby d14_5) (by decide) (W := 0) (cap := 4) (by show 2 * 0 + _ ≤ _; exact Nat.le_of_eq rfl) (by decide) (by decide) (by decide) (by decide)
  obtain ⟨b1, g1⟩ : ∃ z, z = h0.size := ⟨_, rfl⟩
  rw [← g1] at V_1 XA1 st1
  have g_b1 : n0 ≤ b1 := Nat.le_trans Z0 (Nat.le_of_eq g1.symm)
  have sz_b1 : h0.size ≤ b1 := Nat.le_trans (Keep.refl h0 []).1 (Nat.le_of_eq g1.symm)
  have K1 : Keep h0 h1 [] := (Keep.refl h0 []).ext E1
  have W_1 : Arv Z h1 b1 kb .byte (4 : Int32) [(.int (own_by c0)), (.int (own_by c1)), (.int (own_by c2)), (.int (own_by c3))] (.int (0 : Int32)) := V_1
  refine OEnds.go (g' := (mkF m 8 #[.val (.int (0 : Int32)), .val (.ref bb), .val (.int (1 : Int32)), .unset, .unset, .unset, .unset, .unset, .unset, .unset] [(.ref b1)])) st1 ?_
  obtain ⟨T2, X2, e2, st2⟩ := castY X1 hx hZ hown (hw _ (List.mem_of_getElem? (i := 74) rfl)) e1 (Ins.self XA1) (g := (mkF m 8 #[.val (.int (0 : Int32)), .val (.ref bb), .val (.int (1 : Int32)), .unset, .unset, .unset, .unset, .unset, .unset, .unset] [(.ref b1)])) rfl rfl (hb hby d14_8)
  refine OEnds.go (g' := (mkF m 11 #[.val (.int (0 : Int32)), .val (.ref bb), .val (.int (1 : Int32)), .unset, .unset, .unset, .unset, .unset, .unset, .unset] [(.ref b1)])) st2 ?_
  exact OEnds.outA X2 Bd.notSynchronized hx Bd.returns rfl rfl (hb hby d14_11) (by rw [e2]; exact ⟨b1, rfl, N0, K1, g_b1, sz_b1, W_1⟩) (by decide) (by decide)
theorem ef_rmE2 (m : MethodId) (x0 : Int32) (x1 : Addr) : entryFrame m #[(.int x0), (.ref x1)] 2 = mkF m 0 #[.val (.int x0), .val (.ref x1)] [] := by first | (simp [entryFrame, mkF, argsToLocals, Value.category]; done) | rfl
def Q_rmE2 (Z : State) (bb : Addr) (kb : ClassId) (c0 : Int32) (c1 : Int32) (c2 : Int32) (c3 : Int32) (h0 : Heap) (n0 : Nat) (v : Option Value) (h : Heap) (L : List Loc) : Prop := ∃ b : Addr, v = some (.ref b) ∧ Fr n0 L ∧ Keep h0 h [] ∧ n0 ≤ b ∧ h0.size ≤ b ∧ Arv Z h b kb .byte (4 : Int32) [(.int (own_by c0)), (.int (own_by c1)), (.int (own_by c2)), (.int (own_by c3))] (.int (0 : Int32))
set_option maxRecDepth 65536 in
set_option maxHeartbeats 40000000 in
theorem rmE2 (l : Launch) (Z : State) (a0 : Array Value) (hw : ∀ d ∈ tables_1, d.before a0 Z = true) (ws : List Jvm.Cond) (bb : Addr) (kb : ClassId) (c0 : Int32) (c1 : Int32) (c2 : Int32) (c3 : Int32) (h0 : Heap) (n0 : Nat) (Z0 : n0 ≤ h0.size) (V0 : Arv Z h0 bb kb .byte (4 : Int32) [(.int (own_by c0)), (.int (own_by c1)), (.int (own_by c2)), (.int (own_by c3))] (.int (0 : Int32))) (X0_ : Exa Z h0 bb "[B") :
    MetFree l (⟨"java/lang/String", "encode8859_1", "(B[B)[B"⟩ : MethodName) (head1 (Jvm.Cond.code (⟨"java/lang/String", "encode8859_1", "(B[B)[B"⟩ : MethodName) jdk_42_method_26_code 2 (some (.array .byte)) :: ws) ({ frames := 2, cells := 1, slots := 4, locals := 60 } : Room)) (fun aa_ U => aa_ = #[(.int (0 : Int32)), (.ref bb)] ∧ Z.Warmed39 U.vm ∧ U.heap = h0) (fun _ _ _ _ _ => True) (fun _ U o U' => ∃ v L, o = .returned v ∧ Q_rmE2 Z bb kb c0 c1 c2 c3 h0 n0 v U'.heap L ∧ FrameEnd U o U' L ({ frames := 2, cells := 1, slots := 4, locals := 60 } : Room).cells ({ frames := 2, cells := 1, slots := 4, locals := 60 } : Room).slots) := by
  refine MetFree.of_bodySF (plainFor_of_name pn_1) hisR ?_
  intro p e s m args below meth c s₁ Bd hml0 hP hK
  obtain ⟨rfl, hZ, hh⟩ := hP
  have hx := Bd.exec
  have hby := Bd.bytes
  have hml : c.maxLocals = 2 := hml0
  have hown : s.vm.findClass "java/lang/String" = some m.cls := findClass_of_methodNamed Bd.named
  have hnm := (name_of_methodNamed Bd.named Bd.method).1
  have X0 : Stand p l e ({ frames := 2, cells := 1, slots := 4, locals := 60 } : Room) s m #[(.int (0 : Int32)), (.ref bb)] below meth c s₁ [] 0 0 := Stand.of_body Bd
  have e0 : s₁.heap = h0 := by rw [← hh, Bd.state]; rfl
  have N0 := Fr.nil n0
  show OEnds p e below (OEndP s (Q_rmE2 Z bb kb c0 c1 c2 c3 h0 n0) ({ frames := 2, cells := 1, slots := 4, locals := 60 } : Room).cells ({ frames := 2, cells := 1, slots := 4, locals := 60 } : Room).slots) s₁ (entryFrame m #[(.int (0 : Int32)), (.ref bb)] 2)
  rw [ef_rmE2 m (0 : Int32) bb]
  refine OEnds.go (g' := (mkF m 1 #[.val (.int (0 : Int32)), .val (.ref bb)] [(.int (0 : Int32))])) (fun t k => XS.iloadN X0.here hx rfl (hb hby d13_0) rfl k) ?_
  refine OEnds.go (g' := (mkF m 2 #[.val (.int (0 : Int32)), .val (.ref bb)] [(.ref bb), (.int (0 : Int32))])) (fun t k => XS.aloadN X0.here hx rfl (hb hby d13_1) rfl rfl k) ?_
  refine OEnds.go (g' := (mkF m 3 #[.val (.int (0 : Int32)), .val (.ref bb)] [(.int (1 : Int32)), (.ref bb), (.int (0 : Int32))])) (fun t k => XS.iconst X0.here hx rfl (hb hby d13_2) k) ?_
  obtain ⟨_, _, ⟨T1, L1, k1, n1⟩, -, X1, ⟨Lc1, hQ1, l1, y1, z1⟩, st1⟩ := Jvm.LawKit.callS X0 hx (y := (⟨"java/lang/String", "encode8859_1", "(B[BZ)[B"⟩ : MethodName)) hown (mvT hZ (hw _ (List.mem_of_getElem? (i := 64) rfl))) (mvT hZ (hw _ (List.mem_of_getElem? (i := 65) rfl))) (mvT hZ (hw _ (List.mem_of_getElem? (i := 11) rfl))) (mvT hZ (hw _ (List.mem_of_getElem? (i := 66) rfl))) (by decide) (backOf (W := 0) (rmE3 l Z a0 hw [] bb kb c0 c1 c2 c3 h0 n0 Z0 V0 X0_) hZ (hw _ (List.mem_of_getElem? (i := 66) rfl)) (hw _ (List.mem_of_getElem? (i := 11) rfl)) (by decide) (by decide)) (g := (mkF m 3 #[.val (.int (0 : Int32)), .val (.ref bb)] [(.int (1 : Int32)), (.ref bb), (.int (0 : Int32))])) rfl (by rw [hml]; rfl) (argsL := [(.int (0 : Int32)), (.ref bb), (.int (1 : Int32))]) (rest := []) (lenOf pd_4 rfl) rfl (by show 2 * 0 + _ ≤ _; exact Nat.le_of_eq rfl) (hb hby d13_3) (fun _ _ => ⟨rfl, e0, (by decide : 0 + 1 ≤ _), (by decide : 0 + 4 ≤ _)⟩)
  dsimp only [Pt.U, Pt.locs, Pt.cells, Pt.slots] at X1 l1 y1 z1 st1 hQ1
  subst l1 y1 z1
  obtain ⟨b1, rfl, N1q, K1q, g_b1, s_b1, V1q⟩ := hQ1
  have N1 := Fr.app N0 N1q
  have K1 : Keep h0 T1.heap [] := (Keep.refl h0 []).trans K1q all0
  have sz_b1 : h0.size ≤ b1 := Nat.le_trans (Keep.refl h0 []).1 s_b1
  refine OEnds.go (g' := (mkF m 6 #[.val (.int (0 : Int32)), .val (.ref bb)] [(.ref b1)])) st1 ?_
  exact OEnds.outA X1 Bd.notSynchronized hx Bd.returns rfl rfl (hb hby d13_6) ⟨b1, rfl, N1, K1, g_b1, sz_b1, V1q⟩ (by decide) (by decide)
theorem ef_rmEn (m : MethodId) (x0 : Addr) (x1 : Int32) (x2 : Addr) : entryFrame m #[(.ref x0), (.int x1), (.ref x2)] 3 = mkF m 0 #[.val (.ref x0), .val (.int x1), .val (.ref x2)] [] := by first | (simp [entryFrame, mkF, argsToLocals, Value.category]; done) | rfl
def Q_rmEn (Z : State) (ch : Addr) (bb : Addr) (kb : ClassId) (c0 : Int32) (c1 : Int32) (c2 : Int32) (c3 : Int32) (uu : Addr) (h0 : Heap) (n0 : Nat) (v : Option Value) (h : Heap) (L : List Loc) : Prop := ∃ b : Addr, v = some (.ref b) ∧ Fr n0 L ∧ Keep h0 h [] ∧ n0 ≤ b ∧ h0.size ≤ b ∧ Arv Z h b kb .byte (4 : Int32) [(.int (own_by c0)), (.int (own_by c1)), (.int (own_by c2)), (.int (own_by c3))] (.int (0 : Int32))
set_option maxRecDepth 65536 in
set_option maxHeartbeats 40000000 in
theorem rmEn (l : Launch) (Z : State) (a0 : Array Value) (hw : ∀ d ∈ tables_1, d.before a0 Z = true) (ws : List Jvm.Cond) (ch : Addr) (bb : Addr) (kb : ClassId) (c0 : Int32) (c1 : Int32) (c2 : Int32) (c3 : Int32) (uu : Addr) (h0 : Heap) (n0 : Nat) (Z0 : n0 ≤ h0.size) (V0 : Arv Z h0 bb kb .byte (4 : Int32) [(.int (own_by c0)), (.int (own_by c1)), (.int (own_by c2)), (.int (own_by c3))] (.int (0 : Int32))) (X0_ : Exa Z h0 bb "[B") (SU : Sta Z h0 "sun/nio/cs/UTF_8" "INSTANCE" "Lsun/nio/cs/UTF_8;" (.ref uu)) (SI : Sta Z h0 "sun/nio/cs/ISO_8859_1" "INSTANCE" "Lsun/nio/cs/ISO_8859_1;" (.ref ch)) (hu : ch ≠ uu) :
    MetFree l (⟨"java/lang/String", "encode", "(Ljava/nio/charset/Charset;B[B)[B"⟩ : MethodName) (head1 (Jvm.Cond.code (⟨"java/lang/String", "encode", "(Ljava/nio/charset/Charset;B[B)[B"⟩ : MethodName) jdk_42_method_18_code 3 (some (.array .byte)) :: ws) ({ frames := 3, cells := 1, slots := 4, locals := 90 } : Room)) (fun aa_ U => aa_ = #[(.ref ch), (.int (0 : Int32)), (.ref bb)] ∧ Z.Warmed39 U.vm ∧ U.heap = h0) (fun _ _ _ _ _ => True) (fun _ U o U' => ∃ v L, o = .returned v ∧ Q_rmEn Z ch bb kb c0 c1 c2 c3 uu h0 n0 v U'.heap L ∧ FrameEnd U o U' L ({ frames := 3, cells := 1, slots := 4, locals := 90 } : Room).cells ({ frames := 3, cells := 1, slots := 4, locals := 90 } : Room).slots) := by
  refine MetFree.of_bodySF (plainFor_of_name pn_1) hisR ?_
  intro p e s m args below meth c s₁ Bd hml0 hP hK
  obtain ⟨rfl, hZ, hh⟩ := hP
  have hx := Bd.exec
  have hby := Bd.bytes
  have hml : c.maxLocals = 3 := hml0
  have hown : s.vm.findClass "java/lang/String" = some m.cls := findClass_of_methodNamed Bd.named
  have hnm := (name_of_methodNamed Bd.named Bd.method).1
  have X0 : Stand p l e ({ frames := 3, cells := 1, slots := 4, locals := 90 } : Room) s m #[(.ref ch), (.int (0 : Int32)), (.ref bb)] below meth c s₁ [] 0 0 := Stand.of_body Bd
  have e0 : s₁.heap = h0 := by rw [← hh, Bd.state]; rfl
  have N0 := Fr.nil n0
  show OEnds p e below (OEndP s (Q_rmEn Z ch bb kb c0 c1 c2 c3 uu h0 n0) ({ frames := 3, cells := 1, slots := 4, locals := 90 } : Room).cells ({ frames := 3, cells := 1, slots := 4, locals := 90 } : Room).slots) s₁ (entryFrame m #[(.ref ch), (.int (0 : Int32)), (.ref bb)] 3)
  rw [ef_rmEn m ch (0 : Int32) bb]
  refine OEnds.go (g' := (mkF m 1 #[.val (.ref ch), .val (.int (0 : Int32)), .val (.ref bb)] [(.ref ch)])) (fun t k => XS.aloadN X0.here hx rfl (hb hby d12_0) rfl rfl k) ?_
  obtain ⟨T1, X1, e1, st1⟩ := getS2 X0 hx hZ hown (host := "") (Or.inl (hw _ (List.mem_of_getElem? (i := 57) rfl))) Via.refl e0 SU (g := (mkF m 1 #[.val (.ref ch), .val (.int (0 : Int32)), .val (.ref bb)] [(.ref ch)])) rfl (hb hby d12_1)
  refine OEnds.go (g' := (mkF m 4 #[.val (.ref ch), .val (.int (0 : Int32)), .val (.ref bb)] [(.ref uu), (.ref ch)])) st1 ?_
  refine OEnds.go (g' := (mkF m 14 #[.val (.ref ch), .val (.int (0 : Int32)), .val (.ref bb)] [])) (fun t k => Jvm.RoadKit.acmp (g := (mkF m 4 #[.val (.ref ch), .val (.int (0 : Int32)), .val (.ref bb)] [(.ref uu), (.ref ch)])) X1 hx rfl rfl rfl (pc0 := 4) (pc' := 14) (same := false) rfl (hb hby d12_4) rfl (decide_eq_false (fun q => hu (Value.ref.inj q))) (by decide) (by decide) k) ?_
  refine OEnds.go (g' := (mkF m 15 #[.val (.ref ch), .val (.int (0 : Int32)), .val (.ref bb)] [(.ref ch)])) (fun t k => XS.aloadN X1.here hx rfl (hb hby d12_14) rfl rfl k) ?_
  obtain ⟨T2, X2, e2, st2⟩ := getS2 X1 hx hZ hown (host := "") (Or.inl (hw _ (List.mem_of_getElem? (i := 59) rfl))) Via.refl e1 SI (g := (mkF m 15 #[.val (.ref ch), .val (.int (0 : Int32)), .val (.ref bb)] [(.ref ch)])) rfl (hb hby d12_15)
  refine OEnds.go (g' := (mkF m 18 #[.val (.ref ch), .val (.int (0 : Int32)), .val (.ref bb)] [(.ref ch), (.ref ch)])) st2 ?_
  refine OEnds.go (g' := (mkF m 21 #[.val (.ref ch), .val (.int (0 : Int32)), .val (.ref bb)] [])) (fun t k => Jvm.RoadKit.acmp (g := (mkF m 18 #[.val (.ref ch), .val (.int (0 : Int32)), .val (.ref bb)] [(.ref ch), (.ref ch)])) X2 hx rfl rfl rfl (pc0 := 18) (pc' := 21) (same := true) rfl (hb hby d12_18) rfl (decide_eq_true rfl) (by decide) (by decide) k) ?_
  refine OEnds.go (g' := (mkF m 22 #[.val (.ref ch), .val (.int (0 : Int32)), .val (.ref bb)] [(.int (0 : Int32))])) (fun t k => XS.iloadN X2.here hx rfl (hb hby d12_21) rfl k) ?_
  refine OEnds.go (g' := (mkF m 23 #[.val (.ref ch), .val (.int (0 : Int32)), .val (.ref bb)] [(.ref bb), (.int (0 : Int32))])) (fun t k => XS.aloadN X2.here hx rfl (hb hby d12_22) rfl rfl k) ?_
  obtain ⟨_, _, ⟨T3, L3, k3, n3⟩, -, X3, ⟨Lc3, hQ3, l3, y3, z3⟩, st3⟩ := Jvm.LawKit.callS X2 hx (y := (⟨"java/lang/String", "encode8859_1", "(B[B)[B"⟩ : MethodName)) hown (mvT hZ (hw _ (List.mem_of_getElem? (i := 61) rfl))) (mvT hZ (hw _ (List.mem_of_getElem? (i := 62) rfl))) (mvT hZ (hw _ (List.mem_of_getElem? (i := 11) rfl))) (mvT hZ (hw _ (List.mem_of_getElem? (i := 63) rfl))) (by decide) (backOf (W := 0) (rmE2 l Z a0 hw [] bb kb c0 c1 c2 c3 h0 n0 Z0 V0 X0_) hZ (hw _ (List.mem_of_getElem? (i := 63) rfl)) (hw _ (List.mem_of_getElem? (i := 11) rfl)) (by decide) (by decide)) (g := (mkF m 23 #[.val (.ref ch), .val (.int (0 : Int32)), .val (.ref bb)] [(.ref bb), (.int (0 : Int32))])) rfl (by rw [hml]; rfl) (argsL := [(.int (0 : Int32)), (.ref bb)]) (rest := []) (lenOf pd_5 rfl) rfl (by show 2 * 0 + _ ≤ _; exact Nat.le_of_eq rfl) (hb hby d12_23) (fun _ _ => ⟨rfl, e2, (by decide : 0 + 1 ≤ _), (by decide : 0 + 4 ≤ _)⟩)
  dsimp only [Pt.U, Pt.locs, Pt.cells, Pt.slots] at X3 l3 y3 z3 st3 hQ3
  subst l3 y3 z3
  obtain ⟨b3, rfl, N3q, K3q, g_b3, s_b3, V3q⟩ := hQ3
  have N3 := Fr.app N0 N3q
  have K3 : Keep h0 T3.heap [] := (Keep.refl h0 []).trans K3q all0
  have sz_b3 : h0.size ≤ b3 := Nat.le_trans (Keep.refl h0 []).1 s_b3
  refine OEnds.go (g' := (mkF m 26 #[.val (.ref ch), .val (.int (0 : Int32)), .val (.ref bb)] [(.ref b3)])) st3 ?_
  exact OEnds.outA X3 Bd.notSynchronized hx Bd.returns rfl rfl (hb hby d12_26) ⟨b3, rfl, N3, K3, g_b3, sz_b3, V3q⟩ (by decide) (by decide)
theorem ef_rmGB (m : MethodId) (x0 : Addr) (x1 : Addr) : entryFrame m #[(.ref x0), (.ref x1)] 2 = mkF m 0 #[.val (.ref x0), .val (.ref x1)] [] := by first | (simp [entryFrame, mkF, argsToLocals, Value.category]; done) | rfl
def Q_rmGB (Z : State) (sx : Addr) (ch : Addr) (bb : Addr) (kb : ClassId) (c0 : Int32) (c1 : Int32) (c2 : Int32) (c3 : Int32) (csv : Int32) (uu : Addr) (h0 : Heap) (n0 : Nat) (v : Option Value) (h : Heap) (L : List Loc) : Prop := ∃ b : Addr, v = some (.ref b) ∧ Fr n0 L ∧ Keep h0 h [] ∧ n0 ≤ b ∧ h0.size ≤ b ∧ Arv Z h b kb .byte (4 : Int32) [(.int (own_by c0)), (.int (own_by c1)), (.int (own_by c2)), (.int (own_by c3))] (.int (0 : Int32))
set_option maxRecDepth 65536 in
set_option maxHeartbeats 40000000 in
theorem rmGB (l : Launch) (Z : State) (a0 : Array Value) (hw : ∀ d ∈ tables_1, d.before a0 Z = true) (ws : List Jvm.Cond) (sx : Addr) (ch : Addr) (bb : Addr) (kb : ClassId) (c0 : Int32) (c1 : Int32) (c2 : Int32) (c3 : Int32) (csv : Int32) (uu : Addr) (h0 : Heap) (n0 : Nat) (Z0 : n0 ≤ h0.size) (E_sx : Exa Z h0 sx "java/lang/String") (Fc_sx : Fld Z h0 sx "java/lang/String" "coder" "B" (.int (0 : Int32))) (Fv_sx : Fld Z h0 sx "java/lang/String" "value" "[B" (.ref bb)) (V_sx : Arv Z h0 bb kb .byte (4 : Int32) [(.int (own_by c0)), (.int (own_by c1)), (.int (own_by c2)), (.int (own_by c3))] (.int (0 : Int32))) (X_sx : Exa Z h0 bb "[B") (SC : Sta Z h0 "java/lang/String" "COMPACT_STRINGS" "Z" (.int csv)) (hcs : ¬ csv = (0 : Int32)) (SU : Sta Z h0 "sun/nio/cs/UTF_8" "INSTANCE" "Lsun/nio/cs/UTF_8;" (.ref uu)) (SI : Sta Z h0 "sun/nio/cs/ISO_8859_1" "INSTANCE" "Lsun/nio/cs/ISO_8859_1;" (.ref ch)) (hu : ch ≠ uu) :
    MetFree l (⟨"java/lang/String", "getBytes", "(Ljava/nio/charset/Charset;)[B"⟩ : MethodName) (head1 (Jvm.Cond.code (⟨"java/lang/String", "getBytes", "(Ljava/nio/charset/Charset;)[B"⟩ : MethodName) jdk_42_method_64_code 2 (some (.array .byte)) :: ws) ({ frames := 4, cells := 1, slots := 4, locals := 120 } : Room)) (fun aa_ U => aa_ = #[(.ref sx), (.ref ch)] ∧ Z.Warmed39 U.vm ∧ U.heap = h0) (fun _ _ _ _ _ => True) (fun _ U o U' => ∃ v L, o = .returned v ∧ Q_rmGB Z sx ch bb kb c0 c1 c2 c3 csv uu h0 n0 v U'.heap L ∧ FrameEnd U o U' L ({ frames := 4, cells := 1, slots := 4, locals := 120 } : Room).cells ({ frames := 4, cells := 1, slots := 4, locals := 120 } : Room).slots) := by
  refine MetFree.of_bodySF (plainFor_of_name pn_1) hisR ?_
  intro p e s m args below meth c s₁ Bd hml0 hP hK
  obtain ⟨rfl, hZ, hh⟩ := hP
  have hx := Bd.exec
  have hby := Bd.bytes
  have hml : c.maxLocals = 2 := hml0
  have hown : s.vm.findClass "java/lang/String" = some m.cls := findClass_of_methodNamed Bd.named
  have hnm := (name_of_methodNamed Bd.named Bd.method).1
  have X0 : Stand p l e ({ frames := 4, cells := 1, slots := 4, locals := 120 } : Room) s m #[(.ref sx), (.ref ch)] below meth c s₁ [] 0 0 := Stand.of_body Bd
  have e0 : s₁.heap = h0 := by rw [← hh, Bd.state]; rfl
  have N0 := Fr.nil n0
  show OEnds p e below (OEndP s (Q_rmGB Z sx ch bb kb c0 c1 c2 c3 csv uu h0 n0) ({ frames := 4, cells := 1, slots := 4, locals := 120 } : Room).cells ({ frames := 4, cells := 1, slots := 4, locals := 120 } : Room).slots) s₁ (entryFrame m #[(.ref sx), (.ref ch)] 2)
  rw [ef_rmGB m sx ch]
  refine OEnds.go (g' := (mkF m 1 #[.val (.ref sx), .val (.ref ch)] [(.ref ch)])) (fun t k => XS.aloadN X0.here hx rfl (hb hby d10_0) rfl rfl k) ?_
  refine OEnds.go (g' := (mkF m 12 #[.val (.ref sx), .val (.ref ch)] [])) (fun t k => XS.ifnonnullYes X0.here hx rfl (pc0 := 1) (pc' := 12) rfl (hb hby d10_1) rfl (by decide) (by decide) k) ?_
  refine OEnds.go (g' := (mkF m 13 #[.val (.ref sx), .val (.ref ch)] [(.ref ch)])) (fun t k => XS.aloadN X0.here hx rfl (hb hby d10_12) rfl rfl k) ?_
  refine OEnds.go (g' := (mkF m 14 #[.val (.ref sx), .val (.ref ch)] [(.ref sx), (.ref ch)])) (fun t k => XS.aloadN X0.here hx rfl (hb hby d10_13) rfl rfl k) ?_
  obtain ⟨cq1, kq1, q1a, q1b, q1c⟩ := isOf hZ e0 E_sx
  obtain ⟨_, _, ⟨T1, L1, k1, n1⟩, -, X1, ⟨Lc1, hQ1, l1, y1, z1⟩, st1⟩ := X0.virtualBack hx (y := (⟨"java/lang/String", "coder", "()B"⟩ : MethodName)) (z := (⟨"java/lang/String", "coder", "()B"⟩ : MethodName)) hown (mvT hZ (hw _ (List.mem_of_getElem? (i := 49) rfl))) (mvT hZ (hw _ (List.mem_of_getElem? (i := 50) rfl))) (notFace_of_selects (args := #[]) (mvT hZ (hw _ (List.mem_of_getElem? (i := 52) rfl)))) (mvT hZ (hw _ (List.mem_of_getElem? (i := 52) rfl))) (mvT hZ (hw _ (List.mem_of_getElem? (i := 51) rfl))) (by decide) (backOf (W := 1) (rm_coder_11_4 l Z a0 hw [] sx  bb kb c0 c1 c2 c3 csv h0 n0 Z0 E_sx Fc_sx Fv_sx V_sx X_sx SC hcs) hZ (hw _ (List.mem_of_getElem? (i := 53) rfl)) (hw _ (List.mem_of_getElem? (i := 11) rfl)) (by decide) (by decide)) q1a q1c (g := (mkF m 14 #[.val (.ref sx), .val (.ref ch)] [(.ref sx), (.ref ch)])) rfl (by rw [hml]; rfl) (Steps.refl _) (argsL := []) (rest := [(.ref ch)]) (lenOf pd_6 rfl) rfl (by show 2 * 0 + _ ≤ _; exact Nat.le_of_eq rfl) (hb hby d10_14) (fun _ _ => ⟨rfl, e0, (by decide : 0 + 0 ≤ _), (by decide : 0 + 0 ≤ _)⟩)
  dsimp only [Pt.U, Pt.locs, Pt.cells, Pt.slots] at X1 l1 y1 z1 st1 hQ1
  subst l1 y1 z1
  obtain ⟨rfl, N1q, e1⟩ := hQ1
  have N1 := Fr.app N0 N1q
  refine OEnds.tr (g' := (mkF m 17 #[.val (.ref sx), .val (.ref ch)] [(.int (0 : Int32)), (.ref ch)])) st1 ?_
  refine OEnds.go (g' := (mkF m 18 #[.val (.ref sx), .val (.ref ch)] [(.ref sx), (.int (0 : Int32)), (.ref ch)])) (fun t k => XS.aloadN X1.here hx rfl (hb hby d10_17) rfl rfl k) ?_
  obtain ⟨T2, X2, e2, st2⟩ := getF X1 hx hZ hown (host := "") (Or.inl (hw _ (List.mem_of_getElem? (i := 36) rfl))) Via.refl e1 Fv_sx (g := (mkF m 18 #[.val (.ref sx), .val (.ref ch)] [(.ref sx), (.int (0 : Int32)), (.ref ch)])) rfl rfl (hb hby d10_18)
  refine OEnds.go (g' := (mkF m 21 #[.val (.ref sx), .val (.ref ch)] [(.ref bb), (.int (0 : Int32)), (.ref ch)])) st2 ?_
  obtain ⟨_, _, ⟨T3, L3, k3, n3⟩, -, X3, ⟨Lc3, hQ3, l3, y3, z3⟩, st3⟩ := Jvm.LawKit.callS X2 hx (y := (⟨"java/lang/String", "encode", "(Ljava/nio/charset/Charset;B[B)[B"⟩ : MethodName)) hown (mvT hZ (hw _ (List.mem_of_getElem? (i := 54) rfl))) (mvT hZ (hw _ (List.mem_of_getElem? (i := 55) rfl))) (mvT hZ (hw _ (List.mem_of_getElem? (i := 11) rfl))) (mvT hZ (hw _ (List.mem_of_getElem? (i := 56) rfl))) (by decide) (backOf (W := 0) (rmEn l Z a0 hw [] ch bb kb c0 c1 c2 c3 uu h0 n0 Z0 V_sx X_sx SU SI hu) hZ (hw _ (List.mem_of_getElem? (i := 56) rfl)) (hw _ (List.mem_of_getElem? (i := 11) rfl)) (by decide) (by decide)) (g := (mkF m 21 #[.val (.ref sx), .val (.ref ch)] [(.ref bb), (.int (0 : Int32)), (.ref ch)])) rfl (by rw [hml]; rfl) (argsL := [(.ref ch), (.int (0 : Int32)), (.ref bb)]) (rest := []) (lenOf pd_7 rfl) rfl (by show 2 * 0 + _ ≤ _; exact Nat.le_of_eq rfl) (hb hby d10_21) (fun _ _ => ⟨rfl, e2, (by decide : 0 + 1 ≤ _), (by decide : 0 + 4 ≤ _)⟩)
  dsimp only [Pt.U, Pt.locs, Pt.cells, Pt.slots] at X3 l3 y3 z3 st3 hQ3
  subst l3 y3 z3
  obtain ⟨b3, rfl, N3q, K3q, g_b3, s_b3, V3q⟩ := hQ3
  have N3 := Fr.app N1 N3q
  have K3 : Keep h0 T3.heap [] := (Keep.refl h0 []).trans K3q all0
  have sz_b3 : h0.size ≤ b3 := Nat.le_trans (Keep.refl h0 []).1 s_b3
  refine OEnds.go (g' := (mkF m 24 #[.val (.ref sx), .val (.ref ch)] [(.ref b3)])) st3 ?_
  exact OEnds.outA X3 Bd.notSynchronized hx Bd.returns rfl rfl (hb hby d10_24) ⟨b3, rfl, N3, K3, g_b3, sz_b3, V3q⟩ (by decide) (by decide)
theorem ef_rm16 (m : MethodId) (x0 : Int32) : entryFrame m #[(.int x0)] 1 = mkF m 0 #[.val (.int x0)] [] := by first | (simp [entryFrame, mkF, argsToLocals, Value.category]; done) | rfl
def f16 (p0 : Int32) : Int32 := if p0 < (48 : Int32) then if p0 < (97 : Int32) then if p0 < (65 : Int32) then (-1 : Int32) else if (70 : Int32) < p0 then (-1 : Int32) else ((p0 - (65 : Int32)) + (10 : Int32)) else if (102 : Int32) < p0 then if p0 < (65 : Int32) then (-1 : Int32) else if (70 : Int32) < p0 then (-1 : Int32) else ((p0 - (65 : Int32)) + (10 : Int32)) else ((p0 - (97 : Int32)) + (10 : Int32)) else if (57 : Int32) < p0 then if p0 < (97 : Int32) then if p0 < (65 : Int32) then (-1 : Int32) else if (70 : Int32) < p0 then (-1 : Int32) else ((p0 - (65 : Int32)) + (10 : Int32)) else if (102 : Int32) < p0 then if p0 < (65 : Int32) then (-1 : Int32) else if (70 : Int32) < p0 then (-1 : Int32) else ((p0 - (65 : Int32)) + (10 : Int32)) else ((p0 - (97 : Int32)) + (10 : Int32)) else (p0 - (48 : Int32))
def Q_rm16 (Z : State) (p0 : Int32) (h0 : Heap) (n0 : Nat) (v : Option Value) (h : Heap) (L : List Loc) : Prop := v = some (.int (f16 p0)) ∧ Fr n0 L ∧ h = h0
set_option maxRecDepth 65536 in
set_option maxHeartbeats 40000000 in
theorem rm16 (l : Launch) (Z : State) (a0 : Array Value) (hw : ∀ d ∈ tables_1, d.before a0 Z = true) (ws : List Jvm.Cond) (p0 : Int32) (h0 : Heap) (n0 : Nat) (Z0 : n0 ≤ h0.size) :
    MetFree l (⟨"cardtalk/message/Hex", "digit", "(C)I"⟩ : MethodName) (head1 (Jvm.Cond.code (⟨"cardtalk/message/Hex", "digit", "(C)I"⟩ : MethodName) prog_50_method_6_code 1 (some .int) :: ws) ({ frames := 0, cells := 0, slots := 0, locals := 0 } : Room)) (fun aa_ U => aa_ = #[(.int p0)] ∧ Z.Warmed39 U.vm ∧ U.heap = h0) (fun _ _ _ _ _ => True) (fun _ U o U' => ∃ v L, o = .returned v ∧ Q_rm16 Z p0 h0 n0 v U'.heap L ∧ FrameEnd U o U' L ({ frames := 0, cells := 0, slots := 0, locals := 0 } : Room).cells ({ frames := 0, cells := 0, slots := 0, locals := 0 } : Room).slots) := by
  refine MetFree.of_bodySF (plainFor_of_name pn_2) hisR ?_
  intro p e s m args below meth c s₁ Bd hml0 hP hK
  obtain ⟨rfl, hZ, hh⟩ := hP
  have hx := Bd.exec
  have hby := Bd.bytes
  have hml : c.maxLocals = 1 := hml0
  have hown : s.vm.findClass "cardtalk/message/Hex" = some m.cls := findClass_of_methodNamed Bd.named
  have hnm := (name_of_methodNamed Bd.named Bd.method).1
  have X0 : Stand p l e ({ frames := 0, cells := 0, slots := 0, locals := 0 } : Room) s m #[(.int p0)] below meth c s₁ [] 0 0 := Stand.of_body Bd
  have e0 : s₁.heap = h0 := by rw [← hh, Bd.state]; rfl
  have N0 := Fr.nil n0
  show OEnds p e below (OEndP s (Q_rm16 Z p0 h0 n0) ({ frames := 0, cells := 0, slots := 0, locals := 0 } : Room).cells ({ frames := 0, cells := 0, slots := 0, locals := 0 } : Room).slots) s₁ (entryFrame m #[(.int p0)] 1)
  rw [ef_rm16 m p0]
  refine OEnds.go (g' := (mkF m 1 #[.val (.int p0)] [(.int p0)])) (fun t k => XS.iloadN X0.here hx rfl (hb hby d16_0) rfl k) ?_
  refine OEnds.go (g' := (mkF m 3 #[.val (.int p0)] [(.int (48 : Int32)), (.int p0)])) (fun t k => XS.bipush X0.here hx rfl (hb hby d16_1) k) ?_
  by_cases c3_1 : p0 < (48 : Int32)
  · -- yes
    refine OEnds.go (g' := (mkF m 17 #[.val (.int p0)] [])) (fun t k => XS.icmpYes X0.here hx rfl (pc0 := 3) (pc' := 17) rfl (hb hby d16_3) rfl (tlt c3_1).1 (by decide) (by decide) k) ?_
    refine OEnds.go (g' := (mkF m 18 #[.val (.int p0)] [(.int p0)])) (fun t k => XS.iloadN X0.here hx rfl (hb hby d16_17) rfl k) ?_
    refine OEnds.go (g' := (mkF m 20 #[.val (.int p0)] [(.int (97 : Int32)), (.int p0)])) (fun t k => XS.bipush X0.here hx rfl (hb hby d16_18) k) ?_
    by_cases c20_2 : p0 < (97 : Int32)
    · -- yes
      refine OEnds.go (g' := (mkF m 37 #[.val (.int p0)] [])) (fun t k => XS.icmpYes X0.here hx rfl (pc0 := 20) (pc' := 37) rfl (hb hby d16_20) rfl (tlt c20_2).1 (by decide) (by decide) k) ?_
      refine OEnds.go (g' := (mkF m 38 #[.val (.int p0)] [(.int p0)])) (fun t k => XS.iloadN X0.here hx rfl (hb hby d16_37) rfl k) ?_
      refine OEnds.go (g' := (mkF m 40 #[.val (.int p0)] [(.int (65 : Int32)), (.int p0)])) (fun t k => XS.bipush X0.here hx rfl (hb hby d16_38) k) ?_
      by_cases c40_3 : p0 < (65 : Int32)
      · -- yes
        refine OEnds.go (g' := (mkF m 57 #[.val (.int p0)] [])) (fun t k => XS.icmpYes X0.here hx rfl (pc0 := 40) (pc' := 57) rfl (hb hby d16_40) rfl (tlt c40_3).1 (by decide) (by decide) k) ?_
        refine OEnds.go (g' := (mkF m 58 #[.val (.int p0)] [(.int (-1 : Int32))])) (fun t k => XS.iconst X0.here hx rfl (hb hby d16_57) k) ?_
        exact OEnds.outI X0 Bd.notSynchronized hx Bd.returns (hb hby d16_58) ⟨by show (some (.int (-1 : Int32)) : Option Value) = some (.int (f16 p0)); rw [f16, if_pos c3_1, if_pos c20_2, if_pos c40_3], N0, e0⟩ (by decide) (by decide)
      · -- no
        refine OEnds.go (g' := (mkF m 43 #[.val (.int p0)] [])) (fun t k => XS.icmpNo X0.here hx rfl (hb hby d16_40) rfl (flt c40_3).1 k) ?_
        refine OEnds.go (g' := (mkF m 44 #[.val (.int p0)] [(.int p0)])) (fun t k => XS.iloadN X0.here hx rfl (hb hby d16_43) rfl k) ?_
        refine OEnds.go (g' := (mkF m 46 #[.val (.int p0)] [(.int (70 : Int32)), (.int p0)])) (fun t k => XS.bipush X0.here hx rfl (hb hby d16_44) k) ?_
        by_cases c46_4 : (70 : Int32) < p0
        · -- yes
          refine OEnds.go (g' := (mkF m 57 #[.val (.int p0)] [])) (fun t k => XS.icmpYes X0.here hx rfl (pc0 := 46) (pc' := 57) rfl (hb hby d16_46) rfl (tlt c46_4).2.2.1 (by decide) (by decide) k) ?_
          refine OEnds.go (g' := (mkF m 58 #[.val (.int p0)] [(.int (-1 : Int32))])) (fun t k => XS.iconst X0.here hx rfl (hb hby d16_57) k) ?_
          exact OEnds.outI X0 Bd.notSynchronized hx Bd.returns (hb hby d16_58) ⟨by show (some (.int (-1 : Int32)) : Option Value) = some (.int (f16 p0)); rw [f16, if_pos c3_1, if_pos c20_2, if_neg c40_3, if_pos c46_4], N0, e0⟩ (by decide) (by decide)
        · -- no
          refine OEnds.go (g' := (mkF m 49 #[.val (.int p0)] [])) (fun t k => XS.icmpNo X0.here hx rfl (hb hby d16_46) rfl (flt c46_4).2.2.1 k) ?_
          refine OEnds.go (g' := (mkF m 50 #[.val (.int p0)] [(.int p0)])) (fun t k => XS.iloadN X0.here hx rfl (hb hby d16_49) rfl k) ?_
          refine OEnds.go (g' := (mkF m 52 #[.val (.int p0)] [(.int (65 : Int32)), (.int p0)])) (fun t k => XS.bipush X0.here hx rfl (hb hby d16_50) k) ?_
          refine OEnds.go (g' := (mkF m 53 #[.val (.int p0)] [(.int (p0 - (65 : Int32)))])) (fun t k => XS.isub X0.here hx rfl (hb hby d16_52) rfl k) ?_
          refine OEnds.go (g' := (mkF m 55 #[.val (.int p0)] [(.int (10 : Int32)), (.int (p0 - (65 : Int32)))])) (fun t k => XS.bipush X0.here hx rfl (hb hby d16_53) k) ?_
          refine OEnds.go (g' := (mkF m 56 #[.val (.int p0)] [(.int ((p0 - (65 : Int32)) + (10 : Int32)))])) (fun t k => XS.iadd X0.here hx rfl (hb hby d16_55) rfl k) ?_
          exact OEnds.outI X0 Bd.notSynchronized hx Bd.returns (hb hby d16_56) ⟨by show (some (.int ((p0 - (65 : Int32)) + (10 : Int32))) : Option Value) = some (.int (f16 p0)); rw [f16, if_pos c3_1, if_pos c20_2, if_neg c40_3, if_neg c46_4], N0, e0⟩ (by decide) (by decide)
    · -- no
      refine OEnds.go (g' := (mkF m 23 #[.val (.int p0)] [])) (fun t k => XS.icmpNo X0.here hx rfl (hb hby d16_20) rfl (flt c20_2).1 k) ?_
      refine OEnds.go (g' := (mkF m 24 #[.val (.int p0)] [(.int p0)])) (fun t k => XS.iloadN X0.here hx rfl (hb hby d16_23) rfl k) ?_
      refine OEnds.go (g' := (mkF m 26 #[.val (.int p0)] [(.int (102 : Int32)), (.int p0)])) (fun t k => XS.bipush X0.here hx rfl (hb hby d16_24) k) ?_
      by_cases c26_5 : (102 : Int32) < p0
      · -- yes
        refine OEnds.go (g' := (mkF m 37 #[.val (.int p0)] [])) (fun t k => XS.icmpYes X0.here hx rfl (pc0 := 26) (pc' := 37) rfl (hb hby d16_26) rfl (tlt c26_5).2.2.1 (by decide) (by decide) k) ?_
        refine OEnds.go (g' := (mkF m 38 #[.val (.int p0)] [(.int p0)])) (fun t k => XS.iloadN X0.here hx rfl (hb hby d16_37) rfl k) ?_
        refine OEnds.go (g' := (mkF m 40 #[.val (.int p0)] [(.int (65 : Int32)), (.int p0)])) (fun t k => XS.bipush X0.here hx rfl (hb hby d16_38) k) ?_
        by_cases c40_6 : p0 < (65 : Int32)
        · -- yes
          refine OEnds.go (g' := (mkF m 57 #[.val (.int p0)] [])) (fun t k => XS.icmpYes X0.here hx rfl (pc0 := 40) (pc' := 57) rfl (hb hby d16_40) rfl (tlt c40_6).1 (by decide) (by decide) k) ?_
          refine OEnds.go (g' := (mkF m 58 #[.val (.int p0)] [(.int (-1 : Int32))])) (fun t k => XS.iconst X0.here hx rfl (hb hby d16_57) k) ?_
          exact OEnds.outI X0 Bd.notSynchronized hx Bd.returns (hb hby d16_58) ⟨by show (some (.int (-1 : Int32)) : Option Value) = some (.int (f16 p0)); rw [f16, if_pos c3_1, if_neg c20_2, if_pos c26_5, if_pos c40_6], N0, e0⟩ (by decide) (by decide)
        · -- no
          refine OEnds.go (g' := (mkF m 43 #[.val (.int p0)] [])) (fun t k => XS.icmpNo X0.here hx rfl (hb hby d16_40) rfl (flt c40_6).1 k) ?_
          refine OEnds.go (g' := (mkF m 44 #[.val (.int p0)] [(.int p0)])) (fun t k => XS.iloadN X0.here hx rfl (hb hby d16_43) rfl k) ?_
          refine OEnds.go (g' := (mkF m 46 #[.val (.int p0)] [(.int (70 : Int32)), (.int p0)])) (fun t k => XS.bipush X0.here hx rfl (hb hby d16_44) k) ?_
          by_cases c46_7 : (70 : Int32) < p0
          · -- yes
            refine OEnds.go (g' := (mkF m 57 #[.val (.int p0)] [])) (fun t k => XS.icmpYes X0.here hx rfl (pc0 := 46) (pc' := 57) rfl (hb hby d16_46) rfl (tlt c46_7).2.2.1 (by decide) (by decide) k) ?_
            refine OEnds.go (g' := (mkF m 58 #[.val (.int p0)] [(.int (-1 : Int32))])) (fun t k => XS.iconst X0.here hx rfl (hb hby d16_57) k) ?_
            exact OEnds.outI X0 Bd.notSynchronized hx Bd.returns (hb hby d16_58) ⟨by show (some (.int (-1 : Int32)) : Option Value) = some (.int (f16 p0)); rw [f16, if_pos c3_1, if_neg c20_2, if_pos c26_5, if_neg c40_6, if_pos c46_7], N0, e0⟩ (by decide) (by decide)
          · -- no
            refine OEnds.go (g' := (mkF m 49 #[.val (.int p0)] [])) (fun t k => XS.icmpNo X0.here hx rfl (hb hby d16_46) rfl (flt c46_7).2.2.1 k) ?_
            refine OEnds.go (g' := (mkF m 50 #[.val (.int p0)] [(.int p0)])) (fun t k => XS.iloadN X0.here hx rfl (hb hby d16_49) rfl k) ?_
            refine OEnds.go (g' := (mkF m 52 #[.val (.int p0)] [(.int (65 : Int32)), (.int p0)])) (fun t k => XS.bipush X0.here hx rfl (hb hby d16_50) k) ?_
            refine OEnds.go (g' := (mkF m 53 #[.val (.int p0)] [(.int (p0 - (65 : Int32)))])) (fun t k => XS.isub X0.here hx rfl (hb hby d16_52) rfl k) ?_
            refine OEnds.go (g' := (mkF m 55 #[.val (.int p0)] [(.int (10 : Int32)), (.int (p0 - (65 : Int32)))])) (fun t k => XS.bipush X0.here hx rfl (hb hby d16_53) k) ?_
            refine OEnds.go (g' := (mkF m 56 #[.val (.int p0)] [(.int ((p0 - (65 : Int32)) + (10 : Int32)))])) (fun t k => XS.iadd X0.here hx rfl (hb hby d16_55) rfl k) ?_
            exact OEnds.outI X0 Bd.notSynchronized hx Bd.returns (hb hby d16_56) ⟨by show (some (.int ((p0 - (65 : Int32)) + (10 : Int32))) : Option Value) = some (.int (f16 p0)); rw [f16, if_pos c3_1, if_neg c20_2, if_pos c26_5, if_neg c40_6, if_neg c46_7], N0, e0⟩ (by decide) (by decide)
      · -- no
        refine OEnds.go (g' := (mkF m 29 #[.val (.int p0)] [])) (fun t k => XS.icmpNo X0.here hx rfl (hb hby d16_26) rfl (flt c26_5).2.2.1 k) ?_
        refine OEnds.go (g' := (mkF m 30 #[.val (.int p0)] [(.int p0)])) (fun t k => XS.iloadN X0.here hx rfl (hb hby d16_29) rfl k) ?_
        refine OEnds.go (g' := (mkF m 32 #[.val (.int p0)] [(.int (97 : Int32)), (.int p0)])) (fun t k => XS.bipush X0.here hx rfl (hb hby d16_30) k) ?_
        refine OEnds.go (g' := (mkF m 33 #[.val (.int p0)] [(.int (p0 - (97 : Int32)))])) (fun t k => XS.isub X0.here hx rfl (hb hby d16_32) rfl k) ?_
        refine OEnds.go (g' := (mkF m 35 #[.val (.int p0)] [(.int (10 : Int32)), (.int (p0 - (97 : Int32)))])) (fun t k => XS.bipush X0.here hx rfl (hb hby d16_33) k) ?_
        refine OEnds.go (g' := (mkF m 36 #[.val (.int p0)] [(.int ((p0 - (97 : Int32)) + (10 : Int32)))])) (fun t k => XS.iadd X0.here hx rfl (hb hby d16_35) rfl k) ?_
        exact OEnds.outI X0 Bd.notSynchronized hx Bd.returns (hb hby d16_36) ⟨by show (some (.int ((p0 - (97 : Int32)) + (10 : Int32))) : Option Value) = some (.int (f16 p0)); rw [f16, if_pos c3_1, if_neg c20_2, if_neg c26_5], N0, e0⟩ (by decide) (by decide)
  · -- no
    refine OEnds.go (g' := (mkF m 6 #[.val (.int p0)] [])) (fun t k => XS.icmpNo X0.here hx rfl (hb hby d16_3) rfl (flt c3_1).1 k) ?_
    refine OEnds.go (g' := (mkF m 7 #[.val (.int p0)] [(.int p0)])) (fun t k => XS.iloadN X0.here hx rfl (hb hby d16_6) rfl k) ?_
    refine OEnds.go (g' := (mkF m 9 #[.val (.int p0)] [(.int (57 : Int32)), (.int p0)])) (fun t k => XS.bipush X0.here hx rfl (hb hby d16_7) k) ?_
    by_cases c9_8 : (57 : Int32) < p0
    · -- yes
      refine OEnds.go (g' := (mkF m 17 #[.val (.int p0)] [])) (fun t k => XS.icmpYes X0.here hx rfl (pc0 := 9) (pc' := 17) rfl (hb hby d16_9) rfl (tlt c9_8).2.2.1 (by decide) (by decide) k) ?_
      refine OEnds.go (g' := (mkF m 18 #[.val (.int p0)] [(.int p0)])) (fun t k => XS.iloadN X0.here hx rfl (hb hby d16_17) rfl k) ?_
      refine OEnds.go (g' := (mkF m 20 #[.val (.int p0)] [(.int (97 : Int32)), (.int p0)])) (fun t k => XS.bipush X0.here hx rfl (hb hby d16_18) k) ?_
      by_cases c20_9 : p0 < (97 : Int32)
      · -- yes
        refine OEnds.go (g' := (mkF m 37 #[.val (.int p0)] [])) (fun t k => XS.icmpYes X0.here hx rfl (pc0 := 20) (pc' := 37) rfl (hb hby d16_20) rfl (tlt c20_9).1 (by decide) (by decide) k) ?_
        refine OEnds.go (g' := (mkF m 38 #[.val (.int p0)] [(.int p0)])) (fun t k => XS.iloadN X0.here hx rfl (hb hby d16_37) rfl k) ?_
        refine OEnds.go (g' := (mkF m 40 #[.val (.int p0)] [(.int (65 : Int32)), (.int p0)])) (fun t k => XS.bipush X0.here hx rfl (hb hby d16_38) k) ?_
        by_cases c40_10 : p0 < (65 : Int32)
        · -- yes
          refine OEnds.go (g' := (mkF m 57 #[.val (.int p0)] [])) (fun t k => XS.icmpYes X0.here hx rfl (pc0 := 40) (pc' := 57) rfl (hb hby d16_40) rfl (tlt c40_10).1 (by decide) (by decide) k) ?_
          refine OEnds.go (g' := (mkF m 58 #[.val (.int p0)] [(.int (-1 : Int32))])) (fun t k => XS.iconst X0.here hx rfl (hb hby d16_57) k) ?_
          exact OEnds.outI X0 Bd.notSynchronized hx Bd.returns (hb hby d16_58) ⟨by show (some (.int (-1 : Int32)) : Option Value) = some (.int (f16 p0)); rw [f16, if_neg c3_1, if_pos c9_8, if_pos c20_9, if_pos c40_10], N0, e0⟩ (by decide) (by decide)
        · -- no
          refine OEnds.go (g' := (mkF m 43 #[.val (.int p0)] [])) (fun t k => XS.icmpNo X0.here hx rfl (hb hby d16_40) rfl (flt c40_10).1 k) ?_
          refine OEnds.go (g' := (mkF m 44 #[.val (.int p0)] [(.int p0)])) (fun t k => XS.iloadN X0.here hx rfl (hb hby d16_43) rfl k) ?_
          refine OEnds.go (g' := (mkF m 46 #[.val (.int p0)] [(.int (70 : Int32)), (.int p0)])) (fun t k => XS.bipush X0.here hx rfl (hb hby d16_44) k) ?_
          by_cases c46_11 : (70 : Int32) < p0
          · -- yes
            refine OEnds.go (g' := (mkF m 57 #[.val (.int p0)] [])) (fun t k => XS.icmpYes X0.here hx rfl (pc0 := 46) (pc' := 57) rfl (hb hby d16_46) rfl (tlt c46_11).2.2.1 (by decide) (by decide) k) ?_
            refine OEnds.go (g' := (mkF m 58 #[.val (.int p0)] [(.int (-1 : Int32))])) (fun t k => XS.iconst X0.here hx rfl (hb hby d16_57) k) ?_
            exact OEnds.outI X0 Bd.notSynchronized hx Bd.returns (hb hby d16_58) ⟨by show (some (.int (-1 : Int32)) : Option Value) = some (.int (f16 p0)); rw [f16, if_neg c3_1, if_pos c9_8, if_pos c20_9, if_neg c40_10, if_pos c46_11], N0, e0⟩ (by decide) (by decide)
          · -- no
            refine OEnds.go (g' := (mkF m 49 #[.val (.int p0)] [])) (fun t k => XS.icmpNo X0.here hx rfl (hb hby d16_46) rfl (flt c46_11).2.2.1 k) ?_
            refine OEnds.go (g' := (mkF m 50 #[.val (.int p0)] [(.int p0)])) (fun t k => XS.iloadN X0.here hx rfl (hb hby d16_49) rfl k) ?_
            refine OEnds.go (g' := (mkF m 52 #[.val (.int p0)] [(.int (65 : Int32)), (.int p0)])) (fun t k => XS.bipush X0.here hx rfl (hb hby d16_50) k) ?_
            refine OEnds.go (g' := (mkF m 53 #[.val (.int p0)] [(.int (p0 - (65 : Int32)))])) (fun t k => XS.isub X0.here hx rfl (hb hby d16_52) rfl k) ?_
            refine OEnds.go (g' := (mkF m 55 #[.val (.int p0)] [(.int (10 : Int32)), (.int (p0 - (65 : Int32)))])) (fun t k => XS.bipush X0.here hx rfl (hb hby d16_53) k) ?_
            refine OEnds.go (g' := (mkF m 56 #[.val (.int p0)] [(.int ((p0 - (65 : Int32)) + (10 : Int32)))])) (fun t k => XS.iadd X0.here hx rfl (hb hby d16_55) rfl k) ?_
            exact OEnds.outI X0 Bd.notSynchronized hx Bd.returns (hb hby d16_56) ⟨by show (some (.int ((p0 - (65 : Int32)) + (10 : Int32))) : Option Value) = some (.int (f16 p0)); rw [f16, if_neg c3_1, if_pos c9_8, if_pos c20_9, if_neg c40_10, if_neg c46_11], N0, e0⟩ (by decide) (by decide)
      · -- no
        refine OEnds.go (g' := (mkF m 23 #[.val (.int p0)] [])) (fun t k => XS.icmpNo X0.here hx rfl (hb hby d16_20) rfl (flt c20_9).1 k) ?_
        refine OEnds.go (g' := (mkF m 24 #[.val (.int p0)] [(.int p0)])) (fun t k => XS.iloadN X0.here hx rfl (hb hby d16_23) rfl k) ?_
        refine OEnds.go (g' := (mkF m 26 #[.val (.int p0)] [(.int (102 : Int32)), (.int p0)])) (fun t k => XS.bipush X0.here hx rfl (hb hby d16_24) k) ?_
        by_cases c26_12 : (102 : Int32) < p0
        · -- yes
          refine OEnds.go (g' := (mkF m 37 #[.val (.int p0)] [])) (fun t k => XS.icmpYes X0.here hx rfl (pc0 := 26) (pc' := 37) rfl (hb hby d16_26) rfl (tlt c26_12).2.2.1 (by decide) (by decide) k) ?_
          refine OEnds.go (g' := (mkF m 38 #[.val (.int p0)] [(.int p0)])) (fun t k => XS.iloadN X0.here hx rfl (hb hby d16_37) rfl k) ?_
          refine OEnds.go (g' := (mkF m 40 #[.val (.int p0)] [(.int (65 : Int32)), (.int p0)])) (fun t k => XS.bipush X0.here hx rfl (hb hby d16_38) k) ?_
          by_cases c40_13 : p0 < (65 : Int32)
          · -- yes
            refine OEnds.go (g' := (mkF m 57 #[.val (.int p0)] [])) (fun t k => XS.icmpYes X0.here hx rfl (pc0 := 40) (pc' := 57) rfl (hb hby d16_40) rfl (tlt c40_13).1 (by decide) (by decide) k) ?_
            refine OEnds.go (g' := (mkF m 58 #[.val (.int p0)] [(.int (-1 : Int32))])) (fun t k => XS.iconst X0.here hx rfl (hb hby d16_57) k) ?_
            exact OEnds.outI X0 Bd.notSynchronized hx Bd.returns (hb hby d16_58) ⟨by show (some (.int (-1 : Int32)) : Option Value) = some (.int (f16 p0)); rw [f16, if_neg c3_1, if_pos c9_8, if_neg c20_9, if_pos c26_12, if_pos c40_13], N0, e0⟩ (by decide) (by decide)
          · -- no
            refine OEnds.go (g' := (mkF m 43 #[.val (.int p0)] [])) (fun t k => XS.icmpNo X0.here hx rfl (hb hby d16_40) rfl (flt c40_13).1 k) ?_
            refine OEnds.go (g' := (mkF m 44 #[.val (.int p0)] [(.int p0)])) (fun t k => XS.iloadN X0.here hx rfl (hb hby d16_43) rfl k) ?_
            refine OEnds.go (g' := (mkF m 46 #[.val (.int p0)] [(.int (70 : Int32)), (.int p0)])) (fun t k => XS.bipush X0.here hx rfl (hb hby d16_44) k) ?_
            by_cases c46_14 : (70 : Int32) < p0
            · -- yes
              refine OEnds.go (g' := (mkF m 57 #[.val (.int p0)] [])) (fun t k => XS.icmpYes X0.here hx rfl (pc0 := 46) (pc' := 57) rfl (hb hby d16_46) rfl (tlt c46_14).2.2.1 (by decide) (by decide) k) ?_
              refine OEnds.go (g' := (mkF m 58 #[.val (.int p0)] [(.int (-1 : Int32))])) (fun t k => XS.iconst X0.here hx rfl (hb hby d16_57) k) ?_
              exact OEnds.outI X0 Bd.notSynchronized hx Bd.returns (hb hby d16_58) ⟨by show (some (.int (-1 : Int32)) : Option Value) = some (.int (f16 p0)); rw [f16, if_neg c3_1, if_pos c9_8, if_neg c20_9, if_pos c26_12, if_neg c40_13, if_pos c46_14], N0, e0⟩ (by decide) (by decide)
            · -- no
              refine OEnds.go (g' := (mkF m 49 #[.val (.int p0)] [])) (fun t k => XS.icmpNo X0.here hx rfl (hb hby d16_46) rfl (flt c46_14).2.2.1 k) ?_
              refine OEnds.go (g' := (mkF m 50 #[.val (.int p0)] [(.int p0)])) (fun t k => XS.iloadN X0.here hx rfl (hb hby d16_49) rfl k) ?_
              refine OEnds.go (g' := (mkF m 52 #[.val (.int p0)] [(.int (65 : Int32)), (.int p0)])) (fun t k => XS.bipush X0.here hx rfl (hb hby d16_50) k) ?_
              refine OEnds.go (g' := (mkF m 53 #[.val (.int p0)] [(.int (p0 - (65 : Int32)))])) (fun t k => XS.isub X0.here hx rfl (hb hby d16_52) rfl k) ?_
              refine OEnds.go (g' := (mkF m 55 #[.val (.int p0)] [(.int (10 : Int32)), (.int (p0 - (65 : Int32)))])) (fun t k => XS.bipush X0.here hx rfl (hb hby d16_53) k) ?_
              refine OEnds.go (g' := (mkF m 56 #[.val (.int p0)] [(.int ((p0 - (65 : Int32)) + (10 : Int32)))])) (fun t k => XS.iadd X0.here hx rfl (hb hby d16_55) rfl k) ?_
              exact OEnds.outI X0 Bd.notSynchronized hx Bd.returns (hb hby d16_56) ⟨by show (some (.int ((p0 - (65 : Int32)) + (10 : Int32))) : Option Value) = some (.int (f16 p0)); rw [f16, if_neg c3_1, if_pos c9_8, if_neg c20_9, if_pos c26_12, if_neg c40_13, if_neg c46_14], N0, e0⟩ (by decide) (by decide)
        · -- no
          refine OEnds.go (g' := (mkF m 29 #[.val (.int p0)] [])) (fun t k => XS.icmpNo X0.here hx rfl (hb hby d16_26) rfl (flt c26_12).2.2.1 k) ?_
          refine OEnds.go (g' := (mkF m 30 #[.val (.int p0)] [(.int p0)])) (fun t k => XS.iloadN X0.here hx rfl (hb hby d16_29) rfl k) ?_
          refine OEnds.go (g' := (mkF m 32 #[.val (.int p0)] [(.int (97 : Int32)), (.int p0)])) (fun t k => XS.bipush X0.here hx rfl (hb hby d16_30) k) ?_
          refine OEnds.go (g' := (mkF m 33 #[.val (.int p0)] [(.int (p0 - (97 : Int32)))])) (fun t k => XS.isub X0.here hx rfl (hb hby d16_32) rfl k) ?_
          refine OEnds.go (g' := (mkF m 35 #[.val (.int p0)] [(.int (10 : Int32)), (.int (p0 - (97 : Int32)))])) (fun t k => XS.bipush X0.here hx rfl (hb hby d16_33) k) ?_
          refine OEnds.go (g' := (mkF m 36 #[.val (.int p0)] [(.int ((p0 - (97 : Int32)) + (10 : Int32)))])) (fun t k => XS.iadd X0.here hx rfl (hb hby d16_35) rfl k) ?_
          exact OEnds.outI X0 Bd.notSynchronized hx Bd.returns (hb hby d16_36) ⟨by show (some (.int ((p0 - (97 : Int32)) + (10 : Int32))) : Option Value) = some (.int (f16 p0)); rw [f16, if_neg c3_1, if_pos c9_8, if_neg c20_9, if_neg c26_12], N0, e0⟩ (by decide) (by decide)
    · -- no
      refine OEnds.go (g' := (mkF m 12 #[.val (.int p0)] [])) (fun t k => XS.icmpNo X0.here hx rfl (hb hby d16_9) rfl (flt c9_8).2.2.1 k) ?_
      refine OEnds.go (g' := (mkF m 13 #[.val (.int p0)] [(.int p0)])) (fun t k => XS.iloadN X0.here hx rfl (hb hby d16_12) rfl k) ?_
      refine OEnds.go (g' := (mkF m 15 #[.val (.int p0)] [(.int (48 : Int32)), (.int p0)])) (fun t k => XS.bipush X0.here hx rfl (hb hby d16_13) k) ?_
      refine OEnds.go (g' := (mkF m 16 #[.val (.int p0)] [(.int (p0 - (48 : Int32)))])) (fun t k => XS.isub X0.here hx rfl (hb hby d16_15) rfl k) ?_
      exact OEnds.outI X0 Bd.notSynchronized hx Bd.returns (hb hby d16_16) ⟨by show (some (.int (p0 - (48 : Int32))) : Option Value) = some (.int (f16 p0)); rw [f16, if_neg c3_1, if_neg c9_8], N0, e0⟩ (by decide) (by decide)
theorem ef_rm15 (m : MethodId) (x0 : Int32) : entryFrame m #[(.int x0)] 1 = mkF m 0 #[.val (.int x0)] [] := by first | (simp [entryFrame, mkF, argsToLocals, Value.category]; done) | rfl
def f15 (p0 : Int32) : Int32 := (f16 ((p0 &&& (255 : Int32)).toUInt32.toUInt16.toUInt32.toInt32))
def Q_rm15 (Z : State) (p0 : Int32) (h0 : Heap) (n0 : Nat) (v : Option Value) (h : Heap) (L : List Loc) : Prop := v = some (.int (f15 p0)) ∧ Fr n0 L ∧ h = h0
set_option maxRecDepth 65536 in
set_option maxHeartbeats 40000000 in
theorem rm15 (l : Launch) (Z : State) (a0 : Array Value) (hw : ∀ d ∈ tables_1, d.before a0 Z = true) (ws : List Jvm.Cond) (p0 : Int32) (h0 : Heap) (n0 : Nat) (Z0 : n0 ≤ h0.size) :
    MetFree l (⟨"cardtalk/message/Hex", "digit", "(B)I"⟩ : MethodName) (head1 (Jvm.Cond.code (⟨"cardtalk/message/Hex", "digit", "(B)I"⟩ : MethodName) prog_50_method_5_code 1 (some .int) :: ws) ({ frames := 1, cells := 0, slots := 0, locals := 12 } : Room)) (fun aa_ U => aa_ = #[(.int p0)] ∧ Z.Warmed39 U.vm ∧ U.heap = h0) (fun _ _ _ _ _ => True) (fun _ U o U' => ∃ v L, o = .returned v ∧ Q_rm15 Z p0 h0 n0 v U'.heap L ∧ FrameEnd U o U' L ({ frames := 1, cells := 0, slots := 0, locals := 12 } : Room).cells ({ frames := 1, cells := 0, slots := 0, locals := 12 } : Room).slots) := by
  refine MetFree.of_bodySF (plainFor_of_name pn_2) hisR ?_
  intro p e s m args below meth c s₁ Bd hml0 hP hK
  obtain ⟨rfl, hZ, hh⟩ := hP
  have hx := Bd.exec
  have hby := Bd.bytes
  have hml : c.maxLocals = 1 := hml0
  have hown : s.vm.findClass "cardtalk/message/Hex" = some m.cls := findClass_of_methodNamed Bd.named
  have hnm := (name_of_methodNamed Bd.named Bd.method).1
  have X0 : Stand p l e ({ frames := 1, cells := 0, slots := 0, locals := 12 } : Room) s m #[(.int p0)] below meth c s₁ [] 0 0 := Stand.of_body Bd
  have e0 : s₁.heap = h0 := by rw [← hh, Bd.state]; rfl
  have N0 := Fr.nil n0
  show OEnds p e below (OEndP s (Q_rm15 Z p0 h0 n0) ({ frames := 1, cells := 0, slots := 0, locals := 12 } : Room).cells ({ frames := 1, cells := 0, slots := 0, locals := 12 } : Room).slots) s₁ (entryFrame m #[(.int p0)] 1)
  rw [ef_rm15 m p0]
  refine OEnds.go (g' := (mkF m 1 #[.val (.int p0)] [(.int p0)])) (fun t k => XS.iloadN X0.here hx rfl (hb hby d15_0) rfl k) ?_
  refine OEnds.go (g' := (mkF m 4 #[.val (.int p0)] [(.int (255 : Int32)), (.int p0)])) (fun t k => XS.sipush X0.here hx rfl (hb hby d15_1) k) ?_
  refine OEnds.go (g' := (mkF m 5 #[.val (.int p0)] [(.int (p0 &&& (255 : Int32)))])) (fun t k => XS.iand X0.here hx rfl (hb hby d15_4) rfl k) ?_
  refine OEnds.go (g' := (mkF m 6 #[.val (.int p0)] [(.int ((p0 &&& (255 : Int32)).toUInt32.toUInt16.toUInt32.toInt32))])) (fun t k => XS.i2c X0.here hx rfl (hb hby d15_5) rfl k) ?_
  obtain ⟨_, _, ⟨T1, L1, k1, n1⟩, -, X1, ⟨Lc1, hQ1, l1, y1, z1⟩, st1⟩ := Jvm.LawKit.callS X0 hx (y := (⟨"cardtalk/message/Hex", "digit", "(C)I"⟩ : MethodName)) hown (mvT hZ (hw _ (List.mem_of_getElem? (i := 79) rfl))) (mvT hZ (hw _ (List.mem_of_getElem? (i := 80) rfl))) (mvT hZ (hw _ (List.mem_of_getElem? (i := 40) rfl))) (mvT hZ (hw _ (List.mem_of_getElem? (i := 81) rfl))) (by decide) (backOf (W := 0) (rm16 l Z a0 hw [] ((p0 &&& (255 : Int32)).toUInt32.toUInt16.toUInt32.toInt32) h0 n0 Z0) hZ (hw _ (List.mem_of_getElem? (i := 81) rfl)) (hw _ (List.mem_of_getElem? (i := 40) rfl)) (by decide) (by decide)) (g := (mkF m 6 #[.val (.int p0)] [(.int ((p0 &&& (255 : Int32)).toUInt32.toUInt16.toUInt32.toInt32))])) rfl (by rw [hml]; rfl) (argsL := [(.int ((p0 &&& (255 : Int32)).toUInt32.toUInt16.toUInt32.toInt32))]) (rest := []) (lenOf pd_8 rfl) rfl (by show 2 * 0 + _ ≤ _; exact Nat.le_of_eq rfl) (hb hby d15_6) (fun _ _ => ⟨rfl, e0, (by decide : 0 + 0 ≤ _), (by decide : 0 + 0 ≤ _)⟩)
  dsimp only [Pt.U, Pt.locs, Pt.cells, Pt.slots] at X1 l1 y1 z1 st1 hQ1
  subst l1 y1 z1
  obtain ⟨rfl, N1q, e1⟩ := hQ1
  have N1 := Fr.app N0 N1q
  refine OEnds.go (g' := (mkF m 9 #[.val (.int p0)] [(.int (f16 ((p0 &&& (255 : Int32)).toUInt32.toUInt16.toUInt32.toInt32)))])) st1 ?_
  exact OEnds.outI X1 Bd.notSynchronized hx Bd.returns (hb hby d15_9) ⟨by show (some (.int (f16 ((p0 &&& (255 : Int32)).toUInt32.toUInt16.toUInt32.toInt32))) : Option Value) = some (.int (f15 p0)); rw [f15], N1, e1⟩ (by decide) (by decide)
theorem own_nl {x : Int32} (h : 0 ≤ x.toInt ∧ x.toInt ≤ 15) : ¬ x < (0 : Int32) := by
  have e : (0 : Int32).toInt = 0 := by decide
  rw [Int32.lt_iff_toInt_lt]; omega
theorem ef_rmPa (m : MethodId) (x0 : Addr) : entryFrame m #[(.ref x0)] 7 = mkF m 0 #[.val (.ref x0), .unset, .unset, .unset, .unset, .unset, .unset] [] := by first | (simp [entryFrame, mkF, argsToLocals, Value.category]; done) | rfl
def Q_rmPa (Z : State) (sx : Addr) (bb : Addr) (kb : ClassId) (c0 : Int32) (c1 : Int32) (c2 : Int32) (c3 : Int32) (csv : Int32) (uu : Addr) (ch : Addr) (h0 : Heap) (n0 : Nat) (v : Option Value) (h : Heap) (L : List Loc) : Prop := ∃ (b : Addr) (k2 : ClassId), v = some (.ref b) ∧ Fr n0 L ∧ Keep h0 h [] ∧ Arv Z h b k2 .byte (2 : Int32) [(.int (((((f15 (own_by c0)) <<< ((4 : Int32) &&& 31)) ||| (f15 (own_by c1))).toInt8.toInt32).toInt8.toInt32)), (.int (((((f15 (own_by c2)) <<< ((4 : Int32) &&& 31)) ||| (f15 (own_by c3))).toInt8.toInt32).toInt8.toInt32))] (.int (0 : Int32))
set_option maxRecDepth 65536 in
set_option maxHeartbeats 40000000 in
theorem rmPa (l : Launch) (Z : State) (a0 : Array Value) (hw : ∀ d ∈ tables_1, d.before a0 Z = true) (ws : List Jvm.Cond) (sx : Addr) (bb : Addr) (kb : ClassId) (c0 : Int32) (c1 : Int32) (c2 : Int32) (c3 : Int32) (csv : Int32) (uu : Addr) (ch : Addr) (h0 : Heap) (n0 : Nat) (Z0 : n0 ≤ h0.size) (E_sx : Exa Z h0 sx "java/lang/String") (Fc_sx : Fld Z h0 sx "java/lang/String" "coder" "B" (.int (0 : Int32))) (Fv_sx : Fld Z h0 sx "java/lang/String" "value" "[B" (.ref bb)) (V_sx : Arv Z h0 bb kb .byte (4 : Int32) [(.int (own_by c0)), (.int (own_by c1)), (.int (own_by c2)), (.int (own_by c3))] (.int (0 : Int32))) (X_sx : Exa Z h0 bb "[B") (SC : Sta Z h0 "java/lang/String" "COMPACT_STRINGS" "Z" (.int csv)) (hcs : ¬ csv = (0 : Int32)) (SU : Sta Z h0 "sun/nio/cs/UTF_8" "INSTANCE" "Lsun/nio/cs/UTF_8;" (.ref uu)) (SI : Sta Z h0 "sun/nio/cs/ISO_8859_1" "INSTANCE" "Lsun/nio/cs/ISO_8859_1;" (.ref ch)) (hu : ch ≠ uu) (SH : Sta Z h0 "java/nio/charset/StandardCharsets" "ISO_8859_1" "Ljava/nio/charset/Charset;" (.ref ch)) (hd0 : 0 ≤ (f15 (own_by c0)).toInt ∧ (f15 (own_by c0)).toInt ≤ 15) (hd1 : 0 ≤ (f15 (own_by c1)).toInt ∧ (f15 (own_by c1)).toInt ≤ 15) (hd2 : 0 ≤ (f15 (own_by c2)).toInt ∧ (f15 (own_by c2)).toInt ≤ 15) (hd3 : 0 ≤ (f15 (own_by c3)).toInt ∧ (f15 (own_by c3)).toInt ≤ 15) :
    MetFree l (⟨"cardtalk/message/Hex", "parse", "(Ljava/lang/String;)[B"⟩ : MethodName) (head1 (Jvm.Cond.code (⟨"cardtalk/message/Hex", "parse", "(Ljava/lang/String;)[B"⟩ : MethodName) prog_50_method_2_code 7 (some (.array .byte)) :: ws) ({ frames := 5, cells := 2, slots := 6, locals := 160 } : Room)) (fun aa_ U => aa_ = #[(.ref sx)] ∧ Z.Warmed39 U.vm ∧ U.heap = h0) (fun _ _ _ _ _ => True) (fun _ U o U' => ∃ v L, o = .returned v ∧ Q_rmPa Z sx bb kb c0 c1 c2 c3 csv uu ch h0 n0 v U'.heap L ∧ FrameEnd U o U' L ({ frames := 5, cells := 2, slots := 6, locals := 160 } : Room).cells ({ frames := 5, cells := 2, slots := 6, locals := 160 } : Room).slots) := by
  refine MetFree.of_bodySF (plainFor_of_name pn_2) hisR ?_
  intro p e s m args below meth c s₁ Bd hml0 hP hK
  obtain ⟨rfl, hZ, hh⟩ := hP
  have hx := Bd.exec
  have hby := Bd.bytes
  have hml : c.maxLocals = 7 := hml0
  have hown : s.vm.findClass "cardtalk/message/Hex" = some m.cls := findClass_of_methodNamed Bd.named
  have hnm := (name_of_methodNamed Bd.named Bd.method).1
  have X0 : Stand p l e ({ frames := 5, cells := 2, slots := 6, locals := 160 } : Room) s m #[(.ref sx)] below meth c s₁ [] 0 0 := Stand.of_body Bd
  have e0 : s₁.heap = h0 := by rw [← hh, Bd.state]; rfl
  have N0 := Fr.nil n0
  show OEnds p e below (OEndP s (Q_rmPa Z sx bb kb c0 c1 c2 c3 csv uu ch h0 n0) ({ frames := 5, cells := 2, slots := 6, locals := 160 } : Room).cells ({ frames := 5, cells := 2, slots := 6, locals := 160 } : Room).slots) s₁ (entryFrame m #[(.ref sx)] 7)
  rw [ef_rmPa m sx]
  refine OEnds.go (g' := (mkF m 1 #[.val (.ref sx), .unset, .unset, .unset, .unset, .unset, .unset] [(.ref sx)])) (fun t k => XS.aloadN X0.here hx rfl (hb hby d9_0) rfl rfl k) ?_
  obtain ⟨T1, X1, e1, st1⟩ := getS2 X0 hx hZ hown (host := "") (Or.inl (hw _ (List.mem_of_getElem? (i := 42) rfl))) Via.refl e0 SH (g := (mkF m 1 #[.val (.ref sx), .unset, .unset, .unset, .unset, .unset, .unset] [(.ref sx)])) rfl (hb hby d9_1)
  refine OEnds.go (g' := (mkF m 4 #[.val (.ref sx), .unset, .unset, .unset, .unset, .unset, .unset] [(.ref ch), (.ref sx)])) st1 ?_
  obtain ⟨cq2, kq2, q2a, q2b, q2c⟩ := isOf hZ e1 E_sx
  obtain ⟨_, _, ⟨T2, L2, k2, n2⟩, -, X2, ⟨Lc2, hQ2, l2, y2, z2⟩, st2⟩ := X1.virtualBack hx (y := (⟨"java/lang/String", "getBytes", "(Ljava/nio/charset/Charset;)[B"⟩ : MethodName)) (z := (⟨"java/lang/String", "getBytes", "(Ljava/nio/charset/Charset;)[B"⟩ : MethodName)) hown (mvT hZ (hw _ (List.mem_of_getElem? (i := 44) rfl))) (mvT hZ (hw _ (List.mem_of_getElem? (i := 45) rfl))) (notFace_of_selects (args := #[]) (mvT hZ (hw _ (List.mem_of_getElem? (i := 47) rfl)))) (mvT hZ (hw _ (List.mem_of_getElem? (i := 47) rfl))) (mvT hZ (hw _ (List.mem_of_getElem? (i := 46) rfl))) (by decide) (backOf (W := 0) (rmGB l Z a0 hw [] sx ch bb kb c0 c1 c2 c3 csv uu h0 n0 Z0 E_sx Fc_sx Fv_sx V_sx X_sx SC hcs SU SI hu) hZ (hw _ (List.mem_of_getElem? (i := 48) rfl)) (hw _ (List.mem_of_getElem? (i := 11) rfl)) (by decide) (by decide)) q2a q2c (g := (mkF m 4 #[.val (.ref sx), .unset, .unset, .unset, .unset, .unset, .unset] [(.ref ch), (.ref sx)])) rfl (by rw [hml]; rfl) (Steps.refl _) (argsL := [(.ref ch)]) (rest := []) (lenOf pd_9 rfl) rfl (by show 2 * 0 + _ ≤ _; exact Nat.le_of_eq rfl) (hb hby d9_4) (fun _ _ => ⟨rfl, e1, (by decide : 0 + 1 ≤ _), (by decide : 0 + 4 ≤ _)⟩)
  dsimp only [Pt.U, Pt.locs, Pt.cells, Pt.slots] at X2 l2 y2 z2 st2 hQ2
  subst l2 y2 z2
  obtain ⟨b2, rfl, N2q, K2q, g_b2, s_b2, V2q⟩ := hQ2
  have N2 := Fr.app N0 N2q
  have K2 : Keep h0 T2.heap [] := (Keep.refl h0 []).trans K2q all0
  have sz_b2 : h0.size ≤ b2 := Nat.le_trans (Keep.refl h0 []).1 s_b2
  refine OEnds.tr (g' := (mkF m 7 #[.val (.ref sx), .unset, .unset, .unset, .unset, .unset, .unset] [(.ref b2)])) st2 ?_
  refine OEnds.go (g' := (mkF m 8 #[.val (.ref sx), .val (.ref b2), .unset, .unset, .unset, .unset, .unset] [])) (fun t k => XS.astoreN X2.here hx rfl (hb hby d9_7) rfl rfl (l' := #[.val (.ref sx), .val (.ref b2), .unset, .unset, .unset, .unset, .unset]) rfl k) ?_
  refine OEnds.go (g' := (mkF m 9 #[.val (.ref sx), .val (.ref b2), .unset, .unset, .unset, .unset, .unset] [(.ref b2)])) (fun t k => XS.aloadN X2.here hx rfl (hb hby d9_8) rfl rfl k) ?_
  obtain ⟨cl3, Ar3, qa3, Sa3, Na3, Ha3, Ga3⟩ := @id _ V2q
  refine OEnds.go (g' := (mkF m 10 #[.val (.ref sx), .val (.ref b2), .unset, .unset, .unset, .unset, .unset] [(.int (4 : Int32))])) (fun t k => X2.arraylength hx Ar3.1 (State.isArrayOf_alike hZ.alike Ar3.2.1) (g := (mkF m 9 #[.val (.ref sx), .val (.ref b2), .unset, .unset, .unset, .unset, .unset] [(.ref b2)])) rfl rfl (hb hby d9_9) t (by rw [len_of Sa3 Na3]; exact k)) ?_
  refine OEnds.go (g' := (mkF m 11 #[.val (.ref sx), .val (.ref b2), .val (.int (4 : Int32)), .unset, .unset, .unset, .unset] [])) (fun t k => XS.istoreN X2.here hx rfl (hb hby d9_10) rfl (l' := #[.val (.ref sx), .val (.ref b2), .val (.int (4 : Int32)), .unset, .unset, .unset, .unset]) rfl k) ?_
  refine OEnds.go (g' := (mkF m 12 #[.val (.ref sx), .val (.ref b2), .val (.int (4 : Int32)), .unset, .unset, .unset, .unset] [(.int (4 : Int32))])) (fun t k => XS.iloadN X2.here hx rfl (hb hby d9_11) rfl k) ?_
  refine OEnds.go (g' := (mkF m 13 #[.val (.ref sx), .val (.ref b2), .val (.int (4 : Int32)), .unset, .unset, .unset, .unset] [(.int (2 : Int32)), (.int (4 : Int32))])) (fun t k => XS.iconst X2.here hx rfl (hb hby d9_12) k) ?_
  refine OEnds.go (g' := (mkF m 14 #[.val (.ref sx), .val (.ref b2), .val (.int (4 : Int32)), .unset, .unset, .unset, .unset] [(.int ((4 : Int32) / (2 : Int32)))])) (fun t k => XS.idiv X2.here hx rfl (hb hby d9_13) rfl (by decide) k) ?_
  rw [show ((4 : Int32) / (2 : Int32)) = (2 : Int32) from by decide]
  obtain ⟨T4, h4, k4, X4, e4, E4, A4, st4⟩ := newP X2 hx hZ (hw _ (List.mem_of_getElem? (i := 27) rfl)) rfl (g := (mkF m 14 #[.val (.ref sx), .val (.ref b2), .val (.int (4 : Int32)), .unset, .unset, .unset, .unset] [(.int (2 : Int32))])) rfl (hb hby d9_14) rfl (by decide) (cap := 2) (by decide) (by decide) (by decide) (by decide)
  obtain ⟨b4, g4⟩ : ∃ z, z = T2.heap.size := ⟨_, rfl⟩
  rw [← g4] at A4 st4
  have g_b4 : n0 ≤ b4 := Nat.le_trans (Nat.le_trans Z0 K2q.1) (Nat.le_of_eq g4.symm)
  have sz_b4 : h0.size ≤ b4 := Nat.le_trans K2.1 (Nat.le_of_eq g4.symm)
  have K4 : Keep h0 h4 [] := K2.ext E4
  have V_b4 : Arv Z h4 b4 k4 .byte (2 : Int32) [(.int (0 : Int32)), (.int (0 : Int32))] (.int (0 : Int32)) := (Arv.new A4 (by decide)).pad (pad_rep [] (.int (0 : Int32)) 2)
  refine OEnds.go (g' := (mkF m 16 #[.val (.ref sx), .val (.ref b2), .val (.int (4 : Int32)), .unset, .unset, .unset, .unset] [(.ref b4)])) st4 ?_
  refine OEnds.go (g' := (mkF m 17 #[.val (.ref sx), .val (.ref b2), .val (.int (4 : Int32)), .val (.ref b4), .unset, .unset, .unset] [])) (fun t k => XS.astoreN X4.here hx rfl (hb hby d9_16) rfl rfl (l' := #[.val (.ref sx), .val (.ref b2), .val (.int (4 : Int32)), .val (.ref b4), .unset, .unset, .unset]) rfl k) ?_
  refine OEnds.go (g' := (mkF m 18 #[.val (.ref sx), .val (.ref b2), .val (.int (4 : Int32)), .val (.ref b4), .unset, .unset, .unset] [(.int (0 : Int32))])) (fun t k => XS.iconst X4.here hx rfl (hb hby d9_17) k) ?_
  refine OEnds.go (g' := (mkF m 20 #[.val (.ref sx), .val (.ref b2), .val (.int (4 : Int32)), .val (.ref b4), .val (.int (0 : Int32)), .unset, .unset] [])) (fun t k => XS.istore X4.here hx rfl (hb hby d9_18) rfl (l' := #[.val (.ref sx), .val (.ref b2), .val (.int (4 : Int32)), .val (.ref b4), .val (.int (0 : Int32)), .unset, .unset]) rfl k) ?_
  refine OEnds.go (g' := (mkF m 22 #[.val (.ref sx), .val (.ref b2), .val (.int (4 : Int32)), .val (.ref b4), .val (.int (0 : Int32)), .unset, .unset] [(.int (0 : Int32))])) (fun t k => XS.iload X4.here hx rfl (hb hby d9_20) rfl k) ?_
  refine OEnds.go (g' := (mkF m 23 #[.val (.ref sx), .val (.ref b2), .val (.int (4 : Int32)), .val (.ref b4), .val (.int (0 : Int32)), .unset, .unset] [(.int (1 : Int32)), (.int (0 : Int32))])) (fun t k => XS.iconst X4.here hx rfl (hb hby d9_22) k) ?_
  refine OEnds.go (g' := (mkF m 24 #[.val (.ref sx), .val (.ref b2), .val (.int (4 : Int32)), .val (.ref b4), .val (.int (0 : Int32)), .unset, .unset] [(.int ((0 : Int32) + (1 : Int32)))])) (fun t k => XS.iadd X4.here hx rfl (hb hby d9_23) rfl k) ?_
  rw [show ((0 : Int32) + (1 : Int32)) = (1 : Int32) from by decide]
  refine OEnds.go (g' := (mkF m 25 #[.val (.ref sx), .val (.ref b2), .val (.int (4 : Int32)), .val (.ref b4), .val (.int (0 : Int32)), .unset, .unset] [(.int (4 : Int32)), (.int (1 : Int32))])) (fun t k => XS.iloadN X4.here hx rfl (hb hby d9_24) rfl k) ?_
  refine OEnds.go (g' := (mkF m 28 #[.val (.ref sx), .val (.ref b2), .val (.int (4 : Int32)), .val (.ref b4), .val (.int (0 : Int32)), .unset, .unset] [])) (fun t k => XS.icmpNo X4.here hx rfl (hb hby d9_25) rfl (tlt (by decide : ((1 : Int32) < (4 : Int32)))).2.1 k) ?_
  refine OEnds.go (g' := (mkF m 29 #[.val (.ref sx), .val (.ref b2), .val (.int (4 : Int32)), .val (.ref b4), .val (.int (0 : Int32)), .unset, .unset] [(.ref b2)])) (fun t k => XS.aloadN X4.here hx rfl (hb hby d9_28) rfl rfl k) ?_
  refine OEnds.go (g' := (mkF m 31 #[.val (.ref sx), .val (.ref b2), .val (.int (4 : Int32)), .val (.ref b4), .val (.int (0 : Int32)), .unset, .unset] [(.int (0 : Int32)), (.ref b2)])) (fun t k => XS.iload X4.here hx rfl (hb hby d9_29) rfl k) ?_
  obtain ⟨cl5, Ar5, qa5, Sa5, Na5, Ha5, Ga5⟩ := @id _ (V2q.ext E4)
  have hin5 : ¬ ((0 : Int32) < 0 ∨ cl5.slots.size ≤ ((0 : Int32)).toNatClampNeg) := inb_of Sa5 ⟨by decide, by decide⟩
  have hat5 : cl5.slots[((0 : Int32)).toNatClampNeg]? = some (.int (own_by c0)) := Has.at Ha5 hin5 rfl
  refine OEnds.go (g' := (mkF m 32 #[.val (.ref sx), .val (.ref b2), .val (.int (4 : Int32)), .val (.ref b4), .val (.int (0 : Int32)), .unset, .unset] [(.int (own_by c0))])) (X4.baloadBytes hx (j := (0 : Int32)) (v := (.int (own_by c0))) (by rw [e4]; exact Ar5.1) (State.isArrayOf_alike hZ.alike Ar5.2.1) Ar5.2.2 hin5 hat5 (g := (mkF m 31 #[.val (.ref sx), .val (.ref b2), .val (.int (4 : Int32)), .val (.ref b4), .val (.int (0 : Int32)), .unset, .unset] [(.int (0 : Int32)), (.ref b2)])) rfl rfl (hb hby d9_31)) ?_
  obtain ⟨_, _, ⟨T6, L6, k6, n6⟩, -, X6, ⟨Lc6, hQ6, l6, y6, z6⟩, st6⟩ := Jvm.LawKit.callS X4 hx (y := (⟨"cardtalk/message/Hex", "digit", "(B)I"⟩ : MethodName)) hown (mvT hZ (hw _ (List.mem_of_getElem? (i := 76) rfl))) (mvT hZ (hw _ (List.mem_of_getElem? (i := 77) rfl))) (mvT hZ (hw _ (List.mem_of_getElem? (i := 40) rfl))) (mvT hZ (hw _ (List.mem_of_getElem? (i := 78) rfl))) (by decide) (backOf (W := 0) (rm15 l Z a0 hw [] (own_by c0) h4 n0 (Nat.le_trans (Nat.le_trans Z0 K2q.1) E4.1)) hZ (hw _ (List.mem_of_getElem? (i := 78) rfl)) (hw _ (List.mem_of_getElem? (i := 40) rfl)) (by decide) (by decide)) (g := (mkF m 32 #[.val (.ref sx), .val (.ref b2), .val (.int (4 : Int32)), .val (.ref b4), .val (.int (0 : Int32)), .unset, .unset] [(.int (own_by c0))])) rfl (by rw [hml]; rfl) (argsL := [(.int (own_by c0))]) (rest := []) (lenOf pd_10 rfl) rfl (by show 2 * 0 + _ ≤ _; exact Nat.le_of_eq rfl) (hb hby d9_32) (fun _ _ => ⟨rfl, e4, (by decide : 2 + 0 ≤ _), (by decide : 6 + 0 ≤ _)⟩)
  dsimp only [Pt.U, Pt.locs, Pt.cells, Pt.slots] at X6 l6 y6 z6 st6 hQ6
  subst l6 y6 z6
  obtain ⟨rfl, N6q, e6⟩ := hQ6
  have N6 := Fr.app N2 N6q
  refine OEnds.go (g' := (mkF m 35 #[.val (.ref sx), .val (.ref b2), .val (.int (4 : Int32)), .val (.ref b4), .val (.int (0 : Int32)), .unset, .unset] [(.int (f15 (own_by c0)))])) st6 ?_
  refine OEnds.go (g' := (mkF m 37 #[.val (.ref sx), .val (.ref b2), .val (.int (4 : Int32)), .val (.ref b4), .val (.int (0 : Int32)), .val (.int (f15 (own_by c0))), .unset] [])) (fun t k => XS.istore X6.here hx rfl (hb hby d9_35) rfl (l' := #[.val (.ref sx), .val (.ref b2), .val (.int (4 : Int32)), .val (.ref b4), .val (.int (0 : Int32)), .val (.int (f15 (own_by c0))), .unset]) rfl k) ?_
  refine OEnds.go (g' := (mkF m 38 #[.val (.ref sx), .val (.ref b2), .val (.int (4 : Int32)), .val (.ref b4), .val (.int (0 : Int32)), .val (.int (f15 (own_by c0))), .unset] [(.ref b2)])) (fun t k => XS.aloadN X6.here hx rfl (hb hby d9_37) rfl rfl k) ?_
  refine OEnds.go (g' := (mkF m 40 #[.val (.ref sx), .val (.ref b2), .val (.int (4 : Int32)), .val (.ref b4), .val (.int (0 : Int32)), .val (.int (f15 (own_by c0))), .unset] [(.int (0 : Int32)), (.ref b2)])) (fun t k => XS.iload X6.here hx rfl (hb hby d9_38) rfl k) ?_
  refine OEnds.go (g' := (mkF m 41 #[.val (.ref sx), .val (.ref b2), .val (.int (4 : Int32)), .val (.ref b4), .val (.int (0 : Int32)), .val (.int (f15 (own_by c0))), .unset] [(.int (1 : Int32)), (.int (0 : Int32)), (.ref b2)])) (fun t k => XS.iconst X6.here hx rfl (hb hby d9_40) k) ?_
  refine OEnds.go (g' := (mkF m 42 #[.val (.ref sx), .val (.ref b2), .val (.int (4 : Int32)), .val (.ref b4), .val (.int (0 : Int32)), .val (.int (f15 (own_by c0))), .unset] [(.int ((0 : Int32) + (1 : Int32))), (.ref b2)])) (fun t k => XS.iadd X6.here hx rfl (hb hby d9_41) rfl k) ?_
  rw [show ((0 : Int32) + (1 : Int32)) = (1 : Int32) from by decide]
  obtain ⟨cl7, Ar7, qa7, Sa7, Na7, Ha7, Ga7⟩ := @id _ (V2q.ext E4)
  have hin7 : ¬ ((1 : Int32) < 0 ∨ cl7.slots.size ≤ ((1 : Int32)).toNatClampNeg) := inb_of Sa7 ⟨by decide, by decide⟩
  have hat7 : cl7.slots[((1 : Int32)).toNatClampNeg]? = some (.int (own_by c1)) := Has.at Ha7 hin7 rfl
  refine OEnds.go (g' := (mkF m 43 #[.val (.ref sx), .val (.ref b2), .val (.int (4 : Int32)), .val (.ref b4), .val (.int (0 : Int32)), .val (.int (f15 (own_by c0))), .unset] [(.int (own_by c1))])) (X6.baloadBytes hx (j := (1 : Int32)) (v := (.int (own_by c1))) (by rw [e6]; exact Ar7.1) (State.isArrayOf_alike hZ.alike Ar7.2.1) Ar7.2.2 hin7 hat7 (g := (mkF m 42 #[.val (.ref sx), .val (.ref b2), .val (.int (4 : Int32)), .val (.ref b4), .val (.int (0 : Int32)), .val (.int (f15 (own_by c0))), .unset] [(.int (1 : Int32)), (.ref b2)])) rfl rfl (hb hby d9_42)) ?_
  obtain ⟨_, _, ⟨T8, L8, k8, n8⟩, -, X8, ⟨Lc8, hQ8, l8, y8, z8⟩, st8⟩ := Jvm.LawKit.callS X6 hx (y := (⟨"cardtalk/message/Hex", "digit", "(B)I"⟩ : MethodName)) hown (mvT hZ (hw _ (List.mem_of_getElem? (i := 76) rfl))) (mvT hZ (hw _ (List.mem_of_getElem? (i := 77) rfl))) (mvT hZ (hw _ (List.mem_of_getElem? (i := 40) rfl))) (mvT hZ (hw _ (List.mem_of_getElem? (i := 78) rfl))) (by decide) (backOf (W := 0) (rm15 l Z a0 hw [] (own_by c1) h4 n0 (Nat.le_trans (Nat.le_trans Z0 K2q.1) E4.1)) hZ (hw _ (List.mem_of_getElem? (i := 78) rfl)) (hw _ (List.mem_of_getElem? (i := 40) rfl)) (by decide) (by decide)) (g := (mkF m 43 #[.val (.ref sx), .val (.ref b2), .val (.int (4 : Int32)), .val (.ref b4), .val (.int (0 : Int32)), .val (.int (f15 (own_by c0))), .unset] [(.int (own_by c1))])) rfl (by rw [hml]; rfl) (argsL := [(.int (own_by c1))]) (rest := []) (lenOf pd_10 rfl) rfl (by show 2 * 0 + _ ≤ _; exact Nat.le_of_eq rfl) (hb hby d9_43) (fun _ _ => ⟨rfl, e6, (by decide : 2 + 0 ≤ _), (by decide : 6 + 0 ≤ _)⟩)
  dsimp only [Pt.U, Pt.locs, Pt.cells, Pt.slots] at X8 l8 y8 z8 st8 hQ8
  subst l8 y8 z8
  obtain ⟨rfl, N8q, e8⟩ := hQ8
  have N8 := Fr.app N6 N8q
  refine OEnds.go (g' := (mkF m 46 #[.val (.ref sx), .val (.ref b2), .val (.int (4 : Int32)), .val (.ref b4), .val (.int (0 : Int32)), .val (.int (f15 (own_by c0))), .unset] [(.int (f15 (own_by c1)))])) st8 ?_
  refine OEnds.go (g' := (mkF m 48 #[.val (.ref sx), .val (.ref b2), .val (.int (4 : Int32)), .val (.ref b4), .val (.int (0 : Int32)), .val (.int (f15 (own_by c0))), .val (.int (f15 (own_by c1)))] [])) (fun t k => XS.istore X8.here hx rfl (hb hby d9_46) rfl (l' := #[.val (.ref sx), .val (.ref b2), .val (.int (4 : Int32)), .val (.ref b4), .val (.int (0 : Int32)), .val (.int (f15 (own_by c0))), .val (.int (f15 (own_by c1)))]) rfl k) ?_
  refine OEnds.go (g' := (mkF m 50 #[.val (.ref sx), .val (.ref b2), .val (.int (4 : Int32)), .val (.ref b4), .val (.int (0 : Int32)), .val (.int (f15 (own_by c0))), .val (.int (f15 (own_by c1)))] [(.int (f15 (own_by c0)))])) (fun t k => XS.iload X8.here hx rfl (hb hby d9_48) rfl k) ?_
  refine OEnds.go (g' := (mkF m 53 #[.val (.ref sx), .val (.ref b2), .val (.int (4 : Int32)), .val (.ref b4), .val (.int (0 : Int32)), .val (.int (f15 (own_by c0))), .val (.int (f15 (own_by c1)))] [])) (fun t k => XS.ifNo X8.here hx rfl (hb hby d9_50) rfl ((if0 _ _).trans (flt (own_nl hd0 : ¬ ((f15 (own_by c0)) < (0 : Int32)))).1) k) ?_
  refine OEnds.go (g' := (mkF m 55 #[.val (.ref sx), .val (.ref b2), .val (.int (4 : Int32)), .val (.ref b4), .val (.int (0 : Int32)), .val (.int (f15 (own_by c0))), .val (.int (f15 (own_by c1)))] [(.int (f15 (own_by c1)))])) (fun t k => XS.iload X8.here hx rfl (hb hby d9_53) rfl k) ?_
  refine OEnds.go (g' := (mkF m 77 #[.val (.ref sx), .val (.ref b2), .val (.int (4 : Int32)), .val (.ref b4), .val (.int (0 : Int32)), .val (.int (f15 (own_by c0))), .val (.int (f15 (own_by c1)))] [])) (fun t k => XS.ifYes X8.here hx rfl (pc0 := 55) (pc' := 77) rfl (hb hby d9_55) rfl ((if0 _ _).trans (flt (own_nl hd1 : ¬ ((f15 (own_by c1)) < (0 : Int32)))).2.1) (by decide) (by decide) k) ?_
  refine OEnds.go (g' := (mkF m 78 #[.val (.ref sx), .val (.ref b2), .val (.int (4 : Int32)), .val (.ref b4), .val (.int (0 : Int32)), .val (.int (f15 (own_by c0))), .val (.int (f15 (own_by c1)))] [(.ref b4)])) (fun t k => XS.aloadN X8.here hx rfl (hb hby d9_77) rfl rfl k) ?_
  refine OEnds.go (g' := (mkF m 80 #[.val (.ref sx), .val (.ref b2), .val (.int (4 : Int32)), .val (.ref b4), .val (.int (0 : Int32)), .val (.int (f15 (own_by c0))), .val (.int (f15 (own_by c1)))] [(.int (0 : Int32)), (.ref b4)])) (fun t k => XS.iload X8.here hx rfl (hb hby d9_78) rfl k) ?_
  refine OEnds.go (g' := (mkF m 81 #[.val (.ref sx), .val (.ref b2), .val (.int (4 : Int32)), .val (.ref b4), .val (.int (0 : Int32)), .val (.int (f15 (own_by c0))), .val (.int (f15 (own_by c1)))] [(.int (2 : Int32)), (.int (0 : Int32)), (.ref b4)])) (fun t k => XS.iconst X8.here hx rfl (hb hby d9_80) k) ?_
  refine OEnds.go (g' := (mkF m 82 #[.val (.ref sx), .val (.ref b2), .val (.int (4 : Int32)), .val (.ref b4), .val (.int (0 : Int32)), .val (.int (f15 (own_by c0))), .val (.int (f15 (own_by c1)))] [(.int ((0 : Int32) / (2 : Int32))), (.ref b4)])) (fun t k => XS.idiv X8.here hx rfl (hb hby d9_81) rfl (by decide) k) ?_
  rw [show ((0 : Int32) / (2 : Int32)) = (0 : Int32) from by decide]
  refine OEnds.go (g' := (mkF m 84 #[.val (.ref sx), .val (.ref b2), .val (.int (4 : Int32)), .val (.ref b4), .val (.int (0 : Int32)), .val (.int (f15 (own_by c0))), .val (.int (f15 (own_by c1)))] [(.int (f15 (own_by c0))), (.int (0 : Int32)), (.ref b4)])) (fun t k => XS.iload X8.here hx rfl (hb hby d9_82) rfl k) ?_
  refine OEnds.go (g' := (mkF m 85 #[.val (.ref sx), .val (.ref b2), .val (.int (4 : Int32)), .val (.ref b4), .val (.int (0 : Int32)), .val (.int (f15 (own_by c0))), .val (.int (f15 (own_by c1)))] [(.int (4 : Int32)), (.int (f15 (own_by c0))), (.int (0 : Int32)), (.ref b4)])) (fun t k => XS.iconst X8.here hx rfl (hb hby d9_84) k) ?_
  refine OEnds.go (g' := (mkF m 86 #[.val (.ref sx), .val (.ref b2), .val (.int (4 : Int32)), .val (.ref b4), .val (.int (0 : Int32)), .val (.int (f15 (own_by c0))), .val (.int (f15 (own_by c1)))] [(.int ((f15 (own_by c0)) <<< ((4 : Int32) &&& 31))), (.int (0 : Int32)), (.ref b4)])) (fun t k => XS.ishl X8.here hx rfl (hb hby d9_85) rfl k) ?_
  refine OEnds.go (g' := (mkF m 88 #[.val (.ref sx), .val (.ref b2), .val (.int (4 : Int32)), .val (.ref b4), .val (.int (0 : Int32)), .val (.int (f15 (own_by c0))), .val (.int (f15 (own_by c1)))] [(.int (f15 (own_by c1))), (.int ((f15 (own_by c0)) <<< ((4 : Int32) &&& 31))), (.int (0 : Int32)), (.ref b4)])) (fun t k => XS.iload X8.here hx rfl (hb hby d9_86) rfl k) ?_
  refine OEnds.go (g' := (mkF m 89 #[.val (.ref sx), .val (.ref b2), .val (.int (4 : Int32)), .val (.ref b4), .val (.int (0 : Int32)), .val (.int (f15 (own_by c0))), .val (.int (f15 (own_by c1)))] [(.int (((f15 (own_by c0)) <<< ((4 : Int32) &&& 31)) ||| (f15 (own_by c1)))), (.int (0 : Int32)), (.ref b4)])) (fun t k => XS.ior X8.here hx rfl (hb hby d9_88) rfl k) ?_
  refine OEnds.go (g' := (mkF m 90 #[.val (.ref sx), .val (.ref b2), .val (.int (4 : Int32)), .val (.ref b4), .val (.int (0 : Int32)), .val (.int (f15 (own_by c0))), .val (.int (f15 (own_by c1)))] [(.int ((((f15 (own_by c0)) <<< ((4 : Int32) &&& 31)) ||| (f15 (own_by c1))).toInt8.toInt32)), (.int (0 : Int32)), (.ref b4)])) (fun t k => XS.i2b X8.here hx rfl (hb hby d9_89) rfl k) ?_
  obtain ⟨cl9, Ar9, qa9, Sa9, Na9, Ha9, Ga9⟩ := @id _ V_b4
  have hin9 : ¬ ((0 : Int32) < 0 ∨ cl9.slots.size ≤ ((0 : Int32)).toNatClampNeg) := inb_of Sa9 ⟨by decide, by decide⟩
  obtain ⟨T10, h10, X10, e10, W10, st10⟩ := stB X8 hx hZ e8 Ar9 (j := (0 : Int32)) hin9 (g := (mkF m 90 #[.val (.ref sx), .val (.ref b2), .val (.int (4 : Int32)), .val (.ref b4), .val (.int (0 : Int32)), .val (.int (f15 (own_by c0))), .val (.int (f15 (own_by c1)))] [(.int ((((f15 (own_by c0)) <<< ((4 : Int32) &&& 31)) ||| (f15 (own_by c1))).toInt8.toInt32)), (.int (0 : Int32)), (.ref b4)])) rfl rfl (hb hby d9_90)
  have N10 := Fr.snoc X10 N8 g_b4
  have K10 : Keep h0 h10 [] := K4.wr W10 (Or.inr sz_b4)
  have V10_b4 : Arv Z h10 b4 k4 .byte (2 : Int32) [(.int (((((f15 (own_by c0)) <<< ((4 : Int32) &&& 31)) ||| (f15 (own_by c1))).toInt8.toInt32).toInt8.toInt32)), (.int (0 : Int32))] (.int (0 : Int32)) := Arv.set Ar9 qa9 Sa9 Na9 Ha9 Ga9 (fits_nar_byte _) W10 0 rfl (Nat.le_of_ble_eq_true rfl)
  refine OEnds.go (g' := (mkF m 91 #[.val (.ref sx), .val (.ref b2), .val (.int (4 : Int32)), .val (.ref b4), .val (.int (0 : Int32)), .val (.int (f15 (own_by c0))), .val (.int (f15 (own_by c1)))] [])) st10 ?_
  refine OEnds.go (g' := (mkF m 94 #[.val (.ref sx), .val (.ref b2), .val (.int (4 : Int32)), .val (.ref b4), .val (.int ((0 : Int32) + (2 : Int32))), .val (.int (f15 (own_by c0))), .val (.int (f15 (own_by c1)))] [])) (fun t k => XS.iinc X10.here hx rfl (hb hby d9_91) rfl (l' := #[.val (.ref sx), .val (.ref b2), .val (.int (4 : Int32)), .val (.ref b4), .val (.int ((0 : Int32) + (2 : Int32))), .val (.int (f15 (own_by c0))), .val (.int (f15 (own_by c1)))]) rfl k) ?_
  rw [show ((0 : Int32) + (2 : Int32)) = (2 : Int32) from by decide]
  refine OEnds.go (g' := (mkF m 20 #[.val (.ref sx), .val (.ref b2), .val (.int (4 : Int32)), .val (.ref b4), .val (.int (2 : Int32)), .val (.int (f15 (own_by c0))), .val (.int (f15 (own_by c1)))] [])) (fun t k => XS.goto X10.here hx rfl (pc0 := 94) (pc' := 20) rfl (hb hby d9_94) (by decide) (by decide) k) ?_
  refine OEnds.go (g' := (mkF m 22 #[.val (.ref sx), .val (.ref b2), .val (.int (4 : Int32)), .val (.ref b4), .val (.int (2 : Int32)), .val (.int (f15 (own_by c0))), .val (.int (f15 (own_by c1)))] [(.int (2 : Int32))])) (fun t k => XS.iload X10.here hx rfl (hb hby d9_20) rfl k) ?_
  refine OEnds.go (g' := (mkF m 23 #[.val (.ref sx), .val (.ref b2), .val (.int (4 : Int32)), .val (.ref b4), .val (.int (2 : Int32)), .val (.int (f15 (own_by c0))), .val (.int (f15 (own_by c1)))] [(.int (1 : Int32)), (.int (2 : Int32))])) (fun t k => XS.iconst X10.here hx rfl (hb hby d9_22) k) ?_
  refine OEnds.go (g' := (mkF m 24 #[.val (.ref sx), .val (.ref b2), .val (.int (4 : Int32)), .val (.ref b4), .val (.int (2 : Int32)), .val (.int (f15 (own_by c0))), .val (.int (f15 (own_by c1)))] [(.int ((2 : Int32) + (1 : Int32)))])) (fun t k => XS.iadd X10.here hx rfl (hb hby d9_23) rfl k) ?_
  rw [show ((2 : Int32) + (1 : Int32)) = (3 : Int32) from by decide]
  refine OEnds.go (g' := (mkF m 25 #[.val (.ref sx), .val (.ref b2), .val (.int (4 : Int32)), .val (.ref b4), .val (.int (2 : Int32)), .val (.int (f15 (own_by c0))), .val (.int (f15 (own_by c1)))] [(.int (4 : Int32)), (.int (3 : Int32))])) (fun t k => XS.iloadN X10.here hx rfl (hb hby d9_24) rfl k) ?_
  refine OEnds.go (g' := (mkF m 28 #[.val (.ref sx), .val (.ref b2), .val (.int (4 : Int32)), .val (.ref b4), .val (.int (2 : Int32)), .val (.int (f15 (own_by c0))), .val (.int (f15 (own_by c1)))] [])) (fun t k => XS.icmpNo X10.here hx rfl (hb hby d9_25) rfl (tlt (by decide : ((3 : Int32) < (4 : Int32)))).2.1 k) ?_
  refine OEnds.go (g' := (mkF m 29 #[.val (.ref sx), .val (.ref b2), .val (.int (4 : Int32)), .val (.ref b4), .val (.int (2 : Int32)), .val (.int (f15 (own_by c0))), .val (.int (f15 (own_by c1)))] [(.ref b2)])) (fun t k => XS.aloadN X10.here hx rfl (hb hby d9_28) rfl rfl k) ?_
  refine OEnds.go (g' := (mkF m 31 #[.val (.ref sx), .val (.ref b2), .val (.int (4 : Int32)), .val (.ref b4), .val (.int (2 : Int32)), .val (.int (f15 (own_by c0))), .val (.int (f15 (own_by c1)))] [(.int (2 : Int32)), (.ref b2)])) (fun t k => XS.iload X10.here hx rfl (hb hby d9_29) rfl k) ?_
  obtain ⟨cl11, Ar11, qa11, Sa11, Na11, Ha11, Ga11⟩ := @id _ ((V2q.ext E4).other W10 (Nat.ne_of_lt (Nat.lt_of_lt_of_le V2q.lt (Nat.le_of_eq g4.symm))))
  have hin11 : ¬ ((2 : Int32) < 0 ∨ cl11.slots.size ≤ ((2 : Int32)).toNatClampNeg) := inb_of Sa11 ⟨by decide, by decide⟩
  have hat11 : cl11.slots[((2 : Int32)).toNatClampNeg]? = some (.int (own_by c2)) := Has.at Ha11 hin11 rfl
  refine OEnds.go (g' := (mkF m 32 #[.val (.ref sx), .val (.ref b2), .val (.int (4 : Int32)), .val (.ref b4), .val (.int (2 : Int32)), .val (.int (f15 (own_by c0))), .val (.int (f15 (own_by c1)))] [(.int (own_by c2))])) (X10.baloadBytes hx (j := (2 : Int32)) (v := (.int (own_by c2))) (by rw [e10]; exact Ar11.1) (State.isArrayOf_alike hZ.alike Ar11.2.1) Ar11.2.2 hin11 hat11 (g := (mkF m 31 #[.val (.ref sx), .val (.ref b2), .val (.int (4 : Int32)), .val (.ref b4), .val (.int (2 : Int32)), .val (.int (f15 (own_by c0))), .val (.int (f15 (own_by c1)))] [(.int (2 : Int32)), (.ref b2)])) rfl rfl (hb hby d9_31)) ?_
  obtain ⟨_, _, ⟨T12, L12, k12, n12⟩, -, X12, ⟨Lc12, hQ12, l12, y12, z12⟩, st12⟩ := Jvm.LawKit.callS X10 hx (y := (⟨"cardtalk/message/Hex", "digit", "(B)I"⟩ : MethodName)) hown (mvT hZ (hw _ (List.mem_of_getElem? (i := 76) rfl))) (mvT hZ (hw _ (List.mem_of_getElem? (i := 77) rfl))) (mvT hZ (hw _ (List.mem_of_getElem? (i := 40) rfl))) (mvT hZ (hw _ (List.mem_of_getElem? (i := 78) rfl))) (by decide) (backOf (W := 0) (rm15 l Z a0 hw [] (own_by c2) h10 n0 (Nat.le_trans (Nat.le_trans (Nat.le_trans Z0 K2q.1) E4.1) (Nat.le_of_eq W10.size.symm))) hZ (hw _ (List.mem_of_getElem? (i := 78) rfl)) (hw _ (List.mem_of_getElem? (i := 40) rfl)) (by decide) (by decide)) (g := (mkF m 32 #[.val (.ref sx), .val (.ref b2), .val (.int (4 : Int32)), .val (.ref b4), .val (.int (2 : Int32)), .val (.int (f15 (own_by c0))), .val (.int (f15 (own_by c1)))] [(.int (own_by c2))])) rfl (by rw [hml]; rfl) (argsL := [(.int (own_by c2))]) (rest := []) (lenOf pd_10 rfl) rfl (by show 2 * 0 + _ ≤ _; exact Nat.le_of_eq rfl) (hb hby d9_32) (fun _ _ => ⟨rfl, e10, (by decide : 2 + 0 ≤ _), (by decide : 6 + 0 ≤ _)⟩)
  dsimp only [Pt.U, Pt.locs, Pt.cells, Pt.slots] at X12 l12 y12 z12 st12 hQ12
  subst l12 y12 z12
  obtain ⟨rfl, N12q, e12⟩ := hQ12
  have N12 := Fr.app N10 N12q
  refine OEnds.go (g' := (mkF m 35 #[.val (.ref sx), .val (.ref b2), .val (.int (4 : Int32)), .val (.ref b4), .val (.int (2 : Int32)), .val (.int (f15 (own_by c0))), .val (.int (f15 (own_by c1)))] [(.int (f15 (own_by c2)))])) st12 ?_
  refine OEnds.go (g' := (mkF m 37 #[.val (.ref sx), .val (.ref b2), .val (.int (4 : Int32)), .val (.ref b4), .val (.int (2 : Int32)), .val (.int (f15 (own_by c2))), .val (.int (f15 (own_by c1)))] [])) (fun t k => XS.istore X12.here hx rfl (hb hby d9_35) rfl (l' := #[.val (.ref sx), .val (.ref b2), .val (.int (4 : Int32)), .val (.ref b4), .val (.int (2 : Int32)), .val (.int (f15 (own_by c2))), .val (.int (f15 (own_by c1)))]) rfl k) ?_
  refine OEnds.go (g' := (mkF m 38 #[.val (.ref sx), .val (.ref b2), .val (.int (4 : Int32)), .val (.ref b4), .val (.int (2 : Int32)), .val (.int (f15 (own_by c2))), .val (.int (f15 (own_by c1)))] [(.ref b2)])) (fun t k => XS.aloadN X12.here hx rfl (hb hby d9_37) rfl rfl k) ?_
  refine OEnds.go (g' := (mkF m 40 #[.val (.ref sx), .val (.ref b2), .val (.int (4 : Int32)), .val (.ref b4), .val (.int (2 : Int32)), .val (.int (f15 (own_by c2))), .val (.int (f15 (own_by c1)))] [(.int (2 : Int32)), (.ref b2)])) (fun t k => XS.iload X12.here hx rfl (hb hby d9_38) rfl k) ?_
  refine OEnds.go (g' := (mkF m 41 #[.val (.ref sx), .val (.ref b2), .val (.int (4 : Int32)), .val (.ref b4), .val (.int (2 : Int32)), .val (.int (f15 (own_by c2))), .val (.int (f15 (own_by c1)))] [(.int (1 : Int32)), (.int (2 : Int32)), (.ref b2)])) (fun t k => XS.iconst X12.here hx rfl (hb hby d9_40) k) ?_
  refine OEnds.go (g' := (mkF m 42 #[.val (.ref sx), .val (.ref b2), .val (.int (4 : Int32)), .val (.ref b4), .val (.int (2 : Int32)), .val (.int (f15 (own_by c2))), .val (.int (f15 (own_by c1)))] [(.int ((2 : Int32) + (1 : Int32))), (.ref b2)])) (fun t k => XS.iadd X12.here hx rfl (hb hby d9_41) rfl k) ?_
  rw [show ((2 : Int32) + (1 : Int32)) = (3 : Int32) from by decide]
  obtain ⟨cl13, Ar13, qa13, Sa13, Na13, Ha13, Ga13⟩ := @id _ ((V2q.ext E4).other W10 (Nat.ne_of_lt (Nat.lt_of_lt_of_le V2q.lt (Nat.le_of_eq g4.symm))))
  have hin13 : ¬ ((3 : Int32) < 0 ∨ cl13.slots.size ≤ ((3 : Int32)).toNatClampNeg) := inb_of Sa13 ⟨by decide, by decide⟩
  have hat13 : cl13.slots[((3 : Int32)).toNatClampNeg]? = some (.int (own_by c3)) := Has.at Ha13 hin13 rfl
  refine OEnds.go (g' := (mkF m 43 #[.val (.ref sx), .val (.ref b2), .val (.int (4 : Int32)), .val (.ref b4), .val (.int (2 : Int32)), .val (.int (f15 (own_by c2))), .val (.int (f15 (own_by c1)))] [(.int (own_by c3))])) (X12.baloadBytes hx (j := (3 : Int32)) (v := (.int (own_by c3))) (by rw [e12]; exact Ar13.1) (State.isArrayOf_alike hZ.alike Ar13.2.1) Ar13.2.2 hin13 hat13 (g := (mkF m 42 #[.val (.ref sx), .val (.ref b2), .val (.int (4 : Int32)), .val (.ref b4), .val (.int (2 : Int32)), .val (.int (f15 (own_by c2))), .val (.int (f15 (own_by c1)))] [(.int (3 : Int32)), (.ref b2)])) rfl rfl (hb hby d9_42)) ?_
  obtain ⟨_, _, ⟨T14, L14, k14, n14⟩, -, X14, ⟨Lc14, hQ14, l14, y14, z14⟩, st14⟩ := Jvm.LawKit.callS X12 hx (y := (⟨"cardtalk/message/Hex", "digit", "(B)I"⟩ : MethodName)) hown (mvT hZ (hw _ (List.mem_of_getElem? (i := 76) rfl))) (mvT hZ (hw _ (List.mem_of_getElem? (i := 77) rfl))) (mvT hZ (hw _ (List.mem_of_getElem? (i := 40) rfl))) (mvT hZ (hw _ (List.mem_of_getElem? (i := 78) rfl))) (by decide) (backOf (W := 0) (rm15 l Z a0 hw [] (own_by c3) h10 n0 (Nat.le_trans (Nat.le_trans (Nat.le_trans Z0 K2q.1) E4.1) (Nat.le_of_eq W10.size.symm))) hZ (hw _ (List.mem_of_getElem? (i := 78) rfl)) (hw _ (List.mem_of_getElem? (i := 40) rfl)) (by decide) (by decide)) (g := (mkF m 43 #[.val (.ref sx), .val (.ref b2), .val (.int (4 : Int32)), .val (.ref b4), .val (.int (2 : Int32)), .val (.int (f15 (own_by c2))), .val (.int (f15 (own_by c1)))] [(.int (own_by c3))])) rfl (by rw [hml]; rfl) (argsL := [(.int (own_by c3))]) (rest := []) (lenOf pd_10 rfl) rfl (by show 2 * 0 + _ ≤ _; exact Nat.le_of_eq rfl) (hb hby d9_43) (fun _ _ => ⟨rfl, e12, (by decide : 2 + 0 ≤ _), (by decide : 6 + 0 ≤ _)⟩)
  dsimp only [Pt.U, Pt.locs, Pt.cells, Pt.slots] at X14 l14 y14 z14 st14 hQ14
  subst l14 y14 z14
  obtain ⟨rfl, N14q, e14⟩ := hQ14
  have N14 := Fr.app N12 N14q
  refine OEnds.go (g' := (mkF m 46 #[.val (.ref sx), .val (.ref b2), .val (.int (4 : Int32)), .val (.ref b4), .val (.int (2 : Int32)), .val (.int (f15 (own_by c2))), .val (.int (f15 (own_by c1)))] [(.int (f15 (own_by c3)))])) st14 ?_
  refine OEnds.go (g' := (mkF m 48 #[.val (.ref sx), .val (.ref b2), .val (.int (4 : Int32)), .val (.ref b4), .val (.int (2 : Int32)), .val (.int (f15 (own_by c2))), .val (.int (f15 (own_by c3)))] [])) (fun t k => XS.istore X14.here hx rfl (hb hby d9_46) rfl (l' := #[.val (.ref sx), .val (.ref b2), .val (.int (4 : Int32)), .val (.ref b4), .val (.int (2 : Int32)), .val (.int (f15 (own_by c2))), .val (.int (f15 (own_by c3)))]) rfl k) ?_
  refine OEnds.go (g' := (mkF m 50 #[.val (.ref sx), .val (.ref b2), .val (.int (4 : Int32)), .val (.ref b4), .val (.int (2 : Int32)), .val (.int (f15 (own_by c2))), .val (.int (f15 (own_by c3)))] [(.int (f15 (own_by c2)))])) (fun t k => XS.iload X14.here hx rfl (hb hby d9_48) rfl k) ?_
  refine OEnds.go (g' := (mkF m 53 #[.val (.ref sx), .val (.ref b2), .val (.int (4 : Int32)), .val (.ref b4), .val (.int (2 : Int32)), .val (.int (f15 (own_by c2))), .val (.int (f15 (own_by c3)))] [])) (fun t k => XS.ifNo X14.here hx rfl (hb hby d9_50) rfl ((if0 _ _).trans (flt (own_nl hd2 : ¬ ((f15 (own_by c2)) < (0 : Int32)))).1) k) ?_
  refine OEnds.go (g' := (mkF m 55 #[.val (.ref sx), .val (.ref b2), .val (.int (4 : Int32)), .val (.ref b4), .val (.int (2 : Int32)), .val (.int (f15 (own_by c2))), .val (.int (f15 (own_by c3)))] [(.int (f15 (own_by c3)))])) (fun t k => XS.iload X14.here hx rfl (hb hby d9_53) rfl k) ?_
  refine OEnds.go (g' := (mkF m 77 #[.val (.ref sx), .val (.ref b2), .val (.int (4 : Int32)), .val (.ref b4), .val (.int (2 : Int32)), .val (.int (f15 (own_by c2))), .val (.int (f15 (own_by c3)))] [])) (fun t k => XS.ifYes X14.here hx rfl (pc0 := 55) (pc' := 77) rfl (hb hby d9_55) rfl ((if0 _ _).trans (flt (own_nl hd3 : ¬ ((f15 (own_by c3)) < (0 : Int32)))).2.1) (by decide) (by decide) k) ?_
  refine OEnds.go (g' := (mkF m 78 #[.val (.ref sx), .val (.ref b2), .val (.int (4 : Int32)), .val (.ref b4), .val (.int (2 : Int32)), .val (.int (f15 (own_by c2))), .val (.int (f15 (own_by c3)))] [(.ref b4)])) (fun t k => XS.aloadN X14.here hx rfl (hb hby d9_77) rfl rfl k) ?_
  refine OEnds.go (g' := (mkF m 80 #[.val (.ref sx), .val (.ref b2), .val (.int (4 : Int32)), .val (.ref b4), .val (.int (2 : Int32)), .val (.int (f15 (own_by c2))), .val (.int (f15 (own_by c3)))] [(.int (2 : Int32)), (.ref b4)])) (fun t k => XS.iload X14.here hx rfl (hb hby d9_78) rfl k) ?_
  refine OEnds.go (g' := (mkF m 81 #[.val (.ref sx), .val (.ref b2), .val (.int (4 : Int32)), .val (.ref b4), .val (.int (2 : Int32)), .val (.int (f15 (own_by c2))), .val (.int (f15 (own_by c3)))] [(.int (2 : Int32)), (.int (2 : Int32)), (.ref b4)])) (fun t k => XS.iconst X14.here hx rfl (hb hby d9_80) k) ?_
  refine OEnds.go (g' := (mkF m 82 #[.val (.ref sx), .val (.ref b2), .val (.int (4 : Int32)), .val (.ref b4), .val (.int (2 : Int32)), .val (.int (f15 (own_by c2))), .val (.int (f15 (own_by c3)))] [(.int ((2 : Int32) / (2 : Int32))), (.ref b4)])) (fun t k => XS.idiv X14.here hx rfl (hb hby d9_81) rfl (by decide) k) ?_
  rw [show ((2 : Int32) / (2 : Int32)) = (1 : Int32) from by decide]
  refine OEnds.go (g' := (mkF m 84 #[.val (.ref sx), .val (.ref b2), .val (.int (4 : Int32)), .val (.ref b4), .val (.int (2 : Int32)), .val (.int (f15 (own_by c2))), .val (.int (f15 (own_by c3)))] [(.int (f15 (own_by c2))), (.int (1 : Int32)), (.ref b4)])) (fun t k => XS.iload X14.here hx rfl (hb hby d9_82) rfl k) ?_
  refine OEnds.go (g' := (mkF m 85 #[.val (.ref sx), .val (.ref b2), .val (.int (4 : Int32)), .val (.ref b4), .val (.int (2 : Int32)), .val (.int (f15 (own_by c2))), .val (.int (f15 (own_by c3)))] [(.int (4 : Int32)), (.int (f15 (own_by c2))), (.int (1 : Int32)), (.ref b4)])) (fun t k => XS.iconst X14.here hx rfl (hb hby d9_84) k) ?_
  refine OEnds.go (g' := (mkF m 86 #[.val (.ref sx), .val (.ref b2), .val (.int (4 : Int32)), .val (.ref b4), .val (.int (2 : Int32)), .val (.int (f15 (own_by c2))), .val (.int (f15 (own_by c3)))] [(.int ((f15 (own_by c2)) <<< ((4 : Int32) &&& 31))), (.int (1 : Int32)), (.ref b4)])) (fun t k => XS.ishl X14.here hx rfl (hb hby d9_85) rfl k) ?_
  refine OEnds.go (g' := (mkF m 88 #[.val (.ref sx), .val (.ref b2), .val (.int (4 : Int32)), .val (.ref b4), .val (.int (2 : Int32)), .val (.int (f15 (own_by c2))), .val (.int (f15 (own_by c3)))] [(.int (f15 (own_by c3))), (.int ((f15 (own_by c2)) <<< ((4 : Int32) &&& 31))), (.int (1 : Int32)), (.ref b4)])) (fun t k => XS.iload X14.here hx rfl (hb hby d9_86) rfl k) ?_
  refine OEnds.go (g' := (mkF m 89 #[.val (.ref sx), .val (.ref b2), .val (.int (4 : Int32)), .val (.ref b4), .val (.int (2 : Int32)), .val (.int (f15 (own_by c2))), .val (.int (f15 (own_by c3)))] [(.int (((f15 (own_by c2)) <<< ((4 : Int32) &&& 31)) ||| (f15 (own_by c3)))), (.int (1 : Int32)), (.ref b4)])) (fun t k => XS.ior X14.here hx rfl (hb hby d9_88) rfl k) ?_
  refine OEnds.go (g' := (mkF m 90 #[.val (.ref sx), .val (.ref b2), .val (.int (4 : Int32)), .val (.ref b4), .val (.int (2 : Int32)), .val (.int (f15 (own_by c2))), .val (.int (f15 (own_by c3)))] [(.int ((((f15 (own_by c2)) <<< ((4 : Int32) &&& 31)) ||| (f15 (own_by c3))).toInt8.toInt32)), (.int (1 : Int32)), (.ref b4)])) (fun t k => XS.i2b X14.here hx rfl (hb hby d9_89) rfl k) ?_
  obtain ⟨cl15, Ar15, qa15, Sa15, Na15, Ha15, Ga15⟩ := @id _ V10_b4
  have hin15 : ¬ ((1 : Int32) < 0 ∨ cl15.slots.size ≤ ((1 : Int32)).toNatClampNeg) := inb_of Sa15 ⟨by decide, by decide⟩
  obtain ⟨T16, h16, X16, e16, W16, st16⟩ := stB X14 hx hZ e14 Ar15 (j := (1 : Int32)) hin15 (g := (mkF m 90 #[.val (.ref sx), .val (.ref b2), .val (.int (4 : Int32)), .val (.ref b4), .val (.int (2 : Int32)), .val (.int (f15 (own_by c2))), .val (.int (f15 (own_by c3)))] [(.int ((((f15 (own_by c2)) <<< ((4 : Int32) &&& 31)) ||| (f15 (own_by c3))).toInt8.toInt32)), (.int (1 : Int32)), (.ref b4)])) rfl rfl (hb hby d9_90)
  have N16 := Fr.snoc X16 N14 g_b4
  have K16 : Keep h0 h16 [] := K10.wr W16 (Or.inr sz_b4)
  have V16_b4 : Arv Z h16 b4 k4 .byte (2 : Int32) [(.int (((((f15 (own_by c0)) <<< ((4 : Int32) &&& 31)) ||| (f15 (own_by c1))).toInt8.toInt32).toInt8.toInt32)), (.int (((((f15 (own_by c2)) <<< ((4 : Int32) &&& 31)) ||| (f15 (own_by c3))).toInt8.toInt32).toInt8.toInt32))] (.int (0 : Int32)) := Arv.set Ar15 qa15 Sa15 Na15 Ha15 Ga15 (fits_nar_byte _) W16 1 rfl (Nat.le_of_ble_eq_true rfl)
  refine OEnds.go (g' := (mkF m 91 #[.val (.ref sx), .val (.ref b2), .val (.int (4 : Int32)), .val (.ref b4), .val (.int (2 : Int32)), .val (.int (f15 (own_by c2))), .val (.int (f15 (own_by c3)))] [])) st16 ?_
  refine OEnds.go (g' := (mkF m 94 #[.val (.ref sx), .val (.ref b2), .val (.int (4 : Int32)), .val (.ref b4), .val (.int ((2 : Int32) + (2 : Int32))), .val (.int (f15 (own_by c2))), .val (.int (f15 (own_by c3)))] [])) (fun t k => XS.iinc X16.here hx rfl (hb hby d9_91) rfl (l' := #[.val (.ref sx), .val (.ref b2), .val (.int (4 : Int32)), .val (.ref b4), .val (.int ((2 : Int32) + (2 : Int32))), .val (.int (f15 (own_by c2))), .val (.int (f15 (own_by c3)))]) rfl k) ?_
  rw [show ((2 : Int32) + (2 : Int32)) = (4 : Int32) from by decide]
  refine OEnds.go (g' := (mkF m 20 #[.val (.ref sx), .val (.ref b2), .val (.int (4 : Int32)), .val (.ref b4), .val (.int (4 : Int32)), .val (.int (f15 (own_by c2))), .val (.int (f15 (own_by c3)))] [])) (fun t k => XS.goto X16.here hx rfl (pc0 := 94) (pc' := 20) rfl (hb hby d9_94) (by decide) (by decide) k) ?_
  refine OEnds.go (g' := (mkF m 22 #[.val (.ref sx), .val (.ref b2), .val (.int (4 : Int32)), .val (.ref b4), .val (.int (4 : Int32)), .val (.int (f15 (own_by c2))), .val (.int (f15 (own_by c3)))] [(.int (4 : Int32))])) (fun t k => XS.iload X16.here hx rfl (hb hby d9_20) rfl k) ?_
  refine OEnds.go (g' := (mkF m 23 #[.val (.ref sx), .val (.ref b2), .val (.int (4 : Int32)), .val (.ref b4), .val (.int (4 : Int32)), .val (.int (f15 (own_by c2))), .val (.int (f15 (own_by c3)))] [(.int (1 : Int32)), (.int (4 : Int32))])) (fun t k => XS.iconst X16.here hx rfl (hb hby d9_22) k) ?_
  refine OEnds.go (g' := (mkF m 24 #[.val (.ref sx), .val (.ref b2), .val (.int (4 : Int32)), .val (.ref b4), .val (.int (4 : Int32)), .val (.int (f15 (own_by c2))), .val (.int (f15 (own_by c3)))] [(.int ((4 : Int32) + (1 : Int32)))])) (fun t k => XS.iadd X16.here hx rfl (hb hby d9_23) rfl k) ?_
  rw [show ((4 : Int32) + (1 : Int32)) = (5 : Int32) from by decide]
  refine OEnds.go (g' := (mkF m 25 #[.val (.ref sx), .val (.ref b2), .val (.int (4 : Int32)), .val (.ref b4), .val (.int (4 : Int32)), .val (.int (f15 (own_by c2))), .val (.int (f15 (own_by c3)))] [(.int (4 : Int32)), (.int (5 : Int32))])) (fun t k => XS.iloadN X16.here hx rfl (hb hby d9_24) rfl k) ?_
  refine OEnds.go (g' := (mkF m 97 #[.val (.ref sx), .val (.ref b2), .val (.int (4 : Int32)), .val (.ref b4), .val (.int (4 : Int32)), .val (.int (f15 (own_by c2))), .val (.int (f15 (own_by c3)))] [])) (fun t k => XS.icmpYes X16.here hx rfl (pc0 := 25) (pc' := 97) rfl (hb hby d9_25) rfl (flt (by decide : ¬ ((5 : Int32) < (4 : Int32)))).2.1 (by decide) (by decide) k) ?_
  refine OEnds.go (g' := (mkF m 98 #[.val (.ref sx), .val (.ref b2), .val (.int (4 : Int32)), .val (.ref b4), .val (.int (4 : Int32)), .val (.int (f15 (own_by c2))), .val (.int (f15 (own_by c3)))] [(.int (4 : Int32))])) (fun t k => XS.iloadN X16.here hx rfl (hb hby d9_97) rfl k) ?_
  refine OEnds.go (g' := (mkF m 99 #[.val (.ref sx), .val (.ref b2), .val (.int (4 : Int32)), .val (.ref b4), .val (.int (4 : Int32)), .val (.int (f15 (own_by c2))), .val (.int (f15 (own_by c3)))] [(.int (2 : Int32)), (.int (4 : Int32))])) (fun t k => XS.iconst X16.here hx rfl (hb hby d9_98) k) ?_
  refine OEnds.go (g' := (mkF m 100 #[.val (.ref sx), .val (.ref b2), .val (.int (4 : Int32)), .val (.ref b4), .val (.int (4 : Int32)), .val (.int (f15 (own_by c2))), .val (.int (f15 (own_by c3)))] [(.int ((4 : Int32) % (2 : Int32)))])) (fun t k => iremM X16 hx rfl (hb hby d9_99) rfl (by decide) k) ?_
  rw [show ((4 : Int32) % (2 : Int32)) = (0 : Int32) from by decide]
  refine OEnds.go (g' := (mkF m 136 #[.val (.ref sx), .val (.ref b2), .val (.int (4 : Int32)), .val (.ref b4), .val (.int (4 : Int32)), .val (.int (f15 (own_by c2))), .val (.int (f15 (own_by c3)))] [])) (fun t k => XS.ifYes X16.here hx rfl (pc0 := 100) (pc' := 136) rfl (hb hby d9_100) rfl ((if0 _ _).trans (teq (by decide : ((0 : Int32) = (0 : Int32)))).1) (by decide) (by decide) k) ?_
  refine OEnds.go (g' := (mkF m 137 #[.val (.ref sx), .val (.ref b2), .val (.int (4 : Int32)), .val (.ref b4), .val (.int (4 : Int32)), .val (.int (f15 (own_by c2))), .val (.int (f15 (own_by c3)))] [(.ref b4)])) (fun t k => XS.aloadN X16.here hx rfl (hb hby d9_136) rfl rfl k) ?_
  exact OEnds.outA X16 Bd.notSynchronized hx Bd.returns rfl rfl (hb hby d9_137) (by rw [e16]; exact ⟨b4, k4, rfl, N16, K16, V16_b4⟩) (by decide) (by decide)
theorem ef_rm1 (m : MethodId) (x0 : Int32) : entryFrame m #[(.int x0)] 1 = mkF m 0 #[.val (.int x0)] [] := by first | (simp [entryFrame, mkF, argsToLocals, Value.category]; done) | rfl
def f1 (p0 : Int32) : Int32 := ((p0 &&& (2147483647 : Int32)) % (22 : Int32))
def Q_rm1 (Z : State) (p0 : Int32) (h0 : Heap) (n0 : Nat) (v : Option Value) (h : Heap) (L : List Loc) : Prop := v = some (.int (f1 p0)) ∧ Fr n0 L ∧ h = h0
set_option maxRecDepth 65536 in
set_option maxHeartbeats 40000000 in
theorem rm1 (l : Launch) (Z : State) (a0 : Array Value) (hw : ∀ d ∈ tables_1, d.before a0 Z = true) (ws : List Jvm.Cond) (p0 : Int32) (h0 : Heap) (n0 : Nat) (Z0 : n0 ≤ h0.size) :
    MetFree l (⟨"cardtalk/message/HexDigitPinLaw", "pick", "(I)I"⟩ : MethodName) (head1 (Jvm.Cond.code (⟨"cardtalk/message/HexDigitPinLaw", "pick", "(I)I"⟩ : MethodName) method_3_code 1 (some .int) :: ws) ({ frames := 0, cells := 0, slots := 0, locals := 0 } : Room)) (fun aa_ U => aa_ = #[(.int p0)] ∧ Z.Warmed39 U.vm ∧ U.heap = h0) (fun _ _ _ _ _ => True) (fun _ U o U' => ∃ v L, o = .returned v ∧ Q_rm1 Z p0 h0 n0 v U'.heap L ∧ FrameEnd U o U' L ({ frames := 0, cells := 0, slots := 0, locals := 0 } : Room).cells ({ frames := 0, cells := 0, slots := 0, locals := 0 } : Room).slots) := by
  refine MetFree.of_bodySF (plainFor_of_name pn_3) hisR ?_
  intro p e s m args below meth c s₁ Bd hml0 hP hK
  obtain ⟨rfl, hZ, hh⟩ := hP
  have hx := Bd.exec
  have hby := Bd.bytes
  have hml : c.maxLocals = 1 := hml0
  have hown : s.vm.findClass "cardtalk/message/HexDigitPinLaw" = some m.cls := findClass_of_methodNamed Bd.named
  have hnm := (name_of_methodNamed Bd.named Bd.method).1
  have X0 : Stand p l e ({ frames := 0, cells := 0, slots := 0, locals := 0 } : Room) s m #[(.int p0)] below meth c s₁ [] 0 0 := Stand.of_body Bd
  have e0 : s₁.heap = h0 := by rw [← hh, Bd.state]; rfl
  have N0 := Fr.nil n0
  show OEnds p e below (OEndP s (Q_rm1 Z p0 h0 n0) ({ frames := 0, cells := 0, slots := 0, locals := 0 } : Room).cells ({ frames := 0, cells := 0, slots := 0, locals := 0 } : Room).slots) s₁ (entryFrame m #[(.int p0)] 1)
  rw [ef_rm1 m p0]
  refine OEnds.go (g' := (mkF m 1 #[.val (.int p0)] [(.int p0)])) (fun t k => XS.iloadN X0.here hx rfl (hb hby d1_0) rfl k) ?_
  refine OEnds.go (g' := (mkF m 3 #[.val (.int p0)] [(.int (2147483647 : Int32)), (.int p0)])) (X0.ldcInt hx hown (mvT hZ (hw _ (List.mem_of_getElem? (i := 4) rfl))) (g := (mkF m 1 #[.val (.int p0)] [(.int p0)])) rfl (hb hby d1_1)) ?_
  refine OEnds.go (g' := (mkF m 4 #[.val (.int p0)] [(.int (p0 &&& (2147483647 : Int32)))])) (fun t k => XS.iand X0.here hx rfl (hb hby d1_3) rfl k) ?_
  refine OEnds.go (g' := (mkF m 6 #[.val (.int p0)] [(.int (22 : Int32)), (.int (p0 &&& (2147483647 : Int32)))])) (fun t k => XS.bipush X0.here hx rfl (hb hby d1_4) k) ?_
  refine OEnds.go (g' := (mkF m 7 #[.val (.int p0)] [(.int ((p0 &&& (2147483647 : Int32)) % (22 : Int32)))])) (fun t k => iremM X0 hx rfl (hb hby d1_6) rfl (by decide) k) ?_
  exact OEnds.outI X0 Bd.notSynchronized hx Bd.returns (hb hby d1_7) ⟨by show (some (.int ((p0 &&& (2147483647 : Int32)) % (22 : Int32))) : Option Value) = some (.int (f1 p0)); rw [f1], N0, e0⟩ (by decide) (by decide)
theorem ef_rm2 (m : MethodId) (x0 : Int32) : entryFrame m #[(.int x0)] 1 = mkF m 0 #[.val (.int x0)] [] := by first | (simp [entryFrame, mkF, argsToLocals, Value.category]; done) | rfl
def f2 (p0 : Int32) : Int32 := if p0 < (10 : Int32) then (nar .char (((48 : Int32) + p0).toUInt32.toUInt16.toUInt32.toInt32)) else if p0 < (16 : Int32) then (nar .char (((97 : Int32) + (p0 - (10 : Int32))).toUInt32.toUInt16.toUInt32.toInt32)) else (nar .char (((65 : Int32) + (p0 - (16 : Int32))).toUInt32.toUInt16.toUInt32.toInt32))
def Q_rm2 (Z : State) (p0 : Int32) (h0 : Heap) (n0 : Nat) (v : Option Value) (h : Heap) (L : List Loc) : Prop := v = some (.int (f2 p0)) ∧ Fr n0 L ∧ h = h0
set_option maxRecDepth 65536 in
set_option maxHeartbeats 40000000 in
theorem rm2 (l : Launch) (Z : State) (a0 : Array Value) (hw : ∀ d ∈ tables_1, d.before a0 Z = true) (ws : List Jvm.Cond) (p0 : Int32) (h0 : Heap) (n0 : Nat) (Z0 : n0 ≤ h0.size) :
    MetFree l (⟨"cardtalk/message/HexDigitPinLaw", "ch", "(I)C"⟩ : MethodName) (head1 (Jvm.Cond.code (⟨"cardtalk/message/HexDigitPinLaw", "ch", "(I)C"⟩ : MethodName) method_4_code 1 (some .char) :: ws) ({ frames := 0, cells := 0, slots := 0, locals := 0 } : Room)) (fun aa_ U => aa_ = #[(.int p0)] ∧ Z.Warmed39 U.vm ∧ U.heap = h0) (fun _ _ _ _ _ => True) (fun _ U o U' => ∃ v L, o = .returned v ∧ Q_rm2 Z p0 h0 n0 v U'.heap L ∧ FrameEnd U o U' L ({ frames := 0, cells := 0, slots := 0, locals := 0 } : Room).cells ({ frames := 0, cells := 0, slots := 0, locals := 0 } : Room).slots) := by
  refine MetFree.of_bodySF (plainFor_of_name pn_3) hisR ?_
  intro p e s m args below meth c s₁ Bd hml0 hP hK
  obtain ⟨rfl, hZ, hh⟩ := hP
  have hx := Bd.exec
  have hby := Bd.bytes
  have hml : c.maxLocals = 1 := hml0
  have hown : s.vm.findClass "cardtalk/message/HexDigitPinLaw" = some m.cls := findClass_of_methodNamed Bd.named
  have hnm := (name_of_methodNamed Bd.named Bd.method).1
  have X0 : Stand p l e ({ frames := 0, cells := 0, slots := 0, locals := 0 } : Room) s m #[(.int p0)] below meth c s₁ [] 0 0 := Stand.of_body Bd
  have e0 : s₁.heap = h0 := by rw [← hh, Bd.state]; rfl
  have N0 := Fr.nil n0
  show OEnds p e below (OEndP s (Q_rm2 Z p0 h0 n0) ({ frames := 0, cells := 0, slots := 0, locals := 0 } : Room).cells ({ frames := 0, cells := 0, slots := 0, locals := 0 } : Room).slots) s₁ (entryFrame m #[(.int p0)] 1)
  rw [ef_rm2 m p0]
  refine OEnds.go (g' := (mkF m 1 #[.val (.int p0)] [(.int p0)])) (fun t k => XS.iloadN X0.here hx rfl (hb hby d2_0) rfl k) ?_
  refine OEnds.go (g' := (mkF m 3 #[.val (.int p0)] [(.int (10 : Int32)), (.int p0)])) (fun t k => XS.bipush X0.here hx rfl (hb hby d2_1) k) ?_
  by_cases c3_1 : p0 < (10 : Int32)
  · -- yes
    refine OEnds.go (g' := (mkF m 6 #[.val (.int p0)] [])) (fun t k => XS.icmpNo X0.here hx rfl (hb hby d2_3) rfl (tlt c3_1).2.1 k) ?_
    refine OEnds.go (g' := (mkF m 8 #[.val (.int p0)] [(.int (48 : Int32))])) (fun t k => XS.bipush X0.here hx rfl (hb hby d2_6) k) ?_
    refine OEnds.go (g' := (mkF m 9 #[.val (.int p0)] [(.int p0), (.int (48 : Int32))])) (fun t k => XS.iloadN X0.here hx rfl (hb hby d2_8) rfl k) ?_
    refine OEnds.go (g' := (mkF m 10 #[.val (.int p0)] [(.int ((48 : Int32) + p0))])) (fun t k => XS.iadd X0.here hx rfl (hb hby d2_9) rfl k) ?_
    refine OEnds.go (g' := (mkF m 11 #[.val (.int p0)] [(.int (((48 : Int32) + p0).toUInt32.toUInt16.toUInt32.toInt32))])) (fun t k => XS.i2c X0.here hx rfl (hb hby d2_10) rfl k) ?_
    exact OEnds.outN X0 Bd.notSynchronized hx (t := .char) Bd.returns (by simp) (hb hby d2_11) ⟨by show (some (.int (nar .char (((48 : Int32) + p0).toUInt32.toUInt16.toUInt32.toInt32))) : Option Value) = some (.int (f2 p0)); rw [f2, if_pos c3_1], N0, e0⟩ (by decide) (by decide)
  · -- no
    refine OEnds.go (g' := (mkF m 12 #[.val (.int p0)] [])) (fun t k => XS.icmpYes X0.here hx rfl (pc0 := 3) (pc' := 12) rfl (hb hby d2_3) rfl (flt c3_1).2.1 (by decide) (by decide) k) ?_
    refine OEnds.go (g' := (mkF m 13 #[.val (.int p0)] [(.int p0)])) (fun t k => XS.iloadN X0.here hx rfl (hb hby d2_12) rfl k) ?_
    refine OEnds.go (g' := (mkF m 15 #[.val (.int p0)] [(.int (16 : Int32)), (.int p0)])) (fun t k => XS.bipush X0.here hx rfl (hb hby d2_13) k) ?_
    by_cases c15_2 : p0 < (16 : Int32)
    · -- yes
      refine OEnds.go (g' := (mkF m 18 #[.val (.int p0)] [])) (fun t k => XS.icmpNo X0.here hx rfl (hb hby d2_15) rfl (tlt c15_2).2.1 k) ?_
      refine OEnds.go (g' := (mkF m 20 #[.val (.int p0)] [(.int (97 : Int32))])) (fun t k => XS.bipush X0.here hx rfl (hb hby d2_18) k) ?_
      refine OEnds.go (g' := (mkF m 21 #[.val (.int p0)] [(.int p0), (.int (97 : Int32))])) (fun t k => XS.iloadN X0.here hx rfl (hb hby d2_20) rfl k) ?_
      refine OEnds.go (g' := (mkF m 23 #[.val (.int p0)] [(.int (10 : Int32)), (.int p0), (.int (97 : Int32))])) (fun t k => XS.bipush X0.here hx rfl (hb hby d2_21) k) ?_
      refine OEnds.go (g' := (mkF m 24 #[.val (.int p0)] [(.int (p0 - (10 : Int32))), (.int (97 : Int32))])) (fun t k => XS.isub X0.here hx rfl (hb hby d2_23) rfl k) ?_
      refine OEnds.go (g' := (mkF m 25 #[.val (.int p0)] [(.int ((97 : Int32) + (p0 - (10 : Int32))))])) (fun t k => XS.iadd X0.here hx rfl (hb hby d2_24) rfl k) ?_
      refine OEnds.go (g' := (mkF m 26 #[.val (.int p0)] [(.int (((97 : Int32) + (p0 - (10 : Int32))).toUInt32.toUInt16.toUInt32.toInt32))])) (fun t k => XS.i2c X0.here hx rfl (hb hby d2_25) rfl k) ?_
      exact OEnds.outN X0 Bd.notSynchronized hx (t := .char) Bd.returns (by simp) (hb hby d2_26) ⟨by show (some (.int (nar .char (((97 : Int32) + (p0 - (10 : Int32))).toUInt32.toUInt16.toUInt32.toInt32))) : Option Value) = some (.int (f2 p0)); rw [f2, if_neg c3_1, if_pos c15_2], N0, e0⟩ (by decide) (by decide)
    · -- no
      refine OEnds.go (g' := (mkF m 27 #[.val (.int p0)] [])) (fun t k => XS.icmpYes X0.here hx rfl (pc0 := 15) (pc' := 27) rfl (hb hby d2_15) rfl (flt c15_2).2.1 (by decide) (by decide) k) ?_
      refine OEnds.go (g' := (mkF m 29 #[.val (.int p0)] [(.int (65 : Int32))])) (fun t k => XS.bipush X0.here hx rfl (hb hby d2_27) k) ?_
      refine OEnds.go (g' := (mkF m 30 #[.val (.int p0)] [(.int p0), (.int (65 : Int32))])) (fun t k => XS.iloadN X0.here hx rfl (hb hby d2_29) rfl k) ?_
      refine OEnds.go (g' := (mkF m 32 #[.val (.int p0)] [(.int (16 : Int32)), (.int p0), (.int (65 : Int32))])) (fun t k => XS.bipush X0.here hx rfl (hb hby d2_30) k) ?_
      refine OEnds.go (g' := (mkF m 33 #[.val (.int p0)] [(.int (p0 - (16 : Int32))), (.int (65 : Int32))])) (fun t k => XS.isub X0.here hx rfl (hb hby d2_32) rfl k) ?_
      refine OEnds.go (g' := (mkF m 34 #[.val (.int p0)] [(.int ((65 : Int32) + (p0 - (16 : Int32))))])) (fun t k => XS.iadd X0.here hx rfl (hb hby d2_33) rfl k) ?_
      refine OEnds.go (g' := (mkF m 35 #[.val (.int p0)] [(.int (((65 : Int32) + (p0 - (16 : Int32))).toUInt32.toUInt16.toUInt32.toInt32))])) (fun t k => XS.i2c X0.here hx rfl (hb hby d2_34) rfl k) ?_
      exact OEnds.outN X0 Bd.notSynchronized hx (t := .char) Bd.returns (by simp) (hb hby d2_35) ⟨by show (some (.int (nar .char (((65 : Int32) + (p0 - (16 : Int32))).toUInt32.toUInt16.toUInt32.toInt32))) : Option Value) = some (.int (f2 p0)); rw [f2, if_neg c3_1, if_neg c15_2], N0, e0⟩ (by decide) (by decide)
theorem ef_rm17 (m : MethodId) (x0 : Int32) : entryFrame m #[(.int x0)] 1 = mkF m 0 #[.val (.int x0)] [] := by first | (simp [entryFrame, mkF, argsToLocals, Value.category]; done) | rfl
def f17 (p0 : Int32) : Int32 := if p0 < (16 : Int32) then p0 else (p0 - (6 : Int32))
def Q_rm17 (Z : State) (p0 : Int32) (h0 : Heap) (n0 : Nat) (v : Option Value) (h : Heap) (L : List Loc) : Prop := v = some (.int (f17 p0)) ∧ Fr n0 L ∧ h = h0
set_option maxRecDepth 65536 in
set_option maxHeartbeats 40000000 in
theorem rm17 (l : Launch) (Z : State) (a0 : Array Value) (hw : ∀ d ∈ tables_1, d.before a0 Z = true) (ws : List Jvm.Cond) (p0 : Int32) (h0 : Heap) (n0 : Nat) (Z0 : n0 ≤ h0.size) :
    MetFree l (⟨"cardtalk/message/HexDigitPinLaw", "val", "(I)I"⟩ : MethodName) (head1 (Jvm.Cond.code (⟨"cardtalk/message/HexDigitPinLaw", "val", "(I)I"⟩ : MethodName) method_5_code 1 (some .int) :: ws) ({ frames := 0, cells := 0, slots := 0, locals := 0 } : Room)) (fun aa_ U => aa_ = #[(.int p0)] ∧ Z.Warmed39 U.vm ∧ U.heap = h0) (fun _ _ _ _ _ => True) (fun _ U o U' => ∃ v L, o = .returned v ∧ Q_rm17 Z p0 h0 n0 v U'.heap L ∧ FrameEnd U o U' L ({ frames := 0, cells := 0, slots := 0, locals := 0 } : Room).cells ({ frames := 0, cells := 0, slots := 0, locals := 0 } : Room).slots) := by
  refine MetFree.of_bodySF (plainFor_of_name pn_3) hisR ?_
  intro p e s m args below meth c s₁ Bd hml0 hP hK
  obtain ⟨rfl, hZ, hh⟩ := hP
  have hx := Bd.exec
  have hby := Bd.bytes
  have hml : c.maxLocals = 1 := hml0
  have hown : s.vm.findClass "cardtalk/message/HexDigitPinLaw" = some m.cls := findClass_of_methodNamed Bd.named
  have hnm := (name_of_methodNamed Bd.named Bd.method).1
  have X0 : Stand p l e ({ frames := 0, cells := 0, slots := 0, locals := 0 } : Room) s m #[(.int p0)] below meth c s₁ [] 0 0 := Stand.of_body Bd
  have e0 : s₁.heap = h0 := by rw [← hh, Bd.state]; rfl
  have N0 := Fr.nil n0
  show OEnds p e below (OEndP s (Q_rm17 Z p0 h0 n0) ({ frames := 0, cells := 0, slots := 0, locals := 0 } : Room).cells ({ frames := 0, cells := 0, slots := 0, locals := 0 } : Room).slots) s₁ (entryFrame m #[(.int p0)] 1)
  rw [ef_rm17 m p0]
  refine OEnds.go (g' := (mkF m 1 #[.val (.int p0)] [(.int p0)])) (fun t k => XS.iloadN X0.here hx rfl (hb hby d17_0) rfl k) ?_
  refine OEnds.go (g' := (mkF m 3 #[.val (.int p0)] [(.int (16 : Int32)), (.int p0)])) (fun t k => XS.bipush X0.here hx rfl (hb hby d17_1) k) ?_
  by_cases c3_1 : p0 < (16 : Int32)
  · -- yes
    refine OEnds.go (g' := (mkF m 6 #[.val (.int p0)] [])) (fun t k => XS.icmpNo X0.here hx rfl (hb hby d17_3) rfl (tlt c3_1).2.1 k) ?_
    refine OEnds.go (g' := (mkF m 7 #[.val (.int p0)] [(.int p0)])) (fun t k => XS.iloadN X0.here hx rfl (hb hby d17_6) rfl k) ?_
    refine OEnds.go (g' := (mkF m 14 #[.val (.int p0)] [(.int p0)])) (fun t k => XS.goto X0.here hx rfl (pc0 := 7) (pc' := 14) rfl (hb hby d17_7) (by decide) (by decide) k) ?_
    exact OEnds.outI X0 Bd.notSynchronized hx Bd.returns (hb hby d17_14) ⟨by show (some (.int p0) : Option Value) = some (.int (f17 p0)); rw [f17, if_pos c3_1], N0, e0⟩ (by decide) (by decide)
  · -- no
    refine OEnds.go (g' := (mkF m 10 #[.val (.int p0)] [])) (fun t k => XS.icmpYes X0.here hx rfl (pc0 := 3) (pc' := 10) rfl (hb hby d17_3) rfl (flt c3_1).2.1 (by decide) (by decide) k) ?_
    refine OEnds.go (g' := (mkF m 11 #[.val (.int p0)] [(.int p0)])) (fun t k => XS.iloadN X0.here hx rfl (hb hby d17_10) rfl k) ?_
    refine OEnds.go (g' := (mkF m 13 #[.val (.int p0)] [(.int (6 : Int32)), (.int p0)])) (fun t k => XS.bipush X0.here hx rfl (hb hby d17_11) k) ?_
    refine OEnds.go (g' := (mkF m 14 #[.val (.int p0)] [(.int (p0 - (6 : Int32)))])) (fun t k => XS.isub X0.here hx rfl (hb hby d17_13) rfl k) ?_
    exact OEnds.outI X0 Bd.notSynchronized hx Bd.returns (hb hby d17_14) ⟨by show (some (.int (p0 - (6 : Int32))) : Option Value) = some (.int (f17 p0)); rw [f17, if_neg c3_1], N0, e0⟩ (by decide) (by decide)
theorem own_pk (p : Int32) : 0 ≤ (f1 p).toInt ∧ (f1 p).toInt < (22 : Nat) := by
  rw [f1]
  have h1 := c_mask p 2147483647 31 (by decide) (by decide)
  have h2 := (c_irem (p &&& (2147483647 : Int32)) 22 22 (by decide)).1 (by omega)
  omega
theorem own_lt (k : Int32) (h : 0 ≤ k.toInt ∧ k.toInt < (22 : Nat)) : (0 ≤ (f2 k).toInt ∧ (f2 k).toInt ≤ 255) ∧ f15 (own_by (f2 k)) = f17 k ∧ 0 ≤ (f17 k).toInt ∧ (f17 k).toInt ≤ 15 :=
  own_fin (P := fun k => (0 ≤ (f2 k).toInt ∧ (f2 k).toInt ≤ 255) ∧ f15 (own_by (f2 k)) = f17 k ∧ 0 ≤ (f17 k).toInt ∧ (f17 k).toInt ≤ 15) 22 (by decide +kernel) k h.1 h.2
theorem own_px (a b : Int32) (ha : 0 ≤ a.toInt ∧ a.toInt ≤ 15) (hb : 0 ≤ b.toInt ∧ b.toInt ≤ 15) : ((((a <<< ((4 : Int32) &&& 31)) ||| b).toInt8.toInt32).toInt8.toInt32) &&& (255 : Int32) = (a * (16 : Int32)) + b := by
  have ha2 : a.toInt < (16 : Nat) := by omega
  have hb2 : b.toInt < (16 : Nat) := by omega
  have key : ∀ n m : Fin 16, (((((Int32.ofNat n.1) <<< ((4 : Int32) &&& 31)) ||| (Int32.ofNat m.1)).toInt8.toInt32).toInt8.toInt32) &&& (255 : Int32) = ((Int32.ofNat n.1) * (16 : Int32)) + (Int32.ofNat m.1) := by decide +kernel
  rw [own_nat a ha.1, own_nat b hb.1]
  exact key ⟨a.toInt.toNat, by omega⟩ ⟨b.toInt.toNat, by omega⟩
theorem own_fin2 (p q : Int32) : ((((f15 (own_by (f2 (f1 p))) <<< ((4 : Int32) &&& 31)) ||| f15 (own_by (f2 (f1 q)))).toInt8.toInt32).toInt8.toInt32) &&& (255 : Int32) = (f17 (f1 p) * (16 : Int32)) + f17 (f1 q) := by
  obtain ⟨-, h1, h2⟩ := own_lt _ (own_pk p)
  obtain ⟨-, h3, h4⟩ := own_lt _ (own_pk q)
  rw [h1, h3]
  exact own_px _ _ h2 h4
theorem own_hd (p : Int32) : 0 ≤ (f15 (own_by (f2 (f1 p)))).toInt ∧ (f15 (own_by (f2 (f1 p)))).toInt ≤ 15 := by
  obtain ⟨-, h1, h2⟩ := own_lt _ (own_pk p)
  rw [h1]; exact h2
theorem own_eqR {args : Array Value} {Z : State} {t u : Term} {x y : Addr} (ht : t.eval args Z none [] Z = some (.ref x)) (hu : u.eval args Z none [] Z = some (.ref y)) (h : (Jvm.Cond.eq t u).value args Z none Z [] = some true) : x = y := by
  exact Value.ref.inj (gotT (eq_R ht hu rfl rfl) h)
theorem ef_rm0 (m : MethodId) (x0 : Int32) (x1 : Int32) (x2 : Int32) (x3 : Int32) : entryFrame m #[(.int x0), (.int x1), (.int x2), (.int x3)] maxLocals = mkF m 0 #[.val (.int x0), .val (.int x1), .val (.int x2), .val (.int x3), .unset, .unset, .unset, .unset, .unset, .unset, .unset, .unset] [] := by first | (simp [entryFrame, mkF, argsToLocals, Value.category, maxLocals]; done) | rfl
def Q_rm0 (Z : State) (p0 : Int32) (p1 : Int32) (p2 : Int32) (p3 : Int32) (csv : Int32) (uu : Addr) (ch : Addr) (h0 : Heap) (n0 : Nat) (v : Option Value) (h : Heap) (L : List Loc) : Prop := v = some (.int 1) ∧ Fr n0 L
set_option maxRecDepth 65536 in
set_option maxHeartbeats 40000000 in
theorem rm0 (l : Launch) (Z : State) (a0 : Array Value) (hw : ∀ d ∈ tables_1, d.before a0 Z = true) (ws : List Jvm.Cond) (p0 : Int32) (p1 : Int32) (p2 : Int32) (p3 : Int32) (csv : Int32) (uu : Addr) (ch : Addr) (h0 : Heap) (n0 : Nat) (Z0 : n0 ≤ h0.size) (SC : Sta Z h0 "java/lang/String" "COMPACT_STRINGS" "Z" (.int csv)) (hcs : ¬ csv = (0 : Int32)) (SU : Sta Z h0 "sun/nio/cs/UTF_8" "INSTANCE" "Lsun/nio/cs/UTF_8;" (.ref uu)) (SI : Sta Z h0 "sun/nio/cs/ISO_8859_1" "INSTANCE" "Lsun/nio/cs/ISO_8859_1;" (.ref ch)) (hu : ch ≠ uu) (SH : Sta Z h0 "java/nio/charset/StandardCharsets" "ISO_8859_1" "Ljava/nio/charset/Charset;" (.ref ch)) :
    MetFree l x (head1 (Jvm.Cond.code x code maxLocals ret :: ws) room_1) (fun aa_ U => aa_ = #[(.int p0), (.int p1), (.int p2), (.int p3)] ∧ Z.Warmed39 U.vm ∧ U.heap = h0) (fun _ _ _ _ _ => True) (fun _ U o U' => ∃ v L, o = .returned v ∧ Q_rm0 Z p0 p1 p2 p3 csv uu ch h0 n0 v U'.heap L ∧ FrameEnd U o U' L room_1.cells room_1.slots) := by
  refine MetFree.of_bodySF (plainFor_of_name pn_3) hisR ?_
  intro p e s m args below meth c s₁ Bd hml0 hP hK
  obtain ⟨rfl, hZ, hh⟩ := hP
  have hx := Bd.exec
  have hby := Bd.bytes
  have hml : c.maxLocals = 12 := hml0
  have hown : s.vm.findClass "cardtalk/message/HexDigitPinLaw" = some m.cls := findClass_of_methodNamed Bd.named
  have hnm := (name_of_methodNamed Bd.named Bd.method).1
  have X0 : Stand p l e room_1 s m #[(.int p0), (.int p1), (.int p2), (.int p3)] below meth c s₁ [] 0 0 := Stand.of_body Bd
  have e0 : s₁.heap = h0 := by rw [← hh, Bd.state]; rfl
  have N0 := Fr.nil n0
  show OEnds p e below (OEndP s (Q_rm0 Z p0 p1 p2 p3 csv uu ch h0 n0) room_1.cells room_1.slots) s₁ (entryFrame m #[(.int p0), (.int p1), (.int p2), (.int p3)] maxLocals)
  rw [ef_rm0 m p0 p1 p2 p3]
  refine OEnds.go (g' := (mkF m 1 #[.val (.int p0), .val (.int p1), .val (.int p2), .val (.int p3), .unset, .unset, .unset, .unset, .unset, .unset, .unset, .unset] [(.int p0)])) (fun t k => XS.iloadN X0.here hx rfl (hb hby at_0) rfl k) ?_
  obtain ⟨_, _, ⟨T1, L1, k1, n1⟩, -, X1, ⟨Lc1, hQ1, l1, y1, z1⟩, st1⟩ := Jvm.LawKit.callS X0 hx (y := (⟨"cardtalk/message/HexDigitPinLaw", "pick", "(I)I"⟩ : MethodName)) hown (mvT hZ (hw _ (List.mem_of_getElem? (i := 0) rfl))) (mvT hZ (hw _ (List.mem_of_getElem? (i := 1) rfl))) (mvT hZ (hw _ (List.mem_of_getElem? (i := 2) rfl))) (mvT hZ (hw _ (List.mem_of_getElem? (i := 3) rfl))) (by decide) (backOf (W := 0) (rm1 l Z a0 hw [] p0 h0 n0 Z0) hZ (hw _ (List.mem_of_getElem? (i := 3) rfl)) (hw _ (List.mem_of_getElem? (i := 2) rfl)) (by decide) (by decide)) (g := (mkF m 1 #[.val (.int p0), .val (.int p1), .val (.int p2), .val (.int p3), .unset, .unset, .unset, .unset, .unset, .unset, .unset, .unset] [(.int p0)])) rfl (by rw [hml]; rfl) (argsL := [(.int p0)]) (rest := []) (lenOf pd_11 rfl) rfl (by show 2 * 0 + _ ≤ _; exact Nat.le_of_eq rfl) (hb hby at_1) (fun _ _ => ⟨rfl, e0, (by decide : 0 + 0 ≤ _), (by decide : 0 + 0 ≤ _)⟩)
  dsimp only [Pt.U, Pt.locs, Pt.cells, Pt.slots] at X1 l1 y1 z1 st1 hQ1
  subst l1 y1 z1
  obtain ⟨rfl, N1q, e1⟩ := hQ1
  have N1 := Fr.app N0 N1q
  refine OEnds.go (g' := (mkF m 4 #[.val (.int p0), .val (.int p1), .val (.int p2), .val (.int p3), .unset, .unset, .unset, .unset, .unset, .unset, .unset, .unset] [(.int (f1 p0))])) st1 ?_
  refine OEnds.go (g' := (mkF m 6 #[.val (.int p0), .val (.int p1), .val (.int p2), .val (.int p3), .val (.int (f1 p0)), .unset, .unset, .unset, .unset, .unset, .unset, .unset] [])) (fun t k => XS.istore X1.here hx rfl (hb hby at_4) rfl (l' := #[.val (.int p0), .val (.int p1), .val (.int p2), .val (.int p3), .val (.int (f1 p0)), .unset, .unset, .unset, .unset, .unset, .unset, .unset]) rfl k) ?_
  refine OEnds.go (g' := (mkF m 7 #[.val (.int p0), .val (.int p1), .val (.int p2), .val (.int p3), .val (.int (f1 p0)), .unset, .unset, .unset, .unset, .unset, .unset, .unset] [(.int p1)])) (fun t k => XS.iloadN X1.here hx rfl (hb hby at_6) rfl k) ?_
  obtain ⟨_, _, ⟨T2, L2, k2, n2⟩, -, X2, ⟨Lc2, hQ2, l2, y2, z2⟩, st2⟩ := Jvm.LawKit.callS X1 hx (y := (⟨"cardtalk/message/HexDigitPinLaw", "pick", "(I)I"⟩ : MethodName)) hown (mvT hZ (hw _ (List.mem_of_getElem? (i := 0) rfl))) (mvT hZ (hw _ (List.mem_of_getElem? (i := 1) rfl))) (mvT hZ (hw _ (List.mem_of_getElem? (i := 2) rfl))) (mvT hZ (hw _ (List.mem_of_getElem? (i := 3) rfl))) (by decide) (backOf (W := 0) (rm1 l Z a0 hw [] p1 h0 n0 Z0) hZ (hw _ (List.mem_of_getElem? (i := 3) rfl)) (hw _ (List.mem_of_getElem? (i := 2) rfl)) (by decide) (by decide)) (g := (mkF m 7 #[.val (.int p0), .val (.int p1), .val (.int p2), .val (.int p3), .val (.int (f1 p0)), .unset, .unset, .unset, .unset, .unset, .unset, .unset] [(.int p1)])) rfl (by rw [hml]; rfl) (argsL := [(.int p1)]) (rest := []) (lenOf pd_11 rfl) rfl (by show 2 * 0 + _ ≤ _; exact Nat.le_of_eq rfl) (hb hby at_7) (fun _ _ => ⟨rfl, e1, (by decide : 0 + 0 ≤ _), (by decide : 0 + 0 ≤ _)⟩)
  dsimp only [Pt.U, Pt.locs, Pt.cells, Pt.slots] at X2 l2 y2 z2 st2 hQ2
  subst l2 y2 z2
  obtain ⟨rfl, N2q, e2⟩ := hQ2
  have N2 := Fr.app N1 N2q
  refine OEnds.go (g' := (mkF m 10 #[.val (.int p0), .val (.int p1), .val (.int p2), .val (.int p3), .val (.int (f1 p0)), .unset, .unset, .unset, .unset, .unset, .unset, .unset] [(.int (f1 p1))])) st2 ?_
  refine OEnds.go (g' := (mkF m 12 #[.val (.int p0), .val (.int p1), .val (.int p2), .val (.int p3), .val (.int (f1 p0)), .val (.int (f1 p1)), .unset, .unset, .unset, .unset, .unset, .unset] [])) (fun t k => XS.istore X2.here hx rfl (hb hby at_10) rfl (l' := #[.val (.int p0), .val (.int p1), .val (.int p2), .val (.int p3), .val (.int (f1 p0)), .val (.int (f1 p1)), .unset, .unset, .unset, .unset, .unset, .unset]) rfl k) ?_
  refine OEnds.go (g' := (mkF m 13 #[.val (.int p0), .val (.int p1), .val (.int p2), .val (.int p3), .val (.int (f1 p0)), .val (.int (f1 p1)), .unset, .unset, .unset, .unset, .unset, .unset] [(.int p2)])) (fun t k => XS.iloadN X2.here hx rfl (hb hby at_12) rfl k) ?_
  obtain ⟨_, _, ⟨T3, L3, k3, n3⟩, -, X3, ⟨Lc3, hQ3, l3, y3, z3⟩, st3⟩ := Jvm.LawKit.callS X2 hx (y := (⟨"cardtalk/message/HexDigitPinLaw", "pick", "(I)I"⟩ : MethodName)) hown (mvT hZ (hw _ (List.mem_of_getElem? (i := 0) rfl))) (mvT hZ (hw _ (List.mem_of_getElem? (i := 1) rfl))) (mvT hZ (hw _ (List.mem_of_getElem? (i := 2) rfl))) (mvT hZ (hw _ (List.mem_of_getElem? (i := 3) rfl))) (by decide) (backOf (W := 0) (rm1 l Z a0 hw [] p2 h0 n0 Z0) hZ (hw _ (List.mem_of_getElem? (i := 3) rfl)) (hw _ (List.mem_of_getElem? (i := 2) rfl)) (by decide) (by decide)) (g := (mkF m 13 #[.val (.int p0), .val (.int p1), .val (.int p2), .val (.int p3), .val (.int (f1 p0)), .val (.int (f1 p1)), .unset, .unset, .unset, .unset, .unset, .unset] [(.int p2)])) rfl (by rw [hml]; rfl) (argsL := [(.int p2)]) (rest := []) (lenOf pd_11 rfl) rfl (by show 2 * 0 + _ ≤ _; exact Nat.le_of_eq rfl) (hb hby at_13) (fun _ _ => ⟨rfl, e2, (by decide : 0 + 0 ≤ _), (by decide : 0 + 0 ≤ _)⟩)
  dsimp only [Pt.U, Pt.locs, Pt.cells, Pt.slots] at X3 l3 y3 z3 st3 hQ3
  subst l3 y3 z3
  obtain ⟨rfl, N3q, e3⟩ := hQ3
  have N3 := Fr.app N2 N3q
  refine OEnds.go (g' := (mkF m 16 #[.val (.int p0), .val (.int p1), .val (.int p2), .val (.int p3), .val (.int (f1 p0)), .val (.int (f1 p1)), .unset, .unset, .unset, .unset, .unset, .unset] [(.int (f1 p2))])) st3 ?_
  refine OEnds.go (g' := (mkF m 18 #[.val (.int p0), .val (.int p1), .val (.int p2), .val (.int p3), .val (.int (f1 p0)), .val (.int (f1 p1)), .val (.int (f1 p2)), .unset, .unset, .unset, .unset, .unset] [])) (fun t k => XS.istore X3.here hx rfl (hb hby at_16) rfl (l' := #[.val (.int p0), .val (.int p1), .val (.int p2), .val (.int p3), .val (.int (f1 p0)), .val (.int (f1 p1)), .val (.int (f1 p2)), .unset, .unset, .unset, .unset, .unset]) rfl k) ?_
  refine OEnds.go (g' := (mkF m 19 #[.val (.int p0), .val (.int p1), .val (.int p2), .val (.int p3), .val (.int (f1 p0)), .val (.int (f1 p1)), .val (.int (f1 p2)), .unset, .unset, .unset, .unset, .unset] [(.int p3)])) (fun t k => XS.iloadN X3.here hx rfl (hb hby at_18) rfl k) ?_
  obtain ⟨_, _, ⟨T4, L4, k4, n4⟩, -, X4, ⟨Lc4, hQ4, l4, y4, z4⟩, st4⟩ := Jvm.LawKit.callS X3 hx (y := (⟨"cardtalk/message/HexDigitPinLaw", "pick", "(I)I"⟩ : MethodName)) hown (mvT hZ (hw _ (List.mem_of_getElem? (i := 0) rfl))) (mvT hZ (hw _ (List.mem_of_getElem? (i := 1) rfl))) (mvT hZ (hw _ (List.mem_of_getElem? (i := 2) rfl))) (mvT hZ (hw _ (List.mem_of_getElem? (i := 3) rfl))) (by decide) (backOf (W := 0) (rm1 l Z a0 hw [] p3 h0 n0 Z0) hZ (hw _ (List.mem_of_getElem? (i := 3) rfl)) (hw _ (List.mem_of_getElem? (i := 2) rfl)) (by decide) (by decide)) (g := (mkF m 19 #[.val (.int p0), .val (.int p1), .val (.int p2), .val (.int p3), .val (.int (f1 p0)), .val (.int (f1 p1)), .val (.int (f1 p2)), .unset, .unset, .unset, .unset, .unset] [(.int p3)])) rfl (by rw [hml]; rfl) (argsL := [(.int p3)]) (rest := []) (lenOf pd_11 rfl) rfl (by show 2 * 0 + _ ≤ _; exact Nat.le_of_eq rfl) (hb hby at_19) (fun _ _ => ⟨rfl, e3, (by decide : 0 + 0 ≤ _), (by decide : 0 + 0 ≤ _)⟩)
  dsimp only [Pt.U, Pt.locs, Pt.cells, Pt.slots] at X4 l4 y4 z4 st4 hQ4
  subst l4 y4 z4
  obtain ⟨rfl, N4q, e4⟩ := hQ4
  have N4 := Fr.app N3 N4q
  refine OEnds.go (g' := (mkF m 22 #[.val (.int p0), .val (.int p1), .val (.int p2), .val (.int p3), .val (.int (f1 p0)), .val (.int (f1 p1)), .val (.int (f1 p2)), .unset, .unset, .unset, .unset, .unset] [(.int (f1 p3))])) st4 ?_
  refine OEnds.go (g' := (mkF m 24 #[.val (.int p0), .val (.int p1), .val (.int p2), .val (.int p3), .val (.int (f1 p0)), .val (.int (f1 p1)), .val (.int (f1 p2)), .val (.int (f1 p3)), .unset, .unset, .unset, .unset] [])) (fun t k => XS.istore X4.here hx rfl (hb hby at_22) rfl (l' := #[.val (.int p0), .val (.int p1), .val (.int p2), .val (.int p3), .val (.int (f1 p0)), .val (.int (f1 p1)), .val (.int (f1 p2)), .val (.int (f1 p3)), .unset, .unset, .unset, .unset]) rfl k) ?_
  refine OEnds.go (g' := (mkF m 25 #[.val (.int p0), .val (.int p1), .val (.int p2), .val (.int p3), .val (.int (f1 p0)), .val (.int (f1 p1)), .val (.int (f1 p2)), .val (.int (f1 p3)), .unset, .unset, .unset, .unset] [(.int (4 : Int32))])) (fun t k => XS.iconst X4.here hx rfl (hb hby at_24) k) ?_
  obtain ⟨T5, h5, k5, X5, e5, E5, A5, st5⟩ := newP X4 hx hZ (hw _ (List.mem_of_getElem? (i := 5) rfl)) e4 (g := (mkF m 25 #[.val (.int p0), .val (.int p1), .val (.int p2), .val (.int p3), .val (.int (f1 p0)), .val (.int (f1 p1)), .val (.int (f1 p2)), .val (.int (f1 p3)), .unset, .unset, .unset, .unset] [(.int (4 : Int32))])) rfl (hb hby at_25) rfl (by decide) (cap := 4) (by decide) (by decide) (by decide) (by decide)
  obtain ⟨b5, g5⟩ : ∃ z, z = h0.size := ⟨_, rfl⟩
  rw [← g5] at A5 st5
  have g_b5 : n0 ≤ b5 := Nat.le_trans Z0 (Nat.le_of_eq g5.symm)
  have V_b5 : Arv Z h5 b5 k5 .char (4 : Int32) [(.int (0 : Int32)), (.int (0 : Int32)), (.int (0 : Int32)), (.int (0 : Int32))] (.int (0 : Int32)) := (Arv.new A5 (by decide)).pad (pad_rep [] (.int (0 : Int32)) 4)
  refine OEnds.go (g' := (mkF m 27 #[.val (.int p0), .val (.int p1), .val (.int p2), .val (.int p3), .val (.int (f1 p0)), .val (.int (f1 p1)), .val (.int (f1 p2)), .val (.int (f1 p3)), .unset, .unset, .unset, .unset] [(.ref b5)])) st5 ?_
  refine OEnds.go (g' := (mkF m 28 #[.val (.int p0), .val (.int p1), .val (.int p2), .val (.int p3), .val (.int (f1 p0)), .val (.int (f1 p1)), .val (.int (f1 p2)), .val (.int (f1 p3)), .unset, .unset, .unset, .unset] [(.ref b5), (.ref b5)])) (fun t k => XS.dup X5.here hx rfl (hb hby at_27) rfl rfl k) ?_
  refine OEnds.go (g' := (mkF m 29 #[.val (.int p0), .val (.int p1), .val (.int p2), .val (.int p3), .val (.int (f1 p0)), .val (.int (f1 p1)), .val (.int (f1 p2)), .val (.int (f1 p3)), .unset, .unset, .unset, .unset] [(.int (0 : Int32)), (.ref b5), (.ref b5)])) (fun t k => XS.iconst X5.here hx rfl (hb hby at_28) k) ?_
  refine OEnds.go (g' := (mkF m 31 #[.val (.int p0), .val (.int p1), .val (.int p2), .val (.int p3), .val (.int (f1 p0)), .val (.int (f1 p1)), .val (.int (f1 p2)), .val (.int (f1 p3)), .unset, .unset, .unset, .unset] [(.int (f1 p0)), (.int (0 : Int32)), (.ref b5), (.ref b5)])) (fun t k => XS.iload X5.here hx rfl (hb hby at_29) rfl k) ?_
  obtain ⟨_, _, ⟨T6, L6, k6, n6⟩, -, X6, ⟨Lc6, hQ6, l6, y6, z6⟩, st6⟩ := Jvm.LawKit.callS X5 hx (y := (⟨"cardtalk/message/HexDigitPinLaw", "ch", "(I)C"⟩ : MethodName)) hown (mvT hZ (hw _ (List.mem_of_getElem? (i := 6) rfl))) (mvT hZ (hw _ (List.mem_of_getElem? (i := 7) rfl))) (mvT hZ (hw _ (List.mem_of_getElem? (i := 2) rfl))) (mvT hZ (hw _ (List.mem_of_getElem? (i := 8) rfl))) (by decide) (backOf (W := 3) (rm2 l Z a0 hw [] (f1 p0) h5 n0 (Nat.le_trans Z0 E5.1)) hZ (hw _ (List.mem_of_getElem? (i := 8) rfl)) (hw _ (List.mem_of_getElem? (i := 2) rfl)) (by decide) (by decide)) (g := (mkF m 31 #[.val (.int p0), .val (.int p1), .val (.int p2), .val (.int p3), .val (.int (f1 p0)), .val (.int (f1 p1)), .val (.int (f1 p2)), .val (.int (f1 p3)), .unset, .unset, .unset, .unset] [(.int (f1 p0)), (.int (0 : Int32)), (.ref b5), (.ref b5)])) rfl (by rw [hml]; rfl) (argsL := [(.int (f1 p0))]) (rest := [(.int (0 : Int32)), (.ref b5), (.ref b5)]) (lenOf pd_12 rfl) rfl (by show 2 * 0 + _ ≤ _; exact Nat.le_of_eq rfl) (hb hby at_31) (fun _ _ => ⟨rfl, e5, (by decide : 1 + 0 ≤ _), (by decide : 4 + 0 ≤ _)⟩)
  dsimp only [Pt.U, Pt.locs, Pt.cells, Pt.slots] at X6 l6 y6 z6 st6 hQ6
  subst l6 y6 z6
  obtain ⟨rfl, N6q, e6⟩ := hQ6
  have N6 := Fr.app N4 N6q
  refine OEnds.go (g' := (mkF m 34 #[.val (.int p0), .val (.int p1), .val (.int p2), .val (.int p3), .val (.int (f1 p0)), .val (.int (f1 p1)), .val (.int (f1 p2)), .val (.int (f1 p3)), .unset, .unset, .unset, .unset] [(.int (f2 (f1 p0))), (.int (0 : Int32)), (.ref b5), (.ref b5)])) st6 ?_
  obtain ⟨cl7, Ar7, qa7, Sa7, Na7, Ha7, Ga7⟩ := @id _ V_b5
  have hin7 : ¬ ((0 : Int32) < 0 ∨ cl7.slots.size ≤ ((0 : Int32)).toNatClampNeg) := inb_of Sa7 ⟨by decide, by decide⟩
  obtain ⟨T8, h8, X8, e8, W8, st8⟩ := stC X6 hx hZ e6 Ar7 (j := (0 : Int32)) hin7 (g := (mkF m 34 #[.val (.int p0), .val (.int p1), .val (.int p2), .val (.int p3), .val (.int (f1 p0)), .val (.int (f1 p1)), .val (.int (f1 p2)), .val (.int (f1 p3)), .unset, .unset, .unset, .unset] [(.int (f2 (f1 p0))), (.int (0 : Int32)), (.ref b5), (.ref b5)])) rfl rfl (hb hby at_34)
  have N8 := Fr.snoc X8 N6 g_b5
  have V8_b5 : Arv Z h8 b5 k5 .char (4 : Int32) [(.int ((f2 (f1 p0)).toUInt32.toUInt16.toUInt32.toInt32)), (.int (0 : Int32)), (.int (0 : Int32)), (.int (0 : Int32))] (.int (0 : Int32)) := Arv.set Ar7 qa7 Sa7 Na7 Ha7 Ga7 (fits_nar_char _) W8 0 rfl (Nat.le_of_ble_eq_true rfl)
  rw [own_cc (own_lt _ (own_pk p0)).1] at V8_b5
  refine OEnds.go (g' := (mkF m 35 #[.val (.int p0), .val (.int p1), .val (.int p2), .val (.int p3), .val (.int (f1 p0)), .val (.int (f1 p1)), .val (.int (f1 p2)), .val (.int (f1 p3)), .unset, .unset, .unset, .unset] [(.ref b5)])) st8 ?_
  refine OEnds.go (g' := (mkF m 36 #[.val (.int p0), .val (.int p1), .val (.int p2), .val (.int p3), .val (.int (f1 p0)), .val (.int (f1 p1)), .val (.int (f1 p2)), .val (.int (f1 p3)), .unset, .unset, .unset, .unset] [(.ref b5), (.ref b5)])) (fun t k => XS.dup X8.here hx rfl (hb hby at_35) rfl rfl k) ?_
  refine OEnds.go (g' := (mkF m 37 #[.val (.int p0), .val (.int p1), .val (.int p2), .val (.int p3), .val (.int (f1 p0)), .val (.int (f1 p1)), .val (.int (f1 p2)), .val (.int (f1 p3)), .unset, .unset, .unset, .unset] [(.int (1 : Int32)), (.ref b5), (.ref b5)])) (fun t k => XS.iconst X8.here hx rfl (hb hby at_36) k) ?_
  refine OEnds.go (g' := (mkF m 39 #[.val (.int p0), .val (.int p1), .val (.int p2), .val (.int p3), .val (.int (f1 p0)), .val (.int (f1 p1)), .val (.int (f1 p2)), .val (.int (f1 p3)), .unset, .unset, .unset, .unset] [(.int (f1 p1)), (.int (1 : Int32)), (.ref b5), (.ref b5)])) (fun t k => XS.iload X8.here hx rfl (hb hby at_37) rfl k) ?_
  obtain ⟨_, _, ⟨T9, L9, k9, n9⟩, -, X9, ⟨Lc9, hQ9, l9, y9, z9⟩, st9⟩ := Jvm.LawKit.callS X8 hx (y := (⟨"cardtalk/message/HexDigitPinLaw", "ch", "(I)C"⟩ : MethodName)) hown (mvT hZ (hw _ (List.mem_of_getElem? (i := 6) rfl))) (mvT hZ (hw _ (List.mem_of_getElem? (i := 7) rfl))) (mvT hZ (hw _ (List.mem_of_getElem? (i := 2) rfl))) (mvT hZ (hw _ (List.mem_of_getElem? (i := 8) rfl))) (by decide) (backOf (W := 3) (rm2 l Z a0 hw [] (f1 p1) h8 n0 (Nat.le_trans (Nat.le_trans Z0 E5.1) (Nat.le_of_eq W8.size.symm))) hZ (hw _ (List.mem_of_getElem? (i := 8) rfl)) (hw _ (List.mem_of_getElem? (i := 2) rfl)) (by decide) (by decide)) (g := (mkF m 39 #[.val (.int p0), .val (.int p1), .val (.int p2), .val (.int p3), .val (.int (f1 p0)), .val (.int (f1 p1)), .val (.int (f1 p2)), .val (.int (f1 p3)), .unset, .unset, .unset, .unset] [(.int (f1 p1)), (.int (1 : Int32)), (.ref b5), (.ref b5)])) rfl (by rw [hml]; rfl) (argsL := [(.int (f1 p1))]) (rest := [(.int (1 : Int32)), (.ref b5), (.ref b5)]) (lenOf pd_12 rfl) rfl (by show 2 * 0 + _ ≤ _; exact Nat.le_of_eq rfl) (hb hby at_39) (fun _ _ => ⟨rfl, e8, (by decide : 1 + 0 ≤ _), (by decide : 4 + 0 ≤ _)⟩)
  dsimp only [Pt.U, Pt.locs, Pt.cells, Pt.slots] at X9 l9 y9 z9 st9 hQ9
  subst l9 y9 z9
  obtain ⟨rfl, N9q, e9⟩ := hQ9
  have N9 := Fr.app N8 N9q
  refine OEnds.go (g' := (mkF m 42 #[.val (.int p0), .val (.int p1), .val (.int p2), .val (.int p3), .val (.int (f1 p0)), .val (.int (f1 p1)), .val (.int (f1 p2)), .val (.int (f1 p3)), .unset, .unset, .unset, .unset] [(.int (f2 (f1 p1))), (.int (1 : Int32)), (.ref b5), (.ref b5)])) st9 ?_
  obtain ⟨cl10, Ar10, qa10, Sa10, Na10, Ha10, Ga10⟩ := @id _ V8_b5
  have hin10 : ¬ ((1 : Int32) < 0 ∨ cl10.slots.size ≤ ((1 : Int32)).toNatClampNeg) := inb_of Sa10 ⟨by decide, by decide⟩
  obtain ⟨T11, h11, X11, e11, W11, st11⟩ := stC X9 hx hZ e9 Ar10 (j := (1 : Int32)) hin10 (g := (mkF m 42 #[.val (.int p0), .val (.int p1), .val (.int p2), .val (.int p3), .val (.int (f1 p0)), .val (.int (f1 p1)), .val (.int (f1 p2)), .val (.int (f1 p3)), .unset, .unset, .unset, .unset] [(.int (f2 (f1 p1))), (.int (1 : Int32)), (.ref b5), (.ref b5)])) rfl rfl (hb hby at_42)
  have N11 := Fr.snoc X11 N9 g_b5
  have V11_b5 : Arv Z h11 b5 k5 .char (4 : Int32) [(.int (f2 (f1 p0))), (.int ((f2 (f1 p1)).toUInt32.toUInt16.toUInt32.toInt32)), (.int (0 : Int32)), (.int (0 : Int32))] (.int (0 : Int32)) := Arv.set Ar10 qa10 Sa10 Na10 Ha10 Ga10 (fits_nar_char _) W11 1 rfl (Nat.le_of_ble_eq_true rfl)
  rw [own_cc (own_lt _ (own_pk p1)).1] at V11_b5
  refine OEnds.go (g' := (mkF m 43 #[.val (.int p0), .val (.int p1), .val (.int p2), .val (.int p3), .val (.int (f1 p0)), .val (.int (f1 p1)), .val (.int (f1 p2)), .val (.int (f1 p3)), .unset, .unset, .unset, .unset] [(.ref b5)])) st11 ?_
  refine OEnds.go (g' := (mkF m 44 #[.val (.int p0), .val (.int p1), .val (.int p2), .val (.int p3), .val (.int (f1 p0)), .val (.int (f1 p1)), .val (.int (f1 p2)), .val (.int (f1 p3)), .unset, .unset, .unset, .unset] [(.ref b5), (.ref b5)])) (fun t k => XS.dup X11.here hx rfl (hb hby at_43) rfl rfl k) ?_
  refine OEnds.go (g' := (mkF m 45 #[.val (.int p0), .val (.int p1), .val (.int p2), .val (.int p3), .val (.int (f1 p0)), .val (.int (f1 p1)), .val (.int (f1 p2)), .val (.int (f1 p3)), .unset, .unset, .unset, .unset] [(.int (2 : Int32)), (.ref b5), (.ref b5)])) (fun t k => XS.iconst X11.here hx rfl (hb hby at_44) k) ?_
  refine OEnds.go (g' := (mkF m 47 #[.val (.int p0), .val (.int p1), .val (.int p2), .val (.int p3), .val (.int (f1 p0)), .val (.int (f1 p1)), .val (.int (f1 p2)), .val (.int (f1 p3)), .unset, .unset, .unset, .unset] [(.int (f1 p2)), (.int (2 : Int32)), (.ref b5), (.ref b5)])) (fun t k => XS.iload X11.here hx rfl (hb hby at_45) rfl k) ?_
  obtain ⟨_, _, ⟨T12, L12, k12, n12⟩, -, X12, ⟨Lc12, hQ12, l12, y12, z12⟩, st12⟩ := Jvm.LawKit.callS X11 hx (y := (⟨"cardtalk/message/HexDigitPinLaw", "ch", "(I)C"⟩ : MethodName)) hown (mvT hZ (hw _ (List.mem_of_getElem? (i := 6) rfl))) (mvT hZ (hw _ (List.mem_of_getElem? (i := 7) rfl))) (mvT hZ (hw _ (List.mem_of_getElem? (i := 2) rfl))) (mvT hZ (hw _ (List.mem_of_getElem? (i := 8) rfl))) (by decide) (backOf (W := 3) (rm2 l Z a0 hw [] (f1 p2) h11 n0 (Nat.le_trans (Nat.le_trans (Nat.le_trans Z0 E5.1) (Nat.le_of_eq W8.size.symm)) (Nat.le_of_eq W11.size.symm))) hZ (hw _ (List.mem_of_getElem? (i := 8) rfl)) (hw _ (List.mem_of_getElem? (i := 2) rfl)) (by decide) (by decide)) (g := (mkF m 47 #[.val (.int p0), .val (.int p1), .val (.int p2), .val (.int p3), .val (.int (f1 p0)), .val (.int (f1 p1)), .val (.int (f1 p2)), .val (.int (f1 p3)), .unset, .unset, .unset, .unset] [(.int (f1 p2)), (.int (2 : Int32)), (.ref b5), (.ref b5)])) rfl (by rw [hml]; rfl) (argsL := [(.int (f1 p2))]) (rest := [(.int (2 : Int32)), (.ref b5), (.ref b5)]) (lenOf pd_12 rfl) rfl (by show 2 * 0 + _ ≤ _; exact Nat.le_of_eq rfl) (hb hby at_47) (fun _ _ => ⟨rfl, e11, (by decide : 1 + 0 ≤ _), (by decide : 4 + 0 ≤ _)⟩)
  dsimp only [Pt.U, Pt.locs, Pt.cells, Pt.slots] at X12 l12 y12 z12 st12 hQ12
  subst l12 y12 z12
  obtain ⟨rfl, N12q, e12⟩ := hQ12
  have N12 := Fr.app N11 N12q
  refine OEnds.go (g' := (mkF m 50 #[.val (.int p0), .val (.int p1), .val (.int p2), .val (.int p3), .val (.int (f1 p0)), .val (.int (f1 p1)), .val (.int (f1 p2)), .val (.int (f1 p3)), .unset, .unset, .unset, .unset] [(.int (f2 (f1 p2))), (.int (2 : Int32)), (.ref b5), (.ref b5)])) st12 ?_
  obtain ⟨cl13, Ar13, qa13, Sa13, Na13, Ha13, Ga13⟩ := @id _ V11_b5
  have hin13 : ¬ ((2 : Int32) < 0 ∨ cl13.slots.size ≤ ((2 : Int32)).toNatClampNeg) := inb_of Sa13 ⟨by decide, by decide⟩
  obtain ⟨T14, h14, X14, e14, W14, st14⟩ := stC X12 hx hZ e12 Ar13 (j := (2 : Int32)) hin13 (g := (mkF m 50 #[.val (.int p0), .val (.int p1), .val (.int p2), .val (.int p3), .val (.int (f1 p0)), .val (.int (f1 p1)), .val (.int (f1 p2)), .val (.int (f1 p3)), .unset, .unset, .unset, .unset] [(.int (f2 (f1 p2))), (.int (2 : Int32)), (.ref b5), (.ref b5)])) rfl rfl (hb hby at_50)
  have N14 := Fr.snoc X14 N12 g_b5
  have V14_b5 : Arv Z h14 b5 k5 .char (4 : Int32) [(.int (f2 (f1 p0))), (.int (f2 (f1 p1))), (.int ((f2 (f1 p2)).toUInt32.toUInt16.toUInt32.toInt32)), (.int (0 : Int32))] (.int (0 : Int32)) := Arv.set Ar13 qa13 Sa13 Na13 Ha13 Ga13 (fits_nar_char _) W14 2 rfl (Nat.le_of_ble_eq_true rfl)
  rw [own_cc (own_lt _ (own_pk p2)).1] at V14_b5
  refine OEnds.go (g' := (mkF m 51 #[.val (.int p0), .val (.int p1), .val (.int p2), .val (.int p3), .val (.int (f1 p0)), .val (.int (f1 p1)), .val (.int (f1 p2)), .val (.int (f1 p3)), .unset, .unset, .unset, .unset] [(.ref b5)])) st14 ?_
  refine OEnds.go (g' := (mkF m 52 #[.val (.int p0), .val (.int p1), .val (.int p2), .val (.int p3), .val (.int (f1 p0)), .val (.int (f1 p1)), .val (.int (f1 p2)), .val (.int (f1 p3)), .unset, .unset, .unset, .unset] [(.ref b5), (.ref b5)])) (fun t k => XS.dup X14.here hx rfl (hb hby at_51) rfl rfl k) ?_
  refine OEnds.go (g' := (mkF m 53 #[.val (.int p0), .val (.int p1), .val (.int p2), .val (.int p3), .val (.int (f1 p0)), .val (.int (f1 p1)), .val (.int (f1 p2)), .val (.int (f1 p3)), .unset, .unset, .unset, .unset] [(.int (3 : Int32)), (.ref b5), (.ref b5)])) (fun t k => XS.iconst X14.here hx rfl (hb hby at_52) k) ?_
  refine OEnds.go (g' := (mkF m 55 #[.val (.int p0), .val (.int p1), .val (.int p2), .val (.int p3), .val (.int (f1 p0)), .val (.int (f1 p1)), .val (.int (f1 p2)), .val (.int (f1 p3)), .unset, .unset, .unset, .unset] [(.int (f1 p3)), (.int (3 : Int32)), (.ref b5), (.ref b5)])) (fun t k => XS.iload X14.here hx rfl (hb hby at_53) rfl k) ?_
  obtain ⟨_, _, ⟨T15, L15, k15, n15⟩, -, X15, ⟨Lc15, hQ15, l15, y15, z15⟩, st15⟩ := Jvm.LawKit.callS X14 hx (y := (⟨"cardtalk/message/HexDigitPinLaw", "ch", "(I)C"⟩ : MethodName)) hown (mvT hZ (hw _ (List.mem_of_getElem? (i := 6) rfl))) (mvT hZ (hw _ (List.mem_of_getElem? (i := 7) rfl))) (mvT hZ (hw _ (List.mem_of_getElem? (i := 2) rfl))) (mvT hZ (hw _ (List.mem_of_getElem? (i := 8) rfl))) (by decide) (backOf (W := 3) (rm2 l Z a0 hw [] (f1 p3) h14 n0 (Nat.le_trans (Nat.le_trans (Nat.le_trans (Nat.le_trans Z0 E5.1) (Nat.le_of_eq W8.size.symm)) (Nat.le_of_eq W11.size.symm)) (Nat.le_of_eq W14.size.symm))) hZ (hw _ (List.mem_of_getElem? (i := 8) rfl)) (hw _ (List.mem_of_getElem? (i := 2) rfl)) (by decide) (by decide)) (g := (mkF m 55 #[.val (.int p0), .val (.int p1), .val (.int p2), .val (.int p3), .val (.int (f1 p0)), .val (.int (f1 p1)), .val (.int (f1 p2)), .val (.int (f1 p3)), .unset, .unset, .unset, .unset] [(.int (f1 p3)), (.int (3 : Int32)), (.ref b5), (.ref b5)])) rfl (by rw [hml]; rfl) (argsL := [(.int (f1 p3))]) (rest := [(.int (3 : Int32)), (.ref b5), (.ref b5)]) (lenOf pd_12 rfl) rfl (by show 2 * 0 + _ ≤ _; exact Nat.le_of_eq rfl) (hb hby at_55) (fun _ _ => ⟨rfl, e14, (by decide : 1 + 0 ≤ _), (by decide : 4 + 0 ≤ _)⟩)
  dsimp only [Pt.U, Pt.locs, Pt.cells, Pt.slots] at X15 l15 y15 z15 st15 hQ15
  subst l15 y15 z15
  obtain ⟨rfl, N15q, e15⟩ := hQ15
  have N15 := Fr.app N14 N15q
  refine OEnds.go (g' := (mkF m 58 #[.val (.int p0), .val (.int p1), .val (.int p2), .val (.int p3), .val (.int (f1 p0)), .val (.int (f1 p1)), .val (.int (f1 p2)), .val (.int (f1 p3)), .unset, .unset, .unset, .unset] [(.int (f2 (f1 p3))), (.int (3 : Int32)), (.ref b5), (.ref b5)])) st15 ?_
  obtain ⟨cl16, Ar16, qa16, Sa16, Na16, Ha16, Ga16⟩ := @id _ V14_b5
  have hin16 : ¬ ((3 : Int32) < 0 ∨ cl16.slots.size ≤ ((3 : Int32)).toNatClampNeg) := inb_of Sa16 ⟨by decide, by decide⟩
  obtain ⟨T17, h17, X17, e17, W17, st17⟩ := stC X15 hx hZ e15 Ar16 (j := (3 : Int32)) hin16 (g := (mkF m 58 #[.val (.int p0), .val (.int p1), .val (.int p2), .val (.int p3), .val (.int (f1 p0)), .val (.int (f1 p1)), .val (.int (f1 p2)), .val (.int (f1 p3)), .unset, .unset, .unset, .unset] [(.int (f2 (f1 p3))), (.int (3 : Int32)), (.ref b5), (.ref b5)])) rfl rfl (hb hby at_58)
  have N17 := Fr.snoc X17 N15 g_b5
  have V17_b5 : Arv Z h17 b5 k5 .char (4 : Int32) [(.int (f2 (f1 p0))), (.int (f2 (f1 p1))), (.int (f2 (f1 p2))), (.int ((f2 (f1 p3)).toUInt32.toUInt16.toUInt32.toInt32))] (.int (0 : Int32)) := Arv.set Ar16 qa16 Sa16 Na16 Ha16 Ga16 (fits_nar_char _) W17 3 rfl (Nat.le_of_ble_eq_true rfl)
  rw [own_cc (own_lt _ (own_pk p3)).1] at V17_b5
  refine OEnds.go (g' := (mkF m 59 #[.val (.int p0), .val (.int p1), .val (.int p2), .val (.int p3), .val (.int (f1 p0)), .val (.int (f1 p1)), .val (.int (f1 p2)), .val (.int (f1 p3)), .unset, .unset, .unset, .unset] [(.ref b5)])) st17 ?_
  refine OEnds.go (g' := (mkF m 61 #[.val (.int p0), .val (.int p1), .val (.int p2), .val (.int p3), .val (.int (f1 p0)), .val (.int (f1 p1)), .val (.int (f1 p2)), .val (.int (f1 p3)), .val (.ref b5), .unset, .unset, .unset] [])) (fun t k => XS.astore X17.here hx rfl (hb hby at_59) rfl rfl (l' := #[.val (.int p0), .val (.int p1), .val (.int p2), .val (.int p3), .val (.int (f1 p0)), .val (.int (f1 p1)), .val (.int (f1 p2)), .val (.int (f1 p3)), .val (.ref b5), .unset, .unset, .unset]) rfl k) ?_
  obtain ⟨T18, h18, X18, e18, E18, A18, D18, -, st18⟩ := newO X17 hx hZ hown (hw _ (List.mem_of_getElem? (i := 9) rfl)) (hw _ (List.mem_of_getElem? (i := 10) rfl)) (hw _ (List.mem_of_getElem? (i := 11) rfl)) e17 (g := (mkF m 61 #[.val (.int p0), .val (.int p1), .val (.int p2), .val (.int p3), .val (.int (f1 p0)), .val (.int (f1 p1)), .val (.int (f1 p2)), .val (.int (f1 p3)), .val (.ref b5), .unset, .unset, .unset] [])) rfl (hb hby at_61) (by decide) (by decide)
  obtain ⟨b18, g18⟩ : ∃ z, z = h17.size := ⟨_, rfl⟩
  rw [← g18] at A18 D18 st18
  have g_b18 : n0 ≤ b18 := Nat.le_trans (Nat.le_trans (Nat.le_trans (Nat.le_trans (Nat.le_trans (Nat.le_trans Z0 E5.1) (Nat.le_of_eq W8.size.symm)) (Nat.le_of_eq W11.size.symm)) (Nat.le_of_eq W14.size.symm)) (Nat.le_of_eq W17.size.symm)) (Nat.le_of_eq g18.symm)
  have F_coder_b18 : Fld Z h18 b18 "java/lang/String" "coder" "B" (.int (0 : Int32)) := D18 (Or.inr (hw _ (List.mem_of_getElem? (i := 35) rfl))) (ty := .byte) (by decide)
  have F_value_b18 : Fld Z h18 b18 "java/lang/String" "value" "[B" .null := D18 (Or.inr (hw _ (List.mem_of_getElem? (i := 37) rfl))) (ty := (.array .byte)) (by decide)
  refine OEnds.go (g' := (mkF m 64 #[.val (.int p0), .val (.int p1), .val (.int p2), .val (.int p3), .val (.int (f1 p0)), .val (.int (f1 p1)), .val (.int (f1 p2)), .val (.int (f1 p3)), .val (.ref b5), .unset, .unset, .unset] [(.ref b18)])) st18 ?_
  refine OEnds.go (g' := (mkF m 65 #[.val (.int p0), .val (.int p1), .val (.int p2), .val (.int p3), .val (.int (f1 p0)), .val (.int (f1 p1)), .val (.int (f1 p2)), .val (.int (f1 p3)), .val (.ref b5), .unset, .unset, .unset] [(.ref b18), (.ref b18)])) (fun t k => XS.dup X18.here hx rfl (hb hby at_64) rfl rfl k) ?_
  refine OEnds.go (g' := (mkF m 67 #[.val (.int p0), .val (.int p1), .val (.int p2), .val (.int p3), .val (.int (f1 p0)), .val (.int (f1 p1)), .val (.int (f1 p2)), .val (.int (f1 p3)), .val (.ref b5), .unset, .unset, .unset] [(.ref b5), (.ref b18), (.ref b18)])) (fun t k => XS.aload X18.here hx rfl (hb hby at_65) rfl rfl k) ?_
  obtain ⟨_, _, ⟨T19, L19, k19, n19⟩, -, X19, ⟨Lc19, hQ19, l19, y19, z19⟩, st19⟩ := X18.specialBack hx (y := (⟨"java/lang/String", "<init>", "([C)V"⟩ : MethodName)) rfl hown (mvT hZ (hw _ (List.mem_of_getElem? (i := 12) rfl))) (mvT hZ (hw _ (List.mem_of_getElem? (i := 13) rfl))) (mvT hZ (hw _ (List.mem_of_getElem? (i := 14) rfl))) (by decide) (backOf (W := 1) (rmI1_4 l Z a0 hw [] b18 b5 k5 (f2 (f1 p0)) (f2 (f1 p1)) (f2 (f1 p2)) (f2 (f1 p3)) csv h18 n0 (Nat.le_trans (Nat.le_trans (Nat.le_trans (Nat.le_trans (Nat.le_trans (Nat.le_trans Z0 E5.1) (Nat.le_of_eq W8.size.symm)) (Nat.le_of_eq W11.size.symm)) (Nat.le_of_eq W14.size.symm)) (Nat.le_of_eq W17.size.symm)) E18.1) A18 F_coder_b18 F_value_b18 g_b18 (V17_b5.ext E18) ((((((SC.ext E5).wr W8).wr W11).wr W14).wr W17).ext E18) hcs (Nat.ne_of_lt (Nat.lt_of_lt_of_le V17_b5.lt (Nat.le_of_eq g18.symm))) (own_lt _ (own_pk p0)).1 (own_lt _ (own_pk p1)).1 (own_lt _ (own_pk p2)).1 (own_lt _ (own_pk p3)).1) hZ (hw _ (List.mem_of_getElem? (i := 14) rfl)) (hw _ (List.mem_of_getElem? (i := 11) rfl)) (by decide) (by decide)) (g := (mkF m 67 #[.val (.int p0), .val (.int p1), .val (.int p2), .val (.int p3), .val (.int (f1 p0)), .val (.int (f1 p1)), .val (.int (f1 p2)), .val (.int (f1 p3)), .val (.ref b5), .unset, .unset, .unset] [(.ref b5), (.ref b18), (.ref b18)])) rfl (by rw [hml]; rfl) (Steps.refl _) (a := b18) (argsL := [(.ref b5)]) (rest := [(.ref b18)]) (lenOf pd_13 rfl) rfl (by show 2 * 0 + _ ≤ _; exact Nat.le_of_eq rfl) (hb hby at_67) (fun _ _ => ⟨rfl, e18, (by decide : 2 + 1 ≤ _), (by decide : 8 + 4 ≤ _)⟩)
  dsimp only [Pt.U, Pt.locs, Pt.cells, Pt.slots] at X19 l19 y19 z19 st19 hQ19
  subst l19 y19 z19
  obtain ⟨rfl, N19q, K19q, E19q, Fc19q, b19, kb19, Fv19q, g_b19, s_b19, V19q, X19q⟩ := hQ19
  have N19 := Fr.app N17 N19q
  refine OEnds.tr (g' := (mkF m 70 #[.val (.int p0), .val (.int p1), .val (.int p2), .val (.int p3), .val (.int (f1 p0)), .val (.int (f1 p1)), .val (.int (f1 p2)), .val (.int (f1 p3)), .val (.ref b5), .unset, .unset, .unset] [(.ref b18)])) st19 ?_
  obtain ⟨_, _, ⟨T20, L20, k20, n20⟩, -, X20, ⟨Lc20, hQ20, l20, y20, z20⟩, st20⟩ := Jvm.LawKit.callS X19 hx (y := (⟨"cardtalk/message/Hex", "parse", "(Ljava/lang/String;)[B"⟩ : MethodName)) hown (mvT hZ (hw _ (List.mem_of_getElem? (i := 38) rfl))) (mvT hZ (hw _ (List.mem_of_getElem? (i := 39) rfl))) (mvT hZ (hw _ (List.mem_of_getElem? (i := 40) rfl))) (mvT hZ (hw _ (List.mem_of_getElem? (i := 41) rfl))) (by decide) (backOf (W := 0) (rmPa l Z a0 hw [] b18 b19 kb19 (f2 (f1 p0)) (f2 (f1 p1)) (f2 (f1 p2)) (f2 (f1 p3)) csv uu ch T19.heap n0 (Nat.le_trans (Nat.le_trans (Nat.le_trans (Nat.le_trans (Nat.le_trans (Nat.le_trans (Nat.le_trans Z0 E5.1) (Nat.le_of_eq W8.size.symm)) (Nat.le_of_eq W11.size.symm)) (Nat.le_of_eq W14.size.symm)) (Nat.le_of_eq W17.size.symm)) E18.1) K19q.1) E19q Fc19q Fv19q V19q X19q (own_sta_keep ((((((SC.ext E5).wr W8).wr W11).wr W14).wr W17).ext E18) K19q (allS (own_plE A18) all0)) hcs (own_sta_keep ((((((SU.ext E5).wr W8).wr W11).wr W14).wr W17).ext E18) K19q (allS (own_plE A18) all0)) (own_sta_keep ((((((SI.ext E5).wr W8).wr W11).wr W14).wr W17).ext E18) K19q (allS (own_plE A18) all0)) hu (own_sta_keep ((((((SH.ext E5).wr W8).wr W11).wr W14).wr W17).ext E18) K19q (allS (own_plE A18) all0)) (own_hd p0) (own_hd p1) (own_hd p2) (own_hd p3)) hZ (hw _ (List.mem_of_getElem? (i := 41) rfl)) (hw _ (List.mem_of_getElem? (i := 40) rfl)) (by decide) (by decide)) (g := (mkF m 70 #[.val (.int p0), .val (.int p1), .val (.int p2), .val (.int p3), .val (.int (f1 p0)), .val (.int (f1 p1)), .val (.int (f1 p2)), .val (.int (f1 p3)), .val (.ref b5), .unset, .unset, .unset] [(.ref b18)])) rfl (by rw [hml]; rfl) (argsL := [(.ref b18)]) (rest := []) (lenOf pd_14 rfl) rfl (by show 2 * 0 + _ ≤ _; exact Nat.le_of_eq rfl) (hb hby at_70) (fun _ _ => ⟨rfl, rfl, (by decide : 3 + 2 ≤ _), (by decide : 12 + 6 ≤ _)⟩)
  dsimp only [Pt.U, Pt.locs, Pt.cells, Pt.slots] at X20 l20 y20 z20 st20 hQ20
  subst l20 y20 z20
  obtain ⟨b20, k220, rfl, N20q, K20q, V20q⟩ := hQ20
  have N20 := Fr.app N19 N20q
  refine OEnds.go (g' := (mkF m 73 #[.val (.int p0), .val (.int p1), .val (.int p2), .val (.int p3), .val (.int (f1 p0)), .val (.int (f1 p1)), .val (.int (f1 p2)), .val (.int (f1 p3)), .val (.ref b5), .unset, .unset, .unset] [(.ref b20)])) st20 ?_
  refine OEnds.go (g' := (mkF m 75 #[.val (.int p0), .val (.int p1), .val (.int p2), .val (.int p3), .val (.int (f1 p0)), .val (.int (f1 p1)), .val (.int (f1 p2)), .val (.int (f1 p3)), .val (.ref b5), .val (.ref b20), .unset, .unset] [])) (fun t k => XS.astore X20.here hx rfl (hb hby at_73) rfl rfl (l' := #[.val (.int p0), .val (.int p1), .val (.int p2), .val (.int p3), .val (.int (f1 p0)), .val (.int (f1 p1)), .val (.int (f1 p2)), .val (.int (f1 p3)), .val (.ref b5), .val (.ref b20), .unset, .unset]) rfl k) ?_
  refine OEnds.go (g' := (mkF m 77 #[.val (.int p0), .val (.int p1), .val (.int p2), .val (.int p3), .val (.int (f1 p0)), .val (.int (f1 p1)), .val (.int (f1 p2)), .val (.int (f1 p3)), .val (.ref b5), .val (.ref b20), .unset, .unset] [(.ref b20)])) (fun t k => XS.aload X20.here hx rfl (hb hby at_75) rfl rfl k) ?_
  obtain ⟨cl21, Ar21, qa21, Sa21, Na21, Ha21, Ga21⟩ := @id _ V20q
  refine OEnds.go (g' := (mkF m 78 #[.val (.int p0), .val (.int p1), .val (.int p2), .val (.int p3), .val (.int (f1 p0)), .val (.int (f1 p1)), .val (.int (f1 p2)), .val (.int (f1 p3)), .val (.ref b5), .val (.ref b20), .unset, .unset] [(.int (2 : Int32))])) (fun t k => X20.arraylength hx Ar21.1 (State.isArrayOf_alike hZ.alike Ar21.2.1) (g := (mkF m 77 #[.val (.int p0), .val (.int p1), .val (.int p2), .val (.int p3), .val (.int (f1 p0)), .val (.int (f1 p1)), .val (.int (f1 p2)), .val (.int (f1 p3)), .val (.ref b5), .val (.ref b20), .unset, .unset] [(.ref b20)])) rfl rfl (hb hby at_77) t (by rw [len_of Sa21 Na21]; exact k)) ?_
  refine OEnds.go (g' := (mkF m 79 #[.val (.int p0), .val (.int p1), .val (.int p2), .val (.int p3), .val (.int (f1 p0)), .val (.int (f1 p1)), .val (.int (f1 p2)), .val (.int (f1 p3)), .val (.ref b5), .val (.ref b20), .unset, .unset] [(.int (2 : Int32)), (.int (2 : Int32))])) (fun t k => XS.iconst X20.here hx rfl (hb hby at_78) k) ?_
  refine OEnds.go (g' := (mkF m 84 #[.val (.int p0), .val (.int p1), .val (.int p2), .val (.int p3), .val (.int (f1 p0)), .val (.int (f1 p1)), .val (.int (f1 p2)), .val (.int (f1 p3)), .val (.ref b5), .val (.ref b20), .unset, .unset] [])) (fun t k => XS.icmpYes X20.here hx rfl (pc0 := 79) (pc' := 84) rfl (hb hby at_79) rfl (teq (by decide : ((2 : Int32) = (2 : Int32)))).1 (by decide) (by decide) k) ?_
  refine OEnds.go (g' := (mkF m 86 #[.val (.int p0), .val (.int p1), .val (.int p2), .val (.int p3), .val (.int (f1 p0)), .val (.int (f1 p1)), .val (.int (f1 p2)), .val (.int (f1 p3)), .val (.ref b5), .val (.ref b20), .unset, .unset] [(.ref b20)])) (fun t k => XS.aload X20.here hx rfl (hb hby at_84) rfl rfl k) ?_
  refine OEnds.go (g' := (mkF m 87 #[.val (.int p0), .val (.int p1), .val (.int p2), .val (.int p3), .val (.int (f1 p0)), .val (.int (f1 p1)), .val (.int (f1 p2)), .val (.int (f1 p3)), .val (.ref b5), .val (.ref b20), .unset, .unset] [(.int (0 : Int32)), (.ref b20)])) (fun t k => XS.iconst X20.here hx rfl (hb hby at_86) k) ?_
  obtain ⟨cl22, Ar22, qa22, Sa22, Na22, Ha22, Ga22⟩ := @id _ V20q
  have hin22 : ¬ ((0 : Int32) < 0 ∨ cl22.slots.size ≤ ((0 : Int32)).toNatClampNeg) := inb_of Sa22 ⟨by decide, by decide⟩
  have hat22 : cl22.slots[((0 : Int32)).toNatClampNeg]? = some (.int (((((f15 (own_by (f2 (f1 p0)))) <<< ((4 : Int32) &&& 31)) ||| (f15 (own_by (f2 (f1 p1))))).toInt8.toInt32).toInt8.toInt32)) := Has.at Ha22 hin22 rfl
  refine OEnds.go (g' := (mkF m 88 #[.val (.int p0), .val (.int p1), .val (.int p2), .val (.int p3), .val (.int (f1 p0)), .val (.int (f1 p1)), .val (.int (f1 p2)), .val (.int (f1 p3)), .val (.ref b5), .val (.ref b20), .unset, .unset] [(.int (((((f15 (own_by (f2 (f1 p0)))) <<< ((4 : Int32) &&& 31)) ||| (f15 (own_by (f2 (f1 p1))))).toInt8.toInt32).toInt8.toInt32))])) (X20.baloadBytes hx (j := (0 : Int32)) (v := (.int (((((f15 (own_by (f2 (f1 p0)))) <<< ((4 : Int32) &&& 31)) ||| (f15 (own_by (f2 (f1 p1))))).toInt8.toInt32).toInt8.toInt32))) Ar22.1 (State.isArrayOf_alike hZ.alike Ar22.2.1) Ar22.2.2 hin22 hat22 (g := (mkF m 87 #[.val (.int p0), .val (.int p1), .val (.int p2), .val (.int p3), .val (.int (f1 p0)), .val (.int (f1 p1)), .val (.int (f1 p2)), .val (.int (f1 p3)), .val (.ref b5), .val (.ref b20), .unset, .unset] [(.int (0 : Int32)), (.ref b20)])) rfl rfl (hb hby at_87)) ?_
  refine OEnds.go (g' := (mkF m 91 #[.val (.int p0), .val (.int p1), .val (.int p2), .val (.int p3), .val (.int (f1 p0)), .val (.int (f1 p1)), .val (.int (f1 p2)), .val (.int (f1 p3)), .val (.ref b5), .val (.ref b20), .unset, .unset] [(.int (255 : Int32)), (.int (((((f15 (own_by (f2 (f1 p0)))) <<< ((4 : Int32) &&& 31)) ||| (f15 (own_by (f2 (f1 p1))))).toInt8.toInt32).toInt8.toInt32))])) (fun t k => XS.sipush X20.here hx rfl (hb hby at_88) k) ?_
  refine OEnds.go (g' := (mkF m 92 #[.val (.int p0), .val (.int p1), .val (.int p2), .val (.int p3), .val (.int (f1 p0)), .val (.int (f1 p1)), .val (.int (f1 p2)), .val (.int (f1 p3)), .val (.ref b5), .val (.ref b20), .unset, .unset] [(.int ((((((f15 (own_by (f2 (f1 p0)))) <<< ((4 : Int32) &&& 31)) ||| (f15 (own_by (f2 (f1 p1))))).toInt8.toInt32).toInt8.toInt32) &&& (255 : Int32)))])) (fun t k => XS.iand X20.here hx rfl (hb hby at_91) rfl k) ?_
  refine OEnds.go (g' := (mkF m 94 #[.val (.int p0), .val (.int p1), .val (.int p2), .val (.int p3), .val (.int (f1 p0)), .val (.int (f1 p1)), .val (.int (f1 p2)), .val (.int (f1 p3)), .val (.ref b5), .val (.ref b20), .val (.int ((((((f15 (own_by (f2 (f1 p0)))) <<< ((4 : Int32) &&& 31)) ||| (f15 (own_by (f2 (f1 p1))))).toInt8.toInt32).toInt8.toInt32) &&& (255 : Int32))), .unset] [])) (fun t k => XS.istore X20.here hx rfl (hb hby at_92) rfl (l' := #[.val (.int p0), .val (.int p1), .val (.int p2), .val (.int p3), .val (.int (f1 p0)), .val (.int (f1 p1)), .val (.int (f1 p2)), .val (.int (f1 p3)), .val (.ref b5), .val (.ref b20), .val (.int ((((((f15 (own_by (f2 (f1 p0)))) <<< ((4 : Int32) &&& 31)) ||| (f15 (own_by (f2 (f1 p1))))).toInt8.toInt32).toInt8.toInt32) &&& (255 : Int32))), .unset]) rfl k) ?_
  refine OEnds.go (g' := (mkF m 96 #[.val (.int p0), .val (.int p1), .val (.int p2), .val (.int p3), .val (.int (f1 p0)), .val (.int (f1 p1)), .val (.int (f1 p2)), .val (.int (f1 p3)), .val (.ref b5), .val (.ref b20), .val (.int ((((((f15 (own_by (f2 (f1 p0)))) <<< ((4 : Int32) &&& 31)) ||| (f15 (own_by (f2 (f1 p1))))).toInt8.toInt32).toInt8.toInt32) &&& (255 : Int32))), .unset] [(.ref b20)])) (fun t k => XS.aload X20.here hx rfl (hb hby at_94) rfl rfl k) ?_
  refine OEnds.go (g' := (mkF m 97 #[.val (.int p0), .val (.int p1), .val (.int p2), .val (.int p3), .val (.int (f1 p0)), .val (.int (f1 p1)), .val (.int (f1 p2)), .val (.int (f1 p3)), .val (.ref b5), .val (.ref b20), .val (.int ((((((f15 (own_by (f2 (f1 p0)))) <<< ((4 : Int32) &&& 31)) ||| (f15 (own_by (f2 (f1 p1))))).toInt8.toInt32).toInt8.toInt32) &&& (255 : Int32))), .unset] [(.int (1 : Int32)), (.ref b20)])) (fun t k => XS.iconst X20.here hx rfl (hb hby at_96) k) ?_
  obtain ⟨cl23, Ar23, qa23, Sa23, Na23, Ha23, Ga23⟩ := @id _ V20q
  have hin23 : ¬ ((1 : Int32) < 0 ∨ cl23.slots.size ≤ ((1 : Int32)).toNatClampNeg) := inb_of Sa23 ⟨by decide, by decide⟩
  have hat23 : cl23.slots[((1 : Int32)).toNatClampNeg]? = some (.int (((((f15 (own_by (f2 (f1 p2)))) <<< ((4 : Int32) &&& 31)) ||| (f15 (own_by (f2 (f1 p3))))).toInt8.toInt32).toInt8.toInt32)) := Has.at Ha23 hin23 rfl
  refine OEnds.go (g' := (mkF m 98 #[.val (.int p0), .val (.int p1), .val (.int p2), .val (.int p3), .val (.int (f1 p0)), .val (.int (f1 p1)), .val (.int (f1 p2)), .val (.int (f1 p3)), .val (.ref b5), .val (.ref b20), .val (.int ((((((f15 (own_by (f2 (f1 p0)))) <<< ((4 : Int32) &&& 31)) ||| (f15 (own_by (f2 (f1 p1))))).toInt8.toInt32).toInt8.toInt32) &&& (255 : Int32))), .unset] [(.int (((((f15 (own_by (f2 (f1 p2)))) <<< ((4 : Int32) &&& 31)) ||| (f15 (own_by (f2 (f1 p3))))).toInt8.toInt32).toInt8.toInt32))])) (X20.baloadBytes hx (j := (1 : Int32)) (v := (.int (((((f15 (own_by (f2 (f1 p2)))) <<< ((4 : Int32) &&& 31)) ||| (f15 (own_by (f2 (f1 p3))))).toInt8.toInt32).toInt8.toInt32))) Ar23.1 (State.isArrayOf_alike hZ.alike Ar23.2.1) Ar23.2.2 hin23 hat23 (g := (mkF m 97 #[.val (.int p0), .val (.int p1), .val (.int p2), .val (.int p3), .val (.int (f1 p0)), .val (.int (f1 p1)), .val (.int (f1 p2)), .val (.int (f1 p3)), .val (.ref b5), .val (.ref b20), .val (.int ((((((f15 (own_by (f2 (f1 p0)))) <<< ((4 : Int32) &&& 31)) ||| (f15 (own_by (f2 (f1 p1))))).toInt8.toInt32).toInt8.toInt32) &&& (255 : Int32))), .unset] [(.int (1 : Int32)), (.ref b20)])) rfl rfl (hb hby at_97)) ?_
  refine OEnds.go (g' := (mkF m 101 #[.val (.int p0), .val (.int p1), .val (.int p2), .val (.int p3), .val (.int (f1 p0)), .val (.int (f1 p1)), .val (.int (f1 p2)), .val (.int (f1 p3)), .val (.ref b5), .val (.ref b20), .val (.int ((((((f15 (own_by (f2 (f1 p0)))) <<< ((4 : Int32) &&& 31)) ||| (f15 (own_by (f2 (f1 p1))))).toInt8.toInt32).toInt8.toInt32) &&& (255 : Int32))), .unset] [(.int (255 : Int32)), (.int (((((f15 (own_by (f2 (f1 p2)))) <<< ((4 : Int32) &&& 31)) ||| (f15 (own_by (f2 (f1 p3))))).toInt8.toInt32).toInt8.toInt32))])) (fun t k => XS.sipush X20.here hx rfl (hb hby at_98) k) ?_
  refine OEnds.go (g' := (mkF m 102 #[.val (.int p0), .val (.int p1), .val (.int p2), .val (.int p3), .val (.int (f1 p0)), .val (.int (f1 p1)), .val (.int (f1 p2)), .val (.int (f1 p3)), .val (.ref b5), .val (.ref b20), .val (.int ((((((f15 (own_by (f2 (f1 p0)))) <<< ((4 : Int32) &&& 31)) ||| (f15 (own_by (f2 (f1 p1))))).toInt8.toInt32).toInt8.toInt32) &&& (255 : Int32))), .unset] [(.int ((((((f15 (own_by (f2 (f1 p2)))) <<< ((4 : Int32) &&& 31)) ||| (f15 (own_by (f2 (f1 p3))))).toInt8.toInt32).toInt8.toInt32) &&& (255 : Int32)))])) (fun t k => XS.iand X20.here hx rfl (hb hby at_101) rfl k) ?_
  refine OEnds.go (g' := (mkF m 104 #[.val (.int p0), .val (.int p1), .val (.int p2), .val (.int p3), .val (.int (f1 p0)), .val (.int (f1 p1)), .val (.int (f1 p2)), .val (.int (f1 p3)), .val (.ref b5), .val (.ref b20), .val (.int ((((((f15 (own_by (f2 (f1 p0)))) <<< ((4 : Int32) &&& 31)) ||| (f15 (own_by (f2 (f1 p1))))).toInt8.toInt32).toInt8.toInt32) &&& (255 : Int32))), .val (.int ((((((f15 (own_by (f2 (f1 p2)))) <<< ((4 : Int32) &&& 31)) ||| (f15 (own_by (f2 (f1 p3))))).toInt8.toInt32).toInt8.toInt32) &&& (255 : Int32)))] [])) (fun t k => XS.istore X20.here hx rfl (hb hby at_102) rfl (l' := #[.val (.int p0), .val (.int p1), .val (.int p2), .val (.int p3), .val (.int (f1 p0)), .val (.int (f1 p1)), .val (.int (f1 p2)), .val (.int (f1 p3)), .val (.ref b5), .val (.ref b20), .val (.int ((((((f15 (own_by (f2 (f1 p0)))) <<< ((4 : Int32) &&& 31)) ||| (f15 (own_by (f2 (f1 p1))))).toInt8.toInt32).toInt8.toInt32) &&& (255 : Int32))), .val (.int ((((((f15 (own_by (f2 (f1 p2)))) <<< ((4 : Int32) &&& 31)) ||| (f15 (own_by (f2 (f1 p3))))).toInt8.toInt32).toInt8.toInt32) &&& (255 : Int32)))]) rfl k) ?_
  refine OEnds.go (g' := (mkF m 106 #[.val (.int p0), .val (.int p1), .val (.int p2), .val (.int p3), .val (.int (f1 p0)), .val (.int (f1 p1)), .val (.int (f1 p2)), .val (.int (f1 p3)), .val (.ref b5), .val (.ref b20), .val (.int ((((((f15 (own_by (f2 (f1 p0)))) <<< ((4 : Int32) &&& 31)) ||| (f15 (own_by (f2 (f1 p1))))).toInt8.toInt32).toInt8.toInt32) &&& (255 : Int32))), .val (.int ((((((f15 (own_by (f2 (f1 p2)))) <<< ((4 : Int32) &&& 31)) ||| (f15 (own_by (f2 (f1 p3))))).toInt8.toInt32).toInt8.toInt32) &&& (255 : Int32)))] [(.int ((((((f15 (own_by (f2 (f1 p0)))) <<< ((4 : Int32) &&& 31)) ||| (f15 (own_by (f2 (f1 p1))))).toInt8.toInt32).toInt8.toInt32) &&& (255 : Int32)))])) (fun t k => XS.iload X20.here hx rfl (hb hby at_104) rfl k) ?_
  refine OEnds.go (g' := (mkF m 108 #[.val (.int p0), .val (.int p1), .val (.int p2), .val (.int p3), .val (.int (f1 p0)), .val (.int (f1 p1)), .val (.int (f1 p2)), .val (.int (f1 p3)), .val (.ref b5), .val (.ref b20), .val (.int ((((((f15 (own_by (f2 (f1 p0)))) <<< ((4 : Int32) &&& 31)) ||| (f15 (own_by (f2 (f1 p1))))).toInt8.toInt32).toInt8.toInt32) &&& (255 : Int32))), .val (.int ((((((f15 (own_by (f2 (f1 p2)))) <<< ((4 : Int32) &&& 31)) ||| (f15 (own_by (f2 (f1 p3))))).toInt8.toInt32).toInt8.toInt32) &&& (255 : Int32)))] [(.int (f1 p0)), (.int ((((((f15 (own_by (f2 (f1 p0)))) <<< ((4 : Int32) &&& 31)) ||| (f15 (own_by (f2 (f1 p1))))).toInt8.toInt32).toInt8.toInt32) &&& (255 : Int32)))])) (fun t k => XS.iload X20.here hx rfl (hb hby at_106) rfl k) ?_
  obtain ⟨_, _, ⟨T24, L24, k24, n24⟩, -, X24, ⟨Lc24, hQ24, l24, y24, z24⟩, st24⟩ := Jvm.LawKit.callS X20 hx (y := (⟨"cardtalk/message/HexDigitPinLaw", "val", "(I)I"⟩ : MethodName)) hown (mvT hZ (hw _ (List.mem_of_getElem? (i := 82) rfl))) (mvT hZ (hw _ (List.mem_of_getElem? (i := 83) rfl))) (mvT hZ (hw _ (List.mem_of_getElem? (i := 2) rfl))) (mvT hZ (hw _ (List.mem_of_getElem? (i := 84) rfl))) (by decide) (backOf (W := 1) (rm17 l Z a0 hw [] (f1 p0) T20.heap n0 (Nat.le_trans (Nat.le_trans (Nat.le_trans (Nat.le_trans (Nat.le_trans (Nat.le_trans (Nat.le_trans (Nat.le_trans Z0 E5.1) (Nat.le_of_eq W8.size.symm)) (Nat.le_of_eq W11.size.symm)) (Nat.le_of_eq W14.size.symm)) (Nat.le_of_eq W17.size.symm)) E18.1) K19q.1) K20q.1)) hZ (hw _ (List.mem_of_getElem? (i := 84) rfl)) (hw _ (List.mem_of_getElem? (i := 2) rfl)) (by decide) (by decide)) (g := (mkF m 108 #[.val (.int p0), .val (.int p1), .val (.int p2), .val (.int p3), .val (.int (f1 p0)), .val (.int (f1 p1)), .val (.int (f1 p2)), .val (.int (f1 p3)), .val (.ref b5), .val (.ref b20), .val (.int ((((((f15 (own_by (f2 (f1 p0)))) <<< ((4 : Int32) &&& 31)) ||| (f15 (own_by (f2 (f1 p1))))).toInt8.toInt32).toInt8.toInt32) &&& (255 : Int32))), .val (.int ((((((f15 (own_by (f2 (f1 p2)))) <<< ((4 : Int32) &&& 31)) ||| (f15 (own_by (f2 (f1 p3))))).toInt8.toInt32).toInt8.toInt32) &&& (255 : Int32)))] [(.int (f1 p0)), (.int ((((((f15 (own_by (f2 (f1 p0)))) <<< ((4 : Int32) &&& 31)) ||| (f15 (own_by (f2 (f1 p1))))).toInt8.toInt32).toInt8.toInt32) &&& (255 : Int32)))])) rfl (by rw [hml]; rfl) (argsL := [(.int (f1 p0))]) (rest := [(.int ((((((f15 (own_by (f2 (f1 p0)))) <<< ((4 : Int32) &&& 31)) ||| (f15 (own_by (f2 (f1 p1))))).toInt8.toInt32).toInt8.toInt32) &&& (255 : Int32)))]) (lenOf pd_11 rfl) rfl (by show 2 * 0 + _ ≤ _; exact Nat.le_of_eq rfl) (hb hby at_108) (fun _ _ => ⟨rfl, rfl, (by decide : 5 + 0 ≤ _), (by decide : 18 + 0 ≤ _)⟩)
  dsimp only [Pt.U, Pt.locs, Pt.cells, Pt.slots] at X24 l24 y24 z24 st24 hQ24
  subst l24 y24 z24
  obtain ⟨rfl, N24q, e24⟩ := hQ24
  have N24 := Fr.app N20 N24q
  refine OEnds.go (g' := (mkF m 111 #[.val (.int p0), .val (.int p1), .val (.int p2), .val (.int p3), .val (.int (f1 p0)), .val (.int (f1 p1)), .val (.int (f1 p2)), .val (.int (f1 p3)), .val (.ref b5), .val (.ref b20), .val (.int ((((((f15 (own_by (f2 (f1 p0)))) <<< ((4 : Int32) &&& 31)) ||| (f15 (own_by (f2 (f1 p1))))).toInt8.toInt32).toInt8.toInt32) &&& (255 : Int32))), .val (.int ((((((f15 (own_by (f2 (f1 p2)))) <<< ((4 : Int32) &&& 31)) ||| (f15 (own_by (f2 (f1 p3))))).toInt8.toInt32).toInt8.toInt32) &&& (255 : Int32)))] [(.int (f17 (f1 p0))), (.int ((((((f15 (own_by (f2 (f1 p0)))) <<< ((4 : Int32) &&& 31)) ||| (f15 (own_by (f2 (f1 p1))))).toInt8.toInt32).toInt8.toInt32) &&& (255 : Int32)))])) st24 ?_
  refine OEnds.go (g' := (mkF m 113 #[.val (.int p0), .val (.int p1), .val (.int p2), .val (.int p3), .val (.int (f1 p0)), .val (.int (f1 p1)), .val (.int (f1 p2)), .val (.int (f1 p3)), .val (.ref b5), .val (.ref b20), .val (.int ((((((f15 (own_by (f2 (f1 p0)))) <<< ((4 : Int32) &&& 31)) ||| (f15 (own_by (f2 (f1 p1))))).toInt8.toInt32).toInt8.toInt32) &&& (255 : Int32))), .val (.int ((((((f15 (own_by (f2 (f1 p2)))) <<< ((4 : Int32) &&& 31)) ||| (f15 (own_by (f2 (f1 p3))))).toInt8.toInt32).toInt8.toInt32) &&& (255 : Int32)))] [(.int (16 : Int32)), (.int (f17 (f1 p0))), (.int ((((((f15 (own_by (f2 (f1 p0)))) <<< ((4 : Int32) &&& 31)) ||| (f15 (own_by (f2 (f1 p1))))).toInt8.toInt32).toInt8.toInt32) &&& (255 : Int32)))])) (fun t k => XS.bipush X24.here hx rfl (hb hby at_111) k) ?_
  refine OEnds.go (g' := (mkF m 114 #[.val (.int p0), .val (.int p1), .val (.int p2), .val (.int p3), .val (.int (f1 p0)), .val (.int (f1 p1)), .val (.int (f1 p2)), .val (.int (f1 p3)), .val (.ref b5), .val (.ref b20), .val (.int ((((((f15 (own_by (f2 (f1 p0)))) <<< ((4 : Int32) &&& 31)) ||| (f15 (own_by (f2 (f1 p1))))).toInt8.toInt32).toInt8.toInt32) &&& (255 : Int32))), .val (.int ((((((f15 (own_by (f2 (f1 p2)))) <<< ((4 : Int32) &&& 31)) ||| (f15 (own_by (f2 (f1 p3))))).toInt8.toInt32).toInt8.toInt32) &&& (255 : Int32)))] [(.int ((f17 (f1 p0)) * (16 : Int32))), (.int ((((((f15 (own_by (f2 (f1 p0)))) <<< ((4 : Int32) &&& 31)) ||| (f15 (own_by (f2 (f1 p1))))).toInt8.toInt32).toInt8.toInt32) &&& (255 : Int32)))])) (fun t k => XS.imul X24.here hx rfl (hb hby at_113) rfl k) ?_
  refine OEnds.go (g' := (mkF m 116 #[.val (.int p0), .val (.int p1), .val (.int p2), .val (.int p3), .val (.int (f1 p0)), .val (.int (f1 p1)), .val (.int (f1 p2)), .val (.int (f1 p3)), .val (.ref b5), .val (.ref b20), .val (.int ((((((f15 (own_by (f2 (f1 p0)))) <<< ((4 : Int32) &&& 31)) ||| (f15 (own_by (f2 (f1 p1))))).toInt8.toInt32).toInt8.toInt32) &&& (255 : Int32))), .val (.int ((((((f15 (own_by (f2 (f1 p2)))) <<< ((4 : Int32) &&& 31)) ||| (f15 (own_by (f2 (f1 p3))))).toInt8.toInt32).toInt8.toInt32) &&& (255 : Int32)))] [(.int (f1 p1)), (.int ((f17 (f1 p0)) * (16 : Int32))), (.int ((((((f15 (own_by (f2 (f1 p0)))) <<< ((4 : Int32) &&& 31)) ||| (f15 (own_by (f2 (f1 p1))))).toInt8.toInt32).toInt8.toInt32) &&& (255 : Int32)))])) (fun t k => XS.iload X24.here hx rfl (hb hby at_114) rfl k) ?_
  obtain ⟨_, _, ⟨T25, L25, k25, n25⟩, -, X25, ⟨Lc25, hQ25, l25, y25, z25⟩, st25⟩ := Jvm.LawKit.callS X24 hx (y := (⟨"cardtalk/message/HexDigitPinLaw", "val", "(I)I"⟩ : MethodName)) hown (mvT hZ (hw _ (List.mem_of_getElem? (i := 82) rfl))) (mvT hZ (hw _ (List.mem_of_getElem? (i := 83) rfl))) (mvT hZ (hw _ (List.mem_of_getElem? (i := 2) rfl))) (mvT hZ (hw _ (List.mem_of_getElem? (i := 84) rfl))) (by decide) (backOf (W := 2) (rm17 l Z a0 hw [] (f1 p1) T20.heap n0 (Nat.le_trans (Nat.le_trans (Nat.le_trans (Nat.le_trans (Nat.le_trans (Nat.le_trans (Nat.le_trans (Nat.le_trans Z0 E5.1) (Nat.le_of_eq W8.size.symm)) (Nat.le_of_eq W11.size.symm)) (Nat.le_of_eq W14.size.symm)) (Nat.le_of_eq W17.size.symm)) E18.1) K19q.1) K20q.1)) hZ (hw _ (List.mem_of_getElem? (i := 84) rfl)) (hw _ (List.mem_of_getElem? (i := 2) rfl)) (by decide) (by decide)) (g := (mkF m 116 #[.val (.int p0), .val (.int p1), .val (.int p2), .val (.int p3), .val (.int (f1 p0)), .val (.int (f1 p1)), .val (.int (f1 p2)), .val (.int (f1 p3)), .val (.ref b5), .val (.ref b20), .val (.int ((((((f15 (own_by (f2 (f1 p0)))) <<< ((4 : Int32) &&& 31)) ||| (f15 (own_by (f2 (f1 p1))))).toInt8.toInt32).toInt8.toInt32) &&& (255 : Int32))), .val (.int ((((((f15 (own_by (f2 (f1 p2)))) <<< ((4 : Int32) &&& 31)) ||| (f15 (own_by (f2 (f1 p3))))).toInt8.toInt32).toInt8.toInt32) &&& (255 : Int32)))] [(.int (f1 p1)), (.int ((f17 (f1 p0)) * (16 : Int32))), (.int ((((((f15 (own_by (f2 (f1 p0)))) <<< ((4 : Int32) &&& 31)) ||| (f15 (own_by (f2 (f1 p1))))).toInt8.toInt32).toInt8.toInt32) &&& (255 : Int32)))])) rfl (by rw [hml]; rfl) (argsL := [(.int (f1 p1))]) (rest := [(.int ((f17 (f1 p0)) * (16 : Int32))), (.int ((((((f15 (own_by (f2 (f1 p0)))) <<< ((4 : Int32) &&& 31)) ||| (f15 (own_by (f2 (f1 p1))))).toInt8.toInt32).toInt8.toInt32) &&& (255 : Int32)))]) (lenOf pd_11 rfl) rfl (by show 2 * 0 + _ ≤ _; exact Nat.le_of_eq rfl) (hb hby at_116) (fun _ _ => ⟨rfl, e24, (by decide : 5 + 0 ≤ _), (by decide : 18 + 0 ≤ _)⟩)
  dsimp only [Pt.U, Pt.locs, Pt.cells, Pt.slots] at X25 l25 y25 z25 st25 hQ25
  subst l25 y25 z25
  obtain ⟨rfl, N25q, e25⟩ := hQ25
  have N25 := Fr.app N24 N25q
  refine OEnds.go (g' := (mkF m 119 #[.val (.int p0), .val (.int p1), .val (.int p2), .val (.int p3), .val (.int (f1 p0)), .val (.int (f1 p1)), .val (.int (f1 p2)), .val (.int (f1 p3)), .val (.ref b5), .val (.ref b20), .val (.int ((((((f15 (own_by (f2 (f1 p0)))) <<< ((4 : Int32) &&& 31)) ||| (f15 (own_by (f2 (f1 p1))))).toInt8.toInt32).toInt8.toInt32) &&& (255 : Int32))), .val (.int ((((((f15 (own_by (f2 (f1 p2)))) <<< ((4 : Int32) &&& 31)) ||| (f15 (own_by (f2 (f1 p3))))).toInt8.toInt32).toInt8.toInt32) &&& (255 : Int32)))] [(.int (f17 (f1 p1))), (.int ((f17 (f1 p0)) * (16 : Int32))), (.int ((((((f15 (own_by (f2 (f1 p0)))) <<< ((4 : Int32) &&& 31)) ||| (f15 (own_by (f2 (f1 p1))))).toInt8.toInt32).toInt8.toInt32) &&& (255 : Int32)))])) st25 ?_
  refine OEnds.go (g' := (mkF m 120 #[.val (.int p0), .val (.int p1), .val (.int p2), .val (.int p3), .val (.int (f1 p0)), .val (.int (f1 p1)), .val (.int (f1 p2)), .val (.int (f1 p3)), .val (.ref b5), .val (.ref b20), .val (.int ((((((f15 (own_by (f2 (f1 p0)))) <<< ((4 : Int32) &&& 31)) ||| (f15 (own_by (f2 (f1 p1))))).toInt8.toInt32).toInt8.toInt32) &&& (255 : Int32))), .val (.int ((((((f15 (own_by (f2 (f1 p2)))) <<< ((4 : Int32) &&& 31)) ||| (f15 (own_by (f2 (f1 p3))))).toInt8.toInt32).toInt8.toInt32) &&& (255 : Int32)))] [(.int (((f17 (f1 p0)) * (16 : Int32)) + (f17 (f1 p1)))), (.int ((((((f15 (own_by (f2 (f1 p0)))) <<< ((4 : Int32) &&& 31)) ||| (f15 (own_by (f2 (f1 p1))))).toInt8.toInt32).toInt8.toInt32) &&& (255 : Int32)))])) (fun t k => XS.iadd X25.here hx rfl (hb hby at_119) rfl k) ?_
  refine OEnds.go (g' := (mkF m 123 #[.val (.int p0), .val (.int p1), .val (.int p2), .val (.int p3), .val (.int (f1 p0)), .val (.int (f1 p1)), .val (.int (f1 p2)), .val (.int (f1 p3)), .val (.ref b5), .val (.ref b20), .val (.int ((((((f15 (own_by (f2 (f1 p0)))) <<< ((4 : Int32) &&& 31)) ||| (f15 (own_by (f2 (f1 p1))))).toInt8.toInt32).toInt8.toInt32) &&& (255 : Int32))), .val (.int ((((((f15 (own_by (f2 (f1 p2)))) <<< ((4 : Int32) &&& 31)) ||| (f15 (own_by (f2 (f1 p3))))).toInt8.toInt32).toInt8.toInt32) &&& (255 : Int32)))] [])) (fun t k => XS.icmpNo X25.here hx rfl (hb hby at_120) rfl (teq (own_fin2 p0 p1 : (((((((f15 (own_by (f2 (f1 p0)))) <<< ((4 : Int32) &&& 31)) ||| (f15 (own_by (f2 (f1 p1))))).toInt8.toInt32).toInt8.toInt32) &&& (255 : Int32)) = (((f17 (f1 p0)) * (16 : Int32)) + (f17 (f1 p1)))))).2 k) ?_
  refine OEnds.go (g' := (mkF m 125 #[.val (.int p0), .val (.int p1), .val (.int p2), .val (.int p3), .val (.int (f1 p0)), .val (.int (f1 p1)), .val (.int (f1 p2)), .val (.int (f1 p3)), .val (.ref b5), .val (.ref b20), .val (.int ((((((f15 (own_by (f2 (f1 p0)))) <<< ((4 : Int32) &&& 31)) ||| (f15 (own_by (f2 (f1 p1))))).toInt8.toInt32).toInt8.toInt32) &&& (255 : Int32))), .val (.int ((((((f15 (own_by (f2 (f1 p2)))) <<< ((4 : Int32) &&& 31)) ||| (f15 (own_by (f2 (f1 p3))))).toInt8.toInt32).toInt8.toInt32) &&& (255 : Int32)))] [(.int ((((((f15 (own_by (f2 (f1 p2)))) <<< ((4 : Int32) &&& 31)) ||| (f15 (own_by (f2 (f1 p3))))).toInt8.toInt32).toInt8.toInt32) &&& (255 : Int32)))])) (fun t k => XS.iload X25.here hx rfl (hb hby at_123) rfl k) ?_
  refine OEnds.go (g' := (mkF m 127 #[.val (.int p0), .val (.int p1), .val (.int p2), .val (.int p3), .val (.int (f1 p0)), .val (.int (f1 p1)), .val (.int (f1 p2)), .val (.int (f1 p3)), .val (.ref b5), .val (.ref b20), .val (.int ((((((f15 (own_by (f2 (f1 p0)))) <<< ((4 : Int32) &&& 31)) ||| (f15 (own_by (f2 (f1 p1))))).toInt8.toInt32).toInt8.toInt32) &&& (255 : Int32))), .val (.int ((((((f15 (own_by (f2 (f1 p2)))) <<< ((4 : Int32) &&& 31)) ||| (f15 (own_by (f2 (f1 p3))))).toInt8.toInt32).toInt8.toInt32) &&& (255 : Int32)))] [(.int (f1 p2)), (.int ((((((f15 (own_by (f2 (f1 p2)))) <<< ((4 : Int32) &&& 31)) ||| (f15 (own_by (f2 (f1 p3))))).toInt8.toInt32).toInt8.toInt32) &&& (255 : Int32)))])) (fun t k => XS.iload X25.here hx rfl (hb hby at_125) rfl k) ?_
  obtain ⟨_, _, ⟨T26, L26, k26, n26⟩, -, X26, ⟨Lc26, hQ26, l26, y26, z26⟩, st26⟩ := Jvm.LawKit.callS X25 hx (y := (⟨"cardtalk/message/HexDigitPinLaw", "val", "(I)I"⟩ : MethodName)) hown (mvT hZ (hw _ (List.mem_of_getElem? (i := 82) rfl))) (mvT hZ (hw _ (List.mem_of_getElem? (i := 83) rfl))) (mvT hZ (hw _ (List.mem_of_getElem? (i := 2) rfl))) (mvT hZ (hw _ (List.mem_of_getElem? (i := 84) rfl))) (by decide) (backOf (W := 1) (rm17 l Z a0 hw [] (f1 p2) T20.heap n0 (Nat.le_trans (Nat.le_trans (Nat.le_trans (Nat.le_trans (Nat.le_trans (Nat.le_trans (Nat.le_trans (Nat.le_trans Z0 E5.1) (Nat.le_of_eq W8.size.symm)) (Nat.le_of_eq W11.size.symm)) (Nat.le_of_eq W14.size.symm)) (Nat.le_of_eq W17.size.symm)) E18.1) K19q.1) K20q.1)) hZ (hw _ (List.mem_of_getElem? (i := 84) rfl)) (hw _ (List.mem_of_getElem? (i := 2) rfl)) (by decide) (by decide)) (g := (mkF m 127 #[.val (.int p0), .val (.int p1), .val (.int p2), .val (.int p3), .val (.int (f1 p0)), .val (.int (f1 p1)), .val (.int (f1 p2)), .val (.int (f1 p3)), .val (.ref b5), .val (.ref b20), .val (.int ((((((f15 (own_by (f2 (f1 p0)))) <<< ((4 : Int32) &&& 31)) ||| (f15 (own_by (f2 (f1 p1))))).toInt8.toInt32).toInt8.toInt32) &&& (255 : Int32))), .val (.int ((((((f15 (own_by (f2 (f1 p2)))) <<< ((4 : Int32) &&& 31)) ||| (f15 (own_by (f2 (f1 p3))))).toInt8.toInt32).toInt8.toInt32) &&& (255 : Int32)))] [(.int (f1 p2)), (.int ((((((f15 (own_by (f2 (f1 p2)))) <<< ((4 : Int32) &&& 31)) ||| (f15 (own_by (f2 (f1 p3))))).toInt8.toInt32).toInt8.toInt32) &&& (255 : Int32)))])) rfl (by rw [hml]; rfl) (argsL := [(.int (f1 p2))]) (rest := [(.int ((((((f15 (own_by (f2 (f1 p2)))) <<< ((4 : Int32) &&& 31)) ||| (f15 (own_by (f2 (f1 p3))))).toInt8.toInt32).toInt8.toInt32) &&& (255 : Int32)))]) (lenOf pd_11 rfl) rfl (by show 2 * 0 + _ ≤ _; exact Nat.le_of_eq rfl) (hb hby at_127) (fun _ _ => ⟨rfl, e25, (by decide : 5 + 0 ≤ _), (by decide : 18 + 0 ≤ _)⟩)
  dsimp only [Pt.U, Pt.locs, Pt.cells, Pt.slots] at X26 l26 y26 z26 st26 hQ26
  subst l26 y26 z26
  obtain ⟨rfl, N26q, e26⟩ := hQ26
  have N26 := Fr.app N25 N26q
  refine OEnds.go (g' := (mkF m 130 #[.val (.int p0), .val (.int p1), .val (.int p2), .val (.int p3), .val (.int (f1 p0)), .val (.int (f1 p1)), .val (.int (f1 p2)), .val (.int (f1 p3)), .val (.ref b5), .val (.ref b20), .val (.int ((((((f15 (own_by (f2 (f1 p0)))) <<< ((4 : Int32) &&& 31)) ||| (f15 (own_by (f2 (f1 p1))))).toInt8.toInt32).toInt8.toInt32) &&& (255 : Int32))), .val (.int ((((((f15 (own_by (f2 (f1 p2)))) <<< ((4 : Int32) &&& 31)) ||| (f15 (own_by (f2 (f1 p3))))).toInt8.toInt32).toInt8.toInt32) &&& (255 : Int32)))] [(.int (f17 (f1 p2))), (.int ((((((f15 (own_by (f2 (f1 p2)))) <<< ((4 : Int32) &&& 31)) ||| (f15 (own_by (f2 (f1 p3))))).toInt8.toInt32).toInt8.toInt32) &&& (255 : Int32)))])) st26 ?_
  refine OEnds.go (g' := (mkF m 132 #[.val (.int p0), .val (.int p1), .val (.int p2), .val (.int p3), .val (.int (f1 p0)), .val (.int (f1 p1)), .val (.int (f1 p2)), .val (.int (f1 p3)), .val (.ref b5), .val (.ref b20), .val (.int ((((((f15 (own_by (f2 (f1 p0)))) <<< ((4 : Int32) &&& 31)) ||| (f15 (own_by (f2 (f1 p1))))).toInt8.toInt32).toInt8.toInt32) &&& (255 : Int32))), .val (.int ((((((f15 (own_by (f2 (f1 p2)))) <<< ((4 : Int32) &&& 31)) ||| (f15 (own_by (f2 (f1 p3))))).toInt8.toInt32).toInt8.toInt32) &&& (255 : Int32)))] [(.int (16 : Int32)), (.int (f17 (f1 p2))), (.int ((((((f15 (own_by (f2 (f1 p2)))) <<< ((4 : Int32) &&& 31)) ||| (f15 (own_by (f2 (f1 p3))))).toInt8.toInt32).toInt8.toInt32) &&& (255 : Int32)))])) (fun t k => XS.bipush X26.here hx rfl (hb hby at_130) k) ?_
  refine OEnds.go (g' := (mkF m 133 #[.val (.int p0), .val (.int p1), .val (.int p2), .val (.int p3), .val (.int (f1 p0)), .val (.int (f1 p1)), .val (.int (f1 p2)), .val (.int (f1 p3)), .val (.ref b5), .val (.ref b20), .val (.int ((((((f15 (own_by (f2 (f1 p0)))) <<< ((4 : Int32) &&& 31)) ||| (f15 (own_by (f2 (f1 p1))))).toInt8.toInt32).toInt8.toInt32) &&& (255 : Int32))), .val (.int ((((((f15 (own_by (f2 (f1 p2)))) <<< ((4 : Int32) &&& 31)) ||| (f15 (own_by (f2 (f1 p3))))).toInt8.toInt32).toInt8.toInt32) &&& (255 : Int32)))] [(.int ((f17 (f1 p2)) * (16 : Int32))), (.int ((((((f15 (own_by (f2 (f1 p2)))) <<< ((4 : Int32) &&& 31)) ||| (f15 (own_by (f2 (f1 p3))))).toInt8.toInt32).toInt8.toInt32) &&& (255 : Int32)))])) (fun t k => XS.imul X26.here hx rfl (hb hby at_132) rfl k) ?_
  refine OEnds.go (g' := (mkF m 135 #[.val (.int p0), .val (.int p1), .val (.int p2), .val (.int p3), .val (.int (f1 p0)), .val (.int (f1 p1)), .val (.int (f1 p2)), .val (.int (f1 p3)), .val (.ref b5), .val (.ref b20), .val (.int ((((((f15 (own_by (f2 (f1 p0)))) <<< ((4 : Int32) &&& 31)) ||| (f15 (own_by (f2 (f1 p1))))).toInt8.toInt32).toInt8.toInt32) &&& (255 : Int32))), .val (.int ((((((f15 (own_by (f2 (f1 p2)))) <<< ((4 : Int32) &&& 31)) ||| (f15 (own_by (f2 (f1 p3))))).toInt8.toInt32).toInt8.toInt32) &&& (255 : Int32)))] [(.int (f1 p3)), (.int ((f17 (f1 p2)) * (16 : Int32))), (.int ((((((f15 (own_by (f2 (f1 p2)))) <<< ((4 : Int32) &&& 31)) ||| (f15 (own_by (f2 (f1 p3))))).toInt8.toInt32).toInt8.toInt32) &&& (255 : Int32)))])) (fun t k => XS.iload X26.here hx rfl (hb hby at_133) rfl k) ?_
  obtain ⟨_, _, ⟨T27, L27, k27, n27⟩, -, X27, ⟨Lc27, hQ27, l27, y27, z27⟩, st27⟩ := Jvm.LawKit.callS X26 hx (y := (⟨"cardtalk/message/HexDigitPinLaw", "val", "(I)I"⟩ : MethodName)) hown (mvT hZ (hw _ (List.mem_of_getElem? (i := 82) rfl))) (mvT hZ (hw _ (List.mem_of_getElem? (i := 83) rfl))) (mvT hZ (hw _ (List.mem_of_getElem? (i := 2) rfl))) (mvT hZ (hw _ (List.mem_of_getElem? (i := 84) rfl))) (by decide) (backOf (W := 2) (rm17 l Z a0 hw [] (f1 p3) T20.heap n0 (Nat.le_trans (Nat.le_trans (Nat.le_trans (Nat.le_trans (Nat.le_trans (Nat.le_trans (Nat.le_trans (Nat.le_trans Z0 E5.1) (Nat.le_of_eq W8.size.symm)) (Nat.le_of_eq W11.size.symm)) (Nat.le_of_eq W14.size.symm)) (Nat.le_of_eq W17.size.symm)) E18.1) K19q.1) K20q.1)) hZ (hw _ (List.mem_of_getElem? (i := 84) rfl)) (hw _ (List.mem_of_getElem? (i := 2) rfl)) (by decide) (by decide)) (g := (mkF m 135 #[.val (.int p0), .val (.int p1), .val (.int p2), .val (.int p3), .val (.int (f1 p0)), .val (.int (f1 p1)), .val (.int (f1 p2)), .val (.int (f1 p3)), .val (.ref b5), .val (.ref b20), .val (.int ((((((f15 (own_by (f2 (f1 p0)))) <<< ((4 : Int32) &&& 31)) ||| (f15 (own_by (f2 (f1 p1))))).toInt8.toInt32).toInt8.toInt32) &&& (255 : Int32))), .val (.int ((((((f15 (own_by (f2 (f1 p2)))) <<< ((4 : Int32) &&& 31)) ||| (f15 (own_by (f2 (f1 p3))))).toInt8.toInt32).toInt8.toInt32) &&& (255 : Int32)))] [(.int (f1 p3)), (.int ((f17 (f1 p2)) * (16 : Int32))), (.int ((((((f15 (own_by (f2 (f1 p2)))) <<< ((4 : Int32) &&& 31)) ||| (f15 (own_by (f2 (f1 p3))))).toInt8.toInt32).toInt8.toInt32) &&& (255 : Int32)))])) rfl (by rw [hml]; rfl) (argsL := [(.int (f1 p3))]) (rest := [(.int ((f17 (f1 p2)) * (16 : Int32))), (.int ((((((f15 (own_by (f2 (f1 p2)))) <<< ((4 : Int32) &&& 31)) ||| (f15 (own_by (f2 (f1 p3))))).toInt8.toInt32).toInt8.toInt32) &&& (255 : Int32)))]) (lenOf pd_11 rfl) rfl (by show 2 * 0 + _ ≤ _; exact Nat.le_of_eq rfl) (hb hby at_135) (fun _ _ => ⟨rfl, e26, (by decide : 5 + 0 ≤ _), (by decide : 18 + 0 ≤ _)⟩)
  dsimp only [Pt.U, Pt.locs, Pt.cells, Pt.slots] at X27 l27 y27 z27 st27 hQ27
  subst l27 y27 z27
  obtain ⟨rfl, N27q, e27⟩ := hQ27
  have N27 := Fr.app N26 N27q
  refine OEnds.go (g' := (mkF m 138 #[.val (.int p0), .val (.int p1), .val (.int p2), .val (.int p3), .val (.int (f1 p0)), .val (.int (f1 p1)), .val (.int (f1 p2)), .val (.int (f1 p3)), .val (.ref b5), .val (.ref b20), .val (.int ((((((f15 (own_by (f2 (f1 p0)))) <<< ((4 : Int32) &&& 31)) ||| (f15 (own_by (f2 (f1 p1))))).toInt8.toInt32).toInt8.toInt32) &&& (255 : Int32))), .val (.int ((((((f15 (own_by (f2 (f1 p2)))) <<< ((4 : Int32) &&& 31)) ||| (f15 (own_by (f2 (f1 p3))))).toInt8.toInt32).toInt8.toInt32) &&& (255 : Int32)))] [(.int (f17 (f1 p3))), (.int ((f17 (f1 p2)) * (16 : Int32))), (.int ((((((f15 (own_by (f2 (f1 p2)))) <<< ((4 : Int32) &&& 31)) ||| (f15 (own_by (f2 (f1 p3))))).toInt8.toInt32).toInt8.toInt32) &&& (255 : Int32)))])) st27 ?_
  refine OEnds.go (g' := (mkF m 139 #[.val (.int p0), .val (.int p1), .val (.int p2), .val (.int p3), .val (.int (f1 p0)), .val (.int (f1 p1)), .val (.int (f1 p2)), .val (.int (f1 p3)), .val (.ref b5), .val (.ref b20), .val (.int ((((((f15 (own_by (f2 (f1 p0)))) <<< ((4 : Int32) &&& 31)) ||| (f15 (own_by (f2 (f1 p1))))).toInt8.toInt32).toInt8.toInt32) &&& (255 : Int32))), .val (.int ((((((f15 (own_by (f2 (f1 p2)))) <<< ((4 : Int32) &&& 31)) ||| (f15 (own_by (f2 (f1 p3))))).toInt8.toInt32).toInt8.toInt32) &&& (255 : Int32)))] [(.int (((f17 (f1 p2)) * (16 : Int32)) + (f17 (f1 p3)))), (.int ((((((f15 (own_by (f2 (f1 p2)))) <<< ((4 : Int32) &&& 31)) ||| (f15 (own_by (f2 (f1 p3))))).toInt8.toInt32).toInt8.toInt32) &&& (255 : Int32)))])) (fun t k => XS.iadd X27.here hx rfl (hb hby at_138) rfl k) ?_
  refine OEnds.go (g' := (mkF m 142 #[.val (.int p0), .val (.int p1), .val (.int p2), .val (.int p3), .val (.int (f1 p0)), .val (.int (f1 p1)), .val (.int (f1 p2)), .val (.int (f1 p3)), .val (.ref b5), .val (.ref b20), .val (.int ((((((f15 (own_by (f2 (f1 p0)))) <<< ((4 : Int32) &&& 31)) ||| (f15 (own_by (f2 (f1 p1))))).toInt8.toInt32).toInt8.toInt32) &&& (255 : Int32))), .val (.int ((((((f15 (own_by (f2 (f1 p2)))) <<< ((4 : Int32) &&& 31)) ||| (f15 (own_by (f2 (f1 p3))))).toInt8.toInt32).toInt8.toInt32) &&& (255 : Int32)))] [])) (fun t k => XS.icmpNo X27.here hx rfl (hb hby at_139) rfl (teq (own_fin2 p2 p3 : (((((((f15 (own_by (f2 (f1 p2)))) <<< ((4 : Int32) &&& 31)) ||| (f15 (own_by (f2 (f1 p3))))).toInt8.toInt32).toInt8.toInt32) &&& (255 : Int32)) = (((f17 (f1 p2)) * (16 : Int32)) + (f17 (f1 p3)))))).2 k) ?_
  refine OEnds.go (g' := (mkF m 143 #[.val (.int p0), .val (.int p1), .val (.int p2), .val (.int p3), .val (.int (f1 p0)), .val (.int (f1 p1)), .val (.int (f1 p2)), .val (.int (f1 p3)), .val (.ref b5), .val (.ref b20), .val (.int ((((((f15 (own_by (f2 (f1 p0)))) <<< ((4 : Int32) &&& 31)) ||| (f15 (own_by (f2 (f1 p1))))).toInt8.toInt32).toInt8.toInt32) &&& (255 : Int32))), .val (.int ((((((f15 (own_by (f2 (f1 p2)))) <<< ((4 : Int32) &&& 31)) ||| (f15 (own_by (f2 (f1 p3))))).toInt8.toInt32).toInt8.toInt32) &&& (255 : Int32)))] [(.int (1 : Int32))])) (fun t k => XS.iconst X27.here hx rfl (hb hby at_142) k) ?_
  refine OEnds.go (g' := (mkF m 147 #[.val (.int p0), .val (.int p1), .val (.int p2), .val (.int p3), .val (.int (f1 p0)), .val (.int (f1 p1)), .val (.int (f1 p2)), .val (.int (f1 p3)), .val (.ref b5), .val (.ref b20), .val (.int ((((((f15 (own_by (f2 (f1 p0)))) <<< ((4 : Int32) &&& 31)) ||| (f15 (own_by (f2 (f1 p1))))).toInt8.toInt32).toInt8.toInt32) &&& (255 : Int32))), .val (.int ((((((f15 (own_by (f2 (f1 p2)))) <<< ((4 : Int32) &&& 31)) ||| (f15 (own_by (f2 (f1 p3))))).toInt8.toInt32).toInt8.toInt32) &&& (255 : Int32)))] [(.int (1 : Int32))])) (fun t k => XS.goto X27.here hx rfl (pc0 := 143) (pc' := 147) rfl (hb hby at_143) (by decide) (by decide) k) ?_
  exact OEnds.outN X27 Bd.notSynchronized hx (t := .boolean) Bd.returns (by simp) (hb hby at_147) ⟨rfl, N27⟩ (by decide) (by decide)
set_option maxRecDepth 65536 in
set_option maxHeartbeats 40000000 in
theorem comes_1 {Post : Tables → Env → Array Value → State → Outcome → State → Prop} (hpost : ∀ tb e args s v u, (limb_1_1.after args s (.returned v) u = true ∧ limb_1_2.after args s (.returned v) u = true ∧ True) → FrameEnd s (.returned v) u (Jvm.fieldLocs frame_1_writes args s ++ Jvm.arrayLocs frame_1_arrays args s ++ Jvm.staticLocs frame_1_statics s) 24 128 → Post tb e args s (.returned v) u) :
    ArmFor flags0 classFile x code maxLocals ret World_1 tables_1 room_1 Calls_1 rest_1 Pre_1 Post := by
  intro l hfl _ _ p e ha hc hk s m args below hf hA hF happ hP
  obtain ⟨hcalls, hrest, hpre⟩ := hP
  obtain ⟨-, -, -, hnamed, -, -, -, hat⟩ := (Spec.applies_iff hf).mp happ
  obtain ⟨hg, hn⟩ := and_e (Cond.before_iff.mp (show (Jvm.Cond.and given_1 narrow_1).before args s = true from hpre))
  obtain ⟨g1, g2⟩ := and_e hg
  obtain ⟨g3, g4⟩ := and_e g2
  obtain ⟨g5, g6⟩ := and_e g4
  obtain ⟨g7, g8⟩ := and_e g6
  obtain ⟨w0, w1, w2, w3, rfl⟩ : ∃ w0 w1 w2 w3 : Value, args = #[w0, w1, w2, w3] := by
    have hs : args.size = 4 := by simpa [Cond.value, given_1] using g1
    obtain ⟨L⟩ := args
    match L, hs with
    | [w0, w1, w2, w3], _ => exact ⟨w0, w1, w2, w3, rfl⟩
  have hw := fun d (hd : d ∈ tables_1) => atoms_spec (ws := Jvm.Cond.code x code maxLocals ret :: tables_1) hat d (List.mem_cons_of_mem _ hd)
  have hfit : Fit s := fun {y c} hc i hi => by
    obtain ⟨ha, rfl⟩ := Array.getElem?_eq_some_iff.mp hc
    have q := List.all_eq_true.mp ((Array.all_eq_true_iff_forall_mem.mp hF) _ (Array.getElem_mem ha)) i (List.mem_range.mpr hi)
    simpa [Array.getElem?_eq_getElem hi] using q
  obtain ⟨hsets, hown0⟩ := atoms_of _ (rest_1_c_eq ▸ (show rest_1_c.before _ s = true from hrest))
  have hr0 := Cond.before_iff.mp hown0
  obtain ⟨i0, ei0⟩ := is_v g3
  obtain rfl : w0 = (.int i0) := Option.some.inj ei0
  obtain ⟨i1, ei1⟩ := is_v g5
  obtain rfl : w1 = (.int i1) := Option.some.inj ei1
  obtain ⟨i2, ei2⟩ := is_v g7
  obtain rfl : w2 = (.int i2) := Option.some.inj ei2
  obtain ⟨i3, ei3⟩ := is_v g8
  obtain rfl : w3 = (.int i3) := Option.some.inj ei3
  obtain ⟨csv, ev_cs⟩ := is_v (Cond.before_iff.mp (hsets _ (List.mem_of_getElem? (i := 1) rfl)))
  have SC := Sta.start ev_cs (Or.inl (hsets _ (List.mem_of_getElem? (i := 0) rfl)))
  have hcs : ¬ csv = (0 : Int32) := own_ne0 ev_cs (Cond.before_iff.mp (hsets _ (List.mem_of_getElem? (i := 2) rfl)))
  obtain ⟨ch, _, _, _, ev_ch, _, hch1, _, _, hch2, _⟩ := Cond.exactly_spec (hsets _ (List.mem_of_getElem? (i := 14) rfl))
  have SH := Sta.start ev_ch (Or.inl (hsets _ (List.mem_of_getElem? (i := 10) rfl)))
  obtain ⟨ii, _, _, _, ev_ii, _⟩ := Cond.exactly_spec (hsets _ (List.mem_of_getElem? (i := 20) rfl))
  obtain rfl : ch = ii := own_eqR ev_ch ev_ii (Cond.before_iff.mp (hsets _ (List.mem_of_getElem? (i := 13) rfl)))
  have SI := Sta.start ev_ii (Or.inl (hsets _ (List.mem_of_getElem? (i := 12) rfl)))
  obtain ⟨uu, _, _, _, ev_uu, _⟩ := Cond.exactly_spec (hsets _ (List.mem_of_getElem? (i := 17) rfl))
  have SU := Sta.start ev_uu (Or.inl (hsets _ (List.mem_of_getElem? (i := 16) rfl)))
  have hu : ch ≠ uu := ne_exa (Exa.start ev_ch (Cond.before_iff.mp (hsets _ (List.mem_of_getElem? (i := 14) rfl)))) (Exa.start ev_uu (Cond.before_iff.mp (hsets _ (List.mem_of_getElem? (i := 17) rfl)))) (by decide)
  obtain ⟨n, o, h1, h2, h3, _, L, rfl, ⟨rfl, N⟩, hq⟩ := rm0 l s _ hw tables_1 i0 i1 i2 i3 csv uu ch s.heap s.heap.size (Nat.le_refl _) SC hcs SU SI hu SH p e ha hc hk s m _ below hf ((Spec.applies_iff_loose hf).mp happ).1 ⟨rfl, State.Warmed39.refl s, rfl⟩ trivial
  refine ⟨n, _, h1, h2, h3, hpost _ _ _ _ _ _ ⟨Cond.after_iff.mpr rfl, Cond.after_iff.mpr (eq_i res_at (Term.int_eval (1)) rfl), trivial⟩ ⟨hq.1, hq.2.1, (hq.2.2.sift fun y hy => Or.inr (N y hy)).mono (by decide) (by decide)⟩⟩
theorem main_1_1 : Claimed_1_1 := comes_1 fun _ _ _ _ _ _ h hF => ⟨h.1, hF⟩
theorem main_1_2 : Claimed_1_2 := comes_1 fun _ _ _ _ _ _ h hF => ⟨h.2.1, hF⟩
end Jvm.Pilot.@@N@@
namespace Jvm.Pilot.@@N@@
open Jvm Jvm.ClassFile Sem Op Lib Jvm.Free Jvm.Stand Jvm.Pilot.@@N@@.Jvm.D
/-! MADE BY PROGRAM (witnessworld.py) out of the Statement's table words and the real class files: 26 classes; the members and pool entries that the words name. The judged class is class 1, her method 1. -/
namespace start1
open Jvm.ClassFile
def u (s : String) : CpInfo := .utf8 (stringToUtf16 s)
/-- a pool by its gaps: so many unusable entries, then the entry; so many at the end -/
def gap : Nat → List CpInfo → List CpInfo
  | 0, r => r
  | n + 1, r => .unusable :: gap n r
def poolList (es : List (Nat × CpInfo)) (last : Nat) : List CpInfo := es.foldr (fun e r => gap e.1 (e.2 :: r)) (gap last [])
def pool (es : List (Nat × CpInfo)) (last : Nat) : Array CpInfo := ⟨poolList es last⟩
def fileOf (pool : Array CpInfo) (this : Nat) (attrs : Array Attribute := #[]) (ms : Array MethodInfo := #[]) (fl : Nat := 33) (sup : Nat := 0) (ifs : Array Nat := #[]) (fds : Array FieldInfo := #[]) : ClassFile where
  minorVersion := 0
  majorVersion := 65
  constantPool := pool
  accessFlags := fl
  thisClass := this
  superClass := sup
  interfaces := ifs
  fields := fds
  methods := ms
  attributes := attrs
def plain (name : String) (sup : Option ClassId) : Class where
  name := name
  kind := .ordinary
  loader := none
  accessFlags := 33
  super := sup
  interfaces := #[]
  cf := none
  fields := #[]
  methods := #[]
  instanceTypes := #[]
  staticTypes := #[]
  resolved := #[]
  callSites := []
  init := .initialized
  statics := none
  mirror := none

def pool0 : Array CpInfo := pool [(5, u "<init>"), (0, u "()V"), (1, .class_ 10), (1, u "java/lang/Object"), (85, u "clone"), (0, u "()Ljava/lang/Object;")] 26

def k0c0 : Code := { maxStack := 0, maxLocals := 1, code := object_method_1_code, exceptionTable := #[], attributes := #[] }
def k0m0 : Method := { name := "<init>", desc := "()V", sig := { parameters := [], returnType := none }, accessFlags := 1, code := some k0c0 }
def k0m1 : Method := { name := "clone", desc := "()Ljava/lang/Object;", sig := { parameters := [], returnType := some (.object "java/lang/Object") }, accessFlags := 260, code := none }
/-- java/lang/Object -/
def k0 : Class := { plain "java/lang/Object" none with
  accessFlags := 33
  interfaces := #[]
  cf := some (fileOf pool0 8 #[] #[{ accessFlags := 1, nameIndex := 5, descriptorIndex := 6, attributes := #[] }, { accessFlags := 260, nameIndex := 96, descriptorIndex := 97, attributes := #[] }] 33 0 #[] #[])
  fields := #[]
  methods := #[k0m0, k0m1]
  instanceTypes := #[]
  staticTypes := #[]
  resolved := Array.replicate 124 none
  statics := none }

def pool1 : Array CpInfo := pool [(2, .class_ 4), (1, u "java/lang/Object"), (0, u "<init>"), (0, u "()V"), (0, .methodref 8 9), (0, .class_ 10), (0, .nameAndType 11 12), (0, u "cardtalk/message/HexDigitPinLaw"), (0, u "pick"), (0, u "(I)I"), (0, .methodref 8 14), (0, .nameAndType 15 16), (0, u "ch"), (0, u "(I)C"), (0, .class_ 18), (0, u "java/lang/String"), (0, .methodref 17 20), (0, .nameAndType 5 21), (0, u "([C)V"), (0, .methodref 23 24), (0, .class_ 25), (0, .nameAndType 26 27), (0, u "cardtalk/message/Hex"), (0, u "parse"), (0, u "(Ljava/lang/String;)[B"), (0, .methodref 8 29), (0, .nameAndType 30 12), (0, u "val"), (0, .integer 2147483647), (2, u "law"), (0, u "(IIII)Z")] 10

def k1m0 : Method := { name := "<init>", desc := "()V", sig := { parameters := [], returnType := none }, accessFlags := 1, code := none }
def k1c1 : Code := { maxStack := 4, maxLocals := 12, code := code, exceptionTable := #[], attributes := #[] }
def k1m1 : Method := { name := "law", desc := "(IIII)Z", sig := { parameters := [.int, .int, .int, .int], returnType := some .boolean }, accessFlags := 9, code := some k1c1 }
def k1c2 : Code := { maxStack := 2, maxLocals := 1, code := method_3_code, exceptionTable := #[], attributes := #[] }
def k1m2 : Method := { name := "pick", desc := "(I)I", sig := { parameters := [.int], returnType := some .int }, accessFlags := 10, code := some k1c2 }
def k1c3 : Code := { maxStack := 3, maxLocals := 1, code := method_4_code, exceptionTable := #[], attributes := #[] }
def k1m3 : Method := { name := "ch", desc := "(I)C", sig := { parameters := [.int], returnType := some .char }, accessFlags := 10, code := some k1c3 }
def k1c4 : Code := { maxStack := 2, maxLocals := 1, code := method_5_code, exceptionTable := #[], attributes := #[] }
def k1m4 : Method := { name := "val", desc := "(I)I", sig := { parameters := [.int], returnType := some .int }, accessFlags := 10, code := some k1c4 }
/-- cardtalk/message/HexDigitPinLaw -/
def k1 : Class := { plain "cardtalk/message/HexDigitPinLaw" (some 0) with
  accessFlags := 49
  interfaces := #[]
  cf := some (fileOf pool1 8 #[] #[{ accessFlags := 1, nameIndex := 5, descriptorIndex := 6, attributes := #[] }, { accessFlags := 9, nameIndex := 34, descriptorIndex := 35, attributes := #[] }, { accessFlags := 10, nameIndex := 11, descriptorIndex := 12, attributes := #[] }, { accessFlags := 10, nameIndex := 15, descriptorIndex := 16, attributes := #[] }, { accessFlags := 10, nameIndex := 30, descriptorIndex := 12, attributes := #[] }] 49 2 #[] #[])
  fields := #[]
  methods := #[k1m0, k1m1, k1m2, k1m3, k1m4]
  instanceTypes := #[]
  staticTypes := #[]
  resolved := Array.replicate 46 none
  statics := none }

def pool2 : Array CpInfo := pool [(1, .class_ 2), (0, u "java/io/Serializable"), (0, .class_ 4), (0, u "java/lang/Object")] 2

/-- java/io/Serializable -/
def k2 : Class := { plain "java/io/Serializable" (some 0) with
  accessFlags := 1537
  interfaces := #[]
  cf := some (fileOf pool2 1 #[] #[] 1537 3 #[] #[])
  fields := #[]
  methods := #[]
  instanceTypes := #[]
  staticTypes := #[]
  resolved := Array.replicate 7 none
  statics := none }

def pool3 : Array CpInfo := pool [(1, .class_ 2), (0, u "java/lang/Comparable"), (0, .class_ 4), (0, u "java/lang/Object")] 7

/-- java/lang/Comparable -/
def k3 : Class := { plain "java/lang/Comparable" (some 0) with
  accessFlags := 1537
  interfaces := #[]
  cf := some (fileOf pool3 1 #[] #[] 1537 3 #[] #[])
  fields := #[]
  methods := #[]
  instanceTypes := #[]
  staticTypes := #[]
  resolved := Array.replicate 12 none
  statics := none }

def pool4 : Array CpInfo := pool [(2, .class_ 4), (1, u "java/lang/CharSequence"), (42, .class_ 48), (0, u "java/lang/CharSequence$1CodePointIterator"), (10, .class_ 60), (0, u "java/lang/CharSequence$1CharIterator"), (5, .class_ 67), (0, u "java/lang/Object")] 63

/-- java/lang/CharSequence -/
def k4 : Class := { plain "java/lang/CharSequence" (some 0) with
  accessFlags := 1537
  interfaces := #[]
  cf := some (fileOf pool4 2 #[.nestMembers #[47, 59]] #[] 1537 66 #[] #[])
  fields := #[]
  methods := #[]
  instanceTypes := #[]
  staticTypes := #[]
  resolved := Array.replicate 131 none
  statics := none }

def pool5 : Array CpInfo := pool [(1, .class_ 2), (0, u "java/lang/constant/Constable"), (0, .class_ 4), (0, u "java/lang/Object")] 6

/-- java/lang/constant/Constable -/
def k5 : Class := { plain "java/lang/constant/Constable" (some 0) with
  accessFlags := 1537
  interfaces := #[]
  cf := some (fileOf pool5 1 #[] #[] 1537 3 #[] #[])
  fields := #[]
  methods := #[]
  instanceTypes := #[]
  staticTypes := #[]
  resolved := Array.replicate 11 none
  statics := none }

def pool6 : Array CpInfo := pool [(1, .class_ 2), (0, u "java/lang/constant/ConstantDesc"), (0, .class_ 4), (0, u "java/lang/Object")] 32

/-- java/lang/constant/ConstantDesc -/
def k6 : Class := { plain "java/lang/constant/ConstantDesc" (some 0) with
  accessFlags := 1537
  interfaces := #[]
  cf := some (fileOf pool6 1 #[] #[] 1537 3 #[] #[])
  fields := #[]
  methods := #[]
  instanceTypes := #[]
  staticTypes := #[]
  resolved := Array.replicate 37 none
  statics := none }

def pool7 : Array CpInfo := pool [(1, .methodref 2 3), (0, .class_ 4), (0, .nameAndType 5 6), (0, u "java/lang/Object"), (0, u "<init>"), (0, u "()V"), (2, .fieldref 10 11), (0, .class_ 12), (0, .nameAndType 13 14), (0, u "java/lang/String"), (0, u "value"), (0, u "[B"), (0, .fieldref 10 16), (0, .nameAndType 17 18), (0, u "coder"), (0, u "B"), (2, u "hash"), (0, u "I"), (2, u "hashIsZero"), (0, u "Z"), (0, .methodref 10 28), (0, .nameAndType 5 29), (0, u "([CIILjava/lang/Void;)V"), (8, .fieldref 10 39), (0, .nameAndType 40 26), (0, u "COMPACT_STRINGS"), (1, .class_ 44), (1, u "java/lang/StringUTF16"), (0, u "compress"), (1, .methodref 42 48), (0, .nameAndType 49 50), (0, u "coderFromArrayLen"), (0, u "([BI)B"), (35, .fieldref 87 88), (0, .class_ 89), (0, .nameAndType 90 91), (0, u "sun/nio/cs/UTF_8"), (0, u "INSTANCE"), (0, u "Lsun/nio/cs/UTF_8;"), (24, .fieldref 117 118), (0, .class_ 119), (0, .nameAndType 90 120), (0, u "sun/nio/cs/ISO_8859_1"), (0, u "Lsun/nio/cs/ISO_8859_1;"), (56, .methodref 42 178), (0, .nameAndType 45 179), (0, u "([CII)[B"), (75, u "(B[BZ)[B"), (0, .methodref 10 257), (0, .nameAndType 258 259), (0, u "encode8859_1"), (0, u "(B[B)[B"), (19, .methodref 280 281), (0, .class_ 14), (0, .nameAndType 282 283), (0, u "clone"), (0, u "()Ljava/lang/Object;"), (33, u "encode"), (17, .methodref 10 336), (0, .nameAndType 17 337), (0, u "()B"), (13, .methodref 10 352), (0, .nameAndType 258 255), (179, u "getBytes"), (2, .methodref 10 536), (0, .nameAndType 317 537), (0, u "(Ljava/nio/charset/Charset;B[B)[B"), (37, .class_ 576), (0, u "java/lang/CharSequence"), (22, u "CASE_INSENSITIVE_ORDER"), (0, u "Ljava/util/Comparator;"), (409, u "([C)V"), (90, u "serialPersistentFields"), (0, u "[Ljava/io/ObjectStreamField;"), (0, .class_ 1104), (0, u "java/lang/String$CaseInsensitiveComparator"), (1, .class_ 1107), (0, u "java/io/Serializable"), (0, .class_ 1109), (0, u "java/lang/Comparable"), (0, .class_ 1111), (0, u "java/lang/constant/Constable"), (0, .class_ 1113), (0, u "java/lang/constant/ConstantDesc"), (2, u "serialVersionUID"), (0, u "J"), (3, u "REPL"), (0, u "C"), (2, u "LATIN1"), (1, u "UTF16"), (117, u "(Ljava/nio/charset/Charset;)[B")] 205

def k7m0 : Method := { name := "<init>", desc := "()V", sig := { parameters := [], returnType := none }, accessFlags := 1, code := none }
def k7c1 : Code := { maxStack := 5, maxLocals := 2, code := jdk_42_method_3_code, exceptionTable := #[], attributes := #[] }
def k7m1 : Method := { name := "<init>", desc := "([C)V", sig := { parameters := [(.array .char)], returnType := none }, accessFlags := 1, code := some k7c1 }
def k7c2 : Code := { maxStack := 4, maxLocals := 3, code := jdk_42_method_18_code, exceptionTable := #[], attributes := #[] }
def k7m2 : Method := { name := "encode", desc := "(Ljava/nio/charset/Charset;B[B)[B", sig := { parameters := [(.object "java/nio/charset/Charset"), .byte, (.array .byte)], returnType := some (.array .byte) }, accessFlags := 10, code := some k7c2 }
def k7c3 : Code := { maxStack := 3, maxLocals := 2, code := jdk_42_method_26_code, exceptionTable := #[], attributes := #[] }
def k7m3 : Method := { name := "encode8859_1", desc := "(B[B)[B", sig := { parameters := [.byte, (.array .byte)], returnType := some (.array .byte) }, accessFlags := 10, code := some k7c3 }
def k7c4 : Code := { maxStack := 5, maxLocals := 10, code := jdk_42_method_27_code, exceptionTable := #[], attributes := #[] }
def k7m4 : Method := { name := "encode8859_1", desc := "(B[BZ)[B", sig := { parameters := [.byte, (.array .byte), .boolean], returnType := some (.array .byte) }, accessFlags := 10, code := some k7c4 }
def k7c5 : Code := { maxStack := 3, maxLocals := 2, code := jdk_42_method_64_code, exceptionTable := #[], attributes := #[] }
def k7m5 : Method := { name := "getBytes", desc := "(Ljava/nio/charset/Charset;)[B", sig := { parameters := [(.object "java/nio/charset/Charset")], returnType := some (.array .byte) }, accessFlags := 1, code := some k7c5 }
def k7c6 : Code := { maxStack := 4, maxLocals := 6, code := jdk_42_method_149_code, exceptionTable := #[], attributes := #[] }
def k7m6 : Method := { name := "<init>", desc := "([CIILjava/lang/Void;)V", sig := { parameters := [(.array .char), .int, .int, (.object "java/lang/Void")], returnType := none }, accessFlags := 2, code := some k7c6 }
def k7c7 : Code := { maxStack := 1, maxLocals := 1, code := jdk_42_method_152_code, exceptionTable := #[], attributes := #[] }
def k7m7 : Method := { name := "coder", desc := "()B", sig := { parameters := [], returnType := some .byte }, accessFlags := 0, code := some k7c7 }
/-- java/lang/String -/
def k7 : Class := { plain "java/lang/String" (some 0) with
  accessFlags := 49
  interfaces := #[2, 3, 4, 5, 6]
  cf := some (fileOf pool7 10 #[.nestMembers #[1103]] #[{ accessFlags := 1, nameIndex := 5, descriptorIndex := 6, attributes := #[] }, { accessFlags := 1, nameIndex := 5, descriptorIndex := 1010, attributes := #[] }, { accessFlags := 10, nameIndex := 317, descriptorIndex := 537, attributes := #[] }, { accessFlags := 10, nameIndex := 258, descriptorIndex := 259, attributes := #[] }, { accessFlags := 10, nameIndex := 258, descriptorIndex := 255, attributes := #[] }, { accessFlags := 1, nameIndex := 532, descriptorIndex := 1245, attributes := #[] }, { accessFlags := 2, nameIndex := 5, descriptorIndex := 29, attributes := #[] }, { accessFlags := 0, nameIndex := 17, descriptorIndex := 337, attributes := #[] }] 49 2 #[1106, 1108, 575, 1110, 1112] #[{ accessFlags := 18, nameIndex := 13, descriptorIndex := 14, attributes := #[] }, { accessFlags := 18, nameIndex := 17, descriptorIndex := 18, attributes := #[] }, { accessFlags := 2, nameIndex := 21, descriptorIndex := 22, attributes := #[] }, { accessFlags := 2, nameIndex := 25, descriptorIndex := 26, attributes := #[] }, { accessFlags := 26, nameIndex := 1116, descriptorIndex := 1117, attributes := #[] }, { accessFlags := 24, nameIndex := 40, descriptorIndex := 26, attributes := #[] }, { accessFlags := 26, nameIndex := 1101, descriptorIndex := 1102, attributes := #[] }, { accessFlags := 26, nameIndex := 1121, descriptorIndex := 1122, attributes := #[] }, { accessFlags := 25, nameIndex := 599, descriptorIndex := 600, attributes := #[] }, { accessFlags := 24, nameIndex := 1125, descriptorIndex := 18, attributes := #[] }, { accessFlags := 24, nameIndex := 1127, descriptorIndex := 18, attributes := #[] }])
  fields := #[{ name := "value", type := (.array .byte), accessFlags := 18, slot := 0, constantValue := 0 }, { name := "coder", type := .byte, accessFlags := 18, slot := 1, constantValue := 0 }, { name := "hash", type := .int, accessFlags := 2, slot := 2, constantValue := 0 }, { name := "hashIsZero", type := .boolean, accessFlags := 2, slot := 3, constantValue := 0 }, { name := "serialVersionUID", type := .long, accessFlags := 26, slot := 0, constantValue := 0 }, { name := "COMPACT_STRINGS", type := .boolean, accessFlags := 24, slot := 1, constantValue := 0 }, { name := "serialPersistentFields", type := (.array (.object "java/io/ObjectStreamField")), accessFlags := 26, slot := 2, constantValue := 0 }, { name := "REPL", type := .char, accessFlags := 26, slot := 3, constantValue := 0 }, { name := "CASE_INSENSITIVE_ORDER", type := (.object "java/util/Comparator"), accessFlags := 25, slot := 4, constantValue := 0 }, { name := "LATIN1", type := .byte, accessFlags := 24, slot := 5, constantValue := 0 }, { name := "UTF16", type := .byte, accessFlags := 24, slot := 6, constantValue := 0 }]
  methods := #[k7m0, k7m1, k7m2, k7m3, k7m4, k7m5, k7m6, k7m7]
  instanceTypes := #[(.array .byte), .byte, .int, .boolean]
  staticTypes := #[.long, .boolean, (.array (.object "java/io/ObjectStreamField")), .char, (.object "java/util/Comparator"), .byte, .byte]
  resolved := Array.replicate 1451 none
  statics := some 0 }

def pool8 : Array CpInfo := pool [(6, .class_ 8), (1, u "java/lang/Object"), (0, u "<init>"), (0, u "()V"), (1, .class_ 14), (1, u "java/lang/StringUTF16"), (31, u "$assertionsDisabled"), (0, u "Z"), (13, u "HI_BYTE_SHIFT"), (0, u "I"), (2, u "LO_BYTE_SHIFT"), (49, .methodref 12 116), (0, .nameAndType 117 118), (0, u "compress"), (0, u "([CI[BII)I"), (3, u "([CII)[B"), (138, u "coderFromArrayLen"), (0, u "([BI)B"), (106, .class_ 371), (1, u "java/lang/StringUTF16$LinesSpliterator"), (58, u "MAX_LENGTH"), (196, .class_ 628), (0, u "java/lang/StringUTF16$CodePointsSpliterator"), (0, .class_ 630), (0, u "java/lang/StringUTF16$CharsSpliterator")] 4

def k8m0 : Method := { name := "<init>", desc := "()V", sig := { parameters := [], returnType := none }, accessFlags := 0, code := none }
def k8c1 : Code := { maxStack := 2, maxLocals := 2, code := jdk_52_method_15_code, exceptionTable := #[], attributes := #[] }
def k8m1 : Method := { name := "coderFromArrayLen", desc := "([BI)B", sig := { parameters := [(.array .byte), .int], returnType := some .byte }, accessFlags := 8, code := some k8c1 }
def k8c2 : Code := { maxStack := 5, maxLocals := 6, code := jdk_52_method_16_code, exceptionTable := #[], attributes := #[] }
def k8m2 : Method := { name := "compress", desc := "([CII)[B", sig := { parameters := [(.array .char), .int, .int], returnType := some (.array .byte) }, accessFlags := 9, code := some k8c2 }
def k8c3 : Code := { maxStack := 3, maxLocals := 7, code := jdk_52_method_21_code, exceptionTable := #[], attributes := #[] }
def k8m3 : Method := { name := "compress", desc := "([CI[BII)I", sig := { parameters := [(.array .char), .int, (.array .byte), .int, .int], returnType := some .int }, accessFlags := 9, code := some k8c3 }
/-- java/lang/StringUTF16 -/
def k8 : Class := { plain "java/lang/StringUTF16" (some 0) with
  accessFlags := 48
  interfaces := #[]
  cf := some (fileOf pool8 12 #[.nestMembers #[627, 629, 369]] #[{ accessFlags := 0, nameIndex := 9, descriptorIndex := 10, attributes := #[] }, { accessFlags := 8, nameIndex := 261, descriptorIndex := 262, attributes := #[] }, { accessFlags := 9, nameIndex := 117, descriptorIndex := 122, attributes := #[] }, { accessFlags := 9, nameIndex := 117, descriptorIndex := 118, attributes := #[] }] 48 6 #[] #[{ accessFlags := 26, nameIndex := 61, descriptorIndex := 62, attributes := #[] }, { accessFlags := 26, nameIndex := 65, descriptorIndex := 62, attributes := #[] }, { accessFlags := 24, nameIndex := 430, descriptorIndex := 62, attributes := #[] }, { accessFlags := 4120, nameIndex := 46, descriptorIndex := 47, attributes := #[] }])
  fields := #[{ name := "HI_BYTE_SHIFT", type := .int, accessFlags := 26, slot := 0, constantValue := 0 }, { name := "LO_BYTE_SHIFT", type := .int, accessFlags := 26, slot := 1, constantValue := 0 }, { name := "MAX_LENGTH", type := .int, accessFlags := 24, slot := 2, constantValue := 0 }, { name := "$assertionsDisabled", type := .boolean, accessFlags := 4120, slot := 3, constantValue := 0 }]
  methods := #[k8m0, k8m1, k8m2, k8m3]
  instanceTypes := #[]
  staticTypes := #[.int, .int, .int, .boolean]
  resolved := Array.replicate 635 none
  statics := none }

def pool9 : Array CpInfo := pool [(2, .class_ 4), (1, u "java/lang/Object"), (0, u "<init>"), (0, u "()V"), (0, .fieldref 8 9), (0, .class_ 10), (0, .nameAndType 11 12), (0, u "java/nio/charset/StandardCharsets"), (0, u "ISO_8859_1"), (0, u "Ljava/nio/charset/Charset;"), (0, .methodref 14 15), (0, .class_ 16), (0, .nameAndType 17 18), (0, u "java/lang/String"), (0, u "getBytes"), (0, u "(Ljava/nio/charset/Charset;)[B"), (0, .methodref 20 21), (0, .class_ 22), (0, .nameAndType 23 24), (0, u "cardtalk/message/Hex"), (0, u "digit"), (0, u "(B)I"), (15, u "DIGITS"), (0, u "[B"), (5, u "BYTES"), (0, u "[Ljava/lang/String;"), (0, .methodref 20 50), (0, .nameAndType 23 51), (0, u "(C)I"), (29, u "parse"), (0, u "(Ljava/lang/String;)[B")] 26

def k9m0 : Method := { name := "<init>", desc := "()V", sig := { parameters := [], returnType := none }, accessFlags := 2, code := none }
def k9c1 : Code := { maxStack := 4, maxLocals := 7, code := prog_50_method_2_code, exceptionTable := #[], attributes := #[] }
def k9m1 : Method := { name := "parse", desc := "(Ljava/lang/String;)[B", sig := { parameters := [(.object "java/lang/String")], returnType := some (.array .byte) }, accessFlags := 9, code := some k9c1 }
def k9c2 : Code := { maxStack := 2, maxLocals := 1, code := prog_50_method_5_code, exceptionTable := #[], attributes := #[] }
def k9m2 : Method := { name := "digit", desc := "(B)I", sig := { parameters := [.byte], returnType := some .int }, accessFlags := 10, code := some k9c2 }
def k9c3 : Code := { maxStack := 2, maxLocals := 1, code := prog_50_method_6_code, exceptionTable := #[], attributes := #[] }
def k9m3 : Method := { name := "digit", desc := "(C)I", sig := { parameters := [.char], returnType := some .int }, accessFlags := 8, code := some k9c3 }
/-- cardtalk/message/Hex -/
def k9 : Class := { plain "cardtalk/message/Hex" (some 0) with
  accessFlags := 49
  interfaces := #[]
  cf := some (fileOf pool9 20 #[] #[{ accessFlags := 2, nameIndex := 5, descriptorIndex := 6, attributes := #[] }, { accessFlags := 9, nameIndex := 81, descriptorIndex := 82, attributes := #[] }, { accessFlags := 10, nameIndex := 23, descriptorIndex := 24, attributes := #[] }, { accessFlags := 8, nameIndex := 23, descriptorIndex := 51, attributes := #[] }] 49 2 #[] #[{ accessFlags := 26, nameIndex := 40, descriptorIndex := 41, attributes := #[] }, { accessFlags := 26, nameIndex := 47, descriptorIndex := 48, attributes := #[] }])
  fields := #[{ name := "DIGITS", type := (.array .byte), accessFlags := 26, slot := 0, constantValue := 0 }, { name := "BYTES", type := (.array (.object "java/lang/String")), accessFlags := 26, slot := 1, constantValue := 0 }]
  methods := #[k9m0, k9m1, k9m2, k9m3]
  instanceTypes := #[]
  staticTypes := #[(.array .byte), (.array (.object "java/lang/String"))]
  resolved := Array.replicate 109 none
  statics := none }

def pool10 : Array CpInfo := pool [(2, .class_ 4), (1, u "java/lang/Object"), (0, u "<init>"), (0, u "()V"), (14, .class_ 23), (1, u "java/nio/charset/StandardCharsets"), (0, u "US_ASCII"), (0, u "Ljava/nio/charset/Charset;"), (7, u "ISO_8859_1"), (7, u "UTF_8"), (5, u "UTF_16BE"), (5, u "UTF_16LE"), (5, u "UTF_16")] 8

def k10m0 : Method := { name := "<init>", desc := "()V", sig := { parameters := [], returnType := none }, accessFlags := 2, code := none }
/-- java/nio/charset/StandardCharsets -/
def k10 : Class := { plain "java/nio/charset/StandardCharsets" (some 0) with
  accessFlags := 49
  interfaces := #[]
  cf := some (fileOf pool10 21 #[] #[{ accessFlags := 2, nameIndex := 5, descriptorIndex := 6, attributes := #[] }] 49 2 #[] #[{ accessFlags := 25, nameIndex := 24, descriptorIndex := 25, attributes := #[] }, { accessFlags := 25, nameIndex := 33, descriptorIndex := 25, attributes := #[] }, { accessFlags := 25, nameIndex := 41, descriptorIndex := 25, attributes := #[] }, { accessFlags := 25, nameIndex := 47, descriptorIndex := 25, attributes := #[] }, { accessFlags := 25, nameIndex := 53, descriptorIndex := 25, attributes := #[] }, { accessFlags := 25, nameIndex := 59, descriptorIndex := 25, attributes := #[] }])
  fields := #[{ name := "US_ASCII", type := (.object "java/nio/charset/Charset"), accessFlags := 25, slot := 0, constantValue := 0 }, { name := "ISO_8859_1", type := (.object "java/nio/charset/Charset"), accessFlags := 25, slot := 1, constantValue := 0 }, { name := "UTF_8", type := (.object "java/nio/charset/Charset"), accessFlags := 25, slot := 2, constantValue := 0 }, { name := "UTF_16BE", type := (.object "java/nio/charset/Charset"), accessFlags := 25, slot := 3, constantValue := 0 }, { name := "UTF_16LE", type := (.object "java/nio/charset/Charset"), accessFlags := 25, slot := 4, constantValue := 0 }, { name := "UTF_16", type := (.object "java/nio/charset/Charset"), accessFlags := 25, slot := 5, constantValue := 0 }]
  methods := #[k10m0]
  instanceTypes := #[]
  staticTypes := #[(.object "java/nio/charset/Charset"), (.object "java/nio/charset/Charset"), (.object "java/nio/charset/Charset"), (.object "java/nio/charset/Charset"), (.object "java/nio/charset/Charset"), (.object "java/nio/charset/Charset")]
  resolved := Array.replicate 68 none
  statics := some 1 }

def pool11 : Array CpInfo := pool [(18, .class_ 20), (1, u "java/nio/charset/Charset"), (0, u "cache1"), (0, u "[Ljava/lang/Object;"), (2, u "cache2"), (0, .class_ 27), (0, u "java/lang/Object"), (0, .class_ 29), (0, u "java/nio/charset/Charset$1"), (4, .class_ 36), (1, u "java/nio/charset/Charset$ThreadTrackHolder"), (21, .class_ 59), (0, u "java/nio/charset/Charset$2"), (11, .class_ 73), (1, u "java/nio/charset/Charset$ExtendedProviderHolder"), (22, u "standardProvider"), (0, u "Ljava/nio/charset/spi/CharsetProvider;"), (29, u "name"), (7, .class_ 136), (0, u "java/nio/charset/Charset$3"), (5, u "defaultCharset"), (0, u "Ljava/nio/charset/Charset;"), (14, u "zeroAliases"), (0, u "[Ljava/lang/String;"), (29, u "Ljava/lang/String;"), (2, u "aliases"), (2, u "aliasSet"), (0, u "Ljava/util/Set;"), (82, .class_ 280), (0, u "java/lang/Comparable"), (84, .class_ 366), (0, u "java/nio/charset/Charset$ExtendedProviderHolder$1")] 3

/-- java/nio/charset/Charset -/
def k11 : Class := { plain "java/nio/charset/Charset" (some 0) with
  accessFlags := 1057
  interfaces := #[3]
  cf := some (fileOf pool11 18 #[.nestMembers #[71, 365, 34, 135, 58, 28]] #[] 1057 26 #[279] #[{ accessFlags := 26, nameIndex := 96, descriptorIndex := 97, attributes := #[] }, { accessFlags := 26, nameIndex := 158, descriptorIndex := 159, attributes := #[] }, { accessFlags := 74, nameIndex := 21, descriptorIndex := 22, attributes := #[] }, { accessFlags := 74, nameIndex := 25, descriptorIndex := 22, attributes := #[] }, { accessFlags := 10, nameIndex := 142, descriptorIndex := 143, attributes := #[] }, { accessFlags := 18, nameIndex := 127, descriptorIndex := 189, attributes := #[] }, { accessFlags := 18, nameIndex := 192, descriptorIndex := 159, attributes := #[] }, { accessFlags := 2, nameIndex := 195, descriptorIndex := 196, attributes := #[] }])
  fields := #[{ name := "standardProvider", type := (.object "java/nio/charset/spi/CharsetProvider"), accessFlags := 26, slot := 0, constantValue := 0 }, { name := "zeroAliases", type := (.array (.object "java/lang/String")), accessFlags := 26, slot := 1, constantValue := 0 }, { name := "cache1", type := (.array (.object "java/lang/Object")), accessFlags := 74, slot := 2, constantValue := 0 }, { name := "cache2", type := (.array (.object "java/lang/Object")), accessFlags := 74, slot := 3, constantValue := 0 }, { name := "defaultCharset", type := (.object "java/nio/charset/Charset"), accessFlags := 10, slot := 4, constantValue := 0 }, { name := "name", type := (.object "java/lang/String"), accessFlags := 18, slot := 0, constantValue := 0 }, { name := "aliases", type := (.array (.object "java/lang/String")), accessFlags := 18, slot := 1, constantValue := 0 }, { name := "aliasSet", type := (.object "java/util/Set"), accessFlags := 2, slot := 2, constantValue := 0 }]
  methods := #[]
  instanceTypes := #[(.object "java/lang/String"), (.array (.object "java/lang/String")), (.object "java/util/Set")]
  staticTypes := #[(.object "java/nio/charset/spi/CharsetProvider"), (.array (.object "java/lang/String")), (.array (.object "java/lang/Object")), (.array (.object "java/lang/Object")), (.object "java/nio/charset/Charset")]
  resolved := Array.replicate 370 none
  statics := none }

def pool12 : Array CpInfo := pool [(1, .class_ 2), (0, u "sun/nio/cs/HistoricallyNamedCharset"), (0, .class_ 4), (0, u "java/lang/Object")] 4

/-- sun/nio/cs/HistoricallyNamedCharset -/
def k12 : Class := { plain "sun/nio/cs/HistoricallyNamedCharset" (some 0) with
  accessFlags := 1537
  interfaces := #[]
  cf := some (fileOf pool12 1 #[] #[] 1537 3 #[] #[])
  fields := #[]
  methods := #[]
  instanceTypes := #[]
  staticTypes := #[]
  resolved := Array.replicate 9 none
  statics := none }

def pool13 : Array CpInfo := pool [(2, .class_ 4), (1, u "java/nio/charset/Charset"), (130, .class_ 136), (0, u "sun/nio/cs/Unicode"), (0, .class_ 138), (0, u "sun/nio/cs/HistoricallyNamedCharset")] 15

/-- sun/nio/cs/Unicode -/
def k13 : Class := { plain "sun/nio/cs/Unicode" (some 11) with
  accessFlags := 1056
  interfaces := #[12]
  cf := some (fileOf pool13 135 #[] #[] 1056 2 #[137] #[])
  fields := #[]
  methods := #[]
  instanceTypes := #[(.object "java/lang/String"), (.array (.object "java/lang/String")), (.object "java/util/Set")]
  staticTypes := #[]
  resolved := Array.replicate 154 none
  statics := none }

def pool14 : Array CpInfo := pool [(10, .class_ 12), (1, u "sun/nio/cs/Unicode"), (0, u "<init>"), (3, .class_ 18), (0, u "sun/nio/cs/UTF_8$Decoder"), (3, .class_ 23), (0, u "sun/nio/cs/UTF_8$Encoder"), (15, .class_ 40), (0, u "sun/nio/cs/UTF_8"), (2, u "()V"), (2, u "INSTANCE"), (0, u "Lsun/nio/cs/UTF_8;"), (8, u "JLA"), (0, u "Ljdk/internal/access/JavaLangAccess;")] 26

def k14m0 : Method := { name := "<init>", desc := "()V", sig := { parameters := [], returnType := none }, accessFlags := 1, code := none }
/-- sun/nio/cs/UTF_8 -/
def k14 : Class := { plain "sun/nio/cs/UTF_8" (some 13) with
  accessFlags := 49
  interfaces := #[]
  cf := some (fileOf pool14 39 #[.nestMembers #[22, 17]] #[{ accessFlags := 1, nameIndex := 13, descriptorIndex := 43, attributes := #[] }] 49 10 #[] #[{ accessFlags := 25, nameIndex := 46, descriptorIndex := 47, attributes := #[] }, { accessFlags := 26, nameIndex := 56, descriptorIndex := 57, attributes := #[] }])
  fields := #[{ name := "INSTANCE", type := (.object "sun/nio/cs/UTF_8"), accessFlags := 25, slot := 0, constantValue := 0 }, { name := "JLA", type := (.object "jdk/internal/access/JavaLangAccess"), accessFlags := 26, slot := 1, constantValue := 0 }]
  methods := #[k14m0]
  instanceTypes := #[(.object "java/lang/String"), (.array (.object "java/lang/String")), (.object "java/util/Set")]
  staticTypes := #[(.object "sun/nio/cs/UTF_8"), (.object "jdk/internal/access/JavaLangAccess")]
  resolved := Array.replicate 84 none
  statics := some 2 }

def pool15 : Array CpInfo := pool [(10, .class_ 12), (1, u "java/nio/charset/Charset"), (0, u "<init>"), (5, .class_ 20), (0, u "sun/nio/cs/ISO_8859_1"), (0, .class_ 22), (0, u "sun/nio/cs/ISO_8859_1$Decoder"), (3, .class_ 27), (0, u "sun/nio/cs/ISO_8859_1$Encoder"), (3, u "()V"), (2, u "INSTANCE"), (0, u "Lsun/nio/cs/ISO_8859_1;"), (0, .class_ 37), (0, u "sun/nio/cs/HistoricallyNamedCharset")] 22

def k15m0 : Method := { name := "<init>", desc := "()V", sig := { parameters := [], returnType := none }, accessFlags := 1, code := none }
/-- sun/nio/cs/ISO_8859_1 -/
def k15 : Class := { plain "sun/nio/cs/ISO_8859_1" (some 11) with
  accessFlags := 33
  interfaces := #[12]
  cf := some (fileOf pool15 19 #[.nestMembers #[26, 21]] #[{ accessFlags := 1, nameIndex := 13, descriptorIndex := 31, attributes := #[] }] 33 10 #[36] #[{ accessFlags := 25, nameIndex := 34, descriptorIndex := 35, attributes := #[] }])
  fields := #[{ name := "INSTANCE", type := (.object "sun/nio/cs/ISO_8859_1"), accessFlags := 25, slot := 0, constantValue := 0 }]
  methods := #[k15m0]
  instanceTypes := #[(.object "java/lang/String"), (.array (.object "java/lang/String")), (.object "java/util/Set")]
  staticTypes := #[(.object "sun/nio/cs/ISO_8859_1")]
  resolved := Array.replicate 60 none
  statics := some 3 }

def pool16 : Array CpInfo := pool [(1, .class_ 2), (0, u "java/lang/Cloneable"), (0, .class_ 4), (0, u "java/lang/Object")] 2

/-- java/lang/Cloneable -/
def k16 : Class := { plain "java/lang/Cloneable" (some 0) with
  accessFlags := 1537
  interfaces := #[]
  cf := some (fileOf pool16 1 #[] #[] 1537 3 #[] #[])
  fields := #[]
  methods := #[]
  instanceTypes := #[]
  staticTypes := #[]
  resolved := Array.replicate 7 none
  statics := none }

def pool17 : Array CpInfo := pool [(4, .class_ 6), (1, u "java/lang/Object"), (0, u "<init>"), (0, u "()V"), (5, .class_ 16), (1, u "java/lang/StringLatin1"), (104, u "$assertionsDisabled"), (0, u "Z"), (98, .class_ 223), (1, u "java/lang/StringLatin1$LinesSpliterator"), (166, .class_ 391), (0, u "java/lang/StringLatin1$CharsSpliterator")] 3

def k17m0 : Method := { name := "<init>", desc := "()V", sig := { parameters := [], returnType := none }, accessFlags := 0, code := none }
/-- java/lang/StringLatin1 -/
def k17 : Class := { plain "java/lang/StringLatin1" (some 0) with
  accessFlags := 48
  interfaces := #[]
  cf := some (fileOf pool17 14 #[.nestMembers #[390, 221]] #[{ accessFlags := 0, nameIndex := 7, descriptorIndex := 8, attributes := #[] }] 48 4 #[] #[{ accessFlags := 4120, nameIndex := 121, descriptorIndex := 122, attributes := #[] }])
  fields := #[{ name := "$assertionsDisabled", type := .boolean, accessFlags := 4120, slot := 0, constantValue := 0 }]
  methods := #[k17m0]
  instanceTypes := #[]
  staticTypes := #[.boolean]
  resolved := Array.replicate 395 none
  statics := none }

def pool18 : Array CpInfo := pool [(2, .class_ 4), (1, u "java/lang/Object"), (0, u "<init>"), (0, u "()V"), (17, .class_ 26), (1, u "jdk/internal/util/Preconditions"), (28, .class_ 56), (0, u "jdk/internal/util/Preconditions$4"), (57, .class_ 115), (0, u "jdk/internal/util/Preconditions$1"), (7, u "SIOOBE_FORMATTER"), (0, u "Ljava/util/function/BiFunction;"), (0, .class_ 126), (0, u "jdk/internal/util/Preconditions$2"), (3, u "AIOOBE_FORMATTER"), (0, .class_ 132), (0, u "jdk/internal/util/Preconditions$3"), (3, u "IOOBE_FORMATTER")] 57

def k18m0 : Method := { name := "<init>", desc := "()V", sig := { parameters := [], returnType := none }, accessFlags := 1, code := none }
/-- jdk/internal/util/Preconditions -/
def k18 : Class := { plain "jdk/internal/util/Preconditions" (some 0) with
  accessFlags := 33
  interfaces := #[]
  cf := some (fileOf pool18 24 #[.nestMembers #[55, 131, 125, 114]] #[{ accessFlags := 1, nameIndex := 5, descriptorIndex := 6, attributes := #[] }] 33 2 #[] #[{ accessFlags := 25, nameIndex := 123, descriptorIndex := 124, attributes := #[] }, { accessFlags := 25, nameIndex := 130, descriptorIndex := 124, attributes := #[] }, { accessFlags := 25, nameIndex := 136, descriptorIndex := 124, attributes := #[] }])
  fields := #[{ name := "SIOOBE_FORMATTER", type := (.object "java/util/function/BiFunction"), accessFlags := 25, slot := 0, constantValue := 0 }, { name := "AIOOBE_FORMATTER", type := (.object "java/util/function/BiFunction"), accessFlags := 25, slot := 1, constantValue := 0 }, { name := "IOOBE_FORMATTER", type := (.object "java/util/function/BiFunction"), accessFlags := 25, slot := 2, constantValue := 0 }]
  methods := #[k18m0]
  instanceTypes := #[]
  staticTypes := #[(.object "java/util/function/BiFunction"), (.object "java/util/function/BiFunction"), (.object "java/util/function/BiFunction")]
  resolved := Array.replicate 194 none
  statics := some 4 }

def pool19 : Array CpInfo := pool [(9, u "<init>"), (6, .class_ 18), (1, u "java/lang/Object"), (0, u "()V"), (1, .class_ 23), (1, u "jdk/internal/util/ArraysSupport"), (0, u "LOG2_ARRAY_LONG_INDEX_SCALE"), (0, u "I"), (2, u "U"), (0, u "Ljdk/internal/misc/Unsafe;"), (8, u "BIG_ENDIAN"), (0, u "Z"), (8, u "LOG2_BYTE_BIT_SIZE"), (4, u "LOG2_ARRAY_INT_INDEX_SCALE"), (54, u "JLA"), (0, u "Ljdk/internal/access/JavaLangAccess;"), (11, u "LOG2_ARRAY_BOOLEAN_INDEX_SCALE"), (9, u "LOG2_ARRAY_BYTE_INDEX_SCALE"), (5, u "LOG2_ARRAY_CHAR_INDEX_SCALE"), (5, u "LOG2_ARRAY_SHORT_INDEX_SCALE"), (18, u "LOG2_ARRAY_FLOAT_INDEX_SCALE"), (24, u "LOG2_ARRAY_DOUBLE_INDEX_SCALE"), (89, u "T_BOOLEAN"), (2, u "T_CHAR"), (1, u "T_FLOAT"), (1, u "T_DOUBLE"), (1, u "T_BYTE"), (1, u "T_SHORT"), (1, u "T_INT"), (1, u "T_LONG"), (1, u "SOFT_MAX_ARRAY_LENGTH")] 83

def k19m0 : Method := { name := "<init>", desc := "()V", sig := { parameters := [], returnType := none }, accessFlags := 2, code := none }
/-- jdk/internal/util/ArraysSupport -/
def k19 : Class := { plain "jdk/internal/util/ArraysSupport" (some 0) with
  accessFlags := 33
  interfaces := #[]
  cf := some (fileOf pool19 21 #[] #[{ accessFlags := 2, nameIndex := 9, descriptorIndex := 19, attributes := #[] }] 33 16 #[] #[{ accessFlags := 24, nameIndex := 28, descriptorIndex := 29, attributes := #[] }, { accessFlags := 26, nameIndex := 38, descriptorIndex := 39, attributes := #[] }, { accessFlags := 25, nameIndex := 121, descriptorIndex := 25, attributes := #[] }, { accessFlags := 25, nameIndex := 131, descriptorIndex := 25, attributes := #[] }, { accessFlags := 25, nameIndex := 137, descriptorIndex := 25, attributes := #[] }, { accessFlags := 25, nameIndex := 143, descriptorIndex := 25, attributes := #[] }, { accessFlags := 25, nameIndex := 53, descriptorIndex := 25, attributes := #[] }, { accessFlags := 25, nameIndex := 24, descriptorIndex := 25, attributes := #[] }, { accessFlags := 25, nameIndex := 162, descriptorIndex := 25, attributes := #[] }, { accessFlags := 25, nameIndex := 187, descriptorIndex := 25, attributes := #[] }, { accessFlags := 26, nameIndex := 48, descriptorIndex := 25, attributes := #[] }, { accessFlags := 25, nameIndex := 277, descriptorIndex := 25, attributes := #[] }, { accessFlags := 25, nameIndex := 280, descriptorIndex := 25, attributes := #[] }, { accessFlags := 25, nameIndex := 282, descriptorIndex := 25, attributes := #[] }, { accessFlags := 25, nameIndex := 284, descriptorIndex := 25, attributes := #[] }, { accessFlags := 25, nameIndex := 286, descriptorIndex := 25, attributes := #[] }, { accessFlags := 25, nameIndex := 288, descriptorIndex := 25, attributes := #[] }, { accessFlags := 25, nameIndex := 290, descriptorIndex := 25, attributes := #[] }, { accessFlags := 25, nameIndex := 292, descriptorIndex := 25, attributes := #[] }, { accessFlags := 26, nameIndex := 108, descriptorIndex := 109, attributes := #[] }, { accessFlags := 25, nameIndex := 294, descriptorIndex := 25, attributes := #[] }])
  fields := #[{ name := "U", type := (.object "jdk/internal/misc/Unsafe"), accessFlags := 24, slot := 0, constantValue := 0 }, { name := "BIG_ENDIAN", type := .boolean, accessFlags := 26, slot := 1, constantValue := 0 }, { name := "LOG2_ARRAY_BOOLEAN_INDEX_SCALE", type := .int, accessFlags := 25, slot := 2, constantValue := 0 }, { name := "LOG2_ARRAY_BYTE_INDEX_SCALE", type := .int, accessFlags := 25, slot := 3, constantValue := 0 }, { name := "LOG2_ARRAY_CHAR_INDEX_SCALE", type := .int, accessFlags := 25, slot := 4, constantValue := 0 }, { name := "LOG2_ARRAY_SHORT_INDEX_SCALE", type := .int, accessFlags := 25, slot := 5, constantValue := 0 }, { name := "LOG2_ARRAY_INT_INDEX_SCALE", type := .int, accessFlags := 25, slot := 6, constantValue := 0 }, { name := "LOG2_ARRAY_LONG_INDEX_SCALE", type := .int, accessFlags := 25, slot := 7, constantValue := 0 }, { name := "LOG2_ARRAY_FLOAT_INDEX_SCALE", type := .int, accessFlags := 25, slot := 8, constantValue := 0 }, { name := "LOG2_ARRAY_DOUBLE_INDEX_SCALE", type := .int, accessFlags := 25, slot := 9, constantValue := 0 }, { name := "LOG2_BYTE_BIT_SIZE", type := .int, accessFlags := 26, slot := 10, constantValue := 0 }, { name := "T_BOOLEAN", type := .int, accessFlags := 25, slot := 11, constantValue := 0 }, { name := "T_CHAR", type := .int, accessFlags := 25, slot := 12, constantValue := 0 }, { name := "T_FLOAT", type := .int, accessFlags := 25, slot := 13, constantValue := 0 }, { name := "T_DOUBLE", type := .int, accessFlags := 25, slot := 14, constantValue := 0 }, { name := "T_BYTE", type := .int, accessFlags := 25, slot := 15, constantValue := 0 }, { name := "T_SHORT", type := .int, accessFlags := 25, slot := 16, constantValue := 0 }, { name := "T_INT", type := .int, accessFlags := 25, slot := 17, constantValue := 0 }, { name := "T_LONG", type := .int, accessFlags := 25, slot := 18, constantValue := 0 }, { name := "JLA", type := (.object "jdk/internal/access/JavaLangAccess"), accessFlags := 26, slot := 19, constantValue := 0 }, { name := "SOFT_MAX_ARRAY_LENGTH", type := .int, accessFlags := 25, slot := 20, constantValue := 0 }]
  methods := #[k19m0]
  instanceTypes := #[]
  staticTypes := #[(.object "jdk/internal/misc/Unsafe"), .boolean, .int, .int, .int, .int, .int, .int, .int, .int, .int, .int, .int, .int, .int, .int, .int, .int, .int, (.object "jdk/internal/access/JavaLangAccess"), .int]
  resolved := Array.replicate 378 none
  statics := none }

/-- the primitive byte -/
def k20 : Class := { plain "byte" none with kind := .primitive 'B', accessFlags := 0x411 }
/-- [B -/
def k21 : Class := { plain "[B" (some 0) with kind := .array 20 .byte, interfaces := #[16, 2], accessFlags := 1041 }

/-- the primitive char -/
def k22 : Class := { plain "char" none with kind := .primitive 'C', accessFlags := 0x411 }
/-- [C -/
def k23 : Class := { plain "[C" (some 0) with kind := .array 22 .char, interfaces := #[16, 2], accessFlags := 1041 }

/-- the primitive int -/
def k24 : Class := { plain "int" none with kind := .primitive 'I', accessFlags := 0x411 }
/-- [I -/
def k25 : Class := { plain "[I" (some 0) with kind := .array 24 .int, interfaces := #[16, 2], accessFlags := 1041 }

def heap : Heap := #[{ cls := 7, slots := #[.long 0, .int 1, .null, .int 0, .null, .int 0, .int 0], vm := .statics 7 },
  { cls := 10, slots := #[.null, .ref 5, .null, .null, .null, .null], vm := .statics 10 },
  { cls := 14, slots := #[.ref 6, .null], vm := .statics 14 },
  { cls := 15, slots := #[.ref 5], vm := .statics 15 },
  { cls := 18, slots := #[.null, .null, .null], vm := .statics 18 },
  { cls := 15, slots := #[.null, .null, .null], vm := .none },
  { cls := 14, slots := #[.null, .null, .null], vm := .none }]
def classes : Array Class := #[k0, k1, k2, k3, k4, k5, k6, k7, k8, k9, k10, k11, k12, k13, k14, k15, k16, k17, k18, k19, k20, k21, k22, k23, k24, k25]
def interned : List (Array UInt16 × Addr) := []
def slotsUsed : Nat := 25
def theMethod : MethodId := ⟨1, 1⟩
def args0 : Array Value := #[.int 5, .int 65, .int 66, .int 67]
def aboutOver (below : List Frame) : State where
  vm := { classes := classes, interned := interned.toArray }
  heap := heap
  slotsUsed := slotsUsed
  threads := #[{ frames := .invoking theMethod args0 :: below }]
def below0 : List Frame := [.native { method := ⟨0, 0⟩, args := #[] }]
def about1 : State := aboutOver below0
def p0 : Program := .bare "" "" ""
def e0 : Env := launch0.env 0 0 0
theorem w_frames : about1.frames = Frame.invoking theMethod args0 :: below0 := rfl
set_option maxRecDepth 65536 in
theorem w_args : argsFit about1.vm theMethod args0 = true := by decide +kernel
set_option maxRecDepth 65536 in
theorem w_heap : heapFits about1 = true := by decide +kernel
set_option maxRecDepth 65536 in
theorem w_runnable : about1.curStatus? = some .runnable := by decide +kernel
set_option maxRecDepth 65536 in
theorem w_alone : about1.alone = true := by decide +kernel
set_option maxRecDepth 65536 in
theorem w_named : about1.methodNamed? x = some theMethod := by decide +kernel
set_option maxRecDepth 65536 in
theorem w_hears : about1.hears theMethod below0 = true := by decide +kernel
set_option maxRecDepth 65536 in
theorem w_ripe : about1.ripe theMethod args0 below0 = true := by decide +kernel
theorem w_running : about1.status = .running := rfl
set_option maxRecDepth 65536 in
theorem w_room : about1.hasRoom e0.platform room_1 = true :=
  launch0.hasRoom_least _ room_1 (by decide +kernel) (by decide +kernel) (by decide +kernel) (by decide +kernel) (by decide +kernel) (by decide +kernel)
theorem allAtoms_all (ts : List Jvm.Cond) (a : Array Jvm.Value) (st : Jvm.State) : (allAtoms ts).before a st = ts.all (fun c => c.before a st) := by
  induction ts with
  | nil => rfl
  | cons c t ih =>
    show (Jvm.Cond.and c (allAtoms t)).before a st = _
    rw [Jvm.Cond.before_and, ih, List.all_cons]
def words1 : List Jvm.Cond := Jvm.Cond.code x code maxLocals ret :: tables_1
/-- a 'code' word, met by the world's own term for the bytes: nothing is compared byte by byte -/
theorem code_word {y : MethodName} {bytes : ByteArray} {mx : Nat} {rt : Option FieldType} {a : Array Value} {s : State} {m : MethodId} {meth : Method} {c : Code} (h1 : s.methodNamed? y = some m) (h2 : s.vm.method? m = some meth) (h3 : meth.code = some c) (h4 : c.code = bytes)
    (h5 : (c.maxLocals == mx && c.exceptionTable.isEmpty && decide (c.maxStack ≤ mostOperands) && decide (meth.sig.returnType = rt) && !meth.locks && decide (parseMethodDescriptor y.desc = some meth.sig)) = true) : (Jvm.Cond.code y bytes mx rt).before a s = true := by
  simp only [Bool.and_eq_true, beq_iff_eq, Bool.not_eq_true', decide_eq_true_eq] at h5
  obtain ⟨⟨⟨⟨⟨g1, g2⟩, g3⟩, g4⟩, g5⟩, g6⟩ := h5
  simp [Cond.before, Cond.holds, Cond.value, h1, h2, h3, h4, g1, g2, g3, g4, g5, g6]
def isCode : Jvm.Cond → Bool
  | .code _ _ _ _ => true
  | _ => false
theorem all_split {L : List Jvm.Cond} {P : Jvm.Cond → Bool} (h1 : L.all (fun c => isCode c || P c) = true) (h2 : ∀ c ∈ L.filter isCode, P c = true) : L.all P = true := by
  refine List.all_eq_true.mpr fun c hc => ?_
  have h := List.all_eq_true.mp h1 c hc
  rcases Bool.eq_false_or_eq_true (isCode c) with hi | hi
  · exact h2 c (List.mem_filter.mpr ⟨hc, hi⟩)
  · simpa [hi] using h
set_option maxRecDepth 65536 in
theorem w_c0 : (Jvm.Cond.code x code maxLocals ret).before args0 about1 = true := code_word (m := ⟨1, 1⟩) (meth := k1m1) (c := k1c1) (by decide +kernel) rfl rfl rfl (by decide +kernel)
set_option maxRecDepth 65536 in
theorem w_c1 : (Jvm.Cond.code ({ cls := "cardtalk/message/HexDigitPinLaw", name := "pick", desc := "(I)I" } : Jvm.MethodName) method_3_code (1 : Nat) (Option.some Jvm.ClassFile.FieldType.int)).before args0 about1 = true := code_word (m := ⟨1, 2⟩) (meth := k1m2) (c := k1c2) (by decide +kernel) rfl rfl rfl (by decide +kernel)
set_option maxRecDepth 65536 in
theorem w_c2 : (Jvm.Cond.code ({ cls := "cardtalk/message/HexDigitPinLaw", name := "ch", desc := "(I)C" } : Jvm.MethodName) method_4_code (1 : Nat) (Option.some Jvm.ClassFile.FieldType.char)).before args0 about1 = true := code_word (m := ⟨1, 3⟩) (meth := k1m3) (c := k1c3) (by decide +kernel) rfl rfl rfl (by decide +kernel)
set_option maxRecDepth 65536 in
theorem w_c3 : (Jvm.Cond.code ({ cls := "java/lang/String", name := "<init>", desc := "([C)V" } : Jvm.MethodName) jdk_42_method_3_code (2 : Nat) (Option.none : Option Jvm.ClassFile.FieldType)).before args0 about1 = true := code_word (m := ⟨7, 1⟩) (meth := k7m1) (c := k7c1) (by decide +kernel) rfl rfl rfl (by decide +kernel)
set_option maxRecDepth 65536 in
theorem w_c4 : (Jvm.Cond.code ({ cls := "java/lang/String", name := "<init>", desc := "([CIILjava/lang/Void;)V" } : Jvm.MethodName) jdk_42_method_149_code (6 : Nat) (Option.none : Option Jvm.ClassFile.FieldType)).before args0 about1 = true := code_word (m := ⟨7, 6⟩) (meth := k7m6) (c := k7c6) (by decide +kernel) rfl rfl rfl (by decide +kernel)
set_option maxRecDepth 65536 in
theorem w_c5 : (Jvm.Cond.code ({ cls := "java/lang/Object", name := "<init>", desc := "()V" } : Jvm.MethodName) object_method_1_code (1 : Nat) (Option.none : Option Jvm.ClassFile.FieldType)).before args0 about1 = true := code_word (m := ⟨0, 0⟩) (meth := k0m0) (c := k0c0) (by decide +kernel) rfl rfl rfl (by decide +kernel)
set_option maxRecDepth 65536 in
theorem w_c6 : (Jvm.Cond.code ({ cls := "java/lang/StringUTF16", name := "compress", desc := "([CII)[B" } : Jvm.MethodName) jdk_52_method_16_code (6 : Nat) (Option.some (Jvm.ClassFile.FieldType.array Jvm.ClassFile.FieldType.byte))).before args0 about1 = true := code_word (m := ⟨8, 2⟩) (meth := k8m2) (c := k8c2) (by decide +kernel) rfl rfl rfl (by decide +kernel)
set_option maxRecDepth 65536 in
theorem w_c7 : (Jvm.Cond.code ({ cls := "java/lang/StringUTF16", name := "compress", desc := "([CI[BII)I" } : Jvm.MethodName) jdk_52_method_21_code (7 : Nat) (Option.some Jvm.ClassFile.FieldType.int)).before args0 about1 = true := code_word (m := ⟨8, 3⟩) (meth := k8m3) (c := k8c3) (by decide +kernel) rfl rfl rfl (by decide +kernel)
set_option maxRecDepth 65536 in
theorem w_c8 : (Jvm.Cond.code ({ cls := "java/lang/StringUTF16", name := "coderFromArrayLen", desc := "([BI)B" } : Jvm.MethodName) jdk_52_method_15_code (2 : Nat) (Option.some Jvm.ClassFile.FieldType.byte)).before args0 about1 = true := code_word (m := ⟨8, 1⟩) (meth := k8m1) (c := k8c1) (by decide +kernel) rfl rfl rfl (by decide +kernel)
set_option maxRecDepth 65536 in
theorem w_c9 : (Jvm.Cond.code ({ cls := "cardtalk/message/Hex", name := "parse", desc := "(Ljava/lang/String;)[B" } : Jvm.MethodName) prog_50_method_2_code (7 : Nat) (Option.some (Jvm.ClassFile.FieldType.array Jvm.ClassFile.FieldType.byte))).before args0 about1 = true := code_word (m := ⟨9, 1⟩) (meth := k9m1) (c := k9c1) (by decide +kernel) rfl rfl rfl (by decide +kernel)
set_option maxRecDepth 65536 in
theorem w_c10 : (Jvm.Cond.code ({ cls := "java/lang/String", name := "getBytes", desc := "(Ljava/nio/charset/Charset;)[B" } : Jvm.MethodName) jdk_42_method_64_code (2 : Nat) (Option.some (Jvm.ClassFile.FieldType.array Jvm.ClassFile.FieldType.byte))).before args0 about1 = true := code_word (m := ⟨7, 5⟩) (meth := k7m5) (c := k7c5) (by decide +kernel) rfl rfl rfl (by decide +kernel)
set_option maxRecDepth 65536 in
theorem w_c11 : (Jvm.Cond.code ({ cls := "java/lang/String", name := "coder", desc := "()B" } : Jvm.MethodName) jdk_42_method_152_code (1 : Nat) (Option.some Jvm.ClassFile.FieldType.byte)).before args0 about1 = true := code_word (m := ⟨7, 7⟩) (meth := k7m7) (c := k7c7) (by decide +kernel) rfl rfl rfl (by decide +kernel)
set_option maxRecDepth 65536 in
theorem w_c12 : (Jvm.Cond.code ({ cls := "java/lang/String", name := "encode", desc := "(Ljava/nio/charset/Charset;B[B)[B" } : Jvm.MethodName) jdk_42_method_18_code (3 : Nat) (Option.some (Jvm.ClassFile.FieldType.array Jvm.ClassFile.FieldType.byte))).before args0 about1 = true := code_word (m := ⟨7, 2⟩) (meth := k7m2) (c := k7c2) (by decide +kernel) rfl rfl rfl (by decide +kernel)
set_option maxRecDepth 65536 in
theorem w_c13 : (Jvm.Cond.code ({ cls := "java/lang/String", name := "encode8859_1", desc := "(B[B)[B" } : Jvm.MethodName) jdk_42_method_26_code (2 : Nat) (Option.some (Jvm.ClassFile.FieldType.array Jvm.ClassFile.FieldType.byte))).before args0 about1 = true := code_word (m := ⟨7, 3⟩) (meth := k7m3) (c := k7c3) (by decide +kernel) rfl rfl rfl (by decide +kernel)
set_option maxRecDepth 65536 in
theorem w_c14 : (Jvm.Cond.code ({ cls := "java/lang/String", name := "encode8859_1", desc := "(B[BZ)[B" } : Jvm.MethodName) jdk_42_method_27_code (10 : Nat) (Option.some (Jvm.ClassFile.FieldType.array Jvm.ClassFile.FieldType.byte))).before args0 about1 = true := code_word (m := ⟨7, 4⟩) (meth := k7m4) (c := k7c4) (by decide +kernel) rfl rfl rfl (by decide +kernel)
set_option maxRecDepth 65536 in
theorem w_c15 : (Jvm.Cond.code ({ cls := "cardtalk/message/Hex", name := "digit", desc := "(B)I" } : Jvm.MethodName) prog_50_method_5_code (1 : Nat) (Option.some Jvm.ClassFile.FieldType.int)).before args0 about1 = true := code_word (m := ⟨9, 2⟩) (meth := k9m2) (c := k9c2) (by decide +kernel) rfl rfl rfl (by decide +kernel)
set_option maxRecDepth 65536 in
theorem w_c16 : (Jvm.Cond.code ({ cls := "cardtalk/message/Hex", name := "digit", desc := "(C)I" } : Jvm.MethodName) prog_50_method_6_code (1 : Nat) (Option.some Jvm.ClassFile.FieldType.int)).before args0 about1 = true := code_word (m := ⟨9, 3⟩) (meth := k9m3) (c := k9c3) (by decide +kernel) rfl rfl rfl (by decide +kernel)
set_option maxRecDepth 65536 in
theorem w_c17 : (Jvm.Cond.code ({ cls := "cardtalk/message/HexDigitPinLaw", name := "val", desc := "(I)I" } : Jvm.MethodName) method_5_code (1 : Nat) (Option.some Jvm.ClassFile.FieldType.int)).before args0 about1 = true := code_word (m := ⟨1, 4⟩) (meth := k1m4) (c := k1c4) (by decide +kernel) rfl rfl rfl (by decide +kernel)
def codes1 : List Jvm.Cond := [Jvm.Cond.code x code maxLocals ret, Jvm.Cond.code ({ cls := "cardtalk/message/HexDigitPinLaw", name := "pick", desc := "(I)I" } : Jvm.MethodName) method_3_code (1 : Nat) (Option.some Jvm.ClassFile.FieldType.int), Jvm.Cond.code ({ cls := "cardtalk/message/HexDigitPinLaw", name := "ch", desc := "(I)C" } : Jvm.MethodName) method_4_code (1 : Nat) (Option.some Jvm.ClassFile.FieldType.char), Jvm.Cond.code ({ cls := "java/lang/String", name := "<init>", desc := "([C)V" } : Jvm.MethodName) jdk_42_method_3_code (2 : Nat) (Option.none : Option Jvm.ClassFile.FieldType), Jvm.Cond.code ({ cls := "java/lang/String", name := "<init>", desc := "([CIILjava/lang/Void;)V" } : Jvm.MethodName) jdk_42_method_149_code (6 : Nat) (Option.none : Option Jvm.ClassFile.FieldType), Jvm.Cond.code ({ cls := "java/lang/Object", name := "<init>", desc := "()V" } : Jvm.MethodName) object_method_1_code (1 : Nat) (Option.none : Option Jvm.ClassFile.FieldType), Jvm.Cond.code ({ cls := "java/lang/StringUTF16", name := "compress", desc := "([CII)[B" } : Jvm.MethodName) jdk_52_method_16_code (6 : Nat) (Option.some (Jvm.ClassFile.FieldType.array Jvm.ClassFile.FieldType.byte)), Jvm.Cond.code ({ cls := "java/lang/StringUTF16", name := "compress", desc := "([CI[BII)I" } : Jvm.MethodName) jdk_52_method_21_code (7 : Nat) (Option.some Jvm.ClassFile.FieldType.int), Jvm.Cond.code ({ cls := "java/lang/StringUTF16", name := "coderFromArrayLen", desc := "([BI)B" } : Jvm.MethodName) jdk_52_method_15_code (2 : Nat) (Option.some Jvm.ClassFile.FieldType.byte), Jvm.Cond.code ({ cls := "cardtalk/message/Hex", name := "parse", desc := "(Ljava/lang/String;)[B" } : Jvm.MethodName) prog_50_method_2_code (7 : Nat) (Option.some (Jvm.ClassFile.FieldType.array Jvm.ClassFile.FieldType.byte)), Jvm.Cond.code ({ cls := "java/lang/String", name := "getBytes", desc := "(Ljava/nio/charset/Charset;)[B" } : Jvm.MethodName) jdk_42_method_64_code (2 : Nat) (Option.some (Jvm.ClassFile.FieldType.array Jvm.ClassFile.FieldType.byte)), Jvm.Cond.code ({ cls := "java/lang/String", name := "coder", desc := "()B" } : Jvm.MethodName) jdk_42_method_152_code (1 : Nat) (Option.some Jvm.ClassFile.FieldType.byte), Jvm.Cond.code ({ cls := "java/lang/String", name := "encode", desc := "(Ljava/nio/charset/Charset;B[B)[B" } : Jvm.MethodName) jdk_42_method_18_code (3 : Nat) (Option.some (Jvm.ClassFile.FieldType.array Jvm.ClassFile.FieldType.byte)), Jvm.Cond.code ({ cls := "java/lang/String", name := "encode8859_1", desc := "(B[B)[B" } : Jvm.MethodName) jdk_42_method_26_code (2 : Nat) (Option.some (Jvm.ClassFile.FieldType.array Jvm.ClassFile.FieldType.byte)), Jvm.Cond.code ({ cls := "java/lang/String", name := "encode8859_1", desc := "(B[BZ)[B" } : Jvm.MethodName) jdk_42_method_27_code (10 : Nat) (Option.some (Jvm.ClassFile.FieldType.array Jvm.ClassFile.FieldType.byte)), Jvm.Cond.code ({ cls := "cardtalk/message/Hex", name := "digit", desc := "(B)I" } : Jvm.MethodName) prog_50_method_5_code (1 : Nat) (Option.some Jvm.ClassFile.FieldType.int), Jvm.Cond.code ({ cls := "cardtalk/message/Hex", name := "digit", desc := "(C)I" } : Jvm.MethodName) prog_50_method_6_code (1 : Nat) (Option.some Jvm.ClassFile.FieldType.int), Jvm.Cond.code ({ cls := "cardtalk/message/HexDigitPinLaw", name := "val", desc := "(I)I" } : Jvm.MethodName) method_5_code (1 : Nat) (Option.some Jvm.ClassFile.FieldType.int)]
set_option maxRecDepth 65536 in
theorem codes_eq : words1.filter isCode = codes1 := rfl
theorem w_codes : ∀ c ∈ words1.filter isCode, c.before args0 about1 = true := by
  rw [codes_eq]
  intro c hc
  simp only [codes1, List.mem_cons, List.not_mem_nil, or_false] at hc
  rcases hc with rfl | rfl | rfl | rfl | rfl | rfl | rfl | rfl | rfl | rfl | rfl | rfl | rfl | rfl | rfl | rfl | rfl | rfl
  · exact w_c0
  · exact w_c1
  · exact w_c2
  · exact w_c3
  · exact w_c4
  · exact w_c5
  · exact w_c6
  · exact w_c7
  · exact w_c8
  · exact w_c9
  · exact w_c10
  · exact w_c11
  · exact w_c12
  · exact w_c13
  · exact w_c14
  · exact w_c15
  · exact w_c16
  · exact w_c17
set_option maxRecDepth 65536 in
theorem w_t1 : (words1.take 24).all (fun c => isCode c || c.before args0 about1) = true := by decide +kernel
set_option maxRecDepth 65536 in
theorem w_t2 : ((words1.drop 24).take 24).all (fun c => isCode c || c.before args0 about1) = true := by decide +kernel
set_option maxRecDepth 65536 in
theorem w_t3 : (((words1.drop 24).drop 24).take 24).all (fun c => isCode c || c.before args0 about1) = true := by decide +kernel
set_option maxRecDepth 65536 in
theorem w_t4 : (((words1.drop 24).drop 24).drop 24).all (fun c => isCode c || c.before args0 about1) = true := by decide +kernel
theorem w_tables : (allAtoms (Jvm.Cond.code x code maxLocals ret :: tables_1)).before args0 about1 = true := by
  rw [allAtoms_all]
  show words1.all (fun c => c.before args0 about1) = true
  refine all_split ?_ w_codes
  rw [← List.take_append_drop 24 words1, List.all_append, w_t1, ← List.take_append_drop 24 (words1.drop 24), List.all_append, w_t2, ← List.take_append_drop 24 ((words1.drop 24).drop 24), List.all_append, w_t3, w_t4]
  rfl
set_option maxRecDepth 65536 in
theorem w_rest : rest_1_c.before args0 about1 = true := by decide +kernel
set_option maxRecDepth 65536 in
theorem w_case : (Jvm.Cond.and given_1 narrow_1).before args0 about1 = true := by decide +kernel
theorem w_applies : (headSpec (Jvm.Cond.code x code maxLocals ret :: tables_1) room_1).applies x e0.platform about1 = true :=
  (Spec.applies_iff w_frames).mpr ⟨w_running, w_runnable, w_alone, w_named, w_hears, w_ripe, w_room, w_tables⟩
theorem atStart : AtStart classFile x code maxLocals ret World_1 tables_1 room_1 Calls_1 rest_1 Pre_1 launch0 p0 e0 about1 theMethod args0 below0 :=
  ⟨lists_1, trivial, launch0.admits_env _ _ _, launch0.least_env, fairChoices_fair.cas, fairChoices_fair.clock, w_frames, w_args, w_heap, w_applies, trivial, w_rest, w_case⟩
end start1
theorem witness_1 : WitnessClaimed_1 := ⟨start1.p0, start1.e0, start1.about1, start1.theMethod, start1.args0, start1.below0, start1.atStart⟩
end Jvm.Pilot.@@N@@
