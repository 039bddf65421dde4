import JvmDerived
import JvmDerived.Pilot.@@N@@Statement
import JvmDerived.Pilot.@@N@@Code
set_option linter.unusedVariables false
set_option linter.unusedSimpArgs false
namespace Jvm.RoadKit
open Sem ClassFile Op Lib Jvm.Stand Jvm.Free Jvm.LawKit
section New
variable {p : Program} {l : Launch} {e : Env} {R : Room} {s : State} {m : MethodId} {args : Array Value} {below : List Frame} {meth : Method} {c : Code} {T T' : State} {locs : List Loc} {cells slots : Nat}
theorem retI (X : Stand p l e R s m args below meth c T locs cells slots) (hx : p.tables.exec = Jvm.exec) {pc : Nat} {Ls : Array Slot} {z : Int32} {rest : List Value} (hret : meth.sig.returnType = some .int) (hd : decode c.code pc = .ok (.ireturn, 1)) {fs : List Frame}
    (hl : ∀ (f : JFrame) (acts : List Action), f.method = m → f.locked = none → f.entered = [] → (doReturn e (T.setTop f) acts (some (.int z))).1 = T.setFrames fs) : Steps p.tables e below (T.setTop (mkF m pc Ls (.int z :: rest))) (T.setFrames fs) := by
  have hm' : T.vm.method? m = some meth := X.method'
  have hn : narrow .int (.int z) = .int z := rfl
  show Steps p.tables e below (T.setTop { method := m, pc := pc, locals := Ls, stack := _ :: rest, locked := none }) _
  jvm_step X.here [X.here.top, hx, hd, hm', hret, hn]
  first | (intro acts; rw [hl _ acts rfl rfl rfl]) | rw [hl _ _ rfl rfl rfl]
  exact Steps.refl _
/-- from this frame the run comes to an end of which P holds -/
def OEnds (p : Program) (e : Env) (below : List Frame) (P : Outcome → State → Prop) (T : State) (g : JFrame) : Prop :=
  ∃ s₂ o, Steps p.tables e below (T.setTop g) s₂ ∧ s₂.status = .running ∧ Ended s₂ below o ∧ P o s₂
theorem OEnds.go {P : Outcome → State → Prop} {g g' : JFrame} (h : ∀ t, Steps p.tables e below (T'.setTop g') t → Steps p.tables e below (T.setTop g) t) (k : OEnds p e below P T' g') : OEnds p e below P T g := by
  obtain ⟨s₂, o, h1, h2⟩ := k
  exact ⟨s₂, o, h _ h1, h2⟩
theorem OEnds.tr {P : Outcome → State → Prop} {g g' : JFrame} (h : Steps p.tables e below (T.setTop g) (T'.setTop g')) (k : OEnds p e below P T' g') : OEnds p e below P T g :=
  OEnds.go (fun _ q => h.trans q) k
/-- what a contract of this family says of the end -/
def OEndP (s : State) (Q : Option Value → Heap → List Loc → Prop) (C N : Nat) (o : Outcome) (U' : State) : Prop := ∃ v L, o = .returned v ∧ Q v U'.heap L ∧ FrameEnd s o U' L C N
theorem OEnds.out (X : Stand p l e R s m args below meth c T locs cells slots) (hlocks : meth.locks = false) {v : Option Value} (hv : meth.sig.returnType = none → v = none) {Q : Option Value → Heap → List Loc → Prop} {C N : Nat} {g : JFrame}
    (hs : ∀ fs, (∀ (f : JFrame) (acts : List Action), f.method = m → f.locked = none → f.entered = [] → (doReturn e (T.setTop f) acts v).1 = T.setFrames fs) → Steps p.tables e below (T.setTop g) (T.setFrames fs))
    (hq : Q v T.heap locs) (hc : cells ≤ C) (hn : slots ≤ N) : OEnds p e below (OEndP s Q C N) T g := by
  obtain ⟨fs, hr, hrun, hended, hW, hsame⟩ := X.leave (v := v) hv hlocks
  exact ⟨_, _, hs fs hr, hrun, hended, _, _, rfl, hq, ⟨_, rfl⟩, hW, hsame.mono hc hn⟩
theorem OEnds.outN (X : Stand p l e R s m args below meth c T locs cells slots) (hlocks : meth.locks = false) (hx : p.tables.exec = Jvm.exec) {pc : Nat} {Ls : Array Slot} {z : Int32} {t : FieldType} {rest : List Value} (hret : meth.sig.returnType = some t) (ht : t = .boolean ∨ t = .byte ∨ t = .char ∨ t = .short)
    (hd : decode c.code pc = .ok (.ireturn, 1)) {Q : Option Value → Heap → List Loc → Prop} {C N : Nat} (hq : Q (some (.int (nar t z))) T.heap locs) (hc : cells ≤ C) (hn : slots ≤ N) : OEnds p e below (OEndP s Q C N) T (mkF m pc Ls (.int z :: rest)) :=
  OEnds.out X hlocks (fun h => by rw [hret] at h; cases h) (fun fs hr => retN X hx hret ht hd hr) hq hc hn
theorem OEnds.outI (X : Stand p l e R s m args below meth c T locs cells slots) (hlocks : meth.locks = false) (hx : p.tables.exec = Jvm.exec) {pc : Nat} {Ls : Array Slot} {z : Int32} {rest : List Value} (hret : meth.sig.returnType = some .int)
    (hd : decode c.code pc = .ok (.ireturn, 1)) {Q : Option Value → Heap → List Loc → Prop} {C N : Nat} (hq : Q (some (.int z)) T.heap locs) (hc : cells ≤ C) (hn : slots ≤ N) : OEnds p e below (OEndP s Q C N) T (mkF m pc Ls (.int z :: rest)) :=
  OEnds.out X hlocks (fun h => by rw [hret] at h; cases h) (fun fs hr => retI X hx hret hd hr) hq hc hn
theorem OEnds.outJ (X : Stand p l e R s m args below meth c T locs cells slots) (hlocks : meth.locks = false) (hx : p.tables.exec = Jvm.exec) {pc : Nat} {Ls : Array Slot} {z : Int64} {rest : List Value} (hret : meth.sig.returnType = some .long)
    (hd : decode c.code pc = .ok (.lreturn, 1)) {Q : Option Value → Heap → List Loc → Prop} {C N : Nat} (hq : Q (some (.long z)) T.heap locs) (hc : cells ≤ C) (hn : slots ≤ N) : OEnds p e below (OEndP s Q C N) T (mkF m pc Ls (.long z :: rest)) :=
  OEnds.out X hlocks (fun h => by rw [hret] at h; cases h) (fun fs hr => retOut X hx hret rfl (Or.inr (Or.inl ⟨rfl, rfl, z, rfl⟩)) hd hr) hq hc hn
theorem OEnds.outA (X : Stand p l e R s m args below meth c T locs cells slots) (hlocks : meth.locks = false) (hx : p.tables.exec = Jvm.exec) {pc : Nat} {Ls : Array Slot} {w : Value} {t : FieldType} {rest : List Value} (hret : meth.sig.returnType = some t) (ht : t.isReference = true) (hw : w.isRef = true)
    (hd : decode c.code pc = .ok (.areturn, 1)) {Q : Option Value → Heap → List Loc → Prop} {C N : Nat} (hq : Q (some w) T.heap locs) (hc : cells ≤ C) (hn : slots ≤ N) : OEnds p e below (OEndP s Q C N) T (mkF m pc Ls (w :: rest)) :=
  OEnds.out X hlocks (fun h => by rw [hret] at h; cases h) (fun fs hr => retOut X hx hret (by rcases ref_cases hw with rfl | ⟨a, rfl⟩ <;> cases t <;> first | rfl | cases ht) (Or.inr (Or.inr (Or.inr (Or.inr ⟨rfl, ht, hw⟩)))) hd hr) hq hc hn
theorem OEnds.outV (X : Stand p l e R s m args below meth c T locs cells slots) (hlocks : meth.locks = false) (hx : p.tables.exec = Jvm.exec) {pc : Nat} {Ls : Array Slot} (hret : meth.sig.returnType = none)
    (hd : decode c.code pc = .ok (.return_, 1)) {Q : Option Value → Heap → List Loc → Prop} {C N : Nat} (hq : Q none T.heap locs) (hc : cells ≤ C) (hn : slots ≤ N) : OEnds p e below (OEndP s Q C N) T (mkF m pc Ls []) :=
  OEnds.out X hlocks (fun _ => rfl) (fun fs hr => X.returnOut hx hret hd hr) hq hc hn
end New
end Jvm.RoadKit
namespace Jvm.Pilot.@@N@@
open Jvm Jvm.ClassFile Sem Op Lib Jvm.Free Jvm.Stand Jvm.LawKit Jvm.RoadKit Bundle Jvm.Pilot.@@N@@.Jvm.D
theorem d1_0 : decode prog_31_method_1_code 0 = .ok (.aload_n 0, 1) := by decide +kernel
theorem d1_1 : decode prog_31_method_1_code 1 = .ok (.invokespecial 1, 3) := by decide +kernel
theorem d1_4 : decode prog_31_method_1_code 4 = .ok (.aload_n 0, 1) := by decide +kernel
theorem d1_5 : decode prog_31_method_1_code 5 = .ok (.bipush 64, 2) := by decide +kernel
theorem d1_7 : decode prog_31_method_1_code 7 = .ok (.newarray .long, 2) := by decide +kernel
theorem d1_9 : decode prog_31_method_1_code 9 = .ok (.putfield 9, 3) := by decide +kernel
theorem d1_12 : decode prog_31_method_1_code 12 = .ok (.aload_n 0, 1) := by decide +kernel
theorem d1_13 : decode prog_31_method_1_code 13 = .ok (.bipush 64, 2) := by decide +kernel
theorem d1_15 : decode prog_31_method_1_code 15 = .ok (.anewarray 2, 3) := by decide +kernel
theorem d1_18 : decode prog_31_method_1_code 18 = .ok (.putfield 13, 3) := by decide +kernel
theorem d1_21 : decode prog_31_method_1_code 21 = .ok (.return_, 1) := by decide +kernel
theorem d3_0 : decode jdk_33_method_22_code 0 = .ok (.iload_n 0, 1) := by decide +kernel
theorem d3_1 : decode jdk_33_method_22_code 1 = .ok (.bipush (-128), 2) := by decide +kernel
theorem d3_3 : decode jdk_33_method_22_code 3 = .ok (.if_icmp .lt 20, 3) := by decide +kernel
theorem d3_6 : decode jdk_33_method_22_code 6 = .ok (.iload_n 0, 1) := by decide +kernel
theorem d3_7 : decode jdk_33_method_22_code 7 = .ok (.getstatic 191, 3) := by decide +kernel
theorem d3_10 : decode jdk_33_method_22_code 10 = .ok (.if_icmp .gt 13, 3) := by decide +kernel
theorem d3_13 : decode jdk_33_method_22_code 13 = .ok (.getstatic 195, 3) := by decide +kernel
theorem d3_16 : decode jdk_33_method_22_code 16 = .ok (.iload_n 0, 1) := by decide +kernel
theorem d3_17 : decode jdk_33_method_22_code 17 = .ok (.sipush 128, 3) := by decide +kernel
theorem d3_20 : decode jdk_33_method_22_code 20 = .ok (.iadd, 1) := by decide +kernel
theorem d3_21 : decode jdk_33_method_22_code 21 = .ok (.aaload, 1) := by decide +kernel
theorem d3_22 : decode jdk_33_method_22_code 22 = .ok (.areturn, 1) := by decide +kernel
theorem d4_0 : decode prog_31_method_3_code 0 = .ok (.aload_n 3, 1) := by decide +kernel
theorem d4_1 : decode prog_31_method_3_code 1 = .ok (.ifnonnull 13, 3) := by decide +kernel
theorem d4_14 : decode prog_31_method_3_code 14 = .ok (.aload_n 0, 1) := by decide +kernel
theorem d4_15 : decode prog_31_method_3_code 15 = .ok (.lload_n 1, 1) := by decide +kernel
theorem d4_16 : decode prog_31_method_3_code 16 = .ok (.invokevirtual 17, 3) := by decide +kernel
theorem d4_19 : decode prog_31_method_3_code 19 = .ok (.istore 4, 2) := by decide +kernel
theorem d4_21 : decode prog_31_method_3_code 21 = .ok (.aload_n 0, 1) := by decide +kernel
theorem d4_22 : decode prog_31_method_3_code 22 = .ok (.getfield 13, 3) := by decide +kernel
theorem d4_25 : decode prog_31_method_3_code 25 = .ok (.iload 4, 2) := by decide +kernel
theorem d4_27 : decode prog_31_method_3_code 27 = .ok (.aaload, 1) := by decide +kernel
theorem d4_28 : decode prog_31_method_3_code 28 = .ok (.ifnonnull 21, 3) := by decide +kernel
theorem d4_31 : decode prog_31_method_3_code 31 = .ok (.aload_n 0, 1) := by decide +kernel
theorem d4_32 : decode prog_31_method_3_code 32 = .ok (.getfield 9, 3) := by decide +kernel
theorem d4_35 : decode prog_31_method_3_code 35 = .ok (.iload 4, 2) := by decide +kernel
theorem d4_37 : decode prog_31_method_3_code 37 = .ok (.lload_n 1, 1) := by decide +kernel
theorem d4_38 : decode prog_31_method_3_code 38 = .ok (.lastore, 1) := by decide +kernel
theorem d4_39 : decode prog_31_method_3_code 39 = .ok (.aload_n 0, 1) := by decide +kernel
theorem d4_40 : decode prog_31_method_3_code 40 = .ok (.dup, 1) := by decide +kernel
theorem d4_41 : decode prog_31_method_3_code 41 = .ok (.getfield 32, 3) := by decide +kernel
theorem d4_44 : decode prog_31_method_3_code 44 = .ok (.iconst 1, 1) := by decide +kernel
theorem d4_45 : decode prog_31_method_3_code 45 = .ok (.iadd, 1) := by decide +kernel
theorem d4_46 : decode prog_31_method_3_code 46 = .ok (.putfield 32, 3) := by decide +kernel
theorem d4_49 : decode prog_31_method_3_code 49 = .ok (.aload_n 0, 1) := by decide +kernel
theorem d4_50 : decode prog_31_method_3_code 50 = .ok (.getfield 13, 3) := by decide +kernel
theorem d4_53 : decode prog_31_method_3_code 53 = .ok (.iload 4, 2) := by decide +kernel
theorem d4_55 : decode prog_31_method_3_code 55 = .ok (.aload_n 3, 1) := by decide +kernel
theorem d4_56 : decode prog_31_method_3_code 56 = .ok (.aastore, 1) := by decide +kernel
theorem d4_57 : decode prog_31_method_3_code 57 = .ok (.iconst 2, 1) := by decide +kernel
theorem d4_58 : decode prog_31_method_3_code 58 = .ok (.aload_n 0, 1) := by decide +kernel
theorem d4_59 : decode prog_31_method_3_code 59 = .ok (.getfield 32, 3) := by decide +kernel
theorem d4_62 : decode prog_31_method_3_code 62 = .ok (.imul, 1) := by decide +kernel
theorem d4_63 : decode prog_31_method_3_code 63 = .ok (.aload_n 0, 1) := by decide +kernel
theorem d4_64 : decode prog_31_method_3_code 64 = .ok (.getfield 9, 3) := by decide +kernel
theorem d4_67 : decode prog_31_method_3_code 67 = .ok (.arraylength, 1) := by decide +kernel
theorem d4_68 : decode prog_31_method_3_code 68 = .ok (.if_icmp .le 7, 3) := by decide +kernel
theorem d4_75 : decode prog_31_method_3_code 75 = .ok (.return_, 1) := by decide +kernel
theorem d5_0 : decode prog_31_method_6_code 0 = .ok (.aload_n 0, 1) := by decide +kernel
theorem d5_1 : decode prog_31_method_6_code 1 = .ok (.getfield 9, 3) := by decide +kernel
theorem d5_4 : decode prog_31_method_6_code 4 = .ok (.arraylength, 1) := by decide +kernel
theorem d5_5 : decode prog_31_method_6_code 5 = .ok (.iconst 1, 1) := by decide +kernel
theorem d5_6 : decode prog_31_method_6_code 6 = .ok (.isub, 1) := by decide +kernel
theorem d5_7 : decode prog_31_method_6_code 7 = .ok (.istore_n 3, 1) := by decide +kernel
theorem d5_8 : decode prog_31_method_6_code 8 = .ok (.lload_n 1, 1) := by decide +kernel
theorem d5_9 : decode prog_31_method_6_code 9 = .ok (.ldc2_w 39, 3) := by decide +kernel
theorem d5_12 : decode prog_31_method_6_code 12 = .ok (.lmul, 1) := by decide +kernel
theorem d5_13 : decode prog_31_method_6_code 13 = .ok (.lstore 4, 2) := by decide +kernel
theorem d5_15 : decode prog_31_method_6_code 15 = .ok (.lload 4, 2) := by decide +kernel
theorem d5_17 : decode prog_31_method_6_code 17 = .ok (.lload 4, 2) := by decide +kernel
theorem d5_19 : decode prog_31_method_6_code 19 = .ok (.bipush 32, 2) := by decide +kernel
theorem d5_21 : decode prog_31_method_6_code 21 = .ok (.lushr, 1) := by decide +kernel
theorem d5_22 : decode prog_31_method_6_code 22 = .ok (.lxor, 1) := by decide +kernel
theorem d5_23 : decode prog_31_method_6_code 23 = .ok (.l2i, 1) := by decide +kernel
theorem d5_24 : decode prog_31_method_6_code 24 = .ok (.iload_n 3, 1) := by decide +kernel
theorem d5_25 : decode prog_31_method_6_code 25 = .ok (.iand, 1) := by decide +kernel
theorem d5_26 : decode prog_31_method_6_code 26 = .ok (.istore 6, 2) := by decide +kernel
theorem d5_28 : decode prog_31_method_6_code 28 = .ok (.aload_n 0, 1) := by decide +kernel
theorem d5_29 : decode prog_31_method_6_code 29 = .ok (.getfield 13, 3) := by decide +kernel
theorem d5_32 : decode prog_31_method_6_code 32 = .ok (.iload 6, 2) := by decide +kernel
theorem d5_34 : decode prog_31_method_6_code 34 = .ok (.aaload, 1) := by decide +kernel
theorem d5_35 : decode prog_31_method_6_code 35 = .ok (.ifnull 26, 3) := by decide +kernel
theorem d5_38 : decode prog_31_method_6_code 38 = .ok (.aload_n 0, 1) := by decide +kernel
theorem d5_39 : decode prog_31_method_6_code 39 = .ok (.getfield 9, 3) := by decide +kernel
theorem d5_42 : decode prog_31_method_6_code 42 = .ok (.iload 6, 2) := by decide +kernel
theorem d5_44 : decode prog_31_method_6_code 44 = .ok (.laload, 1) := by decide +kernel
theorem d5_45 : decode prog_31_method_6_code 45 = .ok (.lload_n 1, 1) := by decide +kernel
theorem d5_46 : decode prog_31_method_6_code 46 = .ok (.lcmp, 1) := by decide +kernel
theorem d5_47 : decode prog_31_method_6_code 47 = .ok (.ifCond .eq 14, 3) := by decide +kernel
theorem d5_50 : decode prog_31_method_6_code 50 = .ok (.iload 6, 2) := by decide +kernel
theorem d5_52 : decode prog_31_method_6_code 52 = .ok (.iconst 1, 1) := by decide +kernel
theorem d5_53 : decode prog_31_method_6_code 53 = .ok (.iadd, 1) := by decide +kernel
theorem d5_54 : decode prog_31_method_6_code 54 = .ok (.iload_n 3, 1) := by decide +kernel
theorem d5_55 : decode prog_31_method_6_code 55 = .ok (.iand, 1) := by decide +kernel
theorem d5_56 : decode prog_31_method_6_code 56 = .ok (.istore 6, 2) := by decide +kernel
theorem d5_58 : decode prog_31_method_6_code 58 = .ok (.goto (-30), 3) := by decide +kernel
theorem d5_61 : decode prog_31_method_6_code 61 = .ok (.iload 6, 2) := by decide +kernel
theorem d5_63 : decode prog_31_method_6_code 63 = .ok (.ireturn, 1) := by decide +kernel
theorem d6_0 : decode prog_31_method_4_code 0 = .ok (.aload_n 0, 1) := by decide +kernel
theorem d6_1 : decode prog_31_method_4_code 1 = .ok (.getfield 32, 3) := by decide +kernel
theorem d6_4 : decode prog_31_method_4_code 4 = .ok (.newarray .long, 2) := by decide +kernel
theorem d6_6 : decode prog_31_method_4_code 6 = .ok (.astore_n 1, 1) := by decide +kernel
theorem d6_7 : decode prog_31_method_4_code 7 = .ok (.iconst 0, 1) := by decide +kernel
theorem d6_8 : decode prog_31_method_4_code 8 = .ok (.istore_n 2, 1) := by decide +kernel
theorem d6_9 : decode prog_31_method_4_code 9 = .ok (.iconst 0, 1) := by decide +kernel
theorem d6_10 : decode prog_31_method_4_code 10 = .ok (.istore_n 3, 1) := by decide +kernel
theorem d6_11 : decode prog_31_method_4_code 11 = .ok (.iload_n 3, 1) := by decide +kernel
theorem d6_12 : decode prog_31_method_4_code 12 = .ok (.aload_n 0, 1) := by decide +kernel
theorem d6_13 : decode prog_31_method_4_code 13 = .ok (.getfield 13, 3) := by decide +kernel
theorem d6_16 : decode prog_31_method_4_code 16 = .ok (.arraylength, 1) := by decide +kernel
theorem d6_17 : decode prog_31_method_4_code 17 = .ok (.if_icmp .ge 30, 3) := by decide +kernel
theorem d6_20 : decode prog_31_method_4_code 20 = .ok (.aload_n 0, 1) := by decide +kernel
theorem d6_21 : decode prog_31_method_4_code 21 = .ok (.getfield 13, 3) := by decide +kernel
theorem d6_24 : decode prog_31_method_4_code 24 = .ok (.iload_n 3, 1) := by decide +kernel
theorem d6_25 : decode prog_31_method_4_code 25 = .ok (.aaload, 1) := by decide +kernel
theorem d6_26 : decode prog_31_method_4_code 26 = .ok (.ifnull 15, 3) := by decide +kernel
theorem d6_29 : decode prog_31_method_4_code 29 = .ok (.aload_n 1, 1) := by decide +kernel
theorem d6_30 : decode prog_31_method_4_code 30 = .ok (.iload_n 2, 1) := by decide +kernel
theorem d6_31 : decode prog_31_method_4_code 31 = .ok (.iinc 2 1, 3) := by decide +kernel
theorem d6_34 : decode prog_31_method_4_code 34 = .ok (.aload_n 0, 1) := by decide +kernel
theorem d6_35 : decode prog_31_method_4_code 35 = .ok (.getfield 9, 3) := by decide +kernel
theorem d6_38 : decode prog_31_method_4_code 38 = .ok (.iload_n 3, 1) := by decide +kernel
theorem d6_39 : decode prog_31_method_4_code 39 = .ok (.laload, 1) := by decide +kernel
theorem d6_40 : decode prog_31_method_4_code 40 = .ok (.lastore, 1) := by decide +kernel
theorem d6_41 : decode prog_31_method_4_code 41 = .ok (.iinc 3 1, 3) := by decide +kernel
theorem d6_44 : decode prog_31_method_4_code 44 = .ok (.goto (-33), 3) := by decide +kernel
theorem d6_47 : decode prog_31_method_4_code 47 = .ok (.aload_n 1, 1) := by decide +kernel
theorem d6_48 : decode prog_31_method_4_code 48 = .ok (.areturn, 1) := by decide +kernel
theorem d7_0 : decode method_3_code 0 = .ok (.aload_n 0, 1) := by decide +kernel
theorem d7_1 : decode method_3_code 1 = .ok (.arraylength, 1) := by decide +kernel
theorem d7_2 : decode method_3_code 2 = .ok (.ifCond .le 11, 3) := by decide +kernel
theorem d7_5 : decode method_3_code 5 = .ok (.aload_n 0, 1) := by decide +kernel
theorem d7_6 : decode method_3_code 6 = .ok (.iconst 0, 1) := by decide +kernel
theorem d7_7 : decode method_3_code 7 = .ok (.laload, 1) := by decide +kernel
theorem d7_8 : decode method_3_code 8 = .ok (.lload_n 1, 1) := by decide +kernel
theorem d7_9 : decode method_3_code 9 = .ok (.lcmp, 1) := by decide +kernel
theorem d7_10 : decode method_3_code 10 = .ok (.ifCond .eq 31, 3) := by decide +kernel
theorem d7_13 : decode method_3_code 13 = .ok (.aload_n 0, 1) := by decide +kernel
theorem d7_14 : decode method_3_code 14 = .ok (.arraylength, 1) := by decide +kernel
theorem d7_15 : decode method_3_code 15 = .ok (.iconst 1, 1) := by decide +kernel
theorem d7_16 : decode method_3_code 16 = .ok (.if_icmp .le 11, 3) := by decide +kernel
theorem d7_19 : decode method_3_code 19 = .ok (.aload_n 0, 1) := by decide +kernel
theorem d7_20 : decode method_3_code 20 = .ok (.iconst 1, 1) := by decide +kernel
theorem d7_21 : decode method_3_code 21 = .ok (.laload, 1) := by decide +kernel
theorem d7_22 : decode method_3_code 22 = .ok (.lload_n 1, 1) := by decide +kernel
theorem d7_23 : decode method_3_code 23 = .ok (.lcmp, 1) := by decide +kernel
theorem d7_24 : decode method_3_code 24 = .ok (.ifCond .eq 17, 3) := by decide +kernel
theorem d7_27 : decode method_3_code 27 = .ok (.aload_n 0, 1) := by decide +kernel
theorem d7_28 : decode method_3_code 28 = .ok (.arraylength, 1) := by decide +kernel
theorem d7_29 : decode method_3_code 29 = .ok (.iconst 2, 1) := by decide +kernel
theorem d7_30 : decode method_3_code 30 = .ok (.if_icmp .le 15, 3) := by decide +kernel
theorem d7_33 : decode method_3_code 33 = .ok (.aload_n 0, 1) := by decide +kernel
theorem d7_34 : decode method_3_code 34 = .ok (.iconst 2, 1) := by decide +kernel
theorem d7_35 : decode method_3_code 35 = .ok (.laload, 1) := by decide +kernel
theorem d7_36 : decode method_3_code 36 = .ok (.lload_n 1, 1) := by decide +kernel
theorem d7_37 : decode method_3_code 37 = .ok (.lcmp, 1) := by decide +kernel
theorem d7_38 : decode method_3_code 38 = .ok (.ifCond .ne 7, 3) := by decide +kernel
theorem d7_41 : decode method_3_code 41 = .ok (.iconst 1, 1) := by decide +kernel
theorem d7_42 : decode method_3_code 42 = .ok (.goto 4, 3) := by decide +kernel
theorem d7_45 : decode method_3_code 45 = .ok (.iconst 0, 1) := by decide +kernel
theorem d7_46 : decode method_3_code 46 = .ok (.ireturn, 1) := by decide +kernel
theorem d8_0 : decode method_4_code 0 = .ok (.iload_n 2, 1) := by decide +kernel
theorem d8_1 : decode method_4_code 1 = .ok (.iconst 1, 1) := by decide +kernel
theorem d8_2 : decode method_4_code 2 = .ok (.if_icmp .lt 9, 3) := by decide +kernel
theorem d8_5 : decode method_4_code 5 = .ok (.lload_n 0, 1) := by decide +kernel
theorem d8_6 : decode method_4_code 6 = .ok (.lload_n 3, 1) := by decide +kernel
theorem d8_7 : decode method_4_code 7 = .ok (.lcmp, 1) := by decide +kernel
theorem d8_8 : decode method_4_code 8 = .ok (.ifCond .eq 27, 3) := by decide +kernel
theorem d8_11 : decode method_4_code 11 = .ok (.iload_n 2, 1) := by decide +kernel
theorem d8_12 : decode method_4_code 12 = .ok (.iconst 2, 1) := by decide +kernel
theorem d8_13 : decode method_4_code 13 = .ok (.if_icmp .lt 10, 3) := by decide +kernel
theorem d8_16 : decode method_4_code 16 = .ok (.lload_n 0, 1) := by decide +kernel
theorem d8_17 : decode method_4_code 17 = .ok (.lload 5, 2) := by decide +kernel
theorem d8_19 : decode method_4_code 19 = .ok (.lcmp, 1) := by decide +kernel
theorem d8_20 : decode method_4_code 20 = .ok (.ifCond .eq 15, 3) := by decide +kernel
theorem d8_23 : decode method_4_code 23 = .ok (.iload_n 2, 1) := by decide +kernel
theorem d8_24 : decode method_4_code 24 = .ok (.iconst 3, 1) := by decide +kernel
theorem d8_25 : decode method_4_code 25 = .ok (.if_icmp .lt 14, 3) := by decide +kernel
theorem d8_28 : decode method_4_code 28 = .ok (.lload_n 0, 1) := by decide +kernel
theorem d8_29 : decode method_4_code 29 = .ok (.lload 7, 2) := by decide +kernel
theorem d8_31 : decode method_4_code 31 = .ok (.lcmp, 1) := by decide +kernel
theorem d8_32 : decode method_4_code 32 = .ok (.ifCond .ne 7, 3) := by decide +kernel
theorem d8_35 : decode method_4_code 35 = .ok (.iconst 1, 1) := by decide +kernel
theorem d8_36 : decode method_4_code 36 = .ok (.goto 4, 3) := by decide +kernel
theorem d8_39 : decode method_4_code 39 = .ok (.iconst 0, 1) := by decide +kernel
theorem d8_40 : decode method_4_code 40 = .ok (.ireturn, 1) := by decide +kernel
theorem pn_0 : plainName "com/example/slimheap/slimheap/hprof/IdMap" = true := by first | (simp [plainName, overriddenIn]; done) | decide +kernel
theorem pn_1 : plainName "java/lang/Integer" = true := by first | (simp [plainName, overriddenIn]; done) | decide +kernel
theorem pn_2 : plainName "com/example/slimheap/slimheap/hprof/IdMapIdsPinLaw" = true := by first | (simp [plainName, overriddenIn]; done) | decide +kernel
theorem pd_0 : parseMethodDescriptor "(J)I" = some ⟨[.long], some .int⟩ := by decide +kernel
theorem pd_1 : parseMethodDescriptor "()V" = some ⟨[], none⟩ := by decide +kernel
theorem pd_2 : parseMethodDescriptor "()[J" = some ⟨[], some (.array .long)⟩ := by decide +kernel
theorem pd_3 : parseMethodDescriptor "(I)Ljava/lang/Integer;" = some ⟨[.int], some (.object "java/lang/Integer")⟩ := by decide +kernel
theorem pd_4 : parseMethodDescriptor "(JLjava/lang/Object;)V" = some ⟨[.long, (.object "java/lang/Object")], none⟩ := by decide +kernel
theorem pd_5 : parseMethodDescriptor "([JJ)Z" = some ⟨[(.array .long), .long], some .boolean⟩ := by decide +kernel
theorem pd_6 : parseMethodDescriptor "(JIJJJ)Z" = some ⟨[.long, .int, .long, .long, .long], some .boolean⟩ := by decide +kernel
theorem own_nat (c : Int32) (h0 : 0 ≤ c.toInt) : c = Int32.ofNat c.toInt.toNat := by
  apply Int32.toInt_inj.mp
  have h1 := c.toInt_lt
  rw [Int32.toInt_ofNat_of_lt (by omega)]
  omega
theorem own_fin {P : Int32 → Prop} (K : Nat) (h : ∀ n : Fin K, P (Int32.ofNat n.1)) (c : Int32) (h0 : 0 ≤ c.toInt) (h1 : c.toInt < K) : P c := by
  rw [own_nat c h0]; exact h ⟨c.toInt.toNat, by omega⟩
theorem own_fin' {P : Int32 → Prop} (K : Nat) (c : Int32) (h0 : 0 ≤ c.toInt) (h1 : c.toInt < K) (h : ∀ n : Fin K, P (Int32.ofNat n.1)) : P c := own_fin K h c h0 h1
theorem own_no {G : Prop} {x : Int32} (h : x = 1) (h' : x = 0) : G := absurd (h.symm.trans h') (by decide)
theorem own_eqint {args : Array Value} {Z : State} {t : Term} {n : Int32} (h : (Jvm.Cond.eq t (.int n)).value args Z none Z [] = some true) : t.eval args Z none [] Z = some (.int n) := by
  simp only [Cond.value, Term.eval] at h
  cases ht : t.eval args Z none [] Z with
  | none => simp [ht] at h
  | some x => cases x <;> simp [ht] at h ⊢; exact h
theorem own_len {args : Array Value} {Z : State} {t : Term} {x : Addr} {cl : Cell} {ty : FieldType} {n : Int32} (ht : t.eval args Z none [] Z = some (.ref x)) (A : Arr Z Z.heap x cl ty) (h : (Jvm.Cond.eq (.length t) (.int n)).value args Z none Z [] = some true) : cl.slots.size < 2 ^ 31 ∧ cl.slots.size.toInt32 = n := by
  have e := own_eqint h
  have ha : Z.arrayAt? x = some cl := A.fin (Vm.Alike.refl _)
  by_cases hl : cl.slots.size < 2 ^ 31
  · rw [len_f ht ha hl] at e
    exact ⟨hl, Value.int.inj (Option.some.inj e)⟩
  · simp [Term.eval, ht, ha, hl] at e
theorem own_elem {args : Array Value} {Z : State} {t u : Term} {x y : Addr} {cl : Cell} {j : Int32} (ht : t.eval args Z none [] Z = some (.ref x)) (hc : Z.heap[x]? = some cl) (hu : u.eval args Z none [] Z = some (.ref y)) (h : (Jvm.Cond.eq (.elem t (.int j)) u).value args Z none Z [] = some true) : cl.slots[j.toNatClampNeg]? = some (.ref y) := by
  obtain ⟨v, w, e1, e2, -⟩ := cmp_v (Or.inl h)
  cases hu.symm.trans e2
  obtain ⟨h1, h2⟩ := elem_in e1 ht (Term.int_eval j) hc
  have hr : v.isRef = true := by
    have := h
    cases v <;> simp [Cond.value, e1, e2, Value.isRef] at this ⊢
  have q := gotT (eq_R e1 e2 hr rfl) h
  rw [h2, q]
theorem own_fldI {args : Array Value} {Z : State} {t : Term} {x : Addr} {C n d : String} {v : Int32} (ht : t.eval args Z none [] Z = some (.ref x)) (h : (Jvm.Cond.eq (.field t C n d) (.int v)).value args Z none Z [] = some true) : Fld Z Z.heap x C n d (.int v) := by
  have e := own_eqint h
  rw [fld_at ht] at e
  exact Fld.start e
theorem own_catI (x : Int32) : (Value.int x).category = 1 := rfl
theorem own_catJ (x : Int64) : (Value.long x).category = 2 := rfl
theorem own_catR (x : Addr) : (Value.ref x).category = 1 := rfl
theorem own_catN : (Value.null).category = 1 := rfl
theorem own_cat {v : Value} (h : v.isRef = true) : v.category = 1 := by rcases ref_cases h with rfl | ⟨_, rfl⟩ <;> rfl
theorem own_h63 (x : Int32) : 0 ≤ (x &&& (63 : Int32)).toInt ∧ (x &&& (63 : Int32)).toInt < 64 := by
  have := c_mask x 63 6 (by decide) (by decide)
  omega
def own_h (x : Int64) : Int32 := ((((x * (-7046029254386353131 : Int64)) ^^^ (((x * (-7046029254386353131 : Int64)).toUInt64 >>> ((32 : Int32) &&& 0x3f).toInt64.toUInt64).toInt64)).toInt32) &&& (63 : Int32))
def own_pr (x : Int64) : Nat → Int32
  | 0 => own_h x
  | k + 1 => ((own_pr x k + (1 : Int32)) &&& (63 : Int32))
theorem own_prr (x : Int64) : ∀ k, 0 ≤ (own_pr x k).toInt ∧ (own_pr x k).toInt < 64
  | 0 => own_h63 _
  | _ + 1 => own_h63 _
def own_u {α : Type} (f : Int32 → α) (j : Int32) (v : α) : Int32 → α := fun i => if i = j then v else f i
theorem own_uh {α : Type} (f : Int32 → α) (j : Int32) (v : α) : own_u f j v j = v := if_pos rfl
theorem own_um {α : Type} (f : Int32 → α) {i j : Int32} (v : α) (q : i ≠ j) : own_u f j v i = f i := if_neg q
def own_Fd (ff : Int32 → Value) (gg : Int32 → Int64) (x : Int64) (j : Int32) : Prop := (0 ≤ j.toInt ∧ j.toInt < 64) ∧ (ff j = .null ∨ gg j = x) ∧ ∃ k, j = own_pr x k ∧ ∀ i, i < k → ff (own_pr x i) ≠ .null ∧ gg (own_pr x i) ≠ x
def own_Inv (ff : Int32 → Value) (gg : Int32 → Int64) (E : List (Int32 × Int64)) : Prop :=
  (∀ e ∈ E, (0 ≤ e.1.toInt ∧ e.1.toInt < 64) ∧ ff e.1 ≠ .null ∧ gg e.1 = e.2 ∧ ∃ k, e.1 = own_pr e.2 k ∧ ∀ i, i < k → ff (own_pr e.2 i) ≠ .null ∧ gg (own_pr e.2 i) ≠ e.2) ∧ (∀ j : Int32, 0 ≤ j.toInt → j.toInt < 64 → ff j ≠ .null → ∃ e ∈ E, e.1 = j) ∧ (E.map Prod.fst).Nodup
theorem own_Inv0 : own_Inv (fun _ => .null) (fun _ => 0) [] := ⟨fun _ h => (by cases h), fun _ _ _ h => absurd rfl h, List.nodup_nil⟩
theorem own_ins {ff : Int32 → Value} {gg : Int32 → Int64} {E : List (Int32 × Int64)} {x : Int64} {j : Int32} {y : Addr} (I : own_Inv ff gg E) (F : own_Fd ff gg x j) (hn : ff j = .null) : (∀ e ∈ E, e.2 ≠ x) ∧ own_Inv (own_u ff j (.ref y)) (own_u gg j x) ((j, x) :: E) := by
  obtain ⟨I1, I2, I3⟩ := I
  obtain ⟨F1, -, k, F3, F4⟩ := F
  have nj : ∀ t, ff t ≠ .null → t ≠ j := fun t ht e => ht (e ▸ hn)
  have uf : ∀ t, ff t ≠ .null → own_u ff j (.ref y) t ≠ .null := fun t ht => by rw [own_um _ _ (nj t ht)]; exact ht
  have ug : ∀ t, ff t ≠ .null → own_u gg j x t = gg t := fun t ht => own_um _ _ (nj t ht)
  refine ⟨fun e he ex => ?_, fun e he => ?_, fun t h0 h1 ht => ?_, ?_⟩
  · obtain ⟨-, e1, e2, k', e3, e4⟩ := I1 e he
    subst ex
    rcases Nat.lt_trichotomy k k' with q | q | q
    · exact (e4 k q).1 (F3 ▸ hn)
    · subst q; exact e1 (e3 ▸ F3 ▸ hn)
    · exact (F4 k' q).2 (e3 ▸ e2)
  · rcases List.mem_cons.mp he with rfl | he
    · refine ⟨F1, by show own_u ff j (.ref y) j ≠ .null; rw [own_uh]; nofun, own_uh _ _ _, k, F3, fun i hi => ?_⟩
      obtain ⟨q1, q2⟩ := F4 i hi
      exact ⟨uf _ q1, by show own_u gg j x _ ≠ _; rw [ug _ q1]; exact q2⟩
    · obtain ⟨e0, e1, e2, k', e3, e4⟩ := I1 e he
      exact ⟨e0, uf _ e1, (ug _ e1).trans e2, k', e3, fun i hi => ⟨uf _ (e4 i hi).1, by rw [ug _ (e4 i hi).1]; exact (e4 i hi).2⟩⟩
  · by_cases q : t = j
    · exact ⟨(j, x), List.mem_cons_self, q.symm⟩
    · rw [own_um _ _ q] at ht
      obtain ⟨e, he, h⟩ := I2 t h0 h1 ht
      exact ⟨e, List.mem_cons_of_mem _ he, h⟩
  · rw [List.map_cons, List.nodup_cons]
    refine ⟨fun hm => ?_, I3⟩
    obtain ⟨e, he, h⟩ := List.mem_map.mp hm
    exact (I1 e he).2.1 (h ▸ hn)
theorem own_ovr {ff : Int32 → Value} {gg : Int32 → Int64} {E : List (Int32 × Int64)} {x : Int64} {j : Int32} {y : Addr} (I : own_Inv ff gg E) (F : own_Fd ff gg x j) (hn : ff j ≠ .null) : (∃ e ∈ E, e.2 = x) ∧ own_Inv (own_u ff j (.ref y)) gg E := by
  obtain ⟨I1, I2, I3⟩ := I
  obtain ⟨F1, F2, -⟩ := F
  have uf : ∀ t, ff t ≠ .null → own_u ff j (.ref y) t ≠ .null := fun t ht => by
    by_cases q : t = j
    · subst q; rw [own_uh]; nofun
    · rw [own_um _ _ q]; exact ht
  have fu : ∀ t, own_u ff j (.ref y) t ≠ .null → ff t ≠ .null := fun t ht => by
    by_cases q : t = j
    · subst q; exact hn
    · rw [own_um _ _ q] at ht; exact ht
  refine ⟨?_, fun e he => ?_, fun t h0 h1 ht => I2 t h0 h1 (fu t ht), I3⟩
  · obtain ⟨e, he, h⟩ := I2 j F1.1 F1.2 hn
    exact ⟨e, he, (I1 e he).2.2.1.symm.trans (h ▸ F2.resolve_left hn)⟩
  · obtain ⟨e0, e1, e2, k', e3, e4⟩ := I1 e he
    exact ⟨e0, uf _ e1, e2, k', e3, fun i hi => ⟨uf _ (e4 i hi).1, (e4 i hi).2⟩⟩
theorem own_dist (c : Int32) (h0 : 0 ≤ c.toInt) (h1 : c.toInt < 64) : c ≠ ((c + (1 : Int32)) &&& (63 : Int32)) ∧ c ≠ ((((c + (1 : Int32)) &&& (63 : Int32)) + (1 : Int32)) &&& (63 : Int32)) ∧ ((c + (1 : Int32)) &&& (63 : Int32)) ≠ ((((c + (1 : Int32)) &&& (63 : Int32)) + (1 : Int32)) &&& (63 : Int32)) := by
  have h1 : c.toInt < (64 : Nat) := h1
  exact own_fin (P := fun c => c ≠ ((c + (1 : Int32)) &&& (63 : Int32)) ∧ c ≠ ((((c + (1 : Int32)) &&& (63 : Int32)) + (1 : Int32)) &&& (63 : Int32)) ∧ ((c + (1 : Int32)) &&& (63 : Int32)) ≠ ((((c + (1 : Int32)) &&& (63 : Int32)) + (1 : Int32)) &&& (63 : Int32))) 64 (by decide +kernel) c h0 h1
theorem own_3 {ff : Int32 → Value} {gg : Int32 → Int64} {E : List (Int32 × Int64)} (x : Int64) (I : own_Inv ff gg E) (hE : E.length ≤ 2) (h0 : ¬ ff (own_pr x 0) = .null) (h1 : ¬ ff (own_pr x 1) = .null) : ff (own_pr x 2) = .null := by
  obtain ⟨-, I2, -⟩ := I
  by_cases h2 : ff (own_pr x 2) = .null
  · exact h2
  exfalso
  obtain ⟨d1, d2, d3⟩ : own_pr x 0 ≠ own_pr x 1 ∧ own_pr x 0 ≠ own_pr x 2 ∧ own_pr x 1 ≠ own_pr x 2 := own_dist (own_pr x 0) (own_prr x 0).1 (own_prr x 0).2
  obtain ⟨e0, m0, q0⟩ := I2 _ (own_prr x 0).1 (own_prr x 0).2 h0
  obtain ⟨e1, m1, q1⟩ := I2 _ (own_prr x 1).1 (own_prr x 1).2 h1
  obtain ⟨e2, m2, q2⟩ := I2 _ (own_prr x 2).1 (own_prr x 2).2 h2
  rw [← q0, ← q1] at d1
  rw [← q0, ← q2] at d2
  rw [← q1, ← q2] at d3
  match E, hE with
  | [], _ => cases m0
  | [a], _ =>
    have r0 := List.mem_singleton.mp m0; have r1 := List.mem_singleton.mp m1
    exact d1 (by rw [r0, r1])
  | [a, b], _ =>
    simp only [List.mem_cons, List.not_mem_nil, or_false] at m0 m1 m2
    rcases m0 with rfl | rfl <;> rcases m1 with rfl | rfl <;> rcases m2 with rfl | rfl <;> first | exact d1 rfl | exact d2 rfl | exact d3 rfl
def own_pre (ff : Int32 → Value) (gg : Int32 → Int64) (i : Nat) : List Int64 := ((List.range i).filter (fun t => decide (ff (Int32.ofNat t) ≠ .null))).map (fun t => gg (Int32.ofNat t))
theorem own_pres0 {ff : Int32 → Value} {gg : Int32 → Int64} {i : Nat} (h : ff (Int32.ofNat i) = .null) : own_pre ff gg (i + 1) = own_pre ff gg i := by
  simp [own_pre, List.range_succ, h]
theorem own_pres1 {ff : Int32 → Value} {gg : Int32 → Int64} {i : Nat} (h : ¬ ff (Int32.ofNat i) = .null) : own_pre ff gg (i + 1) = own_pre ff gg i ++ [gg (Int32.ofNat i)] := by
  simp [own_pre, List.range_succ, h]
theorem own_mono (ff : Int32 → Value) (gg : Int32 → Int64) (i : Nat) : ∀ k, (own_pre ff gg i).length ≤ (own_pre ff gg (i + k)).length
  | 0 => Nat.le_refl _
  | k + 1 => by
    refine Nat.le_trans (own_mono ff gg i k) ?_
    show _ ≤ (own_pre ff gg (i + k + 1)).length
    by_cases h : ff (Int32.ofNat (i + k)) = .null
    · rw [own_pres0 h]; exact Nat.le_refl _
    · rw [own_pres1 h, List.length_append]; omega
def own_c (ff : Int32 → Value) (gg : Int32 → Int64) (i : Nat) : Int32 := Int32.ofNat (own_pre ff gg i).length
def own_Pr (ff : Int32 → Value) (gg : Int32 → Int64) (i : Nat) (rr : Int32 → Int64) : Prop := ∀ t, t < (own_pre ff gg i).length → (own_pre ff gg i)[t]? = some (rr (Int32.ofNat t))
theorem own_oft {n : Nat} (h : n < 2 ^ 31) : (Int32.ofNat n).toInt = n := Int32.toInt_ofNat_of_lt h
theorem own_in64 {i : Nat} (h : i < 64) : ¬ Int32.ofNat i < 0 ∧ Int32.ofNat i < (64 : Int32) := by
  have e := own_oft (n := i) (by omega)
  have e0 : (0 : Int32).toInt = 0 := by decide
  have e1 : (64 : Int32).toInt = 64 := by decide
  rw [Int32.lt_iff_toInt_lt, Int32.lt_iff_toInt_lt]; omega
theorem own_succ (i : Nat) : Int32.ofNat i + (1 : Int32) = Int32.ofNat (i + 1) := by
  rw [Int32.ofNat_add]; rfl
theorem own_cs {ff : Int32 → Value} {gg : Int32 → Int64} {i : Nat} (h : ¬ ff (Int32.ofNat i) = .null) : own_c ff gg i + (1 : Int32) = own_c ff gg (i + 1) := by
  rw [own_c, own_c, own_pres1 h, List.length_append, own_succ]; rfl
theorem own_cb {ff : Int32 → Value} {gg : Int32 → Int64} {i n : Nat} {z : Int32} (h : ¬ ff (Int32.ofNat i) = .null) (hi : i < 64) (hn : (own_pre ff gg 64).length = n) (hz : z.toInt = n) (h3 : n ≤ 3) : ¬ own_c ff gg i < 0 ∧ own_c ff gg i < z := by
  have m := own_mono ff gg (i + 1) (63 - i)
  rw [show i + 1 + (63 - i) = 64 from by omega, hn, own_pres1 h, List.length_append] at m
  have e := own_oft (n := (own_pre ff gg i).length) (by simp at m; omega)
  have e0 : (0 : Int32).toInt = 0 := by decide
  simp at m
  rw [own_c, Int32.lt_iff_toInt_lt, Int32.lt_iff_toInt_lt]; omega
theorem own_Pr1 {ff : Int32 → Value} {gg : Int32 → Int64} {i n : Nat} {rr : Int32 → Int64} (h : ¬ ff (Int32.ofNat i) = .null) (hi : i < 64) (hn : (own_pre ff gg 64).length = n) (h3 : n ≤ 3) (P : own_Pr ff gg i rr) : own_Pr ff gg (i + 1) (own_u rr (own_c ff gg i) (gg (Int32.ofNat i))) := by
  intro t ht
  have m := own_mono ff gg (i + 1) (63 - i)
  rw [show i + 1 + (63 - i) = 64 from by omega, hn] at m
  rw [own_pres1 h] at ht m ⊢
  rw [List.length_append] at ht m
  simp at ht m
  by_cases q : t < (own_pre ff gg i).length
  · rw [List.getElem?_append_left q, P t q, own_um]
    intro e
    have := congrArg Int32.toInt e
    rw [own_c, own_oft (by omega), own_oft (by omega)] at this
    omega
  · have e : t = (own_pre ff gg i).length := by omega
    subst e
    rw [show Int32.ofNat (own_pre ff gg i).length = own_c ff gg i from rfl, own_uh]; simp
theorem own_Pr0 {ff : Int32 → Value} {gg : Int32 → Int64} {i : Nat} {rr : Int32 → Int64} (h : ff (Int32.ofNat i) = .null) (P : own_Pr ff gg i rr) : own_Pr ff gg (i + 1) rr := by
  rw [own_Pr, own_pres0 h]; exact P
theorem own_perm {ff : Int32 → Value} {gg : Int32 → Int64} {E : List (Int32 × Int64)} (I : own_Inv ff gg E) : (own_pre ff gg 64).Perm (E.map Prod.snd) := by
  obtain ⟨I1, I2, I3⟩ := I
  have e1 : E.map Prod.snd = (E.map (fun e => e.1.toInt.toNat)).map (fun t => gg (Int32.ofNat t)) := by
    rw [List.map_map]
    refine List.map_congr_left fun e he => ?_
    obtain ⟨e0, -, e2, -⟩ := I1 e he
    show e.2 = gg (Int32.ofNat e.1.toInt.toNat)
    rw [← own_nat e.1 e0.1, e2]
  rw [e1]
  refine List.Perm.map _ ((List.perm_ext_iff_of_nodup (List.Pairwise.filter _ List.nodup_range) ?_).mpr fun t => ?_)
  · have : E.map (fun e => e.1.toInt.toNat) = (E.map Prod.fst).map (fun c => c.toInt.toNat) := by rw [List.map_map]; rfl
    rw [this, List.Nodup, List.pairwise_map]
    refine List.Pairwise.imp_of_mem (fun {c d} hc hd q e => q ?_) I3
    obtain ⟨x, hx, rfl⟩ := List.mem_map.mp hc
    obtain ⟨y, hy, rfl⟩ := List.mem_map.mp hd
    have a1 := (I1 x hx).1; have a2 := (I1 y hy).1
    exact Int32.toInt_inj.mp (by omega)
  · rw [List.mem_filter, List.mem_range, List.mem_map]
    constructor
    · rintro ⟨h1, h2⟩
      have o := own_oft (n := t) (by omega)
      obtain ⟨e, he, q⟩ := I2 (Int32.ofNat t) (by omega) (by omega) (of_decide_eq_true h2)
      exact ⟨e, he, by rw [q, o]; rfl⟩
    · rintro ⟨e, he, rfl⟩
      obtain ⟨e0, e1, -⟩ := I1 e he
      refine ⟨by omega, decide_eq_true ?_⟩
      rw [← own_nat e.1 e0.1]; exact e1
theorem own_sta_keep {Z : State} {h h' : Heap} {C n d : String} {v : Value} {ws : List Addr} (F : Sta Z h C n d v) (K : Keep h h' ws) (q : ∀ x ∈ ws, ∃ c : Cell, h[x]? = some c ∧ c.vm.isStatics = false) : Sta Z h' C n d v := by
  obtain ⟨cf, i, k, f, st, cell, h1, h2, h3, h4, h5, h6, h7⟩ := F
  refine ⟨cf, i, k, f, st, cell, h1, h2, h3, h4, K.2.1 st cell h5 ?_, h6, h7⟩
  intro hm
  obtain ⟨c, e1, e2⟩ := q st hm
  cases h5.symm.trans e1
  rw [h6] at e2; cases e2
theorem own_plE {Z : State} {h : Heap} {a : Addr} {C : String} (F : Exa Z h a C) : ∃ c : Cell, h[a]? = some c ∧ c.vm.isStatics = false := by
  obtain ⟨c, _, h1, -, -, h4, -⟩ := F; exact ⟨c, h1, h4⟩
theorem own_plV {Z : State} {h : Heap} {a : Addr} {k : ClassId} {ty : FieldType} {n : Int32} {vs : List Value} {d : Value} (F : Arv Z h a k ty n vs d) : ∃ c : Cell, h[a]? = some c ∧ c.vm.isStatics = false := by
  obtain ⟨c, A, -⟩ := F; exact ⟨c, A.1, A.plain⟩
def own_Av (Z : State) (h : Heap) (a : Addr) (k : ClassId) (ty : FieldType) (n : Int32) (f : Int32 → Value) : Prop := ∃ c : Cell, Arr Z h a c ty ∧ c.cls = k ∧ c.slots.size = n.toNatClampNeg ∧ ¬ n < 0 ∧ ∀ j : Int32, ¬ (j < 0 ∨ c.slots.size ≤ j.toNatClampNeg) → c.slots[j.toNatClampNeg]? = some (f j) ∧ fits ty (f j) = true
section Avs
variable {Z : State} {h h' : Heap} {a b : Addr} {k : ClassId} {ty : FieldType} {z : Int32} {f : Int32 → Value}
theorem own_Av.lt (F : own_Av Z h a k ty z f) : a < h.size := by obtain ⟨c, A, -⟩ := F; exact A.lt
theorem own_Av.ext (F : own_Av Z h a k ty z f) (E : Ext h h') : own_Av Z h' a k ty z f := by obtain ⟨c, A, r⟩ := F; exact ⟨c, A.ext E, r⟩
theorem own_Av.other {sl : Nat} {v : Value} (F : own_Av Z h b k ty z f) (W : Wr h h' a sl v) (q : b ≠ a) : own_Av Z h' b k ty z f := by obtain ⟨c, A, r⟩ := F; exact ⟨c, A.other W q, r⟩
theorem own_Av.keep {ws : List Addr} (F : own_Av Z h a k ty z f) (K : Keep h h' ws) (q : a ∉ ws) : own_Av Z h' a k ty z f := by obtain ⟨c, A, r⟩ := F; exact ⟨c, ⟨K.2.1 a c A.1 q, A.2⟩, r⟩
theorem own_Av.new (A : Arr Z h a (newA k ty z) ty) (q : ¬ z < 0) : own_Av Z h a k ty z (fun _ => defaultValue ty) := by
  obtain ⟨c, A, q1, S, q3, H, G⟩ := Arv.new A q
  exact ⟨c, A, q1, S, q3, fun j hj => ⟨H _ (Nat.lt_of_not_le fun y => hj (Or.inr y)), G _ (Nat.lt_of_not_le fun y => hj (Or.inr y))⟩⟩
theorem own_Av.set {c : Cell} {j : Int32} {v : Value} (A : Arr Z h a c ty) (q1 : c.cls = k) (S : c.slots.size = z.toNatClampNeg) (q3 : ¬ z < 0) (H : ∀ j : Int32, ¬ (j < 0 ∨ c.slots.size ≤ j.toNatClampNeg) → c.slots[j.toNatClampNeg]? = some (f j) ∧ fits ty (f j) = true) (hv : fits ty v = true) (W : Wr h h' a j.toNatClampNeg v) (hj : ¬ (j < 0 ∨ c.slots.size ≤ j.toNatClampNeg)) : own_Av Z h' a k ty z (own_u f j v) := by
  refine ⟨_, A.same W, q1, by rw [sz_set]; exact S, q3, fun x hx => ?_⟩
  rw [sz_set] at hx
  by_cases u : x = j
  · subst u
    rw [own_uh]
    exact ⟨by simp [Cell.setSlot, Nat.lt_of_not_le fun y => hx (Or.inr y)], hv⟩
  · rw [own_um _ _ u]
    have e1 := nat_of fun y => hj (Or.inl y)
    have e2 := nat_of fun y => hx (Or.inl y)
    have ne : j.toNatClampNeg ≠ x.toNatClampNeg := fun q => u (Int32.toInt_inj.mp (by omega))
    refine ⟨?_, (H x hx).2⟩
    simp only [Cell.setSlot]; rw [Array.getElem?_setIfInBounds_ne ne]; exact (H x hx).1
theorem own_Av.setJ {c : Cell} {j : Int32} {g : Int32 → Int64} {x : Int64} (A : Arr Z h a c .long) (q1 : c.cls = k) (S : c.slots.size = z.toNatClampNeg) (q3 : ¬ z < 0) (H : ∀ j : Int32, ¬ (j < 0 ∨ c.slots.size ≤ j.toNatClampNeg) → c.slots[j.toNatClampNeg]? = some (.long (g j)) ∧ fits .long (.long (g j)) = true) (W : Wr h h' a j.toNatClampNeg (.long x)) (hj : ¬ (j < 0 ∨ c.slots.size ≤ j.toNatClampNeg)) : own_Av Z h' a k .long z (fun i => .long (own_u g j x i)) := by
  have F := own_Av.set (f := fun i => .long (g i)) A q1 S q3 H rfl W hj
  rw [show (fun i => Value.long (own_u g j x i)) = own_u (fun i => .long (g i)) j (.long x) from funext fun i => by simp only [own_u]; split <;> rfl]
  exact F
theorem own_Av.arv {n : Nat} {d : Value} (F : own_Av Z h a k ty z f) (hz : z.toInt = n) : Arv Z h a k ty z ((List.range n).map fun t => f (Int32.ofNat t)) d := by
  obtain ⟨c, A, q1, S, q3, H⟩ := F
  have hn : c.slots.size = n := by rw [S, Int32.toNatClampNeg, hz]; rfl
  have lt := z.toInt_lt
  have key : ∀ t, t < c.slots.size → c.slots[t]? = some (((List.range n).map fun t => f (Int32.ofNat t)).getD t d) ∧ fits ty (((List.range n).map fun t => f (Int32.ofNat t)).getD t d) = true := fun t ht => by
    have e1 : (Int32.ofNat t).toInt = t := own_oft (by omega)
    have e2 : (Int32.ofNat t).toNatClampNeg = t := by simp only [Int32.toNatClampNeg, e1]; rfl
    have e3 : ((List.range n).map fun t => f (Int32.ofNat t)).getD t d = f (Int32.ofNat t) := by
      rw [List.getD_eq_getElem?_getD, List.getElem?_map, List.getElem?_range (by omega)]; rfl
    have := H (Int32.ofNat t) (by rw [e2, Int32.lt_iff_toInt_lt, e1]; have : (0 : Int32).toInt = 0 := by decide
                                  omega)
    rw [e2] at this
    rw [e3]; exact this
  exact ⟨c, A, q1, S, q3, fun t ht => (key t ht).1, fun t ht => (key t ht).2⟩
end Avs
theorem own_nnref {ty : FieldType} {v : Value} (h : fits ty v = true) (ht : ty.isReference = true) (hn : ¬ v = .null) : ∃ y, v = .ref y := by
  rcases ref_cases (fit_R h ht) with q | q
  · exact absurd q hn
  · exact q
theorem own_prb (x : Int64) (k : Nat) : ¬ own_pr x k < 0 ∧ own_pr x k < (64 : Int32) := by
  have := own_prr x k
  have e0 : (0 : Int32).toInt = 0 := by decide
  have e1 : (64 : Int32).toInt = 64 := by decide
  rw [Int32.lt_iff_toInt_lt, Int32.lt_iff_toInt_lt]; omega
theorem own_Fdb {ff : Int32 → Value} {gg : Int32 → Int64} {x : Int64} {j : Int32} (F : own_Fd ff gg x j) : ¬ j < 0 ∧ j < (64 : Int32) := by
  have := F.1
  have e0 : (0 : Int32).toInt = 0 := by decide
  have e1 : (64 : Int32).toInt = 64 := by decide
  rw [Int32.lt_iff_toInt_lt, Int32.lt_iff_toInt_lt]; omega
theorem own_lits {ff : Int32 → Value} {gg : Int32 → Int64} {rr : Int32 → Int64} {n : Nat} (h : own_Pr ff gg 64 rr) (hn : (own_pre ff gg 64).length = n) : own_pre ff gg 64 = (List.range n).map (fun t => rr (Int32.ofNat t)) := by
  apply List.ext_getElem?
  intro t
  by_cases q : t < n
  · rw [h t (by omega), List.getElem?_map, List.getElem?_range q]; rfl
  · rw [List.getElem?_eq_none (by omega), List.getElem?_eq_none (by simp; omega)]
/-- turned from the worked example gauge-weight -/
theorem own_selp {y : MethodName} {s : State} {args : Array Value} {n : Nat} (hy : y.cls ≠ "java/lang/invoke/MethodHandle" ∧ y.cls ≠ "java/lang/invoke/VarHandle") (hins : (Cond.instantiable y.cls n).before args s = true) (hpriv : (Cond.privateMethod y).before args s = true) (hinst : (Cond.instanceMethod y).before args s = true) : (Cond.selects y.cls y y).before args s = true := by
  obtain ⟨c, k, hc, hk, -, hniab, -, -⟩ := Cond.instantiable_spec hins
  have hni : k.isInterface = false := (Bool.or_eq_false_iff.mp hniab).1
  obtain ⟨mk, methM, hnamed, hmethM, -, -⟩ := Cond.instanceMethod_spec hinst
  have hfound : s.methodFound? y.cls y.name y.desc = some mk := State.methodFound?_of_named hnamed hy
  have hcls : mk.cls = c := Option.some.inj ((findClass_of_methodNamed hnamed).symm.trans hc)
  have hsel : selectMethod {} s.vm c mk = .method mk := selectMethod_private hmethM (Cond.privateMethod_at hpriv mk methM hnamed hmethM)
  simp only [Cond.before, Cond.holds, Cond.value, hc, hfound, hnamed, hsel, hcls, hk]
  simp; exact hni
theorem ef_rm1 (m : MethodId) (x0 : Addr) : entryFrame m #[(.ref x0)] 1 = mkF m 0 #[.val (.ref x0)] [] := by first | (simp [entryFrame, mkF, argsToLocals, Value.category]; done) | rfl
def Q_rm1 (Z : State) (mp : Addr) (h0 : Heap) (n0 : Nat) (v : Option Value) (h : Heap) (L : List Loc) : Prop := ∃ (ia va : Addr) (ki kv : ClassId), v = none ∧ Fr n0 L ∧ Keep h0 h [mp] ∧ Exa Z h mp "com/example/slimheap/slimheap/hprof/IdMap" ∧ Fld Z h mp "com/example/slimheap/slimheap/hprof/IdMap" "ids" "[J" (.ref ia) ∧ Fld Z h mp "com/example/slimheap/slimheap/hprof/IdMap" "values" "[Ljava/lang/Object;" (.ref va) ∧ Fld Z h mp "com/example/slimheap/slimheap/hprof/IdMap" "size" "I" (.int (0 : Int32)) ∧ own_Av Z h ia ki .long (64 : Int32) (fun i => .long ((fun _ => (0 : Int64)) i)) ∧ own_Av Z h va kv (.object "java/lang/Object") (64 : Int32) (fun _ => .null) ∧ Ovr Z kv "java/lang/Object" ∧ n0 ≤ ia ∧ h0.size ≤ ia ∧ n0 ≤ va ∧ h0.size ≤ va ∧ ia ≠ va
set_option maxRecDepth 65536 in
set_option maxHeartbeats 40000000 in
theorem rm1 (l : Launch) (Z : State) (a0 : Array Value) (hw : ∀ d ∈ tables_1, d.before a0 Z = true) (ws : List Jvm.Cond) (mp : Addr) (h0 : Heap) (n0 : Nat) (Z0 : n0 ≤ h0.size) (E0 : Exa Z h0 mp "com/example/slimheap/slimheap/hprof/IdMap") (Fi : Fld Z h0 mp "com/example/slimheap/slimheap/hprof/IdMap" "ids" "[J" .null) (Fv : Fld Z h0 mp "com/example/slimheap/slimheap/hprof/IdMap" "values" "[Ljava/lang/Object;" .null) (Fs : Fld Z h0 mp "com/example/slimheap/slimheap/hprof/IdMap" "size" "I" (.int (0 : Int32))) (g_mp : n0 ≤ mp) :
    MetFree l (⟨"com/example/slimheap/slimheap/hprof/IdMap", "<init>", "()V"⟩ : MethodName) (head1 (Jvm.Cond.code (⟨"com/example/slimheap/slimheap/hprof/IdMap", "<init>", "()V"⟩ : MethodName) prog_31_method_1_code 1 none :: ws) ({ frames := 1, cells := 2, slots := 128, locals := 12 } : Room)) (fun aa_ U => aa_ = #[(.ref mp)] ∧ Z.Warmed39 U.vm ∧ U.heap = h0) (fun _ _ _ _ _ => True) (fun _ U o U' => ∃ v L, o = .returned v ∧ Q_rm1 Z mp h0 n0 v U'.heap L ∧ FrameEnd U o U' L ({ frames := 1, cells := 2, slots := 128, locals := 12 } : Room).cells ({ frames := 1, cells := 2, slots := 128, locals := 12 } : Room).slots) := by
  refine MetFree.of_bodySF (plainFor_of_name pn_0) hisR ?_
  intro p e s m args below meth c s₁ Bd hml0 hP hK
  obtain ⟨rfl, hZ, hh⟩ := hP
  have hx := Bd.exec
  have hby := Bd.bytes
  have hml : c.maxLocals = 1 := hml0
  have hown : s.vm.findClass "com/example/slimheap/slimheap/hprof/IdMap" = some m.cls := findClass_of_methodNamed Bd.named
  have hnm := (name_of_methodNamed Bd.named Bd.method).1
  have X0 : Stand p l e ({ frames := 1, cells := 2, slots := 128, locals := 12 } : Room) s m #[(.ref mp)] below meth c s₁ [] 0 0 := Stand.of_body Bd
  have e0 : s₁.heap = h0 := by rw [← hh, Bd.state]; rfl
  have N0 := Fr.nil n0
  show OEnds p e below (OEndP s (Q_rm1 Z mp h0 n0) ({ frames := 1, cells := 2, slots := 128, locals := 12 } : Room).cells ({ frames := 1, cells := 2, slots := 128, locals := 12 } : Room).slots) s₁ (entryFrame m #[(.ref mp)] 1)
  rw [ef_rm1 m mp]
  refine OEnds.go (g' := (mkF m 1 #[.val (.ref mp)] [(.ref mp)])) (fun t k => XS.aloadN X0.here hx rfl (hb hby d1_0) rfl rfl k) ?_
  obtain ⟨T1, X1, e1, st1⟩ := initO X0 hx hZ hown (hw _ (List.mem_of_getElem? (i := 6) rfl)) (hw _ (List.mem_of_getElem? (i := 7) rfl)) (hw _ (List.mem_of_getElem? (i := 8) rfl)) e0 (g := (mkF m 1 #[.val (.ref mp)] [(.ref mp)])) rfl (by rw [hml]; rfl) rfl (hb hby d1_1) (by decide) (W := 0) (by show 2 * 0 + _ ≤ _; exact Nat.le_of_eq rfl) (by decide)
  refine OEnds.go (g' := (mkF m 4 #[.val (.ref mp)] [])) st1 ?_
  refine OEnds.go (g' := (mkF m 5 #[.val (.ref mp)] [(.ref mp)])) (fun t k => XS.aloadN X1.here hx rfl (hb hby d1_4) rfl rfl k) ?_
  refine OEnds.go (g' := (mkF m 7 #[.val (.ref mp)] [(.int (64 : Int32)), (.ref mp)])) (fun t k => XS.bipush X1.here hx rfl (hb hby d1_5) k) ?_
  obtain ⟨T2, h2, k2, X2, e2, E2, A2, st2⟩ := newP X1 hx hZ (hw _ (List.mem_of_getElem? (i := 9) rfl)) e1 (g := (mkF m 7 #[.val (.ref mp)] [(.int (64 : Int32)), (.ref mp)])) rfl (hb hby d1_7) rfl (by decide) (cap := 64) (by decide) (by decide) (by decide) (by decide)
  obtain ⟨b2, g2⟩ : ∃ z, z = h0.size := ⟨_, rfl⟩
  rw [← g2] at A2 st2
  have g_b2 : n0 ≤ b2 := Nat.le_trans Z0 (Nat.le_of_eq g2.symm)
  have sz_b2 : h0.size ≤ b2 := Nat.le_trans (Keep.refl h0 [mp]).1 (Nat.le_of_eq g2.symm)
  have K2 : Keep h0 h2 [mp] := (Keep.refl h0 [mp]).ext E2
  have V_b2 : Arv Z h2 b2 k2 .long (64 : Int32) [(.long (0 : Int64)), (.long (0 : Int64)), (.long (0 : Int64)), (.long (0 : Int64)), (.long (0 : Int64)), (.long (0 : Int64)), (.long (0 : Int64)), (.long (0 : Int64)), (.long (0 : Int64)), (.long (0 : Int64)), (.long (0 : Int64)), (.long (0 : Int64)), (.long (0 : Int64)), (.long (0 : Int64)), (.long (0 : Int64)), (.long (0 : Int64)), (.long (0 : Int64)), (.long (0 : Int64)), (.long (0 : Int64)), (.long (0 : Int64)), (.long (0 : Int64)), (.long (0 : Int64)), (.long (0 : Int64)), (.long (0 : Int64)), (.long (0 : Int64)), (.long (0 : Int64)), (.long (0 : Int64)), (.long (0 : Int64)), (.long (0 : Int64)), (.long (0 : Int64)), (.long (0 : Int64)), (.long (0 : Int64)), (.long (0 : Int64)), (.long (0 : Int64)), (.long (0 : Int64)), (.long (0 : Int64)), (.long (0 : Int64)), (.long (0 : Int64)), (.long (0 : Int64)), (.long (0 : Int64)), (.long (0 : Int64)), (.long (0 : Int64)), (.long (0 : Int64)), (.long (0 : Int64)), (.long (0 : Int64)), (.long (0 : Int64)), (.long (0 : Int64)), (.long (0 : Int64)), (.long (0 : Int64)), (.long (0 : Int64)), (.long (0 : Int64)), (.long (0 : Int64)), (.long (0 : Int64)), (.long (0 : Int64)), (.long (0 : Int64)), (.long (0 : Int64)), (.long (0 : Int64)), (.long (0 : Int64)), (.long (0 : Int64)), (.long (0 : Int64)), (.long (0 : Int64)), (.long (0 : Int64)), (.long (0 : Int64)), (.long (0 : Int64))] (.long (0 : Int64)) := (Arv.new A2 (by decide)).pad (pad_rep [] (.long (0 : Int64)) 64)
  refine OEnds.go (g' := (mkF m 9 #[.val (.ref mp)] [(.ref b2), (.ref mp)])) st2 ?_
  have VA_b2 : own_Av Z h2 b2 k2 .long (64 : Int32) (fun i => .long ((fun _ => (0 : Int64)) i)) := own_Av.new A2 (by decide)
  obtain ⟨T3, h3, X3, e3, W3, st3⟩ := putF X2 hx hZ hown (host := "") (Or.inl (hw _ (List.mem_of_getElem? (i := 10) rfl))) Via.refl e2 (Fi.ext E2) (E0.ext E2) (Or.inl (hw _ (List.mem_of_getElem? (i := 11) rfl))) (hw _ (List.mem_of_getElem? (i := 1) rfl)) (ty := (.array .long)) (by decide) rfl rfl (g := (mkF m 9 #[.val (.ref mp)] [(.ref b2), (.ref mp)])) rfl rfl (hb hby d1_9)
  have N3 := Fr.snoc X3 N0 g_mp
  have K3 : Keep h0 h3 [mp] := K2.wr W3 (Or.inl (by simp))
  have Fw3 := (Fi.ext E2).same W3
  refine OEnds.go (g' := (mkF m 12 #[.val (.ref mp)] [])) st3 ?_
  refine OEnds.go (g' := (mkF m 13 #[.val (.ref mp)] [(.ref mp)])) (fun t k => XS.aloadN X3.here hx rfl (hb hby d1_12) rfl rfl k) ?_
  refine OEnds.go (g' := (mkF m 15 #[.val (.ref mp)] [(.int (64 : Int32)), (.ref mp)])) (fun t k => XS.bipush X3.here hx rfl (hb hby d1_13) k) ?_
  obtain ⟨T4, h4, k4, X4, e4, E4, A4, O4, st4⟩ := newR X3 hx hZ hown (hw _ (List.mem_of_getElem? (i := 12) rfl)) (hw _ (List.mem_of_getElem? (i := 13) rfl)) e3 (g := (mkF m 15 #[.val (.ref mp)] [(.int (64 : Int32)), (.ref mp)])) rfl (hb hby d1_15) rfl (by decide) (cap := 64) (by decide) (by decide) (by decide) (by decide)
  obtain ⟨b4, g4⟩ : ∃ z, z = h3.size := ⟨_, rfl⟩
  rw [← g4] at A4 st4
  have g_b4 : n0 ≤ b4 := Nat.le_trans (Nat.le_trans (Nat.le_trans Z0 E2.1) (Nat.le_of_eq W3.size.symm)) (Nat.le_of_eq g4.symm)
  have sz_b4 : h0.size ≤ b4 := Nat.le_trans K3.1 (Nat.le_of_eq g4.symm)
  have K4 : Keep h0 h4 [mp] := K3.ext E4
  have V_b4 : own_Av Z h4 b4 k4 (.object "java/lang/Object") (64 : Int32) (fun _ => .null) := own_Av.new A4 (by decide)
  refine OEnds.go (g' := (mkF m 18 #[.val (.ref mp)] [(.ref b4), (.ref mp)])) st4 ?_
  obtain ⟨T5, h5, X5, e5, W5, st5⟩ := putF X4 hx hZ hown (host := "") (Or.inl (hw _ (List.mem_of_getElem? (i := 14) rfl))) Via.refl e4 (((Fv.ext E2).other W3 (Or.inr (slot_ne (Or.inl (hw _ (List.mem_of_getElem? (i := 15) rfl))) (Or.inl (hw _ (List.mem_of_getElem? (i := 11) rfl))) (by decide) (t := (.array (.object "java/lang/Object"))) (t' := (.array .long)) (by decide) (by decide)))).ext E4) (((E0.ext E2).wr W3).ext E4) (Or.inl (hw _ (List.mem_of_getElem? (i := 15) rfl))) (hw _ (List.mem_of_getElem? (i := 1) rfl)) (ty := (.array (.object "java/lang/Object"))) (by decide) rfl rfl (g := (mkF m 18 #[.val (.ref mp)] [(.ref b4), (.ref mp)])) rfl rfl (hb hby d1_18)
  have N5 := Fr.snoc X5 N3 g_mp
  have K5 : Keep h0 h5 [mp] := K4.wr W5 (Or.inl (by simp))
  have Fw5 := (((Fv.ext E2).other W3 (Or.inr (slot_ne (Or.inl (hw _ (List.mem_of_getElem? (i := 15) rfl))) (Or.inl (hw _ (List.mem_of_getElem? (i := 11) rfl))) (by decide) (t := (.array (.object "java/lang/Object"))) (t' := (.array .long)) (by decide) (by decide)))).ext E4).same W5
  refine OEnds.go (g' := (mkF m 21 #[.val (.ref mp)] [])) st5 ?_
  exact OEnds.outV X5 Bd.notSynchronized hx Bd.returns (hb hby d1_21) (by rw [e5]; exact ⟨b2, b4, k2, k4, rfl, N5, K5, ((((E0.ext E2).wr W3).ext E4).wr W5), ((Fw3.ext E4).other W5 (Or.inr (slot_ne (Or.inl (hw _ (List.mem_of_getElem? (i := 11) rfl))) (Or.inl (hw _ (List.mem_of_getElem? (i := 15) rfl))) (by decide) (t := (.array .long)) (t' := (.array (.object "java/lang/Object"))) (by decide) (by decide)))), Fw5, ((((Fs.ext E2).other W3 (Or.inr (slot_ne (Or.inl (hw _ (List.mem_of_getElem? (i := 34) rfl))) (Or.inl (hw _ (List.mem_of_getElem? (i := 11) rfl))) (by decide) (t := .int) (t' := (.array .long)) (by decide) (by decide)))).ext E4).other W5 (Or.inr (slot_ne (Or.inl (hw _ (List.mem_of_getElem? (i := 34) rfl))) (Or.inl (hw _ (List.mem_of_getElem? (i := 15) rfl))) (by decide) (t := .int) (t' := (.array (.object "java/lang/Object"))) (by decide) (by decide)))), (((VA_b2.other W3 (Ne.symm (Nat.ne_of_lt (Nat.lt_of_lt_of_le E0.lt (Nat.le_of_eq g2.symm))))).ext E4).other W5 (Ne.symm (Nat.ne_of_lt (Nat.lt_of_lt_of_le E0.lt (Nat.le_of_eq g2.symm))))), (V_b4.other W5 (Ne.symm (Nat.ne_of_lt (Nat.lt_of_lt_of_le ((E0.ext E2).wr W3).lt (Nat.le_of_eq g4.symm))))), O4, g_b2, sz_b2, g_b4, sz_b4, (Nat.ne_of_lt (Nat.lt_of_lt_of_le (V_b2.other W3 (Ne.symm (Nat.ne_of_lt (Nat.lt_of_lt_of_le E0.lt (Nat.le_of_eq g2.symm))))).lt (Nat.le_of_eq g4.symm)))⟩) (by decide) (by decide)
theorem ef_rmV1 (m : MethodId) (x0 : Int32) : entryFrame m #[(.int x0)] 1 = mkF m 0 #[.val (.int x0)] [] := by first | (simp [entryFrame, mkF, argsToLocals, Value.category]; done) | rfl
def Q_rmV1 (Z : State) (cc : Addr) (kc : ClassId) (fc : Int32 → Value) (yv : Addr) (h0 : Heap) (n0 : Nat) (v : Option Value) (h : Heap) (L : List Loc) : Prop := v = some (.ref yv) ∧ Fr n0 L ∧ h = h0
set_option maxRecDepth 65536 in
set_option maxHeartbeats 40000000 in
theorem rmV1 (l : Launch) (Z : State) (a0 : Array Value) (hw : ∀ d ∈ tables_1, d.before a0 Z = true) (ws : List Jvm.Cond) (cc : Addr) (kc : ClassId) (fc : Int32 → Value) (yv : Addr) (h0 : Heap) (n0 : Nat) (Z0 : n0 ≤ h0.size) (SH : Sta Z h0 "java/lang/Integer$IntegerCache" "high" "I" (.int (127 : Int32))) (SC : Sta Z h0 "java/lang/Integer$IntegerCache" "cache" "[Ljava/lang/Integer;" (.ref cc)) (AC : own_Av Z h0 cc kc (.object "java/lang/Integer") (256 : Int32) fc) (hy : fc (129 : Int32) = .ref yv) :
    MetFree l (⟨"java/lang/Integer", "valueOf", "(I)Ljava/lang/Integer;"⟩ : MethodName) (head1 (Jvm.Cond.code (⟨"java/lang/Integer", "valueOf", "(I)Ljava/lang/Integer;"⟩ : MethodName) jdk_33_method_22_code 1 (some (.object "java/lang/Integer")) :: ws) ({ frames := 0, cells := 0, slots := 0, locals := 0 } : Room)) (fun aa_ U => aa_ = #[(.int (1 : Int32))] ∧ Z.Warmed39 U.vm ∧ U.heap = h0) (fun _ _ _ _ _ => True) (fun _ U o U' => ∃ v L, o = .returned v ∧ Q_rmV1 Z cc kc fc yv h0 n0 v U'.heap L ∧ FrameEnd U o U' L ({ frames := 0, cells := 0, slots := 0, locals := 0 } : Room).cells ({ frames := 0, cells := 0, slots := 0, locals := 0 } : Room).slots) := by
  refine MetFree.of_bodySF (plainFor_of_name pn_1) hisR ?_
  intro p e s m args below meth c s₁ Bd hml0 hP hK
  obtain ⟨rfl, hZ, hh⟩ := hP
  have hx := Bd.exec
  have hby := Bd.bytes
  have hml : c.maxLocals = 1 := hml0
  have hown : s.vm.findClass "java/lang/Integer" = some m.cls := findClass_of_methodNamed Bd.named
  have hnm := (name_of_methodNamed Bd.named Bd.method).1
  have X0 : Stand p l e ({ frames := 0, cells := 0, slots := 0, locals := 0 } : Room) s m #[(.int (1 : Int32))] below meth c s₁ [] 0 0 := Stand.of_body Bd
  have e0 : s₁.heap = h0 := by rw [← hh, Bd.state]; rfl
  have N0 := Fr.nil n0
  show OEnds p e below (OEndP s (Q_rmV1 Z cc kc fc yv h0 n0) ({ frames := 0, cells := 0, slots := 0, locals := 0 } : Room).cells ({ frames := 0, cells := 0, slots := 0, locals := 0 } : Room).slots) s₁ (entryFrame m #[(.int (1 : Int32))] 1)
  rw [ef_rmV1 m (1 : Int32)]
  refine OEnds.go (g' := (mkF m 1 #[.val (.int (1 : Int32))] [(.int (1 : Int32))])) (fun t k => XS.iloadN X0.here hx rfl (hb hby d3_0) rfl k) ?_
  refine OEnds.go (g' := (mkF m 3 #[.val (.int (1 : Int32))] [(.int (-128 : Int32)), (.int (1 : Int32))])) (fun t k => XS.bipush X0.here hx rfl (hb hby d3_1) k) ?_
  refine OEnds.go (g' := (mkF m 6 #[.val (.int (1 : Int32))] [])) (fun t k => XS.icmpNo X0.here hx rfl (hb hby d3_3) rfl (flt (by decide : ¬ ((1 : Int32) < (-128 : Int32)))).1 k) ?_
  refine OEnds.go (g' := (mkF m 7 #[.val (.int (1 : Int32))] [(.int (1 : Int32))])) (fun t k => XS.iloadN X0.here hx rfl (hb hby d3_6) rfl k) ?_
  obtain ⟨T1, X1, e1, st1⟩ := getS2 X0 hx hZ hown (host := "") (Or.inl (hw _ (List.mem_of_getElem? (i := 20) rfl))) Via.refl e0 SH (g := (mkF m 7 #[.val (.int (1 : Int32))] [(.int (1 : Int32))])) rfl (hb hby d3_7)
  refine OEnds.go (g' := (mkF m 10 #[.val (.int (1 : Int32))] [(.int (127 : Int32)), (.int (1 : Int32))])) st1 ?_
  refine OEnds.go (g' := (mkF m 13 #[.val (.int (1 : Int32))] [])) (fun t k => XS.icmpNo X1.here hx rfl (hb hby d3_10) rfl (flt (by decide : ¬ ((127 : Int32) < (1 : Int32)))).2.2.1 k) ?_
  obtain ⟨T2, X2, e2, st2⟩ := getS2 X1 hx hZ hown (host := "") (Or.inl (hw _ (List.mem_of_getElem? (i := 22) rfl))) Via.refl e1 SC (g := (mkF m 13 #[.val (.int (1 : Int32))] [])) rfl (hb hby d3_13)
  refine OEnds.go (g' := (mkF m 16 #[.val (.int (1 : Int32))] [(.ref cc)])) st2 ?_
  refine OEnds.go (g' := (mkF m 17 #[.val (.int (1 : Int32))] [(.int (1 : Int32)), (.ref cc)])) (fun t k => XS.iloadN X2.here hx rfl (hb hby d3_16) rfl k) ?_
  refine OEnds.go (g' := (mkF m 20 #[.val (.int (1 : Int32))] [(.int (128 : Int32)), (.int (1 : Int32)), (.ref cc)])) (fun t k => XS.sipush X2.here hx rfl (hb hby d3_17) k) ?_
  refine OEnds.go (g' := (mkF m 21 #[.val (.int (1 : Int32))] [(.int ((1 : Int32) + (128 : Int32))), (.ref cc)])) (fun t k => XS.iadd X2.here hx rfl (hb hby d3_20) rfl k) ?_
  rw [show ((1 : Int32) + (128 : Int32)) = (129 : Int32) from by decide]
  obtain ⟨cl3, Ar3, qa3, Sa3, Na3, Ha3⟩ := @id _ AC
  have hin3 : ¬ ((129 : Int32) < 0 ∨ cl3.slots.size ≤ ((129 : Int32)).toNatClampNeg) := inb_of Sa3 (⟨by decide, by decide⟩)
  have hat3 : cl3.slots[((129 : Int32)).toNatClampNeg]? = some (.ref yv) := (Ha3 _ hin3).1.trans (congrArg some hy)
  refine OEnds.go (g' := (mkF m 22 #[.val (.int (1 : Int32))] [(.ref yv)])) (X2.aaload hx (j := (129 : Int32)) (v := (.ref yv)) (by rw [e2]; exact Ar3.1) (State.isArrayOf_alike hZ.alike Ar3.2.1) rfl Ar3.2.2 hin3 hat3 (g := (mkF m 21 #[.val (.int (1 : Int32))] [(.int (129 : Int32)), (.ref cc)])) rfl rfl (hb hby d3_21)) ?_
  exact OEnds.outA X2 Bd.notSynchronized hx Bd.returns rfl rfl (hb hby d3_22) ⟨rfl, N0, e2⟩ (by decide) (by decide)
theorem ef_rmV2 (m : MethodId) (x0 : Int32) : entryFrame m #[(.int x0)] 1 = mkF m 0 #[.val (.int x0)] [] := by first | (simp [entryFrame, mkF, argsToLocals, Value.category]; done) | rfl
def Q_rmV2 (Z : State) (cc : Addr) (kc : ClassId) (fc : Int32 → Value) (yv : Addr) (h0 : Heap) (n0 : Nat) (v : Option Value) (h : Heap) (L : List Loc) : Prop := v = some (.ref yv) ∧ Fr n0 L ∧ h = h0
set_option maxRecDepth 65536 in
set_option maxHeartbeats 40000000 in
theorem rmV2 (l : Launch) (Z : State) (a0 : Array Value) (hw : ∀ d ∈ tables_1, d.before a0 Z = true) (ws : List Jvm.Cond) (cc : Addr) (kc : ClassId) (fc : Int32 → Value) (yv : Addr) (h0 : Heap) (n0 : Nat) (Z0 : n0 ≤ h0.size) (SH : Sta Z h0 "java/lang/Integer$IntegerCache" "high" "I" (.int (127 : Int32))) (SC : Sta Z h0 "java/lang/Integer$IntegerCache" "cache" "[Ljava/lang/Integer;" (.ref cc)) (AC : own_Av Z h0 cc kc (.object "java/lang/Integer") (256 : Int32) fc) (hy : fc (130 : Int32) = .ref yv) :
    MetFree l (⟨"java/lang/Integer", "valueOf", "(I)Ljava/lang/Integer;"⟩ : MethodName) (head1 (Jvm.Cond.code (⟨"java/lang/Integer", "valueOf", "(I)Ljava/lang/Integer;"⟩ : MethodName) jdk_33_method_22_code 1 (some (.object "java/lang/Integer")) :: ws) ({ frames := 0, cells := 0, slots := 0, locals := 0 } : Room)) (fun aa_ U => aa_ = #[(.int (2 : Int32))] ∧ Z.Warmed39 U.vm ∧ U.heap = h0) (fun _ _ _ _ _ => True) (fun _ U o U' => ∃ v L, o = .returned v ∧ Q_rmV2 Z cc kc fc yv h0 n0 v U'.heap L ∧ FrameEnd U o U' L ({ frames := 0, cells := 0, slots := 0, locals := 0 } : Room).cells ({ frames := 0, cells := 0, slots := 0, locals := 0 } : Room).slots) := by
  refine MetFree.of_bodySF (plainFor_of_name pn_1) hisR ?_
  intro p e s m args below meth c s₁ Bd hml0 hP hK
  obtain ⟨rfl, hZ, hh⟩ := hP
  have hx := Bd.exec
  have hby := Bd.bytes
  have hml : c.maxLocals = 1 := hml0
  have hown : s.vm.findClass "java/lang/Integer" = some m.cls := findClass_of_methodNamed Bd.named
  have hnm := (name_of_methodNamed Bd.named Bd.method).1
  have X0 : Stand p l e ({ frames := 0, cells := 0, slots := 0, locals := 0 } : Room) s m #[(.int (2 : Int32))] below meth c s₁ [] 0 0 := Stand.of_body Bd
  have e0 : s₁.heap = h0 := by rw [← hh, Bd.state]; rfl
  have N0 := Fr.nil n0
  show OEnds p e below (OEndP s (Q_rmV2 Z cc kc fc yv h0 n0) ({ frames := 0, cells := 0, slots := 0, locals := 0 } : Room).cells ({ frames := 0, cells := 0, slots := 0, locals := 0 } : Room).slots) s₁ (entryFrame m #[(.int (2 : Int32))] 1)
  rw [ef_rmV2 m (2 : Int32)]
  refine OEnds.go (g' := (mkF m 1 #[.val (.int (2 : Int32))] [(.int (2 : Int32))])) (fun t k => XS.iloadN X0.here hx rfl (hb hby d3_0) rfl k) ?_
  refine OEnds.go (g' := (mkF m 3 #[.val (.int (2 : Int32))] [(.int (-128 : Int32)), (.int (2 : Int32))])) (fun t k => XS.bipush X0.here hx rfl (hb hby d3_1) k) ?_
  refine OEnds.go (g' := (mkF m 6 #[.val (.int (2 : Int32))] [])) (fun t k => XS.icmpNo X0.here hx rfl (hb hby d3_3) rfl (flt (by decide : ¬ ((2 : Int32) < (-128 : Int32)))).1 k) ?_
  refine OEnds.go (g' := (mkF m 7 #[.val (.int (2 : Int32))] [(.int (2 : Int32))])) (fun t k => XS.iloadN X0.here hx rfl (hb hby d3_6) rfl k) ?_
  obtain ⟨T1, X1, e1, st1⟩ := getS2 X0 hx hZ hown (host := "") (Or.inl (hw _ (List.mem_of_getElem? (i := 20) rfl))) Via.refl e0 SH (g := (mkF m 7 #[.val (.int (2 : Int32))] [(.int (2 : Int32))])) rfl (hb hby d3_7)
  refine OEnds.go (g' := (mkF m 10 #[.val (.int (2 : Int32))] [(.int (127 : Int32)), (.int (2 : Int32))])) st1 ?_
  refine OEnds.go (g' := (mkF m 13 #[.val (.int (2 : Int32))] [])) (fun t k => XS.icmpNo X1.here hx rfl (hb hby d3_10) rfl (flt (by decide : ¬ ((127 : Int32) < (2 : Int32)))).2.2.1 k) ?_
  obtain ⟨T2, X2, e2, st2⟩ := getS2 X1 hx hZ hown (host := "") (Or.inl (hw _ (List.mem_of_getElem? (i := 22) rfl))) Via.refl e1 SC (g := (mkF m 13 #[.val (.int (2 : Int32))] [])) rfl (hb hby d3_13)
  refine OEnds.go (g' := (mkF m 16 #[.val (.int (2 : Int32))] [(.ref cc)])) st2 ?_
  refine OEnds.go (g' := (mkF m 17 #[.val (.int (2 : Int32))] [(.int (2 : Int32)), (.ref cc)])) (fun t k => XS.iloadN X2.here hx rfl (hb hby d3_16) rfl k) ?_
  refine OEnds.go (g' := (mkF m 20 #[.val (.int (2 : Int32))] [(.int (128 : Int32)), (.int (2 : Int32)), (.ref cc)])) (fun t k => XS.sipush X2.here hx rfl (hb hby d3_17) k) ?_
  refine OEnds.go (g' := (mkF m 21 #[.val (.int (2 : Int32))] [(.int ((2 : Int32) + (128 : Int32))), (.ref cc)])) (fun t k => XS.iadd X2.here hx rfl (hb hby d3_20) rfl k) ?_
  rw [show ((2 : Int32) + (128 : Int32)) = (130 : Int32) from by decide]
  obtain ⟨cl3, Ar3, qa3, Sa3, Na3, Ha3⟩ := @id _ AC
  have hin3 : ¬ ((130 : Int32) < 0 ∨ cl3.slots.size ≤ ((130 : Int32)).toNatClampNeg) := inb_of Sa3 (⟨by decide, by decide⟩)
  have hat3 : cl3.slots[((130 : Int32)).toNatClampNeg]? = some (.ref yv) := (Ha3 _ hin3).1.trans (congrArg some hy)
  refine OEnds.go (g' := (mkF m 22 #[.val (.int (2 : Int32))] [(.ref yv)])) (X2.aaload hx (j := (130 : Int32)) (v := (.ref yv)) (by rw [e2]; exact Ar3.1) (State.isArrayOf_alike hZ.alike Ar3.2.1) rfl Ar3.2.2 hin3 hat3 (g := (mkF m 21 #[.val (.int (2 : Int32))] [(.int (130 : Int32)), (.ref cc)])) rfl rfl (hb hby d3_21)) ?_
  exact OEnds.outA X2 Bd.notSynchronized hx Bd.returns rfl rfl (hb hby d3_22) ⟨rfl, N0, e2⟩ (by decide) (by decide)
theorem ef_rmV3 (m : MethodId) (x0 : Int32) : entryFrame m #[(.int x0)] 1 = mkF m 0 #[.val (.int x0)] [] := by first | (simp [entryFrame, mkF, argsToLocals, Value.category]; done) | rfl
def Q_rmV3 (Z : State) (cc : Addr) (kc : ClassId) (fc : Int32 → Value) (yv : Addr) (h0 : Heap) (n0 : Nat) (v : Option Value) (h : Heap) (L : List Loc) : Prop := v = some (.ref yv) ∧ Fr n0 L ∧ h = h0
set_option maxRecDepth 65536 in
set_option maxHeartbeats 40000000 in
theorem rmV3 (l : Launch) (Z : State) (a0 : Array Value) (hw : ∀ d ∈ tables_1, d.before a0 Z = true) (ws : List Jvm.Cond) (cc : Addr) (kc : ClassId) (fc : Int32 → Value) (yv : Addr) (h0 : Heap) (n0 : Nat) (Z0 : n0 ≤ h0.size) (SH : Sta Z h0 "java/lang/Integer$IntegerCache" "high" "I" (.int (127 : Int32))) (SC : Sta Z h0 "java/lang/Integer$IntegerCache" "cache" "[Ljava/lang/Integer;" (.ref cc)) (AC : own_Av Z h0 cc kc (.object "java/lang/Integer") (256 : Int32) fc) (hy : fc (131 : Int32) = .ref yv) :
    MetFree l (⟨"java/lang/Integer", "valueOf", "(I)Ljava/lang/Integer;"⟩ : MethodName) (head1 (Jvm.Cond.code (⟨"java/lang/Integer", "valueOf", "(I)Ljava/lang/Integer;"⟩ : MethodName) jdk_33_method_22_code 1 (some (.object "java/lang/Integer")) :: ws) ({ frames := 0, cells := 0, slots := 0, locals := 0 } : Room)) (fun aa_ U => aa_ = #[(.int (3 : Int32))] ∧ Z.Warmed39 U.vm ∧ U.heap = h0) (fun _ _ _ _ _ => True) (fun _ U o U' => ∃ v L, o = .returned v ∧ Q_rmV3 Z cc kc fc yv h0 n0 v U'.heap L ∧ FrameEnd U o U' L ({ frames := 0, cells := 0, slots := 0, locals := 0 } : Room).cells ({ frames := 0, cells := 0, slots := 0, locals := 0 } : Room).slots) := by
  refine MetFree.of_bodySF (plainFor_of_name pn_1) hisR ?_
  intro p e s m args below meth c s₁ Bd hml0 hP hK
  obtain ⟨rfl, hZ, hh⟩ := hP
  have hx := Bd.exec
  have hby := Bd.bytes
  have hml : c.maxLocals = 1 := hml0
  have hown : s.vm.findClass "java/lang/Integer" = some m.cls := findClass_of_methodNamed Bd.named
  have hnm := (name_of_methodNamed Bd.named Bd.method).1
  have X0 : Stand p l e ({ frames := 0, cells := 0, slots := 0, locals := 0 } : Room) s m #[(.int (3 : Int32))] below meth c s₁ [] 0 0 := Stand.of_body Bd
  have e0 : s₁.heap = h0 := by rw [← hh, Bd.state]; rfl
  have N0 := Fr.nil n0
  show OEnds p e below (OEndP s (Q_rmV3 Z cc kc fc yv h0 n0) ({ frames := 0, cells := 0, slots := 0, locals := 0 } : Room).cells ({ frames := 0, cells := 0, slots := 0, locals := 0 } : Room).slots) s₁ (entryFrame m #[(.int (3 : Int32))] 1)
  rw [ef_rmV3 m (3 : Int32)]
  refine OEnds.go (g' := (mkF m 1 #[.val (.int (3 : Int32))] [(.int (3 : Int32))])) (fun t k => XS.iloadN X0.here hx rfl (hb hby d3_0) rfl k) ?_
  refine OEnds.go (g' := (mkF m 3 #[.val (.int (3 : Int32))] [(.int (-128 : Int32)), (.int (3 : Int32))])) (fun t k => XS.bipush X0.here hx rfl (hb hby d3_1) k) ?_
  refine OEnds.go (g' := (mkF m 6 #[.val (.int (3 : Int32))] [])) (fun t k => XS.icmpNo X0.here hx rfl (hb hby d3_3) rfl (flt (by decide : ¬ ((3 : Int32) < (-128 : Int32)))).1 k) ?_
  refine OEnds.go (g' := (mkF m 7 #[.val (.int (3 : Int32))] [(.int (3 : Int32))])) (fun t k => XS.iloadN X0.here hx rfl (hb hby d3_6) rfl k) ?_
  obtain ⟨T1, X1, e1, st1⟩ := getS2 X0 hx hZ hown (host := "") (Or.inl (hw _ (List.mem_of_getElem? (i := 20) rfl))) Via.refl e0 SH (g := (mkF m 7 #[.val (.int (3 : Int32))] [(.int (3 : Int32))])) rfl (hb hby d3_7)
  refine OEnds.go (g' := (mkF m 10 #[.val (.int (3 : Int32))] [(.int (127 : Int32)), (.int (3 : Int32))])) st1 ?_
  refine OEnds.go (g' := (mkF m 13 #[.val (.int (3 : Int32))] [])) (fun t k => XS.icmpNo X1.here hx rfl (hb hby d3_10) rfl (flt (by decide : ¬ ((127 : Int32) < (3 : Int32)))).2.2.1 k) ?_
  obtain ⟨T2, X2, e2, st2⟩ := getS2 X1 hx hZ hown (host := "") (Or.inl (hw _ (List.mem_of_getElem? (i := 22) rfl))) Via.refl e1 SC (g := (mkF m 13 #[.val (.int (3 : Int32))] [])) rfl (hb hby d3_13)
  refine OEnds.go (g' := (mkF m 16 #[.val (.int (3 : Int32))] [(.ref cc)])) st2 ?_
  refine OEnds.go (g' := (mkF m 17 #[.val (.int (3 : Int32))] [(.int (3 : Int32)), (.ref cc)])) (fun t k => XS.iloadN X2.here hx rfl (hb hby d3_16) rfl k) ?_
  refine OEnds.go (g' := (mkF m 20 #[.val (.int (3 : Int32))] [(.int (128 : Int32)), (.int (3 : Int32)), (.ref cc)])) (fun t k => XS.sipush X2.here hx rfl (hb hby d3_17) k) ?_
  refine OEnds.go (g' := (mkF m 21 #[.val (.int (3 : Int32))] [(.int ((3 : Int32) + (128 : Int32))), (.ref cc)])) (fun t k => XS.iadd X2.here hx rfl (hb hby d3_20) rfl k) ?_
  rw [show ((3 : Int32) + (128 : Int32)) = (131 : Int32) from by decide]
  obtain ⟨cl3, Ar3, qa3, Sa3, Na3, Ha3⟩ := @id _ AC
  have hin3 : ¬ ((131 : Int32) < 0 ∨ cl3.slots.size ≤ ((131 : Int32)).toNatClampNeg) := inb_of Sa3 (⟨by decide, by decide⟩)
  have hat3 : cl3.slots[((131 : Int32)).toNatClampNeg]? = some (.ref yv) := (Ha3 _ hin3).1.trans (congrArg some hy)
  refine OEnds.go (g' := (mkF m 22 #[.val (.int (3 : Int32))] [(.ref yv)])) (X2.aaload hx (j := (131 : Int32)) (v := (.ref yv)) (by rw [e2]; exact Ar3.1) (State.isArrayOf_alike hZ.alike Ar3.2.1) rfl Ar3.2.2 hin3 hat3 (g := (mkF m 21 #[.val (.int (3 : Int32))] [(.int (131 : Int32)), (.ref cc)])) rfl rfl (hb hby d3_21)) ?_
  exact OEnds.outA X2 Bd.notSynchronized hx Bd.returns rfl rfl (hb hby d3_22) ⟨rfl, N0, e2⟩ (by decide) (by decide)
theorem ef_rm5 (m : MethodId) (x0 : Addr) (x1 : Int64) : entryFrame m #[(.ref x0), (.long x1)] 7 = mkF m 0 #[.val (.ref x0), .val (.long x1), .second, .unset, .unset, .unset, .unset] [] := by first | (simp [entryFrame, mkF, argsToLocals, Value.category]; done) | rfl
def Q_rm5 (Z : State) (mp : Addr) (xx : Int64) (ia : Addr) (va : Addr) (ki : ClassId) (kv : ClassId) (ff : Int32 → Value) (gg : Int32 → Int64) (h0 : Heap) (n0 : Nat) (v : Option Value) (h : Heap) (L : List Loc) : Prop := ∃ j, v = some (.int j) ∧ Fr n0 L ∧ h = h0 ∧ own_Fd ff gg xx j
set_option maxRecDepth 65536 in
set_option maxHeartbeats 40000000 in
theorem rm5 (l : Launch) (Z : State) (a0 : Array Value) (hw : ∀ d ∈ tables_1, d.before a0 Z = true) (ws : List Jvm.Cond) (mp : Addr) (xx : Int64) (ia : Addr) (va : Addr) (ki : ClassId) (kv : ClassId) (ff : Int32 → Value) (gg : Int32 → Int64) (h0 : Heap) (n0 : Nat) (Z0 : n0 ≤ h0.size) (Fi : Fld Z h0 mp "com/example/slimheap/slimheap/hprof/IdMap" "ids" "[J" (.ref ia)) (Fv : Fld Z h0 mp "com/example/slimheap/slimheap/hprof/IdMap" "values" "[Ljava/lang/Object;" (.ref va)) (AI : own_Av Z h0 ia ki .long (64 : Int32) (fun i => .long (gg i))) (AV : own_Av Z h0 va kv (.object "java/lang/Object") (64 : Int32) ff) (h3 : ¬ ff (own_pr xx 0) = .null → ¬ ff (own_pr xx 1) = .null → ff (own_pr xx 2) = .null) :
    MetFree l (⟨"com/example/slimheap/slimheap/hprof/IdMap", "slotOf", "(J)I"⟩ : MethodName) (head1 (Jvm.Cond.code (⟨"com/example/slimheap/slimheap/hprof/IdMap", "slotOf", "(J)I"⟩ : MethodName) prog_31_method_6_code 7 (some .int) :: ws) ({ frames := 0, cells := 0, slots := 0, locals := 0 } : Room)) (fun aa_ U => aa_ = #[(.ref mp), (.long xx)] ∧ Z.Warmed39 U.vm ∧ U.heap = h0) (fun _ _ _ _ _ => True) (fun _ U o U' => ∃ v L, o = .returned v ∧ Q_rm5 Z mp xx ia va ki kv ff gg h0 n0 v U'.heap L ∧ FrameEnd U o U' L ({ frames := 0, cells := 0, slots := 0, locals := 0 } : Room).cells ({ frames := 0, cells := 0, slots := 0, locals := 0 } : Room).slots) := by
  refine MetFree.of_bodySF (plainFor_of_name pn_0) hisR ?_
  intro p e s m args below meth c s₁ Bd hml0 hP hK
  obtain ⟨rfl, hZ, hh⟩ := hP
  have hx := Bd.exec
  have hby := Bd.bytes
  have hml : c.maxLocals = 7 := hml0
  have hown : s.vm.findClass "com/example/slimheap/slimheap/hprof/IdMap" = some m.cls := findClass_of_methodNamed Bd.named
  have hnm := (name_of_methodNamed Bd.named Bd.method).1
  have X0 : Stand p l e ({ frames := 0, cells := 0, slots := 0, locals := 0 } : Room) s m #[(.ref mp), (.long xx)] below meth c s₁ [] 0 0 := Stand.of_body Bd
  have e0 : s₁.heap = h0 := by rw [← hh, Bd.state]; rfl
  have N0 := Fr.nil n0
  show OEnds p e below (OEndP s (Q_rm5 Z mp xx ia va ki kv ff gg h0 n0) ({ frames := 0, cells := 0, slots := 0, locals := 0 } : Room).cells ({ frames := 0, cells := 0, slots := 0, locals := 0 } : Room).slots) s₁ (entryFrame m #[(.ref mp), (.long xx)] 7)
  rw [ef_rm5 m mp xx]
  refine OEnds.go (g' := (mkF m 1 #[.val (.ref mp), .val (.long xx), .second, .unset, .unset, .unset, .unset] [(.ref mp)])) (fun t k => XS.aloadN X0.here hx rfl (hb hby d5_0) rfl rfl k) ?_
  obtain ⟨T1, X1, e1, st1⟩ := getF X0 hx hZ hown (host := "") (Or.inl (hw _ (List.mem_of_getElem? (i := 10) rfl))) Via.refl e0 Fi (g := (mkF m 1 #[.val (.ref mp), .val (.long xx), .second, .unset, .unset, .unset, .unset] [(.ref mp)])) rfl rfl (hb hby d5_1)
  refine OEnds.go (g' := (mkF m 4 #[.val (.ref mp), .val (.long xx), .second, .unset, .unset, .unset, .unset] [(.ref ia)])) st1 ?_
  obtain ⟨cl2, Ar2, qa2, Sa2, Na2, Ha2⟩ := @id _ AI
  refine OEnds.go (g' := (mkF m 5 #[.val (.ref mp), .val (.long xx), .second, .unset, .unset, .unset, .unset] [(.int (64 : Int32))])) (fun t k => X1.arraylength hx (by rw [e1]; exact Ar2.1) (State.isArrayOf_alike hZ.alike Ar2.2.1) (g := (mkF m 4 #[.val (.ref mp), .val (.long xx), .second, .unset, .unset, .unset, .unset] [(.ref ia)])) rfl rfl (hb hby d5_4) t (by rw [len_of Sa2 Na2]; exact k)) ?_
  refine OEnds.go (g' := (mkF m 6 #[.val (.ref mp), .val (.long xx), .second, .unset, .unset, .unset, .unset] [(.int (1 : Int32)), (.int (64 : Int32))])) (fun t k => XS.iconst X1.here hx rfl (hb hby d5_5) k) ?_
  refine OEnds.go (g' := (mkF m 7 #[.val (.ref mp), .val (.long xx), .second, .unset, .unset, .unset, .unset] [(.int ((64 : Int32) - (1 : Int32)))])) (fun t k => XS.isub X1.here hx rfl (hb hby d5_6) rfl k) ?_
  rw [show ((64 : Int32) - (1 : Int32)) = (63 : Int32) from by decide]
  refine OEnds.go (g' := (mkF m 8 #[.val (.ref mp), .val (.long xx), .second, .val (.int (63 : Int32)), .unset, .unset, .unset] [])) (fun t k => XS.istoreN X1.here hx rfl (hb hby d5_7) rfl (l' := #[.val (.ref mp), .val (.long xx), .second, .val (.int (63 : Int32)), .unset, .unset, .unset]) rfl k) ?_
  refine OEnds.go (g' := (mkF m 9 #[.val (.ref mp), .val (.long xx), .second, .val (.int (63 : Int32)), .unset, .unset, .unset] [(.long xx)])) (fun t k => XS.lloadN X1.here hx rfl (hb hby d5_8) rfl k) ?_
  refine OEnds.go (g' := (mkF m 12 #[.val (.ref mp), .val (.long xx), .second, .val (.int (63 : Int32)), .unset, .unset, .unset] [(.long (-7046029254386353131 : Int64)), (.long xx)])) (X1.ldc2Long hx hown (mvT hZ (hw _ (List.mem_of_getElem? (i := 32) rfl))) (g := (mkF m 9 #[.val (.ref mp), .val (.long xx), .second, .val (.int (63 : Int32)), .unset, .unset, .unset] [(.long xx)])) rfl (hb hby d5_9)) ?_
  refine OEnds.go (g' := (mkF m 13 #[.val (.ref mp), .val (.long xx), .second, .val (.int (63 : Int32)), .unset, .unset, .unset] [(.long (xx * (-7046029254386353131 : Int64)))])) (fun t k => XS.lmul X1.here hx rfl (hb hby d5_12) rfl k) ?_
  refine OEnds.go (g' := (mkF m 15 #[.val (.ref mp), .val (.long xx), .second, .val (.int (63 : Int32)), .val (.long (xx * (-7046029254386353131 : Int64))), .second, .unset] [])) (fun t k => XS.lstore X1.here hx rfl (hb hby d5_13) rfl (l' := #[.val (.ref mp), .val (.long xx), .second, .val (.int (63 : Int32)), .val (.long (xx * (-7046029254386353131 : Int64))), .second, .unset]) rfl k) ?_
  refine OEnds.go (g' := (mkF m 17 #[.val (.ref mp), .val (.long xx), .second, .val (.int (63 : Int32)), .val (.long (xx * (-7046029254386353131 : Int64))), .second, .unset] [(.long (xx * (-7046029254386353131 : Int64)))])) (fun t k => XS.lload X1.here hx rfl (hb hby d5_15) rfl k) ?_
  refine OEnds.go (g' := (mkF m 19 #[.val (.ref mp), .val (.long xx), .second, .val (.int (63 : Int32)), .val (.long (xx * (-7046029254386353131 : Int64))), .second, .unset] [(.long (xx * (-7046029254386353131 : Int64))), (.long (xx * (-7046029254386353131 : Int64)))])) (fun t k => XS.lload X1.here hx rfl (hb hby d5_17) rfl k) ?_
  refine OEnds.go (g' := (mkF m 21 #[.val (.ref mp), .val (.long xx), .second, .val (.int (63 : Int32)), .val (.long (xx * (-7046029254386353131 : Int64))), .second, .unset] [(.int (32 : Int32)), (.long (xx * (-7046029254386353131 : Int64))), (.long (xx * (-7046029254386353131 : Int64)))])) (fun t k => XS.bipush X1.here hx rfl (hb hby d5_19) k) ?_
  refine OEnds.go (g' := (mkF m 22 #[.val (.ref mp), .val (.long xx), .second, .val (.int (63 : Int32)), .val (.long (xx * (-7046029254386353131 : Int64))), .second, .unset] [(.long (((xx * (-7046029254386353131 : Int64)).toUInt64 >>> ((32 : Int32) &&& 0x3f).toInt64.toUInt64).toInt64)), (.long (xx * (-7046029254386353131 : Int64)))])) (fun t k => XS.lushr X1.here hx rfl (hb hby d5_21) rfl k) ?_
  refine OEnds.go (g' := (mkF m 23 #[.val (.ref mp), .val (.long xx), .second, .val (.int (63 : Int32)), .val (.long (xx * (-7046029254386353131 : Int64))), .second, .unset] [(.long ((xx * (-7046029254386353131 : Int64)) ^^^ (((xx * (-7046029254386353131 : Int64)).toUInt64 >>> ((32 : Int32) &&& 0x3f).toInt64.toUInt64).toInt64)))])) (fun t k => XS.lxor X1.here hx rfl (hb hby d5_22) rfl k) ?_
  refine OEnds.go (g' := (mkF m 24 #[.val (.ref mp), .val (.long xx), .second, .val (.int (63 : Int32)), .val (.long (xx * (-7046029254386353131 : Int64))), .second, .unset] [(.int (((xx * (-7046029254386353131 : Int64)) ^^^ (((xx * (-7046029254386353131 : Int64)).toUInt64 >>> ((32 : Int32) &&& 0x3f).toInt64.toUInt64).toInt64)).toInt32))])) (fun t k => XS.l2i X1.here hx rfl (hb hby d5_23) rfl k) ?_
  refine OEnds.go (g' := (mkF m 25 #[.val (.ref mp), .val (.long xx), .second, .val (.int (63 : Int32)), .val (.long (xx * (-7046029254386353131 : Int64))), .second, .unset] [(.int (63 : Int32)), (.int (((xx * (-7046029254386353131 : Int64)) ^^^ (((xx * (-7046029254386353131 : Int64)).toUInt64 >>> ((32 : Int32) &&& 0x3f).toInt64.toUInt64).toInt64)).toInt32))])) (fun t k => XS.iloadN X1.here hx rfl (hb hby d5_24) rfl k) ?_
  refine OEnds.go (g' := (mkF m 26 #[.val (.ref mp), .val (.long xx), .second, .val (.int (63 : Int32)), .val (.long (xx * (-7046029254386353131 : Int64))), .second, .unset] [(.int ((((xx * (-7046029254386353131 : Int64)) ^^^ (((xx * (-7046029254386353131 : Int64)).toUInt64 >>> ((32 : Int32) &&& 0x3f).toInt64.toUInt64).toInt64)).toInt32) &&& (63 : Int32)))])) (fun t k => XS.iand X1.here hx rfl (hb hby d5_25) rfl k) ?_
  rw [show ((((xx * (-7046029254386353131 : Int64)) ^^^ (((xx * (-7046029254386353131 : Int64)).toUInt64 >>> ((32 : Int32) &&& 0x3f).toInt64.toUInt64).toInt64)).toInt32) &&& (63 : Int32)) = (own_pr xx 0) from rfl]
  refine OEnds.go (g' := (mkF m 28 #[.val (.ref mp), .val (.long xx), .second, .val (.int (63 : Int32)), .val (.long (xx * (-7046029254386353131 : Int64))), .second, .val (.int (own_pr xx 0))] [])) (fun t k => XS.istore X1.here hx rfl (hb hby d5_26) rfl (l' := #[.val (.ref mp), .val (.long xx), .second, .val (.int (63 : Int32)), .val (.long (xx * (-7046029254386353131 : Int64))), .second, .val (.int (own_pr xx 0))]) rfl k) ?_
  refine OEnds.go (g' := (mkF m 29 #[.val (.ref mp), .val (.long xx), .second, .val (.int (63 : Int32)), .val (.long (xx * (-7046029254386353131 : Int64))), .second, .val (.int (own_pr xx 0))] [(.ref mp)])) (fun t k => XS.aloadN X1.here hx rfl (hb hby d5_28) rfl rfl k) ?_
  obtain ⟨T3, X3, e3, st3⟩ := getF X1 hx hZ hown (host := "") (Or.inl (hw _ (List.mem_of_getElem? (i := 14) rfl))) Via.refl e1 Fv (g := (mkF m 29 #[.val (.ref mp), .val (.long xx), .second, .val (.int (63 : Int32)), .val (.long (xx * (-7046029254386353131 : Int64))), .second, .val (.int (own_pr xx 0))] [(.ref mp)])) rfl rfl (hb hby d5_29)
  refine OEnds.go (g' := (mkF m 32 #[.val (.ref mp), .val (.long xx), .second, .val (.int (63 : Int32)), .val (.long (xx * (-7046029254386353131 : Int64))), .second, .val (.int (own_pr xx 0))] [(.ref va)])) st3 ?_
  refine OEnds.go (g' := (mkF m 34 #[.val (.ref mp), .val (.long xx), .second, .val (.int (63 : Int32)), .val (.long (xx * (-7046029254386353131 : Int64))), .second, .val (.int (own_pr xx 0))] [(.int (own_pr xx 0)), (.ref va)])) (fun t k => XS.iload X3.here hx rfl (hb hby d5_32) rfl k) ?_
  obtain ⟨cl4, Ar4, qa4, Sa4, Na4, Ha4⟩ := @id _ AV
  have hin4 : ¬ ((own_pr xx 0) < 0 ∨ cl4.slots.size ≤ ((own_pr xx 0)).toNatClampNeg) := inb_of Sa4 (own_prb xx 0)
  by_cases c34_5 : (ff (own_pr xx 0)) = .null
  · -- yes
    have hat4 : cl4.slots[((own_pr xx 0)).toNatClampNeg]? = some .null := (Ha4 _ hin4).1.trans (congrArg some c34_5)
    refine OEnds.go (g' := (mkF m 35 #[.val (.ref mp), .val (.long xx), .second, .val (.int (63 : Int32)), .val (.long (xx * (-7046029254386353131 : Int64))), .second, .val (.int (own_pr xx 0))] [.null])) (X3.aaload hx (j := (own_pr xx 0)) (v := .null) (by rw [e3]; exact Ar4.1) (State.isArrayOf_alike hZ.alike Ar4.2.1) rfl Ar4.2.2 hin4 hat4 (g := (mkF m 34 #[.val (.ref mp), .val (.long xx), .second, .val (.int (63 : Int32)), .val (.long (xx * (-7046029254386353131 : Int64))), .second, .val (.int (own_pr xx 0))] [(.int (own_pr xx 0)), (.ref va)])) rfl rfl (hb hby d5_34)) ?_
    refine OEnds.go (g' := (mkF m 61 #[.val (.ref mp), .val (.long xx), .second, .val (.int (63 : Int32)), .val (.long (xx * (-7046029254386353131 : Int64))), .second, .val (.int (own_pr xx 0))] [])) (fun t k => XS.ifnullYes X3.here hx rfl (pc0 := 35) (pc' := 61) rfl (hb hby d5_35) rfl (by decide) (by decide) k) ?_
    refine OEnds.go (g' := (mkF m 63 #[.val (.ref mp), .val (.long xx), .second, .val (.int (63 : Int32)), .val (.long (xx * (-7046029254386353131 : Int64))), .second, .val (.int (own_pr xx 0))] [(.int (own_pr xx 0))])) (fun t k => XS.iload X3.here hx rfl (hb hby d5_61) rfl k) ?_
    exact OEnds.outI X3 Bd.notSynchronized hx Bd.returns (hb hby d5_63) ⟨own_pr xx 0, rfl, N0, e3, own_prr xx 0, Or.inl c34_5, 0, rfl, fun i hi => absurd hi (Nat.not_lt_zero i)⟩ (by decide) (by decide)
  · -- no
    obtain ⟨y_6, hy_6⟩ := own_nnref (Ha4 _ hin4).2 rfl c34_5
    have hat4 : cl4.slots[((own_pr xx 0)).toNatClampNeg]? = some (.ref y_6) := (Ha4 _ hin4).1.trans (congrArg some hy_6)
    refine OEnds.go (g' := (mkF m 35 #[.val (.ref mp), .val (.long xx), .second, .val (.int (63 : Int32)), .val (.long (xx * (-7046029254386353131 : Int64))), .second, .val (.int (own_pr xx 0))] [(.ref y_6)])) (X3.aaload hx (j := (own_pr xx 0)) (v := (.ref y_6)) (by rw [e3]; exact Ar4.1) (State.isArrayOf_alike hZ.alike Ar4.2.1) rfl Ar4.2.2 hin4 hat4 (g := (mkF m 34 #[.val (.ref mp), .val (.long xx), .second, .val (.int (63 : Int32)), .val (.long (xx * (-7046029254386353131 : Int64))), .second, .val (.int (own_pr xx 0))] [(.int (own_pr xx 0)), (.ref va)])) rfl rfl (hb hby d5_34)) ?_
    refine OEnds.go (g' := (mkF m 38 #[.val (.ref mp), .val (.long xx), .second, .val (.int (63 : Int32)), .val (.long (xx * (-7046029254386353131 : Int64))), .second, .val (.int (own_pr xx 0))] [])) (fun t k => XS.ifnullNo X3.here hx rfl (hb hby d5_35) rfl k) ?_
    refine OEnds.go (g' := (mkF m 39 #[.val (.ref mp), .val (.long xx), .second, .val (.int (63 : Int32)), .val (.long (xx * (-7046029254386353131 : Int64))), .second, .val (.int (own_pr xx 0))] [(.ref mp)])) (fun t k => XS.aloadN X3.here hx rfl (hb hby d5_38) rfl rfl k) ?_
    obtain ⟨T7, X7, e7, st7⟩ := getF X3 hx hZ hown (host := "") (Or.inl (hw _ (List.mem_of_getElem? (i := 10) rfl))) Via.refl e3 Fi (g := (mkF m 39 #[.val (.ref mp), .val (.long xx), .second, .val (.int (63 : Int32)), .val (.long (xx * (-7046029254386353131 : Int64))), .second, .val (.int (own_pr xx 0))] [(.ref mp)])) rfl rfl (hb hby d5_39)
    refine OEnds.go (g' := (mkF m 42 #[.val (.ref mp), .val (.long xx), .second, .val (.int (63 : Int32)), .val (.long (xx * (-7046029254386353131 : Int64))), .second, .val (.int (own_pr xx 0))] [(.ref ia)])) st7 ?_
    refine OEnds.go (g' := (mkF m 44 #[.val (.ref mp), .val (.long xx), .second, .val (.int (63 : Int32)), .val (.long (xx * (-7046029254386353131 : Int64))), .second, .val (.int (own_pr xx 0))] [(.int (own_pr xx 0)), (.ref ia)])) (fun t k => XS.iload X7.here hx rfl (hb hby d5_42) rfl k) ?_
    obtain ⟨cl8, Ar8, qa8, Sa8, Na8, Ha8⟩ := @id _ AI
    have hin8 : ¬ ((own_pr xx 0) < 0 ∨ cl8.slots.size ≤ ((own_pr xx 0)).toNatClampNeg) := inb_of Sa8 (own_prb xx 0)
    have hat8 : cl8.slots[((own_pr xx 0)).toNatClampNeg]? = some (.long (gg (own_pr xx 0))) := (Ha8 _ hin8).1
    refine OEnds.go (g' := (mkF m 45 #[.val (.ref mp), .val (.long xx), .second, .val (.int (63 : Int32)), .val (.long (xx * (-7046029254386353131 : Int64))), .second, .val (.int (own_pr xx 0))] [(.long (gg (own_pr xx 0)))])) (X7.laload hx (j := (own_pr xx 0)) (v := (.long (gg (own_pr xx 0)))) (by rw [e7]; exact Ar8.1) (State.isArrayOf_alike hZ.alike Ar8.2.1) Ar8.2.2 hin8 hat8 (g := (mkF m 44 #[.val (.ref mp), .val (.long xx), .second, .val (.int (63 : Int32)), .val (.long (xx * (-7046029254386353131 : Int64))), .second, .val (.int (own_pr xx 0))] [(.int (own_pr xx 0)), (.ref ia)])) rfl rfl (hb hby d5_44)) ?_
    refine OEnds.go (g' := (mkF m 46 #[.val (.ref mp), .val (.long xx), .second, .val (.int (63 : Int32)), .val (.long (xx * (-7046029254386353131 : Int64))), .second, .val (.int (own_pr xx 0))] [(.long xx), (.long (gg (own_pr xx 0)))])) (fun t k => XS.lloadN X7.here hx rfl (hb hby d5_45) rfl k) ?_
    refine OEnds.go (g' := (mkF m 47 #[.val (.ref mp), .val (.long xx), .second, .val (.int (63 : Int32)), .val (.long (xx * (-7046029254386353131 : Int64))), .second, .val (.int (own_pr xx 0))] [(.int (lcmpW (gg (own_pr xx 0)) xx))])) (fun t k => XS.lcmp X7.here hx rfl (hb hby d5_46) rfl k) ?_
    by_cases c47_9 : (gg (own_pr xx 0)) = xx
    · -- yes
      refine OEnds.go (g' := (mkF m 61 #[.val (.ref mp), .val (.long xx), .second, .val (.int (63 : Int32)), .val (.long (xx * (-7046029254386353131 : Int64))), .second, .val (.int (own_pr xx 0))] [])) (fun t k => XS.ifYes X7.here hx rfl (pc0 := 47) (pc' := 61) rfl (hb hby d5_47) rfl ((if0 _ _).trans (teq ((lw_eq _ _).mpr c47_9)).1) (by decide) (by decide) k) ?_
      refine OEnds.go (g' := (mkF m 63 #[.val (.ref mp), .val (.long xx), .second, .val (.int (63 : Int32)), .val (.long (xx * (-7046029254386353131 : Int64))), .second, .val (.int (own_pr xx 0))] [(.int (own_pr xx 0))])) (fun t k => XS.iload X7.here hx rfl (hb hby d5_61) rfl k) ?_
      exact OEnds.outI X7 Bd.notSynchronized hx Bd.returns (hb hby d5_63) ⟨own_pr xx 0, rfl, N0, e7, own_prr xx 0, Or.inr c47_9, 0, rfl, fun i hi => absurd hi (Nat.not_lt_zero i)⟩ (by decide) (by decide)
    · -- no
      refine OEnds.go (g' := (mkF m 50 #[.val (.ref mp), .val (.long xx), .second, .val (.int (63 : Int32)), .val (.long (xx * (-7046029254386353131 : Int64))), .second, .val (.int (own_pr xx 0))] [])) (fun t k => XS.ifNo X7.here hx rfl (hb hby d5_47) rfl ((if0 _ _).trans (feq (fun q => c47_9 ((lw_eq _ _).mp q))).1) k) ?_
      refine OEnds.go (g' := (mkF m 52 #[.val (.ref mp), .val (.long xx), .second, .val (.int (63 : Int32)), .val (.long (xx * (-7046029254386353131 : Int64))), .second, .val (.int (own_pr xx 0))] [(.int (own_pr xx 0))])) (fun t k => XS.iload X7.here hx rfl (hb hby d5_50) rfl k) ?_
      refine OEnds.go (g' := (mkF m 53 #[.val (.ref mp), .val (.long xx), .second, .val (.int (63 : Int32)), .val (.long (xx * (-7046029254386353131 : Int64))), .second, .val (.int (own_pr xx 0))] [(.int (1 : Int32)), (.int (own_pr xx 0))])) (fun t k => XS.iconst X7.here hx rfl (hb hby d5_52) k) ?_
      refine OEnds.go (g' := (mkF m 54 #[.val (.ref mp), .val (.long xx), .second, .val (.int (63 : Int32)), .val (.long (xx * (-7046029254386353131 : Int64))), .second, .val (.int (own_pr xx 0))] [(.int ((own_pr xx 0) + (1 : Int32)))])) (fun t k => XS.iadd X7.here hx rfl (hb hby d5_53) rfl k) ?_
      refine OEnds.go (g' := (mkF m 55 #[.val (.ref mp), .val (.long xx), .second, .val (.int (63 : Int32)), .val (.long (xx * (-7046029254386353131 : Int64))), .second, .val (.int (own_pr xx 0))] [(.int (63 : Int32)), (.int ((own_pr xx 0) + (1 : Int32)))])) (fun t k => XS.iloadN X7.here hx rfl (hb hby d5_54) rfl k) ?_
      refine OEnds.go (g' := (mkF m 56 #[.val (.ref mp), .val (.long xx), .second, .val (.int (63 : Int32)), .val (.long (xx * (-7046029254386353131 : Int64))), .second, .val (.int (own_pr xx 0))] [(.int (((own_pr xx 0) + (1 : Int32)) &&& (63 : Int32)))])) (fun t k => XS.iand X7.here hx rfl (hb hby d5_55) rfl k) ?_
      rw [show (((own_pr xx 0) + (1 : Int32)) &&& (63 : Int32)) = (own_pr xx 1) from rfl]
      refine OEnds.go (g' := (mkF m 58 #[.val (.ref mp), .val (.long xx), .second, .val (.int (63 : Int32)), .val (.long (xx * (-7046029254386353131 : Int64))), .second, .val (.int (own_pr xx 1))] [])) (fun t k => XS.istore X7.here hx rfl (hb hby d5_56) rfl (l' := #[.val (.ref mp), .val (.long xx), .second, .val (.int (63 : Int32)), .val (.long (xx * (-7046029254386353131 : Int64))), .second, .val (.int (own_pr xx 1))]) rfl k) ?_
      refine OEnds.go (g' := (mkF m 28 #[.val (.ref mp), .val (.long xx), .second, .val (.int (63 : Int32)), .val (.long (xx * (-7046029254386353131 : Int64))), .second, .val (.int (own_pr xx 1))] [])) (fun t k => XS.goto X7.here hx rfl (pc0 := 58) (pc' := 28) rfl (hb hby d5_58) (by decide) (by decide) k) ?_
      refine OEnds.go (g' := (mkF m 29 #[.val (.ref mp), .val (.long xx), .second, .val (.int (63 : Int32)), .val (.long (xx * (-7046029254386353131 : Int64))), .second, .val (.int (own_pr xx 1))] [(.ref mp)])) (fun t k => XS.aloadN X7.here hx rfl (hb hby d5_28) rfl rfl k) ?_
      obtain ⟨T10, X10, e10, st10⟩ := getF X7 hx hZ hown (host := "") (Or.inl (hw _ (List.mem_of_getElem? (i := 14) rfl))) Via.refl e7 Fv (g := (mkF m 29 #[.val (.ref mp), .val (.long xx), .second, .val (.int (63 : Int32)), .val (.long (xx * (-7046029254386353131 : Int64))), .second, .val (.int (own_pr xx 1))] [(.ref mp)])) rfl rfl (hb hby d5_29)
      refine OEnds.go (g' := (mkF m 32 #[.val (.ref mp), .val (.long xx), .second, .val (.int (63 : Int32)), .val (.long (xx * (-7046029254386353131 : Int64))), .second, .val (.int (own_pr xx 1))] [(.ref va)])) st10 ?_
      refine OEnds.go (g' := (mkF m 34 #[.val (.ref mp), .val (.long xx), .second, .val (.int (63 : Int32)), .val (.long (xx * (-7046029254386353131 : Int64))), .second, .val (.int (own_pr xx 1))] [(.int (own_pr xx 1)), (.ref va)])) (fun t k => XS.iload X10.here hx rfl (hb hby d5_32) rfl k) ?_
      obtain ⟨cl11, Ar11, qa11, Sa11, Na11, Ha11⟩ := @id _ AV
      have hin11 : ¬ ((own_pr xx 1) < 0 ∨ cl11.slots.size ≤ ((own_pr xx 1)).toNatClampNeg) := inb_of Sa11 (own_prb xx 1)
      by_cases c34_12 : (ff (own_pr xx 1)) = .null
      · -- yes
        have hat11 : cl11.slots[((own_pr xx 1)).toNatClampNeg]? = some .null := (Ha11 _ hin11).1.trans (congrArg some c34_12)
        refine OEnds.go (g' := (mkF m 35 #[.val (.ref mp), .val (.long xx), .second, .val (.int (63 : Int32)), .val (.long (xx * (-7046029254386353131 : Int64))), .second, .val (.int (own_pr xx 1))] [.null])) (X10.aaload hx (j := (own_pr xx 1)) (v := .null) (by rw [e10]; exact Ar11.1) (State.isArrayOf_alike hZ.alike Ar11.2.1) rfl Ar11.2.2 hin11 hat11 (g := (mkF m 34 #[.val (.ref mp), .val (.long xx), .second, .val (.int (63 : Int32)), .val (.long (xx * (-7046029254386353131 : Int64))), .second, .val (.int (own_pr xx 1))] [(.int (own_pr xx 1)), (.ref va)])) rfl rfl (hb hby d5_34)) ?_
        refine OEnds.go (g' := (mkF m 61 #[.val (.ref mp), .val (.long xx), .second, .val (.int (63 : Int32)), .val (.long (xx * (-7046029254386353131 : Int64))), .second, .val (.int (own_pr xx 1))] [])) (fun t k => XS.ifnullYes X10.here hx rfl (pc0 := 35) (pc' := 61) rfl (hb hby d5_35) rfl (by decide) (by decide) k) ?_
        refine OEnds.go (g' := (mkF m 63 #[.val (.ref mp), .val (.long xx), .second, .val (.int (63 : Int32)), .val (.long (xx * (-7046029254386353131 : Int64))), .second, .val (.int (own_pr xx 1))] [(.int (own_pr xx 1))])) (fun t k => XS.iload X10.here hx rfl (hb hby d5_61) rfl k) ?_
        exact OEnds.outI X10 Bd.notSynchronized hx Bd.returns (hb hby d5_63) ⟨own_pr xx 1, rfl, N0, e10, own_prr xx 1, Or.inl c34_12, 1, rfl, fun i hi => by match i, hi with | 0, _ => exact ⟨c34_5, c47_9⟩⟩ (by decide) (by decide)
      · -- no
        obtain ⟨y_13, hy_13⟩ := own_nnref (Ha11 _ hin11).2 rfl c34_12
        have hat11 : cl11.slots[((own_pr xx 1)).toNatClampNeg]? = some (.ref y_13) := (Ha11 _ hin11).1.trans (congrArg some hy_13)
        refine OEnds.go (g' := (mkF m 35 #[.val (.ref mp), .val (.long xx), .second, .val (.int (63 : Int32)), .val (.long (xx * (-7046029254386353131 : Int64))), .second, .val (.int (own_pr xx 1))] [(.ref y_13)])) (X10.aaload hx (j := (own_pr xx 1)) (v := (.ref y_13)) (by rw [e10]; exact Ar11.1) (State.isArrayOf_alike hZ.alike Ar11.2.1) rfl Ar11.2.2 hin11 hat11 (g := (mkF m 34 #[.val (.ref mp), .val (.long xx), .second, .val (.int (63 : Int32)), .val (.long (xx * (-7046029254386353131 : Int64))), .second, .val (.int (own_pr xx 1))] [(.int (own_pr xx 1)), (.ref va)])) rfl rfl (hb hby d5_34)) ?_
        refine OEnds.go (g' := (mkF m 38 #[.val (.ref mp), .val (.long xx), .second, .val (.int (63 : Int32)), .val (.long (xx * (-7046029254386353131 : Int64))), .second, .val (.int (own_pr xx 1))] [])) (fun t k => XS.ifnullNo X10.here hx rfl (hb hby d5_35) rfl k) ?_
        refine OEnds.go (g' := (mkF m 39 #[.val (.ref mp), .val (.long xx), .second, .val (.int (63 : Int32)), .val (.long (xx * (-7046029254386353131 : Int64))), .second, .val (.int (own_pr xx 1))] [(.ref mp)])) (fun t k => XS.aloadN X10.here hx rfl (hb hby d5_38) rfl rfl k) ?_
        obtain ⟨T14, X14, e14, st14⟩ := getF X10 hx hZ hown (host := "") (Or.inl (hw _ (List.mem_of_getElem? (i := 10) rfl))) Via.refl e10 Fi (g := (mkF m 39 #[.val (.ref mp), .val (.long xx), .second, .val (.int (63 : Int32)), .val (.long (xx * (-7046029254386353131 : Int64))), .second, .val (.int (own_pr xx 1))] [(.ref mp)])) rfl rfl (hb hby d5_39)
        refine OEnds.go (g' := (mkF m 42 #[.val (.ref mp), .val (.long xx), .second, .val (.int (63 : Int32)), .val (.long (xx * (-7046029254386353131 : Int64))), .second, .val (.int (own_pr xx 1))] [(.ref ia)])) st14 ?_
        refine OEnds.go (g' := (mkF m 44 #[.val (.ref mp), .val (.long xx), .second, .val (.int (63 : Int32)), .val (.long (xx * (-7046029254386353131 : Int64))), .second, .val (.int (own_pr xx 1))] [(.int (own_pr xx 1)), (.ref ia)])) (fun t k => XS.iload X14.here hx rfl (hb hby d5_42) rfl k) ?_
        obtain ⟨cl15, Ar15, qa15, Sa15, Na15, Ha15⟩ := @id _ AI
        have hin15 : ¬ ((own_pr xx 1) < 0 ∨ cl15.slots.size ≤ ((own_pr xx 1)).toNatClampNeg) := inb_of Sa15 (own_prb xx 1)
        have hat15 : cl15.slots[((own_pr xx 1)).toNatClampNeg]? = some (.long (gg (own_pr xx 1))) := (Ha15 _ hin15).1
        refine OEnds.go (g' := (mkF m 45 #[.val (.ref mp), .val (.long xx), .second, .val (.int (63 : Int32)), .val (.long (xx * (-7046029254386353131 : Int64))), .second, .val (.int (own_pr xx 1))] [(.long (gg (own_pr xx 1)))])) (X14.laload hx (j := (own_pr xx 1)) (v := (.long (gg (own_pr xx 1)))) (by rw [e14]; exact Ar15.1) (State.isArrayOf_alike hZ.alike Ar15.2.1) Ar15.2.2 hin15 hat15 (g := (mkF m 44 #[.val (.ref mp), .val (.long xx), .second, .val (.int (63 : Int32)), .val (.long (xx * (-7046029254386353131 : Int64))), .second, .val (.int (own_pr xx 1))] [(.int (own_pr xx 1)), (.ref ia)])) rfl rfl (hb hby d5_44)) ?_
        refine OEnds.go (g' := (mkF m 46 #[.val (.ref mp), .val (.long xx), .second, .val (.int (63 : Int32)), .val (.long (xx * (-7046029254386353131 : Int64))), .second, .val (.int (own_pr xx 1))] [(.long xx), (.long (gg (own_pr xx 1)))])) (fun t k => XS.lloadN X14.here hx rfl (hb hby d5_45) rfl k) ?_
        refine OEnds.go (g' := (mkF m 47 #[.val (.ref mp), .val (.long xx), .second, .val (.int (63 : Int32)), .val (.long (xx * (-7046029254386353131 : Int64))), .second, .val (.int (own_pr xx 1))] [(.int (lcmpW (gg (own_pr xx 1)) xx))])) (fun t k => XS.lcmp X14.here hx rfl (hb hby d5_46) rfl k) ?_
        by_cases c47_16 : (gg (own_pr xx 1)) = xx
        · -- yes
          refine OEnds.go (g' := (mkF m 61 #[.val (.ref mp), .val (.long xx), .second, .val (.int (63 : Int32)), .val (.long (xx * (-7046029254386353131 : Int64))), .second, .val (.int (own_pr xx 1))] [])) (fun t k => XS.ifYes X14.here hx rfl (pc0 := 47) (pc' := 61) rfl (hb hby d5_47) rfl ((if0 _ _).trans (teq ((lw_eq _ _).mpr c47_16)).1) (by decide) (by decide) k) ?_
          refine OEnds.go (g' := (mkF m 63 #[.val (.ref mp), .val (.long xx), .second, .val (.int (63 : Int32)), .val (.long (xx * (-7046029254386353131 : Int64))), .second, .val (.int (own_pr xx 1))] [(.int (own_pr xx 1))])) (fun t k => XS.iload X14.here hx rfl (hb hby d5_61) rfl k) ?_
          exact OEnds.outI X14 Bd.notSynchronized hx Bd.returns (hb hby d5_63) ⟨own_pr xx 1, rfl, N0, e14, own_prr xx 1, Or.inr c47_16, 1, rfl, fun i hi => by match i, hi with | 0, _ => exact ⟨c34_5, c47_9⟩⟩ (by decide) (by decide)
        · -- no
          refine OEnds.go (g' := (mkF m 50 #[.val (.ref mp), .val (.long xx), .second, .val (.int (63 : Int32)), .val (.long (xx * (-7046029254386353131 : Int64))), .second, .val (.int (own_pr xx 1))] [])) (fun t k => XS.ifNo X14.here hx rfl (hb hby d5_47) rfl ((if0 _ _).trans (feq (fun q => c47_16 ((lw_eq _ _).mp q))).1) k) ?_
          refine OEnds.go (g' := (mkF m 52 #[.val (.ref mp), .val (.long xx), .second, .val (.int (63 : Int32)), .val (.long (xx * (-7046029254386353131 : Int64))), .second, .val (.int (own_pr xx 1))] [(.int (own_pr xx 1))])) (fun t k => XS.iload X14.here hx rfl (hb hby d5_50) rfl k) ?_
          refine OEnds.go (g' := (mkF m 53 #[.val (.ref mp), .val (.long xx), .second, .val (.int (63 : Int32)), .val (.long (xx * (-7046029254386353131 : Int64))), .second, .val (.int (own_pr xx 1))] [(.int (1 : Int32)), (.int (own_pr xx 1))])) (fun t k => XS.iconst X14.here hx rfl (hb hby d5_52) k) ?_
          refine OEnds.go (g' := (mkF m 54 #[.val (.ref mp), .val (.long xx), .second, .val (.int (63 : Int32)), .val (.long (xx * (-7046029254386353131 : Int64))), .second, .val (.int (own_pr xx 1))] [(.int ((own_pr xx 1) + (1 : Int32)))])) (fun t k => XS.iadd X14.here hx rfl (hb hby d5_53) rfl k) ?_
          refine OEnds.go (g' := (mkF m 55 #[.val (.ref mp), .val (.long xx), .second, .val (.int (63 : Int32)), .val (.long (xx * (-7046029254386353131 : Int64))), .second, .val (.int (own_pr xx 1))] [(.int (63 : Int32)), (.int ((own_pr xx 1) + (1 : Int32)))])) (fun t k => XS.iloadN X14.here hx rfl (hb hby d5_54) rfl k) ?_
          refine OEnds.go (g' := (mkF m 56 #[.val (.ref mp), .val (.long xx), .second, .val (.int (63 : Int32)), .val (.long (xx * (-7046029254386353131 : Int64))), .second, .val (.int (own_pr xx 1))] [(.int (((own_pr xx 1) + (1 : Int32)) &&& (63 : Int32)))])) (fun t k => XS.iand X14.here hx rfl (hb hby d5_55) rfl k) ?_
          rw [show (((own_pr xx 1) + (1 : Int32)) &&& (63 : Int32)) = (own_pr xx 2) from rfl]
          refine OEnds.go (g' := (mkF m 58 #[.val (.ref mp), .val (.long xx), .second, .val (.int (63 : Int32)), .val (.long (xx * (-7046029254386353131 : Int64))), .second, .val (.int (own_pr xx 2))] [])) (fun t k => XS.istore X14.here hx rfl (hb hby d5_56) rfl (l' := #[.val (.ref mp), .val (.long xx), .second, .val (.int (63 : Int32)), .val (.long (xx * (-7046029254386353131 : Int64))), .second, .val (.int (own_pr xx 2))]) rfl k) ?_
          refine OEnds.go (g' := (mkF m 28 #[.val (.ref mp), .val (.long xx), .second, .val (.int (63 : Int32)), .val (.long (xx * (-7046029254386353131 : Int64))), .second, .val (.int (own_pr xx 2))] [])) (fun t k => XS.goto X14.here hx rfl (pc0 := 58) (pc' := 28) rfl (hb hby d5_58) (by decide) (by decide) k) ?_
          refine OEnds.go (g' := (mkF m 29 #[.val (.ref mp), .val (.long xx), .second, .val (.int (63 : Int32)), .val (.long (xx * (-7046029254386353131 : Int64))), .second, .val (.int (own_pr xx 2))] [(.ref mp)])) (fun t k => XS.aloadN X14.here hx rfl (hb hby d5_28) rfl rfl k) ?_
          obtain ⟨T17, X17, e17, st17⟩ := getF X14 hx hZ hown (host := "") (Or.inl (hw _ (List.mem_of_getElem? (i := 14) rfl))) Via.refl e14 Fv (g := (mkF m 29 #[.val (.ref mp), .val (.long xx), .second, .val (.int (63 : Int32)), .val (.long (xx * (-7046029254386353131 : Int64))), .second, .val (.int (own_pr xx 2))] [(.ref mp)])) rfl rfl (hb hby d5_29)
          refine OEnds.go (g' := (mkF m 32 #[.val (.ref mp), .val (.long xx), .second, .val (.int (63 : Int32)), .val (.long (xx * (-7046029254386353131 : Int64))), .second, .val (.int (own_pr xx 2))] [(.ref va)])) st17 ?_
          refine OEnds.go (g' := (mkF m 34 #[.val (.ref mp), .val (.long xx), .second, .val (.int (63 : Int32)), .val (.long (xx * (-7046029254386353131 : Int64))), .second, .val (.int (own_pr xx 2))] [(.int (own_pr xx 2)), (.ref va)])) (fun t k => XS.iload X17.here hx rfl (hb hby d5_32) rfl k) ?_
          obtain ⟨cl18, Ar18, qa18, Sa18, Na18, Ha18⟩ := @id _ AV
          have hin18 : ¬ ((own_pr xx 2) < 0 ∨ cl18.slots.size ≤ ((own_pr xx 2)).toNatClampNeg) := inb_of Sa18 (own_prb xx 2)
          have hat18 : cl18.slots[((own_pr xx 2)).toNatClampNeg]? = some .null := (Ha18 _ hin18).1.trans (congrArg some (h3 c34_5 c34_12))
          refine OEnds.go (g' := (mkF m 35 #[.val (.ref mp), .val (.long xx), .second, .val (.int (63 : Int32)), .val (.long (xx * (-7046029254386353131 : Int64))), .second, .val (.int (own_pr xx 2))] [.null])) (X17.aaload hx (j := (own_pr xx 2)) (v := .null) (by rw [e17]; exact Ar18.1) (State.isArrayOf_alike hZ.alike Ar18.2.1) rfl Ar18.2.2 hin18 hat18 (g := (mkF m 34 #[.val (.ref mp), .val (.long xx), .second, .val (.int (63 : Int32)), .val (.long (xx * (-7046029254386353131 : Int64))), .second, .val (.int (own_pr xx 2))] [(.int (own_pr xx 2)), (.ref va)])) rfl rfl (hb hby d5_34)) ?_
          refine OEnds.go (g' := (mkF m 61 #[.val (.ref mp), .val (.long xx), .second, .val (.int (63 : Int32)), .val (.long (xx * (-7046029254386353131 : Int64))), .second, .val (.int (own_pr xx 2))] [])) (fun t k => XS.ifnullYes X17.here hx rfl (pc0 := 35) (pc' := 61) rfl (hb hby d5_35) rfl (by decide) (by decide) k) ?_
          refine OEnds.go (g' := (mkF m 63 #[.val (.ref mp), .val (.long xx), .second, .val (.int (63 : Int32)), .val (.long (xx * (-7046029254386353131 : Int64))), .second, .val (.int (own_pr xx 2))] [(.int (own_pr xx 2))])) (fun t k => XS.iload X17.here hx rfl (hb hby d5_61) rfl k) ?_
          exact OEnds.outI X17 Bd.notSynchronized hx Bd.returns (hb hby d5_63) ⟨own_pr xx 2, rfl, N0, e17, own_prr xx 2, Or.inl (h3 c34_5 c34_12), 2, rfl, fun i hi => by match i, hi with | 0, _ => exact ⟨c34_5, c47_9⟩ | 1, _ => exact ⟨c34_12, c47_16⟩⟩ (by decide) (by decide)
theorem ef_rmP0 (m : MethodId) (x0 : Addr) (x1 : Int64) (x2 : Addr) : entryFrame m #[(.ref x0), (.long x1), (.ref x2)] 5 = mkF m 0 #[.val (.ref x0), .val (.long x1), .second, .val (.ref x2), .unset] [] := by first | (simp [entryFrame, mkF, argsToLocals, Value.category]; done) | rfl
def Q_rmP0 (Z : State) (mp : Addr) (xx : Int64) (yv : Addr) (ia : Addr) (va : Addr) (ki : ClassId) (kv : ClassId) (ff : Int32 → Value) (gg : Int32 → Int64) (h0 : Heap) (n0 : Nat) (v : Option Value) (h : Heap) (L : List Loc) : Prop := v = none ∧ Fr n0 L ∧ Keep h0 h [mp, ia, va] ∧ Exa Z h mp "com/example/slimheap/slimheap/hprof/IdMap" ∧ Fld Z h mp "com/example/slimheap/slimheap/hprof/IdMap" "ids" "[J" (.ref ia) ∧ Fld Z h mp "com/example/slimheap/slimheap/hprof/IdMap" "values" "[Ljava/lang/Object;" (.ref va) ∧ ∃ j, own_Fd ff gg xx j ∧ own_Av Z h va kv (.object "java/lang/Object") (64 : Int32) (own_u ff j (.ref yv)) ∧ ((ff j = .null ∧ Fld Z h mp "com/example/slimheap/slimheap/hprof/IdMap" "size" "I" (.int (1 : Int32)) ∧ own_Av Z h ia ki .long (64 : Int32) (fun i => .long ((own_u gg j xx) i))) ∨ (¬ ff j = .null ∧ Fld Z h mp "com/example/slimheap/slimheap/hprof/IdMap" "size" "I" (.int (0 : Int32)) ∧ own_Av Z h ia ki .long (64 : Int32) (fun i => .long (gg i))))
set_option maxRecDepth 65536 in
set_option maxHeartbeats 40000000 in
theorem rmP0 (l : Launch) (Z : State) (a0 : Array Value) (hw : ∀ d ∈ tables_1, d.before a0 Z = true) (ws : List Jvm.Cond) (mp : Addr) (xx : Int64) (yv : Addr) (ia : Addr) (va : Addr) (ki : ClassId) (kv : ClassId) (ff : Int32 → Value) (gg : Int32 → Int64) (h0 : Heap) (n0 : Nat) (Z0 : n0 ≤ h0.size) (E0 : Exa Z h0 mp "com/example/slimheap/slimheap/hprof/IdMap") (Fi : Fld Z h0 mp "com/example/slimheap/slimheap/hprof/IdMap" "ids" "[J" (.ref ia)) (Fv : Fld Z h0 mp "com/example/slimheap/slimheap/hprof/IdMap" "values" "[Ljava/lang/Object;" (.ref va)) (AI : own_Av Z h0 ia ki .long (64 : Int32) (fun i => .long (gg i))) (AV : own_Av Z h0 va kv (.object "java/lang/Object") (64 : Int32) ff) (h3 : ¬ ff (own_pr xx 0) = .null → ¬ ff (own_pr xx 1) = .null → ff (own_pr xx 2) = .null) (Fs : Fld Z h0 mp "com/example/slimheap/slimheap/hprof/IdMap" "size" "I" (.int (0 : Int32))) (OV : Ovr Z kv "java/lang/Object") (EY : Exa Z h0 yv "java/lang/Integer") (g_mp : n0 ≤ mp) (g_ia : n0 ≤ ia) (g_va : n0 ≤ va) (ne1 : mp ≠ ia) (ne2 : mp ≠ va) (ne3 : ia ≠ va) :
    MetFree l (⟨"com/example/slimheap/slimheap/hprof/IdMap", "put", "(JLjava/lang/Object;)V"⟩ : MethodName) (head1 (Jvm.Cond.code (⟨"com/example/slimheap/slimheap/hprof/IdMap", "put", "(JLjava/lang/Object;)V"⟩ : MethodName) prog_31_method_3_code 5 none :: ws) ({ frames := 1, cells := 0, slots := 0, locals := 30 } : Room)) (fun aa_ U => aa_ = #[(.ref mp), (.long xx), (.ref yv)] ∧ Z.Warmed39 U.vm ∧ U.heap = h0) (fun _ _ _ _ _ => True) (fun _ U o U' => ∃ v L, o = .returned v ∧ Q_rmP0 Z mp xx yv ia va ki kv ff gg h0 n0 v U'.heap L ∧ FrameEnd U o U' L ({ frames := 1, cells := 0, slots := 0, locals := 30 } : Room).cells ({ frames := 1, cells := 0, slots := 0, locals := 30 } : Room).slots) := by
  refine MetFree.of_bodySF (plainFor_of_name pn_0) hisR ?_
  intro p e s m args below meth c s₁ Bd hml0 hP hK
  obtain ⟨rfl, hZ, hh⟩ := hP
  have hx := Bd.exec
  have hby := Bd.bytes
  have hml : c.maxLocals = 5 := hml0
  have hown : s.vm.findClass "com/example/slimheap/slimheap/hprof/IdMap" = some m.cls := findClass_of_methodNamed Bd.named
  have hnm := (name_of_methodNamed Bd.named Bd.method).1
  have X0 : Stand p l e ({ frames := 1, cells := 0, slots := 0, locals := 30 } : Room) s m #[(.ref mp), (.long xx), (.ref yv)] below meth c s₁ [] 0 0 := Stand.of_body Bd
  have e0 : s₁.heap = h0 := by rw [← hh, Bd.state]; rfl
  have N0 := Fr.nil n0
  show OEnds p e below (OEndP s (Q_rmP0 Z mp xx yv ia va ki kv ff gg h0 n0) ({ frames := 1, cells := 0, slots := 0, locals := 30 } : Room).cells ({ frames := 1, cells := 0, slots := 0, locals := 30 } : Room).slots) s₁ (entryFrame m #[(.ref mp), (.long xx), (.ref yv)] 5)
  rw [ef_rmP0 m mp xx yv]
  refine OEnds.go (g' := (mkF m 1 #[.val (.ref mp), .val (.long xx), .second, .val (.ref yv), .unset] [(.ref yv)])) (fun t k => XS.aloadN X0.here hx rfl (hb hby d4_0) rfl rfl k) ?_
  refine OEnds.go (g' := (mkF m 14 #[.val (.ref mp), .val (.long xx), .second, .val (.ref yv), .unset] [])) (fun t k => XS.ifnonnullYes X0.here hx rfl (pc0 := 1) (pc' := 14) rfl (hb hby d4_1) rfl (by decide) (by decide) k) ?_
  refine OEnds.go (g' := (mkF m 15 #[.val (.ref mp), .val (.long xx), .second, .val (.ref yv), .unset] [(.ref mp)])) (fun t k => XS.aloadN X0.here hx rfl (hb hby d4_14) rfl rfl k) ?_
  refine OEnds.go (g' := (mkF m 16 #[.val (.ref mp), .val (.long xx), .second, .val (.ref yv), .unset] [(.long xx), (.ref mp)])) (fun t k => XS.lloadN X0.here hx rfl (hb hby d4_15) rfl k) ?_
  obtain ⟨cq1, q1, q1'⟩ := E0.cell
  obtain ⟨_, _, ⟨T1, L1, k1, n1⟩, -, X1, ⟨Lc1, hQ1, l1, y1, z1⟩, st1⟩ := X0.privateBack hx (y := (⟨"com/example/slimheap/slimheap/hprof/IdMap", "slotOf", "(J)I"⟩ : MethodName)) hown (mvT hZ (hw _ (List.mem_of_getElem? (i := 28) rfl))) (mvT hZ (hw _ (List.mem_of_getElem? (i := 29) rfl))) (mvT hZ (own_selp (by decide) (hw _ (List.mem_of_getElem? (i := 1) rfl)) (hw _ (List.mem_of_getElem? (i := 30) rfl)) (hw _ (List.mem_of_getElem? (i := 29) rfl)))) (Cond.privateMethod_at (mvP hZ (hw _ (List.mem_of_getElem? (i := 30) rfl)) (args := #[]))) (mvT hZ (hw _ (List.mem_of_getElem? (i := 31) rfl))) (by decide) (backOf (W := 0) (rm5 l Z a0 hw [] mp xx ia va ki kv ff gg h0 n0 Z0 Fi Fv AI AV h3) hZ (hw _ (List.mem_of_getElem? (i := 31) rfl)) (hw _ (List.mem_of_getElem? (i := 2) rfl)) (by decide) (by decide)) (g := (mkF m 16 #[.val (.ref mp), .val (.long xx), .second, .val (.ref yv), .unset] [(.long xx), (.ref mp)])) rfl (by rw [hml]; rfl) (Steps.refl _) (a := mp) (by rw [e0]; exact q1) q1' (argsL := [(.long xx)]) (rest := []) (lenOf pd_0 rfl) rfl (by show 2 * 0 + _ ≤ _; exact Nat.le_of_eq rfl) (hb hby d4_16) (fun _ _ => ⟨rfl, e0, (by decide : 0 + 0 ≤ _), (by decide : 0 + 0 ≤ _)⟩)
  dsimp only [Pt.U, Pt.locs, Pt.cells, Pt.slots] at X1 l1 y1 z1 st1 hQ1
  subst l1 y1 z1
  obtain ⟨j1, rfl, N1q, e1, Fd1⟩ := hQ1
  have N1 := Fr.app N0 N1q
  refine OEnds.tr (g' := (mkF m 19 #[.val (.ref mp), .val (.long xx), .second, .val (.ref yv), .unset] [(.int j1)])) st1 ?_
  refine OEnds.go (g' := (mkF m 21 #[.val (.ref mp), .val (.long xx), .second, .val (.ref yv), .val (.int j1)] [])) (fun t k => XS.istore X1.here hx rfl (hb hby d4_19) rfl (l' := #[.val (.ref mp), .val (.long xx), .second, .val (.ref yv), .val (.int j1)]) rfl k) ?_
  refine OEnds.go (g' := (mkF m 22 #[.val (.ref mp), .val (.long xx), .second, .val (.ref yv), .val (.int j1)] [(.ref mp)])) (fun t k => XS.aloadN X1.here hx rfl (hb hby d4_21) rfl rfl k) ?_
  obtain ⟨T2, X2, e2, st2⟩ := getF X1 hx hZ hown (host := "") (Or.inl (hw _ (List.mem_of_getElem? (i := 14) rfl))) Via.refl e1 Fv (g := (mkF m 22 #[.val (.ref mp), .val (.long xx), .second, .val (.ref yv), .val (.int j1)] [(.ref mp)])) rfl rfl (hb hby d4_22)
  refine OEnds.go (g' := (mkF m 25 #[.val (.ref mp), .val (.long xx), .second, .val (.ref yv), .val (.int j1)] [(.ref va)])) st2 ?_
  refine OEnds.go (g' := (mkF m 27 #[.val (.ref mp), .val (.long xx), .second, .val (.ref yv), .val (.int j1)] [(.int j1), (.ref va)])) (fun t k => XS.iload X2.here hx rfl (hb hby d4_25) rfl k) ?_
  obtain ⟨cl3, Ar3, qa3, Sa3, Na3, Ha3⟩ := @id _ AV
  have hin3 : ¬ (j1 < 0 ∨ cl3.slots.size ≤ (j1).toNatClampNeg) := inb_of Sa3 (own_Fdb Fd1)
  by_cases c27_4 : (ff j1) = .null
  · -- yes
    have hat3 : cl3.slots[(j1).toNatClampNeg]? = some .null := (Ha3 _ hin3).1.trans (congrArg some c27_4)
    refine OEnds.go (g' := (mkF m 28 #[.val (.ref mp), .val (.long xx), .second, .val (.ref yv), .val (.int j1)] [.null])) (X2.aaload hx (j := j1) (v := .null) (by rw [e2]; exact Ar3.1) (State.isArrayOf_alike hZ.alike Ar3.2.1) rfl Ar3.2.2 hin3 hat3 (g := (mkF m 27 #[.val (.ref mp), .val (.long xx), .second, .val (.ref yv), .val (.int j1)] [(.int j1), (.ref va)])) rfl rfl (hb hby d4_27)) ?_
    refine OEnds.go (g' := (mkF m 31 #[.val (.ref mp), .val (.long xx), .second, .val (.ref yv), .val (.int j1)] [])) (fun t k => XS.ifnonnullNo X2.here hx rfl (hb hby d4_28) rfl k) ?_
    refine OEnds.go (g' := (mkF m 32 #[.val (.ref mp), .val (.long xx), .second, .val (.ref yv), .val (.int j1)] [(.ref mp)])) (fun t k => XS.aloadN X2.here hx rfl (hb hby d4_31) rfl rfl k) ?_
    obtain ⟨T5, X5, e5, st5⟩ := getF X2 hx hZ hown (host := "") (Or.inl (hw _ (List.mem_of_getElem? (i := 10) rfl))) Via.refl e2 Fi (g := (mkF m 32 #[.val (.ref mp), .val (.long xx), .second, .val (.ref yv), .val (.int j1)] [(.ref mp)])) rfl rfl (hb hby d4_32)
    refine OEnds.go (g' := (mkF m 35 #[.val (.ref mp), .val (.long xx), .second, .val (.ref yv), .val (.int j1)] [(.ref ia)])) st5 ?_
    refine OEnds.go (g' := (mkF m 37 #[.val (.ref mp), .val (.long xx), .second, .val (.ref yv), .val (.int j1)] [(.int j1), (.ref ia)])) (fun t k => XS.iload X5.here hx rfl (hb hby d4_35) rfl k) ?_
    refine OEnds.go (g' := (mkF m 38 #[.val (.ref mp), .val (.long xx), .second, .val (.ref yv), .val (.int j1)] [(.long xx), (.int j1), (.ref ia)])) (fun t k => XS.lloadN X5.here hx rfl (hb hby d4_37) rfl k) ?_
    obtain ⟨cl6, Ar6, qa6, Sa6, Na6, Ha6⟩ := @id _ AI
    have hin6 : ¬ (j1 < 0 ∨ cl6.slots.size ≤ (j1).toNatClampNeg) := inb_of Sa6 (own_Fdb Fd1)
    obtain ⟨T7, h7, X7, e7, W7, st7⟩ := stJ X5 hx hZ e5 Ar6 (j := j1) hin6 (g := (mkF m 38 #[.val (.ref mp), .val (.long xx), .second, .val (.ref yv), .val (.int j1)] [(.long xx), (.int j1), (.ref ia)])) rfl rfl (hb hby d4_38)
    have N7 := Fr.snoc X7 N1 g_ia
    have K7 : Keep h0 h7 [mp, ia, va] := (Keep.refl h0 [mp, ia, va]).wr W7 (Or.inl (by simp))
    have A7_ia : own_Av Z h7 ia ki .long (64 : Int32) (fun i => .long ((own_u gg j1 xx) i)) := own_Av.setJ Ar6 qa6 Sa6 Na6 Ha6 W7 hin6
    refine OEnds.go (g' := (mkF m 39 #[.val (.ref mp), .val (.long xx), .second, .val (.ref yv), .val (.int j1)] [])) st7 ?_
    refine OEnds.go (g' := (mkF m 40 #[.val (.ref mp), .val (.long xx), .second, .val (.ref yv), .val (.int j1)] [(.ref mp)])) (fun t k => XS.aloadN X7.here hx rfl (hb hby d4_39) rfl rfl k) ?_
    refine OEnds.go (g' := (mkF m 41 #[.val (.ref mp), .val (.long xx), .second, .val (.ref yv), .val (.int j1)] [(.ref mp), (.ref mp)])) (fun t k => XS.dup X7.here hx rfl (hb hby d4_40) rfl rfl k) ?_
    obtain ⟨T8, X8, e8, st8⟩ := getF X7 hx hZ hown (host := "") (Or.inl (hw _ (List.mem_of_getElem? (i := 33) rfl))) Via.refl e7 (Fs.other W7 (Or.inl ne1)) (g := (mkF m 41 #[.val (.ref mp), .val (.long xx), .second, .val (.ref yv), .val (.int j1)] [(.ref mp), (.ref mp)])) rfl rfl (hb hby d4_41)
    refine OEnds.go (g' := (mkF m 44 #[.val (.ref mp), .val (.long xx), .second, .val (.ref yv), .val (.int j1)] [(.int (0 : Int32)), (.ref mp)])) st8 ?_
    refine OEnds.go (g' := (mkF m 45 #[.val (.ref mp), .val (.long xx), .second, .val (.ref yv), .val (.int j1)] [(.int (1 : Int32)), (.int (0 : Int32)), (.ref mp)])) (fun t k => XS.iconst X8.here hx rfl (hb hby d4_44) k) ?_
    refine OEnds.go (g' := (mkF m 46 #[.val (.ref mp), .val (.long xx), .second, .val (.ref yv), .val (.int j1)] [(.int ((0 : Int32) + (1 : Int32))), (.ref mp)])) (fun t k => XS.iadd X8.here hx rfl (hb hby d4_45) rfl k) ?_
    rw [show ((0 : Int32) + (1 : Int32)) = (1 : Int32) from by decide]
    obtain ⟨T9, h9, X9, e9, W9, st9⟩ := putF X8 hx hZ hown (host := "") (Or.inl (hw _ (List.mem_of_getElem? (i := 33) rfl))) Via.refl e8 (Fs.other W7 (Or.inl ne1)) (E0.wr W7) (Or.inl (hw _ (List.mem_of_getElem? (i := 34) rfl))) (hw _ (List.mem_of_getElem? (i := 1) rfl)) (ty := .int) (by decide) rfl rfl (g := (mkF m 46 #[.val (.ref mp), .val (.long xx), .second, .val (.ref yv), .val (.int j1)] [(.int (1 : Int32)), (.ref mp)])) rfl rfl (hb hby d4_46)
    have N9 := Fr.snoc X9 N7 g_mp
    have K9 : Keep h0 h9 [mp, ia, va] := K7.wr W9 (Or.inl (by simp))
    have Fw9 := (Fs.other W7 (Or.inl ne1)).same W9
    refine OEnds.go (g' := (mkF m 49 #[.val (.ref mp), .val (.long xx), .second, .val (.ref yv), .val (.int j1)] [])) st9 ?_
    refine OEnds.go (g' := (mkF m 50 #[.val (.ref mp), .val (.long xx), .second, .val (.ref yv), .val (.int j1)] [(.ref mp)])) (fun t k => XS.aloadN X9.here hx rfl (hb hby d4_49) rfl rfl k) ?_
    obtain ⟨T10, X10, e10, st10⟩ := getF X9 hx hZ hown (host := "") (Or.inl (hw _ (List.mem_of_getElem? (i := 14) rfl))) Via.refl e9 ((Fv.other W7 (Or.inl ne1)).other W9 (Or.inr (slot_ne (Or.inl (hw _ (List.mem_of_getElem? (i := 15) rfl))) (Or.inl (hw _ (List.mem_of_getElem? (i := 34) rfl))) (by decide) (t := (.array (.object "java/lang/Object"))) (t' := .int) (by decide) (by decide)))) (g := (mkF m 50 #[.val (.ref mp), .val (.long xx), .second, .val (.ref yv), .val (.int j1)] [(.ref mp)])) rfl rfl (hb hby d4_50)
    refine OEnds.go (g' := (mkF m 53 #[.val (.ref mp), .val (.long xx), .second, .val (.ref yv), .val (.int j1)] [(.ref va)])) st10 ?_
    refine OEnds.go (g' := (mkF m 55 #[.val (.ref mp), .val (.long xx), .second, .val (.ref yv), .val (.int j1)] [(.int j1), (.ref va)])) (fun t k => XS.iload X10.here hx rfl (hb hby d4_53) rfl k) ?_
    refine OEnds.go (g' := (mkF m 56 #[.val (.ref mp), .val (.long xx), .second, .val (.ref yv), .val (.int j1)] [(.ref yv), (.int j1), (.ref va)])) (fun t k => XS.aloadN X10.here hx rfl (hb hby d4_55) rfl rfl k) ?_
    obtain ⟨cl11, Ar11, qa11, Sa11, Na11, Ha11⟩ := @id _ ((AV.other W7 (Ne.symm ne3)).other W9 (Ne.symm ne2))
    have hin11 : ¬ (j1 < 0 ∨ cl11.slots.size ≤ (j1).toNatClampNeg) := inb_of Sa11 (own_Fdb Fd1)
    obtain ⟨T12, h12, X12, e12, W12, st12⟩ := stR X10 hx hZ e10 Ar11 (j := j1) hin11 rfl (Sto.ofV Ar11 qa11 OV (Ins.of_exa ((EY.wr W7).wr W9) (hw _ (List.mem_of_getElem? (i := 35) rfl)))) (g := (mkF m 56 #[.val (.ref mp), .val (.long xx), .second, .val (.ref yv), .val (.int j1)] [(.ref yv), (.int j1), (.ref va)])) rfl rfl (hb hby d4_56)
    have N12 := Fr.snoc X12 N9 g_va
    have K12 : Keep h0 h12 [mp, ia, va] := K9.wr W12 (Or.inl (by simp))
    have A12_va : own_Av Z h12 va kv (.object "java/lang/Object") (64 : Int32) (own_u ff j1 (.ref yv)) := own_Av.set Ar11 qa11 Sa11 Na11 Ha11 rfl W12 hin11
    refine OEnds.go (g' := (mkF m 57 #[.val (.ref mp), .val (.long xx), .second, .val (.ref yv), .val (.int j1)] [])) st12 ?_
    refine OEnds.go (g' := (mkF m 58 #[.val (.ref mp), .val (.long xx), .second, .val (.ref yv), .val (.int j1)] [(.int (2 : Int32))])) (fun t k => XS.iconst X12.here hx rfl (hb hby d4_57) k) ?_
    refine OEnds.go (g' := (mkF m 59 #[.val (.ref mp), .val (.long xx), .second, .val (.ref yv), .val (.int j1)] [(.ref mp), (.int (2 : Int32))])) (fun t k => XS.aloadN X12.here hx rfl (hb hby d4_58) rfl rfl k) ?_
    obtain ⟨T13, X13, e13, st13⟩ := getF X12 hx hZ hown (host := "") (Or.inl (hw _ (List.mem_of_getElem? (i := 33) rfl))) Via.refl e12 (Fw9.other W12 (Or.inl ne2)) (g := (mkF m 59 #[.val (.ref mp), .val (.long xx), .second, .val (.ref yv), .val (.int j1)] [(.ref mp), (.int (2 : Int32))])) rfl rfl (hb hby d4_59)
    refine OEnds.go (g' := (mkF m 62 #[.val (.ref mp), .val (.long xx), .second, .val (.ref yv), .val (.int j1)] [(.int (1 : Int32)), (.int (2 : Int32))])) st13 ?_
    refine OEnds.go (g' := (mkF m 63 #[.val (.ref mp), .val (.long xx), .second, .val (.ref yv), .val (.int j1)] [(.int ((2 : Int32) * (1 : Int32)))])) (fun t k => XS.imul X13.here hx rfl (hb hby d4_62) rfl k) ?_
    rw [show ((2 : Int32) * (1 : Int32)) = (2 : Int32) from by decide]
    refine OEnds.go (g' := (mkF m 64 #[.val (.ref mp), .val (.long xx), .second, .val (.ref yv), .val (.int j1)] [(.ref mp), (.int (2 : Int32))])) (fun t k => XS.aloadN X13.here hx rfl (hb hby d4_63) rfl rfl k) ?_
    obtain ⟨T14, X14, e14, st14⟩ := getF X13 hx hZ hown (host := "") (Or.inl (hw _ (List.mem_of_getElem? (i := 10) rfl))) Via.refl e13 (((Fi.other W7 (Or.inl ne1)).other W9 (Or.inr (slot_ne (Or.inl (hw _ (List.mem_of_getElem? (i := 11) rfl))) (Or.inl (hw _ (List.mem_of_getElem? (i := 34) rfl))) (by decide) (t := (.array .long)) (t' := .int) (by decide) (by decide)))).other W12 (Or.inl ne2)) (g := (mkF m 64 #[.val (.ref mp), .val (.long xx), .second, .val (.ref yv), .val (.int j1)] [(.ref mp), (.int (2 : Int32))])) rfl rfl (hb hby d4_64)
    refine OEnds.go (g' := (mkF m 67 #[.val (.ref mp), .val (.long xx), .second, .val (.ref yv), .val (.int j1)] [(.ref ia), (.int (2 : Int32))])) st14 ?_
    obtain ⟨cl15, Ar15, qa15, Sa15, Na15, Ha15⟩ := @id _ ((A7_ia.other W9 (Ne.symm ne1)).other W12 ne3)
    refine OEnds.go (g' := (mkF m 68 #[.val (.ref mp), .val (.long xx), .second, .val (.ref yv), .val (.int j1)] [(.int (64 : Int32)), (.int (2 : Int32))])) (fun t k => X14.arraylength hx (by rw [e14]; exact Ar15.1) (State.isArrayOf_alike hZ.alike Ar15.2.1) (g := (mkF m 67 #[.val (.ref mp), .val (.long xx), .second, .val (.ref yv), .val (.int j1)] [(.ref ia), (.int (2 : Int32))])) rfl rfl (hb hby d4_67) t (by rw [len_of Sa15 Na15]; exact k)) ?_
    refine OEnds.go (g' := (mkF m 75 #[.val (.ref mp), .val (.long xx), .second, .val (.ref yv), .val (.int j1)] [])) (fun t k => XS.icmpYes X14.here hx rfl (pc0 := 68) (pc' := 75) rfl (hb hby d4_68) rfl (flt (by decide : ¬ ((64 : Int32) < (2 : Int32)))).2.2.2 (by decide) (by decide) k) ?_
    exact OEnds.outV X14 Bd.notSynchronized hx Bd.returns (hb hby d4_75) (by rw [e14]; exact ⟨rfl, N12, K12, (((E0.wr W7).wr W9).wr W12), (((Fi.other W7 (Or.inl ne1)).other W9 (Or.inr (slot_ne (Or.inl (hw _ (List.mem_of_getElem? (i := 11) rfl))) (Or.inl (hw _ (List.mem_of_getElem? (i := 34) rfl))) (by decide) (t := (.array .long)) (t' := .int) (by decide) (by decide)))).other W12 (Or.inl ne2)), (((Fv.other W7 (Or.inl ne1)).other W9 (Or.inr (slot_ne (Or.inl (hw _ (List.mem_of_getElem? (i := 15) rfl))) (Or.inl (hw _ (List.mem_of_getElem? (i := 34) rfl))) (by decide) (t := (.array (.object "java/lang/Object"))) (t' := .int) (by decide) (by decide)))).other W12 (Or.inl ne2)), j1, Fd1, A12_va, Or.inl ⟨c27_4, (Fw9.other W12 (Or.inl ne2)), ((A7_ia.other W9 (Ne.symm ne1)).other W12 ne3)⟩⟩) (by decide) (by decide)
  · -- no
    obtain ⟨y_16, hy_16⟩ := own_nnref (Ha3 _ hin3).2 rfl c27_4
    have hat3 : cl3.slots[(j1).toNatClampNeg]? = some (.ref y_16) := (Ha3 _ hin3).1.trans (congrArg some hy_16)
    refine OEnds.go (g' := (mkF m 28 #[.val (.ref mp), .val (.long xx), .second, .val (.ref yv), .val (.int j1)] [(.ref y_16)])) (X2.aaload hx (j := j1) (v := (.ref y_16)) (by rw [e2]; exact Ar3.1) (State.isArrayOf_alike hZ.alike Ar3.2.1) rfl Ar3.2.2 hin3 hat3 (g := (mkF m 27 #[.val (.ref mp), .val (.long xx), .second, .val (.ref yv), .val (.int j1)] [(.int j1), (.ref va)])) rfl rfl (hb hby d4_27)) ?_
    refine OEnds.go (g' := (mkF m 49 #[.val (.ref mp), .val (.long xx), .second, .val (.ref yv), .val (.int j1)] [])) (fun t k => XS.ifnonnullYes X2.here hx rfl (pc0 := 28) (pc' := 49) rfl (hb hby d4_28) rfl (by decide) (by decide) k) ?_
    refine OEnds.go (g' := (mkF m 50 #[.val (.ref mp), .val (.long xx), .second, .val (.ref yv), .val (.int j1)] [(.ref mp)])) (fun t k => XS.aloadN X2.here hx rfl (hb hby d4_49) rfl rfl k) ?_
    obtain ⟨T17, X17, e17, st17⟩ := getF X2 hx hZ hown (host := "") (Or.inl (hw _ (List.mem_of_getElem? (i := 14) rfl))) Via.refl e2 Fv (g := (mkF m 50 #[.val (.ref mp), .val (.long xx), .second, .val (.ref yv), .val (.int j1)] [(.ref mp)])) rfl rfl (hb hby d4_50)
    refine OEnds.go (g' := (mkF m 53 #[.val (.ref mp), .val (.long xx), .second, .val (.ref yv), .val (.int j1)] [(.ref va)])) st17 ?_
    refine OEnds.go (g' := (mkF m 55 #[.val (.ref mp), .val (.long xx), .second, .val (.ref yv), .val (.int j1)] [(.int j1), (.ref va)])) (fun t k => XS.iload X17.here hx rfl (hb hby d4_53) rfl k) ?_
    refine OEnds.go (g' := (mkF m 56 #[.val (.ref mp), .val (.long xx), .second, .val (.ref yv), .val (.int j1)] [(.ref yv), (.int j1), (.ref va)])) (fun t k => XS.aloadN X17.here hx rfl (hb hby d4_55) rfl rfl k) ?_
    obtain ⟨cl18, Ar18, qa18, Sa18, Na18, Ha18⟩ := @id _ AV
    have hin18 : ¬ (j1 < 0 ∨ cl18.slots.size ≤ (j1).toNatClampNeg) := inb_of Sa18 (own_Fdb Fd1)
    obtain ⟨T19, h19, X19, e19, W19, st19⟩ := stR X17 hx hZ e17 Ar18 (j := j1) hin18 rfl (Sto.ofV Ar18 qa18 OV (Ins.of_exa EY (hw _ (List.mem_of_getElem? (i := 35) rfl)))) (g := (mkF m 56 #[.val (.ref mp), .val (.long xx), .second, .val (.ref yv), .val (.int j1)] [(.ref yv), (.int j1), (.ref va)])) rfl rfl (hb hby d4_56)
    have N19 := Fr.snoc X19 N1 g_va
    have K19 : Keep h0 h19 [mp, ia, va] := (Keep.refl h0 [mp, ia, va]).wr W19 (Or.inl (by simp))
    have A19_va : own_Av Z h19 va kv (.object "java/lang/Object") (64 : Int32) (own_u ff j1 (.ref yv)) := own_Av.set Ar18 qa18 Sa18 Na18 Ha18 rfl W19 hin18
    refine OEnds.go (g' := (mkF m 57 #[.val (.ref mp), .val (.long xx), .second, .val (.ref yv), .val (.int j1)] [])) st19 ?_
    refine OEnds.go (g' := (mkF m 58 #[.val (.ref mp), .val (.long xx), .second, .val (.ref yv), .val (.int j1)] [(.int (2 : Int32))])) (fun t k => XS.iconst X19.here hx rfl (hb hby d4_57) k) ?_
    refine OEnds.go (g' := (mkF m 59 #[.val (.ref mp), .val (.long xx), .second, .val (.ref yv), .val (.int j1)] [(.ref mp), (.int (2 : Int32))])) (fun t k => XS.aloadN X19.here hx rfl (hb hby d4_58) rfl rfl k) ?_
    obtain ⟨T20, X20, e20, st20⟩ := getF X19 hx hZ hown (host := "") (Or.inl (hw _ (List.mem_of_getElem? (i := 33) rfl))) Via.refl e19 (Fs.other W19 (Or.inl ne2)) (g := (mkF m 59 #[.val (.ref mp), .val (.long xx), .second, .val (.ref yv), .val (.int j1)] [(.ref mp), (.int (2 : Int32))])) rfl rfl (hb hby d4_59)
    refine OEnds.go (g' := (mkF m 62 #[.val (.ref mp), .val (.long xx), .second, .val (.ref yv), .val (.int j1)] [(.int (0 : Int32)), (.int (2 : Int32))])) st20 ?_
    refine OEnds.go (g' := (mkF m 63 #[.val (.ref mp), .val (.long xx), .second, .val (.ref yv), .val (.int j1)] [(.int ((2 : Int32) * (0 : Int32)))])) (fun t k => XS.imul X20.here hx rfl (hb hby d4_62) rfl k) ?_
    rw [show ((2 : Int32) * (0 : Int32)) = (0 : Int32) from by decide]
    refine OEnds.go (g' := (mkF m 64 #[.val (.ref mp), .val (.long xx), .second, .val (.ref yv), .val (.int j1)] [(.ref mp), (.int (0 : Int32))])) (fun t k => XS.aloadN X20.here hx rfl (hb hby d4_63) rfl rfl k) ?_
    obtain ⟨T21, X21, e21, st21⟩ := getF X20 hx hZ hown (host := "") (Or.inl (hw _ (List.mem_of_getElem? (i := 10) rfl))) Via.refl e20 (Fi.other W19 (Or.inl ne2)) (g := (mkF m 64 #[.val (.ref mp), .val (.long xx), .second, .val (.ref yv), .val (.int j1)] [(.ref mp), (.int (0 : Int32))])) rfl rfl (hb hby d4_64)
    refine OEnds.go (g' := (mkF m 67 #[.val (.ref mp), .val (.long xx), .second, .val (.ref yv), .val (.int j1)] [(.ref ia), (.int (0 : Int32))])) st21 ?_
    obtain ⟨cl22, Ar22, qa22, Sa22, Na22, Ha22⟩ := @id _ (AI.other W19 ne3)
    refine OEnds.go (g' := (mkF m 68 #[.val (.ref mp), .val (.long xx), .second, .val (.ref yv), .val (.int j1)] [(.int (64 : Int32)), (.int (0 : Int32))])) (fun t k => X21.arraylength hx (by rw [e21]; exact Ar22.1) (State.isArrayOf_alike hZ.alike Ar22.2.1) (g := (mkF m 67 #[.val (.ref mp), .val (.long xx), .second, .val (.ref yv), .val (.int j1)] [(.ref ia), (.int (0 : Int32))])) rfl rfl (hb hby d4_67) t (by rw [len_of Sa22 Na22]; exact k)) ?_
    refine OEnds.go (g' := (mkF m 75 #[.val (.ref mp), .val (.long xx), .second, .val (.ref yv), .val (.int j1)] [])) (fun t k => XS.icmpYes X21.here hx rfl (pc0 := 68) (pc' := 75) rfl (hb hby d4_68) rfl (flt (by decide : ¬ ((64 : Int32) < (0 : Int32)))).2.2.2 (by decide) (by decide) k) ?_
    exact OEnds.outV X21 Bd.notSynchronized hx Bd.returns (hb hby d4_75) (by rw [e21]; exact ⟨rfl, N19, K19, (E0.wr W19), (Fi.other W19 (Or.inl ne2)), (Fv.other W19 (Or.inl ne2)), j1, Fd1, A19_va, Or.inr ⟨c27_4, (Fs.other W19 (Or.inl ne2)), (AI.other W19 ne3)⟩⟩) (by decide) (by decide)
theorem ef_rmP1 (m : MethodId) (x0 : Addr) (x1 : Int64) (x2 : Addr) : entryFrame m #[(.ref x0), (.long x1), (.ref x2)] 5 = mkF m 0 #[.val (.ref x0), .val (.long x1), .second, .val (.ref x2), .unset] [] := by first | (simp [entryFrame, mkF, argsToLocals, Value.category]; done) | rfl
def Q_rmP1 (Z : State) (mp : Addr) (xx : Int64) (yv : Addr) (ia : Addr) (va : Addr) (ki : ClassId) (kv : ClassId) (ff : Int32 → Value) (gg : Int32 → Int64) (h0 : Heap) (n0 : Nat) (v : Option Value) (h : Heap) (L : List Loc) : Prop := v = none ∧ Fr n0 L ∧ Keep h0 h [mp, ia, va] ∧ Exa Z h mp "com/example/slimheap/slimheap/hprof/IdMap" ∧ Fld Z h mp "com/example/slimheap/slimheap/hprof/IdMap" "ids" "[J" (.ref ia) ∧ Fld Z h mp "com/example/slimheap/slimheap/hprof/IdMap" "values" "[Ljava/lang/Object;" (.ref va) ∧ ∃ j, own_Fd ff gg xx j ∧ own_Av Z h va kv (.object "java/lang/Object") (64 : Int32) (own_u ff j (.ref yv)) ∧ ((ff j = .null ∧ Fld Z h mp "com/example/slimheap/slimheap/hprof/IdMap" "size" "I" (.int (2 : Int32)) ∧ own_Av Z h ia ki .long (64 : Int32) (fun i => .long ((own_u gg j xx) i))) ∨ (¬ ff j = .null ∧ Fld Z h mp "com/example/slimheap/slimheap/hprof/IdMap" "size" "I" (.int (1 : Int32)) ∧ own_Av Z h ia ki .long (64 : Int32) (fun i => .long (gg i))))
set_option maxRecDepth 65536 in
set_option maxHeartbeats 40000000 in
theorem rmP1 (l : Launch) (Z : State) (a0 : Array Value) (hw : ∀ d ∈ tables_1, d.before a0 Z = true) (ws : List Jvm.Cond) (mp : Addr) (xx : Int64) (yv : Addr) (ia : Addr) (va : Addr) (ki : ClassId) (kv : ClassId) (ff : Int32 → Value) (gg : Int32 → Int64) (h0 : Heap) (n0 : Nat) (Z0 : n0 ≤ h0.size) (E0 : Exa Z h0 mp "com/example/slimheap/slimheap/hprof/IdMap") (Fi : Fld Z h0 mp "com/example/slimheap/slimheap/hprof/IdMap" "ids" "[J" (.ref ia)) (Fv : Fld Z h0 mp "com/example/slimheap/slimheap/hprof/IdMap" "values" "[Ljava/lang/Object;" (.ref va)) (AI : own_Av Z h0 ia ki .long (64 : Int32) (fun i => .long (gg i))) (AV : own_Av Z h0 va kv (.object "java/lang/Object") (64 : Int32) ff) (h3 : ¬ ff (own_pr xx 0) = .null → ¬ ff (own_pr xx 1) = .null → ff (own_pr xx 2) = .null) (Fs : Fld Z h0 mp "com/example/slimheap/slimheap/hprof/IdMap" "size" "I" (.int (1 : Int32))) (OV : Ovr Z kv "java/lang/Object") (EY : Exa Z h0 yv "java/lang/Integer") (g_mp : n0 ≤ mp) (g_ia : n0 ≤ ia) (g_va : n0 ≤ va) (ne1 : mp ≠ ia) (ne2 : mp ≠ va) (ne3 : ia ≠ va) :
    MetFree l (⟨"com/example/slimheap/slimheap/hprof/IdMap", "put", "(JLjava/lang/Object;)V"⟩ : MethodName) (head1 (Jvm.Cond.code (⟨"com/example/slimheap/slimheap/hprof/IdMap", "put", "(JLjava/lang/Object;)V"⟩ : MethodName) prog_31_method_3_code 5 none :: ws) ({ frames := 1, cells := 0, slots := 0, locals := 30 } : Room)) (fun aa_ U => aa_ = #[(.ref mp), (.long xx), (.ref yv)] ∧ Z.Warmed39 U.vm ∧ U.heap = h0) (fun _ _ _ _ _ => True) (fun _ U o U' => ∃ v L, o = .returned v ∧ Q_rmP1 Z mp xx yv ia va ki kv ff gg h0 n0 v U'.heap L ∧ FrameEnd U o U' L ({ frames := 1, cells := 0, slots := 0, locals := 30 } : Room).cells ({ frames := 1, cells := 0, slots := 0, locals := 30 } : Room).slots) := by
  refine MetFree.of_bodySF (plainFor_of_name pn_0) hisR ?_
  intro p e s m args below meth c s₁ Bd hml0 hP hK
  obtain ⟨rfl, hZ, hh⟩ := hP
  have hx := Bd.exec
  have hby := Bd.bytes
  have hml : c.maxLocals = 5 := hml0
  have hown : s.vm.findClass "com/example/slimheap/slimheap/hprof/IdMap" = some m.cls := findClass_of_methodNamed Bd.named
  have hnm := (name_of_methodNamed Bd.named Bd.method).1
  have X0 : Stand p l e ({ frames := 1, cells := 0, slots := 0, locals := 30 } : Room) s m #[(.ref mp), (.long xx), (.ref yv)] below meth c s₁ [] 0 0 := Stand.of_body Bd
  have e0 : s₁.heap = h0 := by rw [← hh, Bd.state]; rfl
  have N0 := Fr.nil n0
  show OEnds p e below (OEndP s (Q_rmP1 Z mp xx yv ia va ki kv ff gg h0 n0) ({ frames := 1, cells := 0, slots := 0, locals := 30 } : Room).cells ({ frames := 1, cells := 0, slots := 0, locals := 30 } : Room).slots) s₁ (entryFrame m #[(.ref mp), (.long xx), (.ref yv)] 5)
  rw [ef_rmP1 m mp xx yv]
  refine OEnds.go (g' := (mkF m 1 #[.val (.ref mp), .val (.long xx), .second, .val (.ref yv), .unset] [(.ref yv)])) (fun t k => XS.aloadN X0.here hx rfl (hb hby d4_0) rfl rfl k) ?_
  refine OEnds.go (g' := (mkF m 14 #[.val (.ref mp), .val (.long xx), .second, .val (.ref yv), .unset] [])) (fun t k => XS.ifnonnullYes X0.here hx rfl (pc0 := 1) (pc' := 14) rfl (hb hby d4_1) rfl (by decide) (by decide) k) ?_
  refine OEnds.go (g' := (mkF m 15 #[.val (.ref mp), .val (.long xx), .second, .val (.ref yv), .unset] [(.ref mp)])) (fun t k => XS.aloadN X0.here hx rfl (hb hby d4_14) rfl rfl k) ?_
  refine OEnds.go (g' := (mkF m 16 #[.val (.ref mp), .val (.long xx), .second, .val (.ref yv), .unset] [(.long xx), (.ref mp)])) (fun t k => XS.lloadN X0.here hx rfl (hb hby d4_15) rfl k) ?_
  obtain ⟨cq1, q1, q1'⟩ := E0.cell
  obtain ⟨_, _, ⟨T1, L1, k1, n1⟩, -, X1, ⟨Lc1, hQ1, l1, y1, z1⟩, st1⟩ := X0.privateBack hx (y := (⟨"com/example/slimheap/slimheap/hprof/IdMap", "slotOf", "(J)I"⟩ : MethodName)) hown (mvT hZ (hw _ (List.mem_of_getElem? (i := 28) rfl))) (mvT hZ (hw _ (List.mem_of_getElem? (i := 29) rfl))) (mvT hZ (own_selp (by decide) (hw _ (List.mem_of_getElem? (i := 1) rfl)) (hw _ (List.mem_of_getElem? (i := 30) rfl)) (hw _ (List.mem_of_getElem? (i := 29) rfl)))) (Cond.privateMethod_at (mvP hZ (hw _ (List.mem_of_getElem? (i := 30) rfl)) (args := #[]))) (mvT hZ (hw _ (List.mem_of_getElem? (i := 31) rfl))) (by decide) (backOf (W := 0) (rm5 l Z a0 hw [] mp xx ia va ki kv ff gg h0 n0 Z0 Fi Fv AI AV h3) hZ (hw _ (List.mem_of_getElem? (i := 31) rfl)) (hw _ (List.mem_of_getElem? (i := 2) rfl)) (by decide) (by decide)) (g := (mkF m 16 #[.val (.ref mp), .val (.long xx), .second, .val (.ref yv), .unset] [(.long xx), (.ref mp)])) rfl (by rw [hml]; rfl) (Steps.refl _) (a := mp) (by rw [e0]; exact q1) q1' (argsL := [(.long xx)]) (rest := []) (lenOf pd_0 rfl) rfl (by show 2 * 0 + _ ≤ _; exact Nat.le_of_eq rfl) (hb hby d4_16) (fun _ _ => ⟨rfl, e0, (by decide : 0 + 0 ≤ _), (by decide : 0 + 0 ≤ _)⟩)
  dsimp only [Pt.U, Pt.locs, Pt.cells, Pt.slots] at X1 l1 y1 z1 st1 hQ1
  subst l1 y1 z1
  obtain ⟨j1, rfl, N1q, e1, Fd1⟩ := hQ1
  have N1 := Fr.app N0 N1q
  refine OEnds.tr (g' := (mkF m 19 #[.val (.ref mp), .val (.long xx), .second, .val (.ref yv), .unset] [(.int j1)])) st1 ?_
  refine OEnds.go (g' := (mkF m 21 #[.val (.ref mp), .val (.long xx), .second, .val (.ref yv), .val (.int j1)] [])) (fun t k => XS.istore X1.here hx rfl (hb hby d4_19) rfl (l' := #[.val (.ref mp), .val (.long xx), .second, .val (.ref yv), .val (.int j1)]) rfl k) ?_
  refine OEnds.go (g' := (mkF m 22 #[.val (.ref mp), .val (.long xx), .second, .val (.ref yv), .val (.int j1)] [(.ref mp)])) (fun t k => XS.aloadN X1.here hx rfl (hb hby d4_21) rfl rfl k) ?_
  obtain ⟨T2, X2, e2, st2⟩ := getF X1 hx hZ hown (host := "") (Or.inl (hw _ (List.mem_of_getElem? (i := 14) rfl))) Via.refl e1 Fv (g := (mkF m 22 #[.val (.ref mp), .val (.long xx), .second, .val (.ref yv), .val (.int j1)] [(.ref mp)])) rfl rfl (hb hby d4_22)
  refine OEnds.go (g' := (mkF m 25 #[.val (.ref mp), .val (.long xx), .second, .val (.ref yv), .val (.int j1)] [(.ref va)])) st2 ?_
  refine OEnds.go (g' := (mkF m 27 #[.val (.ref mp), .val (.long xx), .second, .val (.ref yv), .val (.int j1)] [(.int j1), (.ref va)])) (fun t k => XS.iload X2.here hx rfl (hb hby d4_25) rfl k) ?_
  obtain ⟨cl3, Ar3, qa3, Sa3, Na3, Ha3⟩ := @id _ AV
  have hin3 : ¬ (j1 < 0 ∨ cl3.slots.size ≤ (j1).toNatClampNeg) := inb_of Sa3 (own_Fdb Fd1)
  by_cases c27_4 : (ff j1) = .null
  · -- yes
    have hat3 : cl3.slots[(j1).toNatClampNeg]? = some .null := (Ha3 _ hin3).1.trans (congrArg some c27_4)
    refine OEnds.go (g' := (mkF m 28 #[.val (.ref mp), .val (.long xx), .second, .val (.ref yv), .val (.int j1)] [.null])) (X2.aaload hx (j := j1) (v := .null) (by rw [e2]; exact Ar3.1) (State.isArrayOf_alike hZ.alike Ar3.2.1) rfl Ar3.2.2 hin3 hat3 (g := (mkF m 27 #[.val (.ref mp), .val (.long xx), .second, .val (.ref yv), .val (.int j1)] [(.int j1), (.ref va)])) rfl rfl (hb hby d4_27)) ?_
    refine OEnds.go (g' := (mkF m 31 #[.val (.ref mp), .val (.long xx), .second, .val (.ref yv), .val (.int j1)] [])) (fun t k => XS.ifnonnullNo X2.here hx rfl (hb hby d4_28) rfl k) ?_
    refine OEnds.go (g' := (mkF m 32 #[.val (.ref mp), .val (.long xx), .second, .val (.ref yv), .val (.int j1)] [(.ref mp)])) (fun t k => XS.aloadN X2.here hx rfl (hb hby d4_31) rfl rfl k) ?_
    obtain ⟨T5, X5, e5, st5⟩ := getF X2 hx hZ hown (host := "") (Or.inl (hw _ (List.mem_of_getElem? (i := 10) rfl))) Via.refl e2 Fi (g := (mkF m 32 #[.val (.ref mp), .val (.long xx), .second, .val (.ref yv), .val (.int j1)] [(.ref mp)])) rfl rfl (hb hby d4_32)
    refine OEnds.go (g' := (mkF m 35 #[.val (.ref mp), .val (.long xx), .second, .val (.ref yv), .val (.int j1)] [(.ref ia)])) st5 ?_
    refine OEnds.go (g' := (mkF m 37 #[.val (.ref mp), .val (.long xx), .second, .val (.ref yv), .val (.int j1)] [(.int j1), (.ref ia)])) (fun t k => XS.iload X5.here hx rfl (hb hby d4_35) rfl k) ?_
    refine OEnds.go (g' := (mkF m 38 #[.val (.ref mp), .val (.long xx), .second, .val (.ref yv), .val (.int j1)] [(.long xx), (.int j1), (.ref ia)])) (fun t k => XS.lloadN X5.here hx rfl (hb hby d4_37) rfl k) ?_
    obtain ⟨cl6, Ar6, qa6, Sa6, Na6, Ha6⟩ := @id _ AI
    have hin6 : ¬ (j1 < 0 ∨ cl6.slots.size ≤ (j1).toNatClampNeg) := inb_of Sa6 (own_Fdb Fd1)
    obtain ⟨T7, h7, X7, e7, W7, st7⟩ := stJ X5 hx hZ e5 Ar6 (j := j1) hin6 (g := (mkF m 38 #[.val (.ref mp), .val (.long xx), .second, .val (.ref yv), .val (.int j1)] [(.long xx), (.int j1), (.ref ia)])) rfl rfl (hb hby d4_38)
    have N7 := Fr.snoc X7 N1 g_ia
    have K7 : Keep h0 h7 [mp, ia, va] := (Keep.refl h0 [mp, ia, va]).wr W7 (Or.inl (by simp))
    have A7_ia : own_Av Z h7 ia ki .long (64 : Int32) (fun i => .long ((own_u gg j1 xx) i)) := own_Av.setJ Ar6 qa6 Sa6 Na6 Ha6 W7 hin6
    refine OEnds.go (g' := (mkF m 39 #[.val (.ref mp), .val (.long xx), .second, .val (.ref yv), .val (.int j1)] [])) st7 ?_
    refine OEnds.go (g' := (mkF m 40 #[.val (.ref mp), .val (.long xx), .second, .val (.ref yv), .val (.int j1)] [(.ref mp)])) (fun t k => XS.aloadN X7.here hx rfl (hb hby d4_39) rfl rfl k) ?_
    refine OEnds.go (g' := (mkF m 41 #[.val (.ref mp), .val (.long xx), .second, .val (.ref yv), .val (.int j1)] [(.ref mp), (.ref mp)])) (fun t k => XS.dup X7.here hx rfl (hb hby d4_40) rfl rfl k) ?_
    obtain ⟨T8, X8, e8, st8⟩ := getF X7 hx hZ hown (host := "") (Or.inl (hw _ (List.mem_of_getElem? (i := 33) rfl))) Via.refl e7 (Fs.other W7 (Or.inl ne1)) (g := (mkF m 41 #[.val (.ref mp), .val (.long xx), .second, .val (.ref yv), .val (.int j1)] [(.ref mp), (.ref mp)])) rfl rfl (hb hby d4_41)
    refine OEnds.go (g' := (mkF m 44 #[.val (.ref mp), .val (.long xx), .second, .val (.ref yv), .val (.int j1)] [(.int (1 : Int32)), (.ref mp)])) st8 ?_
    refine OEnds.go (g' := (mkF m 45 #[.val (.ref mp), .val (.long xx), .second, .val (.ref yv), .val (.int j1)] [(.int (1 : Int32)), (.int (1 : Int32)), (.ref mp)])) (fun t k => XS.iconst X8.here hx rfl (hb hby d4_44) k) ?_
    refine OEnds.go (g' := (mkF m 46 #[.val (.ref mp), .val (.long xx), .second, .val (.ref yv), .val (.int j1)] [(.int ((1 : Int32) + (1 : Int32))), (.ref mp)])) (fun t k => XS.iadd X8.here hx rfl (hb hby d4_45) rfl k) ?_
    rw [show ((1 : Int32) + (1 : Int32)) = (2 : Int32) from by decide]
    obtain ⟨T9, h9, X9, e9, W9, st9⟩ := putF X8 hx hZ hown (host := "") (Or.inl (hw _ (List.mem_of_getElem? (i := 33) rfl))) Via.refl e8 (Fs.other W7 (Or.inl ne1)) (E0.wr W7) (Or.inl (hw _ (List.mem_of_getElem? (i := 34) rfl))) (hw _ (List.mem_of_getElem? (i := 1) rfl)) (ty := .int) (by decide) rfl rfl (g := (mkF m 46 #[.val (.ref mp), .val (.long xx), .second, .val (.ref yv), .val (.int j1)] [(.int (2 : Int32)), (.ref mp)])) rfl rfl (hb hby d4_46)
    have N9 := Fr.snoc X9 N7 g_mp
    have K9 : Keep h0 h9 [mp, ia, va] := K7.wr W9 (Or.inl (by simp))
    have Fw9 := (Fs.other W7 (Or.inl ne1)).same W9
    refine OEnds.go (g' := (mkF m 49 #[.val (.ref mp), .val (.long xx), .second, .val (.ref yv), .val (.int j1)] [])) st9 ?_
    refine OEnds.go (g' := (mkF m 50 #[.val (.ref mp), .val (.long xx), .second, .val (.ref yv), .val (.int j1)] [(.ref mp)])) (fun t k => XS.aloadN X9.here hx rfl (hb hby d4_49) rfl rfl k) ?_
    obtain ⟨T10, X10, e10, st10⟩ := getF X9 hx hZ hown (host := "") (Or.inl (hw _ (List.mem_of_getElem? (i := 14) rfl))) Via.refl e9 ((Fv.other W7 (Or.inl ne1)).other W9 (Or.inr (slot_ne (Or.inl (hw _ (List.mem_of_getElem? (i := 15) rfl))) (Or.inl (hw _ (List.mem_of_getElem? (i := 34) rfl))) (by decide) (t := (.array (.object "java/lang/Object"))) (t' := .int) (by decide) (by decide)))) (g := (mkF m 50 #[.val (.ref mp), .val (.long xx), .second, .val (.ref yv), .val (.int j1)] [(.ref mp)])) rfl rfl (hb hby d4_50)
    refine OEnds.go (g' := (mkF m 53 #[.val (.ref mp), .val (.long xx), .second, .val (.ref yv), .val (.int j1)] [(.ref va)])) st10 ?_
    refine OEnds.go (g' := (mkF m 55 #[.val (.ref mp), .val (.long xx), .second, .val (.ref yv), .val (.int j1)] [(.int j1), (.ref va)])) (fun t k => XS.iload X10.here hx rfl (hb hby d4_53) rfl k) ?_
    refine OEnds.go (g' := (mkF m 56 #[.val (.ref mp), .val (.long xx), .second, .val (.ref yv), .val (.int j1)] [(.ref yv), (.int j1), (.ref va)])) (fun t k => XS.aloadN X10.here hx rfl (hb hby d4_55) rfl rfl k) ?_
    obtain ⟨cl11, Ar11, qa11, Sa11, Na11, Ha11⟩ := @id _ ((AV.other W7 (Ne.symm ne3)).other W9 (Ne.symm ne2))
    have hin11 : ¬ (j1 < 0 ∨ cl11.slots.size ≤ (j1).toNatClampNeg) := inb_of Sa11 (own_Fdb Fd1)
    obtain ⟨T12, h12, X12, e12, W12, st12⟩ := stR X10 hx hZ e10 Ar11 (j := j1) hin11 rfl (Sto.ofV Ar11 qa11 OV (Ins.of_exa ((EY.wr W7).wr W9) (hw _ (List.mem_of_getElem? (i := 35) rfl)))) (g := (mkF m 56 #[.val (.ref mp), .val (.long xx), .second, .val (.ref yv), .val (.int j1)] [(.ref yv), (.int j1), (.ref va)])) rfl rfl (hb hby d4_56)
    have N12 := Fr.snoc X12 N9 g_va
    have K12 : Keep h0 h12 [mp, ia, va] := K9.wr W12 (Or.inl (by simp))
    have A12_va : own_Av Z h12 va kv (.object "java/lang/Object") (64 : Int32) (own_u ff j1 (.ref yv)) := own_Av.set Ar11 qa11 Sa11 Na11 Ha11 rfl W12 hin11
    refine OEnds.go (g' := (mkF m 57 #[.val (.ref mp), .val (.long xx), .second, .val (.ref yv), .val (.int j1)] [])) st12 ?_
    refine OEnds.go (g' := (mkF m 58 #[.val (.ref mp), .val (.long xx), .second, .val (.ref yv), .val (.int j1)] [(.int (2 : Int32))])) (fun t k => XS.iconst X12.here hx rfl (hb hby d4_57) k) ?_
    refine OEnds.go (g' := (mkF m 59 #[.val (.ref mp), .val (.long xx), .second, .val (.ref yv), .val (.int j1)] [(.ref mp), (.int (2 : Int32))])) (fun t k => XS.aloadN X12.here hx rfl (hb hby d4_58) rfl rfl k) ?_
    obtain ⟨T13, X13, e13, st13⟩ := getF X12 hx hZ hown (host := "") (Or.inl (hw _ (List.mem_of_getElem? (i := 33) rfl))) Via.refl e12 (Fw9.other W12 (Or.inl ne2)) (g := (mkF m 59 #[.val (.ref mp), .val (.long xx), .second, .val (.ref yv), .val (.int j1)] [(.ref mp), (.int (2 : Int32))])) rfl rfl (hb hby d4_59)
    refine OEnds.go (g' := (mkF m 62 #[.val (.ref mp), .val (.long xx), .second, .val (.ref yv), .val (.int j1)] [(.int (2 : Int32)), (.int (2 : Int32))])) st13 ?_
    refine OEnds.go (g' := (mkF m 63 #[.val (.ref mp), .val (.long xx), .second, .val (.ref yv), .val (.int j1)] [(.int ((2 : Int32) * (2 : Int32)))])) (fun t k => XS.imul X13.here hx rfl (hb hby d4_62) rfl k) ?_
    rw [show ((2 : Int32) * (2 : Int32)) = (4 : Int32) from by decide]
    refine OEnds.go (g' := (mkF m 64 #[.val (.ref mp), .val (.long xx), .second, .val (.ref yv), .val (.int j1)] [(.ref mp), (.int (4 : Int32))])) (fun t k => XS.aloadN X13.here hx rfl (hb hby d4_63) rfl rfl k) ?_
    obtain ⟨T14, X14, e14, st14⟩ := getF X13 hx hZ hown (host := "") (Or.inl (hw _ (List.mem_of_getElem? (i := 10) rfl))) Via.refl e13 (((Fi.other W7 (Or.inl ne1)).other W9 (Or.inr (slot_ne (Or.inl (hw _ (List.mem_of_getElem? (i := 11) rfl))) (Or.inl (hw _ (List.mem_of_getElem? (i := 34) rfl))) (by decide) (t := (.array .long)) (t' := .int) (by decide) (by decide)))).other W12 (Or.inl ne2)) (g := (mkF m 64 #[.val (.ref mp), .val (.long xx), .second, .val (.ref yv), .val (.int j1)] [(.ref mp), (.int (4 : Int32))])) rfl rfl (hb hby d4_64)
    refine OEnds.go (g' := (mkF m 67 #[.val (.ref mp), .val (.long xx), .second, .val (.ref yv), .val (.int j1)] [(.ref ia), (.int (4 : Int32))])) st14 ?_
    obtain ⟨cl15, Ar15, qa15, Sa15, Na15, Ha15⟩ := @id _ ((A7_ia.other W9 (Ne.symm ne1)).other W12 ne3)
    refine OEnds.go (g' := (mkF m 68 #[.val (.ref mp), .val (.long xx), .second, .val (.ref yv), .val (.int j1)] [(.int (64 : Int32)), (.int (4 : Int32))])) (fun t k => X14.arraylength hx (by rw [e14]; exact Ar15.1) (State.isArrayOf_alike hZ.alike Ar15.2.1) (g := (mkF m 67 #[.val (.ref mp), .val (.long xx), .second, .val (.ref yv), .val (.int j1)] [(.ref ia), (.int (4 : Int32))])) rfl rfl (hb hby d4_67) t (by rw [len_of Sa15 Na15]; exact k)) ?_
    refine OEnds.go (g' := (mkF m 75 #[.val (.ref mp), .val (.long xx), .second, .val (.ref yv), .val (.int j1)] [])) (fun t k => XS.icmpYes X14.here hx rfl (pc0 := 68) (pc' := 75) rfl (hb hby d4_68) rfl (flt (by decide : ¬ ((64 : Int32) < (4 : Int32)))).2.2.2 (by decide) (by decide) k) ?_
    exact OEnds.outV X14 Bd.notSynchronized hx Bd.returns (hb hby d4_75) (by rw [e14]; exact ⟨rfl, N12, K12, (((E0.wr W7).wr W9).wr W12), (((Fi.other W7 (Or.inl ne1)).other W9 (Or.inr (slot_ne (Or.inl (hw _ (List.mem_of_getElem? (i := 11) rfl))) (Or.inl (hw _ (List.mem_of_getElem? (i := 34) rfl))) (by decide) (t := (.array .long)) (t' := .int) (by decide) (by decide)))).other W12 (Or.inl ne2)), (((Fv.other W7 (Or.inl ne1)).other W9 (Or.inr (slot_ne (Or.inl (hw _ (List.mem_of_getElem? (i := 15) rfl))) (Or.inl (hw _ (List.mem_of_getElem? (i := 34) rfl))) (by decide) (t := (.array (.object "java/lang/Object"))) (t' := .int) (by decide) (by decide)))).other W12 (Or.inl ne2)), j1, Fd1, A12_va, Or.inl ⟨c27_4, (Fw9.other W12 (Or.inl ne2)), ((A7_ia.other W9 (Ne.symm ne1)).other W12 ne3)⟩⟩) (by decide) (by decide)
  · -- no
    obtain ⟨y_16, hy_16⟩ := own_nnref (Ha3 _ hin3).2 rfl c27_4
    have hat3 : cl3.slots[(j1).toNatClampNeg]? = some (.ref y_16) := (Ha3 _ hin3).1.trans (congrArg some hy_16)
    refine OEnds.go (g' := (mkF m 28 #[.val (.ref mp), .val (.long xx), .second, .val (.ref yv), .val (.int j1)] [(.ref y_16)])) (X2.aaload hx (j := j1) (v := (.ref y_16)) (by rw [e2]; exact Ar3.1) (State.isArrayOf_alike hZ.alike Ar3.2.1) rfl Ar3.2.2 hin3 hat3 (g := (mkF m 27 #[.val (.ref mp), .val (.long xx), .second, .val (.ref yv), .val (.int j1)] [(.int j1), (.ref va)])) rfl rfl (hb hby d4_27)) ?_
    refine OEnds.go (g' := (mkF m 49 #[.val (.ref mp), .val (.long xx), .second, .val (.ref yv), .val (.int j1)] [])) (fun t k => XS.ifnonnullYes X2.here hx rfl (pc0 := 28) (pc' := 49) rfl (hb hby d4_28) rfl (by decide) (by decide) k) ?_
    refine OEnds.go (g' := (mkF m 50 #[.val (.ref mp), .val (.long xx), .second, .val (.ref yv), .val (.int j1)] [(.ref mp)])) (fun t k => XS.aloadN X2.here hx rfl (hb hby d4_49) rfl rfl k) ?_
    obtain ⟨T17, X17, e17, st17⟩ := getF X2 hx hZ hown (host := "") (Or.inl (hw _ (List.mem_of_getElem? (i := 14) rfl))) Via.refl e2 Fv (g := (mkF m 50 #[.val (.ref mp), .val (.long xx), .second, .val (.ref yv), .val (.int j1)] [(.ref mp)])) rfl rfl (hb hby d4_50)
    refine OEnds.go (g' := (mkF m 53 #[.val (.ref mp), .val (.long xx), .second, .val (.ref yv), .val (.int j1)] [(.ref va)])) st17 ?_
    refine OEnds.go (g' := (mkF m 55 #[.val (.ref mp), .val (.long xx), .second, .val (.ref yv), .val (.int j1)] [(.int j1), (.ref va)])) (fun t k => XS.iload X17.here hx rfl (hb hby d4_53) rfl k) ?_
    refine OEnds.go (g' := (mkF m 56 #[.val (.ref mp), .val (.long xx), .second, .val (.ref yv), .val (.int j1)] [(.ref yv), (.int j1), (.ref va)])) (fun t k => XS.aloadN X17.here hx rfl (hb hby d4_55) rfl rfl k) ?_
    obtain ⟨cl18, Ar18, qa18, Sa18, Na18, Ha18⟩ := @id _ AV
    have hin18 : ¬ (j1 < 0 ∨ cl18.slots.size ≤ (j1).toNatClampNeg) := inb_of Sa18 (own_Fdb Fd1)
    obtain ⟨T19, h19, X19, e19, W19, st19⟩ := stR X17 hx hZ e17 Ar18 (j := j1) hin18 rfl (Sto.ofV Ar18 qa18 OV (Ins.of_exa EY (hw _ (List.mem_of_getElem? (i := 35) rfl)))) (g := (mkF m 56 #[.val (.ref mp), .val (.long xx), .second, .val (.ref yv), .val (.int j1)] [(.ref yv), (.int j1), (.ref va)])) rfl rfl (hb hby d4_56)
    have N19 := Fr.snoc X19 N1 g_va
    have K19 : Keep h0 h19 [mp, ia, va] := (Keep.refl h0 [mp, ia, va]).wr W19 (Or.inl (by simp))
    have A19_va : own_Av Z h19 va kv (.object "java/lang/Object") (64 : Int32) (own_u ff j1 (.ref yv)) := own_Av.set Ar18 qa18 Sa18 Na18 Ha18 rfl W19 hin18
    refine OEnds.go (g' := (mkF m 57 #[.val (.ref mp), .val (.long xx), .second, .val (.ref yv), .val (.int j1)] [])) st19 ?_
    refine OEnds.go (g' := (mkF m 58 #[.val (.ref mp), .val (.long xx), .second, .val (.ref yv), .val (.int j1)] [(.int (2 : Int32))])) (fun t k => XS.iconst X19.here hx rfl (hb hby d4_57) k) ?_
    refine OEnds.go (g' := (mkF m 59 #[.val (.ref mp), .val (.long xx), .second, .val (.ref yv), .val (.int j1)] [(.ref mp), (.int (2 : Int32))])) (fun t k => XS.aloadN X19.here hx rfl (hb hby d4_58) rfl rfl k) ?_
    obtain ⟨T20, X20, e20, st20⟩ := getF X19 hx hZ hown (host := "") (Or.inl (hw _ (List.mem_of_getElem? (i := 33) rfl))) Via.refl e19 (Fs.other W19 (Or.inl ne2)) (g := (mkF m 59 #[.val (.ref mp), .val (.long xx), .second, .val (.ref yv), .val (.int j1)] [(.ref mp), (.int (2 : Int32))])) rfl rfl (hb hby d4_59)
    refine OEnds.go (g' := (mkF m 62 #[.val (.ref mp), .val (.long xx), .second, .val (.ref yv), .val (.int j1)] [(.int (1 : Int32)), (.int (2 : Int32))])) st20 ?_
    refine OEnds.go (g' := (mkF m 63 #[.val (.ref mp), .val (.long xx), .second, .val (.ref yv), .val (.int j1)] [(.int ((2 : Int32) * (1 : Int32)))])) (fun t k => XS.imul X20.here hx rfl (hb hby d4_62) rfl k) ?_
    rw [show ((2 : Int32) * (1 : Int32)) = (2 : Int32) from by decide]
    refine OEnds.go (g' := (mkF m 64 #[.val (.ref mp), .val (.long xx), .second, .val (.ref yv), .val (.int j1)] [(.ref mp), (.int (2 : Int32))])) (fun t k => XS.aloadN X20.here hx rfl (hb hby d4_63) rfl rfl k) ?_
    obtain ⟨T21, X21, e21, st21⟩ := getF X20 hx hZ hown (host := "") (Or.inl (hw _ (List.mem_of_getElem? (i := 10) rfl))) Via.refl e20 (Fi.other W19 (Or.inl ne2)) (g := (mkF m 64 #[.val (.ref mp), .val (.long xx), .second, .val (.ref yv), .val (.int j1)] [(.ref mp), (.int (2 : Int32))])) rfl rfl (hb hby d4_64)
    refine OEnds.go (g' := (mkF m 67 #[.val (.ref mp), .val (.long xx), .second, .val (.ref yv), .val (.int j1)] [(.ref ia), (.int (2 : Int32))])) st21 ?_
    obtain ⟨cl22, Ar22, qa22, Sa22, Na22, Ha22⟩ := @id _ (AI.other W19 ne3)
    refine OEnds.go (g' := (mkF m 68 #[.val (.ref mp), .val (.long xx), .second, .val (.ref yv), .val (.int j1)] [(.int (64 : Int32)), (.int (2 : Int32))])) (fun t k => X21.arraylength hx (by rw [e21]; exact Ar22.1) (State.isArrayOf_alike hZ.alike Ar22.2.1) (g := (mkF m 67 #[.val (.ref mp), .val (.long xx), .second, .val (.ref yv), .val (.int j1)] [(.ref ia), (.int (2 : Int32))])) rfl rfl (hb hby d4_67) t (by rw [len_of Sa22 Na22]; exact k)) ?_
    refine OEnds.go (g' := (mkF m 75 #[.val (.ref mp), .val (.long xx), .second, .val (.ref yv), .val (.int j1)] [])) (fun t k => XS.icmpYes X21.here hx rfl (pc0 := 68) (pc' := 75) rfl (hb hby d4_68) rfl (flt (by decide : ¬ ((64 : Int32) < (2 : Int32)))).2.2.2 (by decide) (by decide) k) ?_
    exact OEnds.outV X21 Bd.notSynchronized hx Bd.returns (hb hby d4_75) (by rw [e21]; exact ⟨rfl, N19, K19, (E0.wr W19), (Fi.other W19 (Or.inl ne2)), (Fv.other W19 (Or.inl ne2)), j1, Fd1, A19_va, Or.inr ⟨c27_4, (Fs.other W19 (Or.inl ne2)), (AI.other W19 ne3)⟩⟩) (by decide) (by decide)
theorem ef_rmP2 (m : MethodId) (x0 : Addr) (x1 : Int64) (x2 : Addr) : entryFrame m #[(.ref x0), (.long x1), (.ref x2)] 5 = mkF m 0 #[.val (.ref x0), .val (.long x1), .second, .val (.ref x2), .unset] [] := by first | (simp [entryFrame, mkF, argsToLocals, Value.category]; done) | rfl
def Q_rmP2 (Z : State) (mp : Addr) (xx : Int64) (yv : Addr) (ia : Addr) (va : Addr) (ki : ClassId) (kv : ClassId) (ff : Int32 → Value) (gg : Int32 → Int64) (h0 : Heap) (n0 : Nat) (v : Option Value) (h : Heap) (L : List Loc) : Prop := v = none ∧ Fr n0 L ∧ Keep h0 h [mp, ia, va] ∧ Exa Z h mp "com/example/slimheap/slimheap/hprof/IdMap" ∧ Fld Z h mp "com/example/slimheap/slimheap/hprof/IdMap" "ids" "[J" (.ref ia) ∧ Fld Z h mp "com/example/slimheap/slimheap/hprof/IdMap" "values" "[Ljava/lang/Object;" (.ref va) ∧ ∃ j, own_Fd ff gg xx j ∧ own_Av Z h va kv (.object "java/lang/Object") (64 : Int32) (own_u ff j (.ref yv)) ∧ ((ff j = .null ∧ Fld Z h mp "com/example/slimheap/slimheap/hprof/IdMap" "size" "I" (.int (3 : Int32)) ∧ own_Av Z h ia ki .long (64 : Int32) (fun i => .long ((own_u gg j xx) i))) ∨ (¬ ff j = .null ∧ Fld Z h mp "com/example/slimheap/slimheap/hprof/IdMap" "size" "I" (.int (2 : Int32)) ∧ own_Av Z h ia ki .long (64 : Int32) (fun i => .long (gg i))))
set_option maxRecDepth 65536 in
set_option maxHeartbeats 40000000 in
theorem rmP2 (l : Launch) (Z : State) (a0 : Array Value) (hw : ∀ d ∈ tables_1, d.before a0 Z = true) (ws : List Jvm.Cond) (mp : Addr) (xx : Int64) (yv : Addr) (ia : Addr) (va : Addr) (ki : ClassId) (kv : ClassId) (ff : Int32 → Value) (gg : Int32 → Int64) (h0 : Heap) (n0 : Nat) (Z0 : n0 ≤ h0.size) (E0 : Exa Z h0 mp "com/example/slimheap/slimheap/hprof/IdMap") (Fi : Fld Z h0 mp "com/example/slimheap/slimheap/hprof/IdMap" "ids" "[J" (.ref ia)) (Fv : Fld Z h0 mp "com/example/slimheap/slimheap/hprof/IdMap" "values" "[Ljava/lang/Object;" (.ref va)) (AI : own_Av Z h0 ia ki .long (64 : Int32) (fun i => .long (gg i))) (AV : own_Av Z h0 va kv (.object "java/lang/Object") (64 : Int32) ff) (h3 : ¬ ff (own_pr xx 0) = .null → ¬ ff (own_pr xx 1) = .null → ff (own_pr xx 2) = .null) (Fs : Fld Z h0 mp "com/example/slimheap/slimheap/hprof/IdMap" "size" "I" (.int (2 : Int32))) (OV : Ovr Z kv "java/lang/Object") (EY : Exa Z h0 yv "java/lang/Integer") (g_mp : n0 ≤ mp) (g_ia : n0 ≤ ia) (g_va : n0 ≤ va) (ne1 : mp ≠ ia) (ne2 : mp ≠ va) (ne3 : ia ≠ va) :
    MetFree l (⟨"com/example/slimheap/slimheap/hprof/IdMap", "put", "(JLjava/lang/Object;)V"⟩ : MethodName) (head1 (Jvm.Cond.code (⟨"com/example/slimheap/slimheap/hprof/IdMap", "put", "(JLjava/lang/Object;)V"⟩ : MethodName) prog_31_method_3_code 5 none :: ws) ({ frames := 1, cells := 0, slots := 0, locals := 30 } : Room)) (fun aa_ U => aa_ = #[(.ref mp), (.long xx), (.ref yv)] ∧ Z.Warmed39 U.vm ∧ U.heap = h0) (fun _ _ _ _ _ => True) (fun _ U o U' => ∃ v L, o = .returned v ∧ Q_rmP2 Z mp xx yv ia va ki kv ff gg h0 n0 v U'.heap L ∧ FrameEnd U o U' L ({ frames := 1, cells := 0, slots := 0, locals := 30 } : Room).cells ({ frames := 1, cells := 0, slots := 0, locals := 30 } : Room).slots) := by
  refine MetFree.of_bodySF (plainFor_of_name pn_0) hisR ?_
  intro p e s m args below meth c s₁ Bd hml0 hP hK
  obtain ⟨rfl, hZ, hh⟩ := hP
  have hx := Bd.exec
  have hby := Bd.bytes
  have hml : c.maxLocals = 5 := hml0
  have hown : s.vm.findClass "com/example/slimheap/slimheap/hprof/IdMap" = some m.cls := findClass_of_methodNamed Bd.named
  have hnm := (name_of_methodNamed Bd.named Bd.method).1
  have X0 : Stand p l e ({ frames := 1, cells := 0, slots := 0, locals := 30 } : Room) s m #[(.ref mp), (.long xx), (.ref yv)] below meth c s₁ [] 0 0 := Stand.of_body Bd
  have e0 : s₁.heap = h0 := by rw [← hh, Bd.state]; rfl
  have N0 := Fr.nil n0
  show OEnds p e below (OEndP s (Q_rmP2 Z mp xx yv ia va ki kv ff gg h0 n0) ({ frames := 1, cells := 0, slots := 0, locals := 30 } : Room).cells ({ frames := 1, cells := 0, slots := 0, locals := 30 } : Room).slots) s₁ (entryFrame m #[(.ref mp), (.long xx), (.ref yv)] 5)
  rw [ef_rmP2 m mp xx yv]
  refine OEnds.go (g' := (mkF m 1 #[.val (.ref mp), .val (.long xx), .second, .val (.ref yv), .unset] [(.ref yv)])) (fun t k => XS.aloadN X0.here hx rfl (hb hby d4_0) rfl rfl k) ?_
  refine OEnds.go (g' := (mkF m 14 #[.val (.ref mp), .val (.long xx), .second, .val (.ref yv), .unset] [])) (fun t k => XS.ifnonnullYes X0.here hx rfl (pc0 := 1) (pc' := 14) rfl (hb hby d4_1) rfl (by decide) (by decide) k) ?_
  refine OEnds.go (g' := (mkF m 15 #[.val (.ref mp), .val (.long xx), .second, .val (.ref yv), .unset] [(.ref mp)])) (fun t k => XS.aloadN X0.here hx rfl (hb hby d4_14) rfl rfl k) ?_
  refine OEnds.go (g' := (mkF m 16 #[.val (.ref mp), .val (.long xx), .second, .val (.ref yv), .unset] [(.long xx), (.ref mp)])) (fun t k => XS.lloadN X0.here hx rfl (hb hby d4_15) rfl k) ?_
  obtain ⟨cq1, q1, q1'⟩ := E0.cell
  obtain ⟨_, _, ⟨T1, L1, k1, n1⟩, -, X1, ⟨Lc1, hQ1, l1, y1, z1⟩, st1⟩ := X0.privateBack hx (y := (⟨"com/example/slimheap/slimheap/hprof/IdMap", "slotOf", "(J)I"⟩ : MethodName)) hown (mvT hZ (hw _ (List.mem_of_getElem? (i := 28) rfl))) (mvT hZ (hw _ (List.mem_of_getElem? (i := 29) rfl))) (mvT hZ (own_selp (by decide) (hw _ (List.mem_of_getElem? (i := 1) rfl)) (hw _ (List.mem_of_getElem? (i := 30) rfl)) (hw _ (List.mem_of_getElem? (i := 29) rfl)))) (Cond.privateMethod_at (mvP hZ (hw _ (List.mem_of_getElem? (i := 30) rfl)) (args := #[]))) (mvT hZ (hw _ (List.mem_of_getElem? (i := 31) rfl))) (by decide) (backOf (W := 0) (rm5 l Z a0 hw [] mp xx ia va ki kv ff gg h0 n0 Z0 Fi Fv AI AV h3) hZ (hw _ (List.mem_of_getElem? (i := 31) rfl)) (hw _ (List.mem_of_getElem? (i := 2) rfl)) (by decide) (by decide)) (g := (mkF m 16 #[.val (.ref mp), .val (.long xx), .second, .val (.ref yv), .unset] [(.long xx), (.ref mp)])) rfl (by rw [hml]; rfl) (Steps.refl _) (a := mp) (by rw [e0]; exact q1) q1' (argsL := [(.long xx)]) (rest := []) (lenOf pd_0 rfl) rfl (by show 2 * 0 + _ ≤ _; exact Nat.le_of_eq rfl) (hb hby d4_16) (fun _ _ => ⟨rfl, e0, (by decide : 0 + 0 ≤ _), (by decide : 0 + 0 ≤ _)⟩)
  dsimp only [Pt.U, Pt.locs, Pt.cells, Pt.slots] at X1 l1 y1 z1 st1 hQ1
  subst l1 y1 z1
  obtain ⟨j1, rfl, N1q, e1, Fd1⟩ := hQ1
  have N1 := Fr.app N0 N1q
  refine OEnds.tr (g' := (mkF m 19 #[.val (.ref mp), .val (.long xx), .second, .val (.ref yv), .unset] [(.int j1)])) st1 ?_
  refine OEnds.go (g' := (mkF m 21 #[.val (.ref mp), .val (.long xx), .second, .val (.ref yv), .val (.int j1)] [])) (fun t k => XS.istore X1.here hx rfl (hb hby d4_19) rfl (l' := #[.val (.ref mp), .val (.long xx), .second, .val (.ref yv), .val (.int j1)]) rfl k) ?_
  refine OEnds.go (g' := (mkF m 22 #[.val (.ref mp), .val (.long xx), .second, .val (.ref yv), .val (.int j1)] [(.ref mp)])) (fun t k => XS.aloadN X1.here hx rfl (hb hby d4_21) rfl rfl k) ?_
  obtain ⟨T2, X2, e2, st2⟩ := getF X1 hx hZ hown (host := "") (Or.inl (hw _ (List.mem_of_getElem? (i := 14) rfl))) Via.refl e1 Fv (g := (mkF m 22 #[.val (.ref mp), .val (.long xx), .second, .val (.ref yv), .val (.int j1)] [(.ref mp)])) rfl rfl (hb hby d4_22)
  refine OEnds.go (g' := (mkF m 25 #[.val (.ref mp), .val (.long xx), .second, .val (.ref yv), .val (.int j1)] [(.ref va)])) st2 ?_
  refine OEnds.go (g' := (mkF m 27 #[.val (.ref mp), .val (.long xx), .second, .val (.ref yv), .val (.int j1)] [(.int j1), (.ref va)])) (fun t k => XS.iload X2.here hx rfl (hb hby d4_25) rfl k) ?_
  obtain ⟨cl3, Ar3, qa3, Sa3, Na3, Ha3⟩ := @id _ AV
  have hin3 : ¬ (j1 < 0 ∨ cl3.slots.size ≤ (j1).toNatClampNeg) := inb_of Sa3 (own_Fdb Fd1)
  by_cases c27_4 : (ff j1) = .null
  · -- yes
    have hat3 : cl3.slots[(j1).toNatClampNeg]? = some .null := (Ha3 _ hin3).1.trans (congrArg some c27_4)
    refine OEnds.go (g' := (mkF m 28 #[.val (.ref mp), .val (.long xx), .second, .val (.ref yv), .val (.int j1)] [.null])) (X2.aaload hx (j := j1) (v := .null) (by rw [e2]; exact Ar3.1) (State.isArrayOf_alike hZ.alike Ar3.2.1) rfl Ar3.2.2 hin3 hat3 (g := (mkF m 27 #[.val (.ref mp), .val (.long xx), .second, .val (.ref yv), .val (.int j1)] [(.int j1), (.ref va)])) rfl rfl (hb hby d4_27)) ?_
    refine OEnds.go (g' := (mkF m 31 #[.val (.ref mp), .val (.long xx), .second, .val (.ref yv), .val (.int j1)] [])) (fun t k => XS.ifnonnullNo X2.here hx rfl (hb hby d4_28) rfl k) ?_
    refine OEnds.go (g' := (mkF m 32 #[.val (.ref mp), .val (.long xx), .second, .val (.ref yv), .val (.int j1)] [(.ref mp)])) (fun t k => XS.aloadN X2.here hx rfl (hb hby d4_31) rfl rfl k) ?_
    obtain ⟨T5, X5, e5, st5⟩ := getF X2 hx hZ hown (host := "") (Or.inl (hw _ (List.mem_of_getElem? (i := 10) rfl))) Via.refl e2 Fi (g := (mkF m 32 #[.val (.ref mp), .val (.long xx), .second, .val (.ref yv), .val (.int j1)] [(.ref mp)])) rfl rfl (hb hby d4_32)
    refine OEnds.go (g' := (mkF m 35 #[.val (.ref mp), .val (.long xx), .second, .val (.ref yv), .val (.int j1)] [(.ref ia)])) st5 ?_
    refine OEnds.go (g' := (mkF m 37 #[.val (.ref mp), .val (.long xx), .second, .val (.ref yv), .val (.int j1)] [(.int j1), (.ref ia)])) (fun t k => XS.iload X5.here hx rfl (hb hby d4_35) rfl k) ?_
    refine OEnds.go (g' := (mkF m 38 #[.val (.ref mp), .val (.long xx), .second, .val (.ref yv), .val (.int j1)] [(.long xx), (.int j1), (.ref ia)])) (fun t k => XS.lloadN X5.here hx rfl (hb hby d4_37) rfl k) ?_
    obtain ⟨cl6, Ar6, qa6, Sa6, Na6, Ha6⟩ := @id _ AI
    have hin6 : ¬ (j1 < 0 ∨ cl6.slots.size ≤ (j1).toNatClampNeg) := inb_of Sa6 (own_Fdb Fd1)
    obtain ⟨T7, h7, X7, e7, W7, st7⟩ := stJ X5 hx hZ e5 Ar6 (j := j1) hin6 (g := (mkF m 38 #[.val (.ref mp), .val (.long xx), .second, .val (.ref yv), .val (.int j1)] [(.long xx), (.int j1), (.ref ia)])) rfl rfl (hb hby d4_38)
    have N7 := Fr.snoc X7 N1 g_ia
    have K7 : Keep h0 h7 [mp, ia, va] := (Keep.refl h0 [mp, ia, va]).wr W7 (Or.inl (by simp))
    have A7_ia : own_Av Z h7 ia ki .long (64 : Int32) (fun i => .long ((own_u gg j1 xx) i)) := own_Av.setJ Ar6 qa6 Sa6 Na6 Ha6 W7 hin6
    refine OEnds.go (g' := (mkF m 39 #[.val (.ref mp), .val (.long xx), .second, .val (.ref yv), .val (.int j1)] [])) st7 ?_
    refine OEnds.go (g' := (mkF m 40 #[.val (.ref mp), .val (.long xx), .second, .val (.ref yv), .val (.int j1)] [(.ref mp)])) (fun t k => XS.aloadN X7.here hx rfl (hb hby d4_39) rfl rfl k) ?_
    refine OEnds.go (g' := (mkF m 41 #[.val (.ref mp), .val (.long xx), .second, .val (.ref yv), .val (.int j1)] [(.ref mp), (.ref mp)])) (fun t k => XS.dup X7.here hx rfl (hb hby d4_40) rfl rfl k) ?_
    obtain ⟨T8, X8, e8, st8⟩ := getF X7 hx hZ hown (host := "") (Or.inl (hw _ (List.mem_of_getElem? (i := 33) rfl))) Via.refl e7 (Fs.other W7 (Or.inl ne1)) (g := (mkF m 41 #[.val (.ref mp), .val (.long xx), .second, .val (.ref yv), .val (.int j1)] [(.ref mp), (.ref mp)])) rfl rfl (hb hby d4_41)
    refine OEnds.go (g' := (mkF m 44 #[.val (.ref mp), .val (.long xx), .second, .val (.ref yv), .val (.int j1)] [(.int (2 : Int32)), (.ref mp)])) st8 ?_
    refine OEnds.go (g' := (mkF m 45 #[.val (.ref mp), .val (.long xx), .second, .val (.ref yv), .val (.int j1)] [(.int (1 : Int32)), (.int (2 : Int32)), (.ref mp)])) (fun t k => XS.iconst X8.here hx rfl (hb hby d4_44) k) ?_
    refine OEnds.go (g' := (mkF m 46 #[.val (.ref mp), .val (.long xx), .second, .val (.ref yv), .val (.int j1)] [(.int ((2 : Int32) + (1 : Int32))), (.ref mp)])) (fun t k => XS.iadd X8.here hx rfl (hb hby d4_45) rfl k) ?_
    rw [show ((2 : Int32) + (1 : Int32)) = (3 : Int32) from by decide]
    obtain ⟨T9, h9, X9, e9, W9, st9⟩ := putF X8 hx hZ hown (host := "") (Or.inl (hw _ (List.mem_of_getElem? (i := 33) rfl))) Via.refl e8 (Fs.other W7 (Or.inl ne1)) (E0.wr W7) (Or.inl (hw _ (List.mem_of_getElem? (i := 34) rfl))) (hw _ (List.mem_of_getElem? (i := 1) rfl)) (ty := .int) (by decide) rfl rfl (g := (mkF m 46 #[.val (.ref mp), .val (.long xx), .second, .val (.ref yv), .val (.int j1)] [(.int (3 : Int32)), (.ref mp)])) rfl rfl (hb hby d4_46)
    have N9 := Fr.snoc X9 N7 g_mp
    have K9 : Keep h0 h9 [mp, ia, va] := K7.wr W9 (Or.inl (by simp))
    have Fw9 := (Fs.other W7 (Or.inl ne1)).same W9
    refine OEnds.go (g' := (mkF m 49 #[.val (.ref mp), .val (.long xx), .second, .val (.ref yv), .val (.int j1)] [])) st9 ?_
    refine OEnds.go (g' := (mkF m 50 #[.val (.ref mp), .val (.long xx), .second, .val (.ref yv), .val (.int j1)] [(.ref mp)])) (fun t k => XS.aloadN X9.here hx rfl (hb hby d4_49) rfl rfl k) ?_
    obtain ⟨T10, X10, e10, st10⟩ := getF X9 hx hZ hown (host := "") (Or.inl (hw _ (List.mem_of_getElem? (i := 14) rfl))) Via.refl e9 ((Fv.other W7 (Or.inl ne1)).other W9 (Or.inr (slot_ne (Or.inl (hw _ (List.mem_of_getElem? (i := 15) rfl))) (Or.inl (hw _ (List.mem_of_getElem? (i := 34) rfl))) (by decide) (t := (.array (.object "java/lang/Object"))) (t' := .int) (by decide) (by decide)))) (g := (mkF m 50 #[.val (.ref mp), .val (.long xx), .second, .val (.ref yv), .val (.int j1)] [(.ref mp)])) rfl rfl (hb hby d4_50)
    refine OEnds.go (g' := (mkF m 53 #[.val (.ref mp), .val (.long xx), .second, .val (.ref yv), .val (.int j1)] [(.ref va)])) st10 ?_
    refine OEnds.go (g' := (mkF m 55 #[.val (.ref mp), .val (.long xx), .second, .val (.ref yv), .val (.int j1)] [(.int j1), (.ref va)])) (fun t k => XS.iload X10.here hx rfl (hb hby d4_53) rfl k) ?_
    refine OEnds.go (g' := (mkF m 56 #[.val (.ref mp), .val (.long xx), .second, .val (.ref yv), .val (.int j1)] [(.ref yv), (.int j1), (.ref va)])) (fun t k => XS.aloadN X10.here hx rfl (hb hby d4_55) rfl rfl k) ?_
    obtain ⟨cl11, Ar11, qa11, Sa11, Na11, Ha11⟩ := @id _ ((AV.other W7 (Ne.symm ne3)).other W9 (Ne.symm ne2))
    have hin11 : ¬ (j1 < 0 ∨ cl11.slots.size ≤ (j1).toNatClampNeg) := inb_of Sa11 (own_Fdb Fd1)
    obtain ⟨T12, h12, X12, e12, W12, st12⟩ := stR X10 hx hZ e10 Ar11 (j := j1) hin11 rfl (Sto.ofV Ar11 qa11 OV (Ins.of_exa ((EY.wr W7).wr W9) (hw _ (List.mem_of_getElem? (i := 35) rfl)))) (g := (mkF m 56 #[.val (.ref mp), .val (.long xx), .second, .val (.ref yv), .val (.int j1)] [(.ref yv), (.int j1), (.ref va)])) rfl rfl (hb hby d4_56)
    have N12 := Fr.snoc X12 N9 g_va
    have K12 : Keep h0 h12 [mp, ia, va] := K9.wr W12 (Or.inl (by simp))
    have A12_va : own_Av Z h12 va kv (.object "java/lang/Object") (64 : Int32) (own_u ff j1 (.ref yv)) := own_Av.set Ar11 qa11 Sa11 Na11 Ha11 rfl W12 hin11
    refine OEnds.go (g' := (mkF m 57 #[.val (.ref mp), .val (.long xx), .second, .val (.ref yv), .val (.int j1)] [])) st12 ?_
    refine OEnds.go (g' := (mkF m 58 #[.val (.ref mp), .val (.long xx), .second, .val (.ref yv), .val (.int j1)] [(.int (2 : Int32))])) (fun t k => XS.iconst X12.here hx rfl (hb hby d4_57) k) ?_
    refine OEnds.go (g' := (mkF m 59 #[.val (.ref mp), .val (.long xx), .second, .val (.ref yv), .val (.int j1)] [(.ref mp), (.int (2 : Int32))])) (fun t k => XS.aloadN X12.here hx rfl (hb hby d4_58) rfl rfl k) ?_
    obtain ⟨T13, X13, e13, st13⟩ := getF X12 hx hZ hown (host := "") (Or.inl (hw _ (List.mem_of_getElem? (i := 33) rfl))) Via.refl e12 (Fw9.other W12 (Or.inl ne2)) (g := (mkF m 59 #[.val (.ref mp), .val (.long xx), .second, .val (.ref yv), .val (.int j1)] [(.ref mp), (.int (2 : Int32))])) rfl rfl (hb hby d4_59)
    refine OEnds.go (g' := (mkF m 62 #[.val (.ref mp), .val (.long xx), .second, .val (.ref yv), .val (.int j1)] [(.int (3 : Int32)), (.int (2 : Int32))])) st13 ?_
    refine OEnds.go (g' := (mkF m 63 #[.val (.ref mp), .val (.long xx), .second, .val (.ref yv), .val (.int j1)] [(.int ((2 : Int32) * (3 : Int32)))])) (fun t k => XS.imul X13.here hx rfl (hb hby d4_62) rfl k) ?_
    rw [show ((2 : Int32) * (3 : Int32)) = (6 : Int32) from by decide]
    refine OEnds.go (g' := (mkF m 64 #[.val (.ref mp), .val (.long xx), .second, .val (.ref yv), .val (.int j1)] [(.ref mp), (.int (6 : Int32))])) (fun t k => XS.aloadN X13.here hx rfl (hb hby d4_63) rfl rfl k) ?_
    obtain ⟨T14, X14, e14, st14⟩ := getF X13 hx hZ hown (host := "") (Or.inl (hw _ (List.mem_of_getElem? (i := 10) rfl))) Via.refl e13 (((Fi.other W7 (Or.inl ne1)).other W9 (Or.inr (slot_ne (Or.inl (hw _ (List.mem_of_getElem? (i := 11) rfl))) (Or.inl (hw _ (List.mem_of_getElem? (i := 34) rfl))) (by decide) (t := (.array .long)) (t' := .int) (by decide) (by decide)))).other W12 (Or.inl ne2)) (g := (mkF m 64 #[.val (.ref mp), .val (.long xx), .second, .val (.ref yv), .val (.int j1)] [(.ref mp), (.int (6 : Int32))])) rfl rfl (hb hby d4_64)
    refine OEnds.go (g' := (mkF m 67 #[.val (.ref mp), .val (.long xx), .second, .val (.ref yv), .val (.int j1)] [(.ref ia), (.int (6 : Int32))])) st14 ?_
    obtain ⟨cl15, Ar15, qa15, Sa15, Na15, Ha15⟩ := @id _ ((A7_ia.other W9 (Ne.symm ne1)).other W12 ne3)
    refine OEnds.go (g' := (mkF m 68 #[.val (.ref mp), .val (.long xx), .second, .val (.ref yv), .val (.int j1)] [(.int (64 : Int32)), (.int (6 : Int32))])) (fun t k => X14.arraylength hx (by rw [e14]; exact Ar15.1) (State.isArrayOf_alike hZ.alike Ar15.2.1) (g := (mkF m 67 #[.val (.ref mp), .val (.long xx), .second, .val (.ref yv), .val (.int j1)] [(.ref ia), (.int (6 : Int32))])) rfl rfl (hb hby d4_67) t (by rw [len_of Sa15 Na15]; exact k)) ?_
    refine OEnds.go (g' := (mkF m 75 #[.val (.ref mp), .val (.long xx), .second, .val (.ref yv), .val (.int j1)] [])) (fun t k => XS.icmpYes X14.here hx rfl (pc0 := 68) (pc' := 75) rfl (hb hby d4_68) rfl (flt (by decide : ¬ ((64 : Int32) < (6 : Int32)))).2.2.2 (by decide) (by decide) k) ?_
    exact OEnds.outV X14 Bd.notSynchronized hx Bd.returns (hb hby d4_75) (by rw [e14]; exact ⟨rfl, N12, K12, (((E0.wr W7).wr W9).wr W12), (((Fi.other W7 (Or.inl ne1)).other W9 (Or.inr (slot_ne (Or.inl (hw _ (List.mem_of_getElem? (i := 11) rfl))) (Or.inl (hw _ (List.mem_of_getElem? (i := 34) rfl))) (by decide) (t := (.array .long)) (t' := .int) (by decide) (by decide)))).other W12 (Or.inl ne2)), (((Fv.other W7 (Or.inl ne1)).other W9 (Or.inr (slot_ne (Or.inl (hw _ (List.mem_of_getElem? (i := 15) rfl))) (Or.inl (hw _ (List.mem_of_getElem? (i := 34) rfl))) (by decide) (t := (.array (.object "java/lang/Object"))) (t' := .int) (by decide) (by decide)))).other W12 (Or.inl ne2)), j1, Fd1, A12_va, Or.inl ⟨c27_4, (Fw9.other W12 (Or.inl ne2)), ((A7_ia.other W9 (Ne.symm ne1)).other W12 ne3)⟩⟩) (by decide) (by decide)
  · -- no
    obtain ⟨y_16, hy_16⟩ := own_nnref (Ha3 _ hin3).2 rfl c27_4
    have hat3 : cl3.slots[(j1).toNatClampNeg]? = some (.ref y_16) := (Ha3 _ hin3).1.trans (congrArg some hy_16)
    refine OEnds.go (g' := (mkF m 28 #[.val (.ref mp), .val (.long xx), .second, .val (.ref yv), .val (.int j1)] [(.ref y_16)])) (X2.aaload hx (j := j1) (v := (.ref y_16)) (by rw [e2]; exact Ar3.1) (State.isArrayOf_alike hZ.alike Ar3.2.1) rfl Ar3.2.2 hin3 hat3 (g := (mkF m 27 #[.val (.ref mp), .val (.long xx), .second, .val (.ref yv), .val (.int j1)] [(.int j1), (.ref va)])) rfl rfl (hb hby d4_27)) ?_
    refine OEnds.go (g' := (mkF m 49 #[.val (.ref mp), .val (.long xx), .second, .val (.ref yv), .val (.int j1)] [])) (fun t k => XS.ifnonnullYes X2.here hx rfl (pc0 := 28) (pc' := 49) rfl (hb hby d4_28) rfl (by decide) (by decide) k) ?_
    refine OEnds.go (g' := (mkF m 50 #[.val (.ref mp), .val (.long xx), .second, .val (.ref yv), .val (.int j1)] [(.ref mp)])) (fun t k => XS.aloadN X2.here hx rfl (hb hby d4_49) rfl rfl k) ?_
    obtain ⟨T17, X17, e17, st17⟩ := getF X2 hx hZ hown (host := "") (Or.inl (hw _ (List.mem_of_getElem? (i := 14) rfl))) Via.refl e2 Fv (g := (mkF m 50 #[.val (.ref mp), .val (.long xx), .second, .val (.ref yv), .val (.int j1)] [(.ref mp)])) rfl rfl (hb hby d4_50)
    refine OEnds.go (g' := (mkF m 53 #[.val (.ref mp), .val (.long xx), .second, .val (.ref yv), .val (.int j1)] [(.ref va)])) st17 ?_
    refine OEnds.go (g' := (mkF m 55 #[.val (.ref mp), .val (.long xx), .second, .val (.ref yv), .val (.int j1)] [(.int j1), (.ref va)])) (fun t k => XS.iload X17.here hx rfl (hb hby d4_53) rfl k) ?_
    refine OEnds.go (g' := (mkF m 56 #[.val (.ref mp), .val (.long xx), .second, .val (.ref yv), .val (.int j1)] [(.ref yv), (.int j1), (.ref va)])) (fun t k => XS.aloadN X17.here hx rfl (hb hby d4_55) rfl rfl k) ?_
    obtain ⟨cl18, Ar18, qa18, Sa18, Na18, Ha18⟩ := @id _ AV
    have hin18 : ¬ (j1 < 0 ∨ cl18.slots.size ≤ (j1).toNatClampNeg) := inb_of Sa18 (own_Fdb Fd1)
    obtain ⟨T19, h19, X19, e19, W19, st19⟩ := stR X17 hx hZ e17 Ar18 (j := j1) hin18 rfl (Sto.ofV Ar18 qa18 OV (Ins.of_exa EY (hw _ (List.mem_of_getElem? (i := 35) rfl)))) (g := (mkF m 56 #[.val (.ref mp), .val (.long xx), .second, .val (.ref yv), .val (.int j1)] [(.ref yv), (.int j1), (.ref va)])) rfl rfl (hb hby d4_56)
    have N19 := Fr.snoc X19 N1 g_va
    have K19 : Keep h0 h19 [mp, ia, va] := (Keep.refl h0 [mp, ia, va]).wr W19 (Or.inl (by simp))
    have A19_va : own_Av Z h19 va kv (.object "java/lang/Object") (64 : Int32) (own_u ff j1 (.ref yv)) := own_Av.set Ar18 qa18 Sa18 Na18 Ha18 rfl W19 hin18
    refine OEnds.go (g' := (mkF m 57 #[.val (.ref mp), .val (.long xx), .second, .val (.ref yv), .val (.int j1)] [])) st19 ?_
    refine OEnds.go (g' := (mkF m 58 #[.val (.ref mp), .val (.long xx), .second, .val (.ref yv), .val (.int j1)] [(.int (2 : Int32))])) (fun t k => XS.iconst X19.here hx rfl (hb hby d4_57) k) ?_
    refine OEnds.go (g' := (mkF m 59 #[.val (.ref mp), .val (.long xx), .second, .val (.ref yv), .val (.int j1)] [(.ref mp), (.int (2 : Int32))])) (fun t k => XS.aloadN X19.here hx rfl (hb hby d4_58) rfl rfl k) ?_
    obtain ⟨T20, X20, e20, st20⟩ := getF X19 hx hZ hown (host := "") (Or.inl (hw _ (List.mem_of_getElem? (i := 33) rfl))) Via.refl e19 (Fs.other W19 (Or.inl ne2)) (g := (mkF m 59 #[.val (.ref mp), .val (.long xx), .second, .val (.ref yv), .val (.int j1)] [(.ref mp), (.int (2 : Int32))])) rfl rfl (hb hby d4_59)
    refine OEnds.go (g' := (mkF m 62 #[.val (.ref mp), .val (.long xx), .second, .val (.ref yv), .val (.int j1)] [(.int (2 : Int32)), (.int (2 : Int32))])) st20 ?_
    refine OEnds.go (g' := (mkF m 63 #[.val (.ref mp), .val (.long xx), .second, .val (.ref yv), .val (.int j1)] [(.int ((2 : Int32) * (2 : Int32)))])) (fun t k => XS.imul X20.here hx rfl (hb hby d4_62) rfl k) ?_
    rw [show ((2 : Int32) * (2 : Int32)) = (4 : Int32) from by decide]
    refine OEnds.go (g' := (mkF m 64 #[.val (.ref mp), .val (.long xx), .second, .val (.ref yv), .val (.int j1)] [(.ref mp), (.int (4 : Int32))])) (fun t k => XS.aloadN X20.here hx rfl (hb hby d4_63) rfl rfl k) ?_
    obtain ⟨T21, X21, e21, st21⟩ := getF X20 hx hZ hown (host := "") (Or.inl (hw _ (List.mem_of_getElem? (i := 10) rfl))) Via.refl e20 (Fi.other W19 (Or.inl ne2)) (g := (mkF m 64 #[.val (.ref mp), .val (.long xx), .second, .val (.ref yv), .val (.int j1)] [(.ref mp), (.int (4 : Int32))])) rfl rfl (hb hby d4_64)
    refine OEnds.go (g' := (mkF m 67 #[.val (.ref mp), .val (.long xx), .second, .val (.ref yv), .val (.int j1)] [(.ref ia), (.int (4 : Int32))])) st21 ?_
    obtain ⟨cl22, Ar22, qa22, Sa22, Na22, Ha22⟩ := @id _ (AI.other W19 ne3)
    refine OEnds.go (g' := (mkF m 68 #[.val (.ref mp), .val (.long xx), .second, .val (.ref yv), .val (.int j1)] [(.int (64 : Int32)), (.int (4 : Int32))])) (fun t k => X21.arraylength hx (by rw [e21]; exact Ar22.1) (State.isArrayOf_alike hZ.alike Ar22.2.1) (g := (mkF m 67 #[.val (.ref mp), .val (.long xx), .second, .val (.ref yv), .val (.int j1)] [(.ref ia), (.int (4 : Int32))])) rfl rfl (hb hby d4_67) t (by rw [len_of Sa22 Na22]; exact k)) ?_
    refine OEnds.go (g' := (mkF m 75 #[.val (.ref mp), .val (.long xx), .second, .val (.ref yv), .val (.int j1)] [])) (fun t k => XS.icmpYes X21.here hx rfl (pc0 := 68) (pc' := 75) rfl (hb hby d4_68) rfl (flt (by decide : ¬ ((64 : Int32) < (4 : Int32)))).2.2.2 (by decide) (by decide) k) ?_
    exact OEnds.outV X21 Bd.notSynchronized hx Bd.returns (hb hby d4_75) (by rw [e21]; exact ⟨rfl, N19, K19, (E0.wr W19), (Fi.other W19 (Or.inl ne2)), (Fv.other W19 (Or.inl ne2)), j1, Fd1, A19_va, Or.inr ⟨c27_4, (Fs.other W19 (Or.inl ne2)), (AI.other W19 ne3)⟩⟩) (by decide) (by decide)
theorem ef_rmD0 (m : MethodId) (x0 : Addr) : entryFrame m #[(.ref x0)] 4 = mkF m 0 #[.val (.ref x0), .unset, .unset, .unset] [] := by first | (simp [entryFrame, mkF, argsToLocals, Value.category]; done) | rfl
def Q_rmD0 (Z : State) (mp : Addr) (ia : Addr) (va : Addr) (ki : ClassId) (kv : ClassId) (ff : Int32 → Value) (gg : Int32 → Int64) (h0 : Heap) (n0 : Nat) (v : Option Value) (h : Heap) (L : List Loc) : Prop := ∃ (r : Addr) (kr : ClassId) (rr : Int32 → Int64), v = some (.ref r) ∧ Fr n0 L ∧ Keep h0 h [] ∧ own_Av Z h r kr .long (0 : Int32) (fun i => .long (rr i)) ∧ own_Pr ff gg 64 rr ∧ n0 ≤ r
set_option maxRecDepth 65536 in
set_option maxHeartbeats 40000000 in
theorem rmD0 (l : Launch) (Z : State) (a0 : Array Value) (hw : ∀ d ∈ tables_1, d.before a0 Z = true) (ws : List Jvm.Cond) (mp : Addr) (ia : Addr) (va : Addr) (ki : ClassId) (kv : ClassId) (ff : Int32 → Value) (gg : Int32 → Int64) (h0 : Heap) (n0 : Nat) (Z0 : n0 ≤ h0.size) (Fi : Fld Z h0 mp "com/example/slimheap/slimheap/hprof/IdMap" "ids" "[J" (.ref ia)) (Fv : Fld Z h0 mp "com/example/slimheap/slimheap/hprof/IdMap" "values" "[Ljava/lang/Object;" (.ref va)) (AI : own_Av Z h0 ia ki .long (64 : Int32) (fun i => .long (gg i))) (AV : own_Av Z h0 va kv (.object "java/lang/Object") (64 : Int32) ff) (Fs : Fld Z h0 mp "com/example/slimheap/slimheap/hprof/IdMap" "size" "I" (.int (0 : Int32))) (hR : (own_pre ff gg 64).length = 0) :
    MetFree l (⟨"com/example/slimheap/slimheap/hprof/IdMap", "ids", "()[J"⟩ : MethodName) (head1 (Jvm.Cond.code (⟨"com/example/slimheap/slimheap/hprof/IdMap", "ids", "()[J"⟩ : MethodName) prog_31_method_4_code 4 (some (.array .long)) :: ws) ({ frames := 0, cells := 1, slots := 0, locals := 0 } : Room)) (fun aa_ U => aa_ = #[(.ref mp)] ∧ Z.Warmed39 U.vm ∧ U.heap = h0) (fun _ _ _ _ _ => True) (fun _ U o U' => ∃ v L, o = .returned v ∧ Q_rmD0 Z mp ia va ki kv ff gg h0 n0 v U'.heap L ∧ FrameEnd U o U' L ({ frames := 0, cells := 1, slots := 0, locals := 0 } : Room).cells ({ frames := 0, cells := 1, slots := 0, locals := 0 } : Room).slots) := by
  refine MetFree.of_bodySF (plainFor_of_name pn_0) hisR ?_
  intro p e s m args below meth c s₁ Bd hml0 hP hK
  obtain ⟨rfl, hZ, hh⟩ := hP
  have hx := Bd.exec
  have hby := Bd.bytes
  have hml : c.maxLocals = 4 := hml0
  have hown : s.vm.findClass "com/example/slimheap/slimheap/hprof/IdMap" = some m.cls := findClass_of_methodNamed Bd.named
  have hnm := (name_of_methodNamed Bd.named Bd.method).1
  have X0 : Stand p l e ({ frames := 0, cells := 1, slots := 0, locals := 0 } : Room) s m #[(.ref mp)] below meth c s₁ [] 0 0 := Stand.of_body Bd
  have e0 : s₁.heap = h0 := by rw [← hh, Bd.state]; rfl
  have N0 := Fr.nil n0
  show OEnds p e below (OEndP s (Q_rmD0 Z mp ia va ki kv ff gg h0 n0) ({ frames := 0, cells := 1, slots := 0, locals := 0 } : Room).cells ({ frames := 0, cells := 1, slots := 0, locals := 0 } : Room).slots) s₁ (entryFrame m #[(.ref mp)] 4)
  rw [ef_rmD0 m mp]
  refine OEnds.go (g' := (mkF m 1 #[.val (.ref mp), .unset, .unset, .unset] [(.ref mp)])) (fun t k => XS.aloadN X0.here hx rfl (hb hby d6_0) rfl rfl k) ?_
  obtain ⟨T1, X1, e1, st1⟩ := getF X0 hx hZ hown (host := "") (Or.inl (hw _ (List.mem_of_getElem? (i := 33) rfl))) Via.refl e0 Fs (g := (mkF m 1 #[.val (.ref mp), .unset, .unset, .unset] [(.ref mp)])) rfl rfl (hb hby d6_1)
  refine OEnds.go (g' := (mkF m 4 #[.val (.ref mp), .unset, .unset, .unset] [(.int (0 : Int32))])) st1 ?_
  obtain ⟨T2, h2, k2, X2, e2, E2, A2, st2⟩ := newP X1 hx hZ (hw _ (List.mem_of_getElem? (i := 9) rfl)) e1 (g := (mkF m 4 #[.val (.ref mp), .unset, .unset, .unset] [(.int (0 : Int32))])) rfl (hb hby d6_4) rfl (by decide) (cap := 0) (by decide) (by decide) (by decide) (by decide)
  obtain ⟨b2, g2⟩ : ∃ z, z = h0.size := ⟨_, rfl⟩
  rw [← g2] at A2 st2
  have g_b2 : n0 ≤ b2 := Nat.le_trans Z0 (Nat.le_of_eq g2.symm)
  have sz_b2 : h0.size ≤ b2 := Nat.le_trans (Keep.refl h0 []).1 (Nat.le_of_eq g2.symm)
  have K2 : Keep h0 h2 [] := (Keep.refl h0 []).ext E2
  have V_b2 : Arv Z h2 b2 k2 .long (0 : Int32) [] (.long (0 : Int64)) := Arv.new A2 (by decide)
  refine OEnds.go (g' := (mkF m 6 #[.val (.ref mp), .unset, .unset, .unset] [(.ref b2)])) st2 ?_
  refine OEnds.go (g' := (mkF m 7 #[.val (.ref mp), .val (.ref b2), .unset, .unset] [])) (fun t k => XS.astoreN X2.here hx rfl (hb hby d6_6) rfl rfl (l' := #[.val (.ref mp), .val (.ref b2), .unset, .unset]) rfl k) ?_
  refine OEnds.go (g' := (mkF m 8 #[.val (.ref mp), .val (.ref b2), .unset, .unset] [(.int (0 : Int32))])) (fun t k => XS.iconst X2.here hx rfl (hb hby d6_7) k) ?_
  refine OEnds.go (g' := (mkF m 9 #[.val (.ref mp), .val (.ref b2), .val (.int (0 : Int32)), .unset] [])) (fun t k => XS.istoreN X2.here hx rfl (hb hby d6_8) rfl (l' := #[.val (.ref mp), .val (.ref b2), .val (.int (0 : Int32)), .unset]) rfl k) ?_
  refine OEnds.go (g' := (mkF m 10 #[.val (.ref mp), .val (.ref b2), .val (.int (0 : Int32)), .unset] [(.int (0 : Int32))])) (fun t k => XS.iconst X2.here hx rfl (hb hby d6_9) k) ?_
  refine OEnds.go (g' := (mkF m 11 #[.val (.ref mp), .val (.ref b2), .val (.int (0 : Int32)), .val (.int (0 : Int32))] [])) (fun t k => XS.istoreN X2.here hx rfl (hb hby d6_10) rfl (l' := #[.val (.ref mp), .val (.ref b2), .val (.int (0 : Int32)), .val (.int (0 : Int32))]) rfl k) ?_
  have nr0 : ia ≠ b2 := (Nat.ne_of_lt (Nat.lt_of_lt_of_le AI.lt (Nat.le_of_eq g2.symm)))
  have nr1 : va ≠ b2 := (Nat.ne_of_lt (Nat.lt_of_lt_of_le AV.lt (Nat.le_of_eq g2.symm)))
  have nr2 : mp ≠ b2 := (Nat.ne_of_lt (Nat.lt_of_lt_of_le Fi.lt (Nat.le_of_eq g2.symm)))
  have VR : own_Av Z h2 b2 k2 .long (0 : Int32) (fun i => .long ((fun _ => (0 : Int64)) i)) := own_Av.new A2 (by decide)
  have LOOP : ∀ (fu ix : Nat) (hfu : fu + ix = 64) (rr : Int32 → Int64) (TT : State) (ll_ : List Loc) (hh_ : Heap) (XX : Stand p l e ({ frames := 0, cells := 1, slots := 0, locals := 0 } : Room) s m #[.ref mp] below meth c TT ll_ 1 0) (eT : TT.heap = hh_) (NN : Fr n0 ll_) (KK : Keep h0 hh_ []) (Fi_ : Fld Z hh_ mp "com/example/slimheap/slimheap/hprof/IdMap" "ids" "[J" (.ref ia)) (Fv_ : Fld Z hh_ mp "com/example/slimheap/slimheap/hprof/IdMap" "values" "[Ljava/lang/Object;" (.ref va)) (AI_ : own_Av Z hh_ ia ki .long (64 : Int32) (fun i => .long (gg i))) (AV_ : own_Av Z hh_ va kv (.object "java/lang/Object") (64 : Int32) ff) (AR_ : own_Av Z hh_ b2 k2 .long (0 : Int32) (fun i => .long (rr i))) (hP : own_Pr ff gg ix rr), OEnds p e below (OEndP s (Q_rmD0 Z mp ia va ki kv ff gg h0 n0) ({ frames := 0, cells := 1, slots := 0, locals := 0 } : Room).cells ({ frames := 0, cells := 1, slots := 0, locals := 0 } : Room).slots) TT (mkF m 11 #[.val (.ref mp), .val (.ref b2), .val (.int (own_c ff gg ix)), .val (.int (Int32.ofNat ix))] []) := by
    intro fu
    induction fu with
    | zero =>
      intro ix hfu rr TT ll_ hh_ XX eT NN KK Fi_ Fv_ AI_ AV_ AR_ hP
      obtain rfl : ix = 64 := by omega
      refine OEnds.go (g' := (mkF m 12 #[.val (.ref mp), .val (.ref b2), .val (.int (own_c ff gg 64)), .val (.int (Int32.ofNat 64))] [(.int (Int32.ofNat 64))])) (fun t k => XS.iloadN XX.here hx rfl (hb hby d6_11) rfl k) ?_
      refine OEnds.go (g' := (mkF m 13 #[.val (.ref mp), .val (.ref b2), .val (.int (own_c ff gg 64)), .val (.int (Int32.ofNat 64))] [(.ref mp), (.int (Int32.ofNat 64))])) (fun t k => XS.aloadN XX.here hx rfl (hb hby d6_12) rfl rfl k) ?_
      obtain ⟨T3, X3, e3, st3⟩ := getF XX hx hZ hown (host := "") (Or.inl (hw _ (List.mem_of_getElem? (i := 14) rfl))) Via.refl eT Fv_ (g := (mkF m 13 #[.val (.ref mp), .val (.ref b2), .val (.int (own_c ff gg 64)), .val (.int (Int32.ofNat 64))] [(.ref mp), (.int (Int32.ofNat 64))])) rfl rfl (hb hby d6_13)
      refine OEnds.go (g' := (mkF m 16 #[.val (.ref mp), .val (.ref b2), .val (.int (own_c ff gg 64)), .val (.int (Int32.ofNat 64))] [(.ref va), (.int (Int32.ofNat 64))])) st3 ?_
      obtain ⟨cl4, Ar4, qa4, Sa4, Na4, Ha4⟩ := @id _ AV_
      refine OEnds.go (g' := (mkF m 17 #[.val (.ref mp), .val (.ref b2), .val (.int (own_c ff gg 64)), .val (.int (Int32.ofNat 64))] [(.int (64 : Int32)), (.int (Int32.ofNat 64))])) (fun t k => X3.arraylength hx (by rw [e3]; exact Ar4.1) (State.isArrayOf_alike hZ.alike Ar4.2.1) (g := (mkF m 16 #[.val (.ref mp), .val (.ref b2), .val (.int (own_c ff gg 64)), .val (.int (Int32.ofNat 64))] [(.ref va), (.int (Int32.ofNat 64))])) rfl rfl (hb hby d6_16) t (by rw [len_of Sa4 Na4]; exact k)) ?_
      refine OEnds.go (g' := (mkF m 47 #[.val (.ref mp), .val (.ref b2), .val (.int (own_c ff gg 64)), .val (.int (Int32.ofNat 64))] [])) (fun t k => XS.icmpYes X3.here hx rfl (pc0 := 17) (pc' := 47) rfl (hb hby d6_17) rfl (flt (by decide : ¬ ((Int32.ofNat 64) < (64 : Int32)))).2.1 (by decide) (by decide) k) ?_
      refine OEnds.go (g' := (mkF m 48 #[.val (.ref mp), .val (.ref b2), .val (.int (own_c ff gg 64)), .val (.int (Int32.ofNat 64))] [(.ref b2)])) (fun t k => XS.aloadN X3.here hx rfl (hb hby d6_47) rfl rfl k) ?_
      exact OEnds.outA X3 Bd.notSynchronized hx Bd.returns rfl rfl (hb hby d6_48) (by rw [e3]; exact ⟨b2, k2, rr, rfl, NN, KK, AR_, hP, g_b2⟩) (by decide) (by decide)
    | succ fu ih =>
      intro ix hfu rr TT ll_ hh_ XX eT NN KK Fi_ Fv_ AI_ AV_ AR_ hP
      have hi : ix < 64 := by omega
      refine OEnds.go (g' := (mkF m 12 #[.val (.ref mp), .val (.ref b2), .val (.int (own_c ff gg ix)), .val (.int (Int32.ofNat ix))] [(.int (Int32.ofNat ix))])) (fun t k => XS.iloadN XX.here hx rfl (hb hby d6_11) rfl k) ?_
      refine OEnds.go (g' := (mkF m 13 #[.val (.ref mp), .val (.ref b2), .val (.int (own_c ff gg ix)), .val (.int (Int32.ofNat ix))] [(.ref mp), (.int (Int32.ofNat ix))])) (fun t k => XS.aloadN XX.here hx rfl (hb hby d6_12) rfl rfl k) ?_
      obtain ⟨T5, X5, e5, st5⟩ := getF XX hx hZ hown (host := "") (Or.inl (hw _ (List.mem_of_getElem? (i := 14) rfl))) Via.refl eT Fv_ (g := (mkF m 13 #[.val (.ref mp), .val (.ref b2), .val (.int (own_c ff gg ix)), .val (.int (Int32.ofNat ix))] [(.ref mp), (.int (Int32.ofNat ix))])) rfl rfl (hb hby d6_13)
      refine OEnds.go (g' := (mkF m 16 #[.val (.ref mp), .val (.ref b2), .val (.int (own_c ff gg ix)), .val (.int (Int32.ofNat ix))] [(.ref va), (.int (Int32.ofNat ix))])) st5 ?_
      obtain ⟨cl6, Ar6, qa6, Sa6, Na6, Ha6⟩ := @id _ AV_
      refine OEnds.go (g' := (mkF m 17 #[.val (.ref mp), .val (.ref b2), .val (.int (own_c ff gg ix)), .val (.int (Int32.ofNat ix))] [(.int (64 : Int32)), (.int (Int32.ofNat ix))])) (fun t k => X5.arraylength hx (by rw [e5]; exact Ar6.1) (State.isArrayOf_alike hZ.alike Ar6.2.1) (g := (mkF m 16 #[.val (.ref mp), .val (.ref b2), .val (.int (own_c ff gg ix)), .val (.int (Int32.ofNat ix))] [(.ref va), (.int (Int32.ofNat ix))])) rfl rfl (hb hby d6_16) t (by rw [len_of Sa6 Na6]; exact k)) ?_
      refine OEnds.go (g' := (mkF m 20 #[.val (.ref mp), .val (.ref b2), .val (.int (own_c ff gg ix)), .val (.int (Int32.ofNat ix))] [])) (fun t k => XS.icmpNo X5.here hx rfl (hb hby d6_17) rfl (tlt ((own_in64 hi).2 : ((Int32.ofNat ix) < (64 : Int32)))).2.1 k) ?_
      refine OEnds.go (g' := (mkF m 21 #[.val (.ref mp), .val (.ref b2), .val (.int (own_c ff gg ix)), .val (.int (Int32.ofNat ix))] [(.ref mp)])) (fun t k => XS.aloadN X5.here hx rfl (hb hby d6_20) rfl rfl k) ?_
      obtain ⟨T7, X7, e7, st7⟩ := getF X5 hx hZ hown (host := "") (Or.inl (hw _ (List.mem_of_getElem? (i := 14) rfl))) Via.refl e5 Fv_ (g := (mkF m 21 #[.val (.ref mp), .val (.ref b2), .val (.int (own_c ff gg ix)), .val (.int (Int32.ofNat ix))] [(.ref mp)])) rfl rfl (hb hby d6_21)
      refine OEnds.go (g' := (mkF m 24 #[.val (.ref mp), .val (.ref b2), .val (.int (own_c ff gg ix)), .val (.int (Int32.ofNat ix))] [(.ref va)])) st7 ?_
      refine OEnds.go (g' := (mkF m 25 #[.val (.ref mp), .val (.ref b2), .val (.int (own_c ff gg ix)), .val (.int (Int32.ofNat ix))] [(.int (Int32.ofNat ix)), (.ref va)])) (fun t k => XS.iloadN X7.here hx rfl (hb hby d6_24) rfl k) ?_
      obtain ⟨cl8, Ar8, qa8, Sa8, Na8, Ha8⟩ := @id _ AV_
      have hin8 : ¬ ((Int32.ofNat ix) < 0 ∨ cl8.slots.size ≤ ((Int32.ofNat ix)).toNatClampNeg) := inb_of Sa8 (own_in64 hi)
      by_cases c25_9 : (ff (Int32.ofNat ix)) = .null
      · -- yes
        have hat8 : cl8.slots[((Int32.ofNat ix)).toNatClampNeg]? = some .null := (Ha8 _ hin8).1.trans (congrArg some c25_9)
        refine OEnds.go (g' := (mkF m 26 #[.val (.ref mp), .val (.ref b2), .val (.int (own_c ff gg ix)), .val (.int (Int32.ofNat ix))] [.null])) (X7.aaload hx (j := (Int32.ofNat ix)) (v := .null) (by rw [e7]; exact Ar8.1) (State.isArrayOf_alike hZ.alike Ar8.2.1) rfl Ar8.2.2 hin8 hat8 (g := (mkF m 25 #[.val (.ref mp), .val (.ref b2), .val (.int (own_c ff gg ix)), .val (.int (Int32.ofNat ix))] [(.int (Int32.ofNat ix)), (.ref va)])) rfl rfl (hb hby d6_25)) ?_
        refine OEnds.go (g' := (mkF m 41 #[.val (.ref mp), .val (.ref b2), .val (.int (own_c ff gg ix)), .val (.int (Int32.ofNat ix))] [])) (fun t k => XS.ifnullYes X7.here hx rfl (pc0 := 26) (pc' := 41) rfl (hb hby d6_26) rfl (by decide) (by decide) k) ?_
        refine OEnds.go (g' := (mkF m 44 #[.val (.ref mp), .val (.ref b2), .val (.int (own_c ff gg ix)), .val (.int ((Int32.ofNat ix) + (1 : Int32)))] [])) (fun t k => XS.iinc X7.here hx rfl (hb hby d6_41) rfl (l' := #[.val (.ref mp), .val (.ref b2), .val (.int (own_c ff gg ix)), .val (.int ((Int32.ofNat ix) + (1 : Int32)))]) rfl k) ?_
        refine OEnds.go (g' := (mkF m 11 #[.val (.ref mp), .val (.ref b2), .val (.int (own_c ff gg ix)), .val (.int ((Int32.ofNat ix) + (1 : Int32)))] [])) (fun t k => XS.goto X7.here hx rfl (pc0 := 44) (pc' := 11) rfl (hb hby d6_44) (by decide) (by decide) k) ?_
        rw [own_succ ix]
        rw [show own_c ff gg ix = own_c ff gg (ix + 1) from by rw [own_c, own_c, own_pres0 c25_9]]
        exact ih (ix + 1) (by omega) rr _ _ _ X7 e7 NN KK Fi_ Fv_ AI_ AV_ AR_ (own_Pr0 c25_9 hP)
      · -- no
        obtain ⟨y_10, hy_10⟩ := own_nnref (Ha8 _ hin8).2 rfl c25_9
        have hat8 : cl8.slots[((Int32.ofNat ix)).toNatClampNeg]? = some (.ref y_10) := (Ha8 _ hin8).1.trans (congrArg some hy_10)
        refine OEnds.go (g' := (mkF m 26 #[.val (.ref mp), .val (.ref b2), .val (.int (own_c ff gg ix)), .val (.int (Int32.ofNat ix))] [(.ref y_10)])) (X7.aaload hx (j := (Int32.ofNat ix)) (v := (.ref y_10)) (by rw [e7]; exact Ar8.1) (State.isArrayOf_alike hZ.alike Ar8.2.1) rfl Ar8.2.2 hin8 hat8 (g := (mkF m 25 #[.val (.ref mp), .val (.ref b2), .val (.int (own_c ff gg ix)), .val (.int (Int32.ofNat ix))] [(.int (Int32.ofNat ix)), (.ref va)])) rfl rfl (hb hby d6_25)) ?_
        refine OEnds.go (g' := (mkF m 29 #[.val (.ref mp), .val (.ref b2), .val (.int (own_c ff gg ix)), .val (.int (Int32.ofNat ix))] [])) (fun t k => XS.ifnullNo X7.here hx rfl (hb hby d6_26) rfl k) ?_
        refine OEnds.go (g' := (mkF m 30 #[.val (.ref mp), .val (.ref b2), .val (.int (own_c ff gg ix)), .val (.int (Int32.ofNat ix))] [(.ref b2)])) (fun t k => XS.aloadN X7.here hx rfl (hb hby d6_29) rfl rfl k) ?_
        refine OEnds.go (g' := (mkF m 31 #[.val (.ref mp), .val (.ref b2), .val (.int (own_c ff gg ix)), .val (.int (Int32.ofNat ix))] [(.int (own_c ff gg ix)), (.ref b2)])) (fun t k => XS.iloadN X7.here hx rfl (hb hby d6_30) rfl k) ?_
        refine OEnds.go (g' := (mkF m 34 #[.val (.ref mp), .val (.ref b2), .val (.int ((own_c ff gg ix) + (1 : Int32))), .val (.int (Int32.ofNat ix))] [(.int (own_c ff gg ix)), (.ref b2)])) (fun t k => XS.iinc X7.here hx rfl (hb hby d6_31) rfl (l' := #[.val (.ref mp), .val (.ref b2), .val (.int ((own_c ff gg ix) + (1 : Int32))), .val (.int (Int32.ofNat ix))]) rfl k) ?_
        refine OEnds.go (g' := (mkF m 35 #[.val (.ref mp), .val (.ref b2), .val (.int ((own_c ff gg ix) + (1 : Int32))), .val (.int (Int32.ofNat ix))] [(.ref mp), (.int (own_c ff gg ix)), (.ref b2)])) (fun t k => XS.aloadN X7.here hx rfl (hb hby d6_34) rfl rfl k) ?_
        obtain ⟨T11, X11, e11, st11⟩ := getF X7 hx hZ hown (host := "") (Or.inl (hw _ (List.mem_of_getElem? (i := 10) rfl))) Via.refl e7 Fi_ (g := (mkF m 35 #[.val (.ref mp), .val (.ref b2), .val (.int ((own_c ff gg ix) + (1 : Int32))), .val (.int (Int32.ofNat ix))] [(.ref mp), (.int (own_c ff gg ix)), (.ref b2)])) rfl rfl (hb hby d6_35)
        refine OEnds.go (g' := (mkF m 38 #[.val (.ref mp), .val (.ref b2), .val (.int ((own_c ff gg ix) + (1 : Int32))), .val (.int (Int32.ofNat ix))] [(.ref ia), (.int (own_c ff gg ix)), (.ref b2)])) st11 ?_
        refine OEnds.go (g' := (mkF m 39 #[.val (.ref mp), .val (.ref b2), .val (.int ((own_c ff gg ix) + (1 : Int32))), .val (.int (Int32.ofNat ix))] [(.int (Int32.ofNat ix)), (.ref ia), (.int (own_c ff gg ix)), (.ref b2)])) (fun t k => XS.iloadN X11.here hx rfl (hb hby d6_38) rfl k) ?_
        obtain ⟨cl12, Ar12, qa12, Sa12, Na12, Ha12⟩ := @id _ AI_
        have hin12 : ¬ ((Int32.ofNat ix) < 0 ∨ cl12.slots.size ≤ ((Int32.ofNat ix)).toNatClampNeg) := inb_of Sa12 (own_in64 hi)
        have hat12 : cl12.slots[((Int32.ofNat ix)).toNatClampNeg]? = some (.long (gg (Int32.ofNat ix))) := (Ha12 _ hin12).1
        refine OEnds.go (g' := (mkF m 40 #[.val (.ref mp), .val (.ref b2), .val (.int ((own_c ff gg ix) + (1 : Int32))), .val (.int (Int32.ofNat ix))] [(.long (gg (Int32.ofNat ix))), (.int (own_c ff gg ix)), (.ref b2)])) (X11.laload hx (j := (Int32.ofNat ix)) (v := (.long (gg (Int32.ofNat ix)))) (by rw [e11]; exact Ar12.1) (State.isArrayOf_alike hZ.alike Ar12.2.1) Ar12.2.2 hin12 hat12 (g := (mkF m 39 #[.val (.ref mp), .val (.ref b2), .val (.int ((own_c ff gg ix) + (1 : Int32))), .val (.int (Int32.ofNat ix))] [(.int (Int32.ofNat ix)), (.ref ia), (.int (own_c ff gg ix)), (.ref b2)])) rfl rfl (hb hby d6_39)) ?_
        obtain ⟨cl13, Ar13, qa13, Sa13, Na13, Ha13⟩ := @id _ AR_
        have hin13 : ¬ ((own_c ff gg ix) < 0 ∨ cl13.slots.size ≤ ((own_c ff gg ix)).toNatClampNeg) := inb_of Sa13 (own_cb c25_9 hi hR (by decide) (by decide))
        obtain ⟨T14, h14, X14, e14, W14, st14⟩ := stJ X11 hx hZ e11 Ar13 (j := (own_c ff gg ix)) hin13 (g := (mkF m 40 #[.val (.ref mp), .val (.ref b2), .val (.int ((own_c ff gg ix) + (1 : Int32))), .val (.int (Int32.ofNat ix))] [(.long (gg (Int32.ofNat ix))), (.int (own_c ff gg ix)), (.ref b2)])) rfl rfl (hb hby d6_40)
        have N14 := Fr.snoc X14 NN g_b2
        have K14 : Keep h0 h14 [] := KK.wr W14 (Or.inr sz_b2)
        have A14_b2 : own_Av Z h14 b2 k2 .long (0 : Int32) (fun i => .long ((own_u rr (own_c ff gg ix) (gg (Int32.ofNat ix))) i)) := own_Av.setJ Ar13 qa13 Sa13 Na13 Ha13 W14 hin13
        refine OEnds.go (g' := (mkF m 41 #[.val (.ref mp), .val (.ref b2), .val (.int ((own_c ff gg ix) + (1 : Int32))), .val (.int (Int32.ofNat ix))] [])) st14 ?_
        refine OEnds.go (g' := (mkF m 44 #[.val (.ref mp), .val (.ref b2), .val (.int ((own_c ff gg ix) + (1 : Int32))), .val (.int ((Int32.ofNat ix) + (1 : Int32)))] [])) (fun t k => XS.iinc X14.here hx rfl (hb hby d6_41) rfl (l' := #[.val (.ref mp), .val (.ref b2), .val (.int ((own_c ff gg ix) + (1 : Int32))), .val (.int ((Int32.ofNat ix) + (1 : Int32)))]) rfl k) ?_
        refine OEnds.go (g' := (mkF m 11 #[.val (.ref mp), .val (.ref b2), .val (.int ((own_c ff gg ix) + (1 : Int32))), .val (.int ((Int32.ofNat ix) + (1 : Int32)))] [])) (fun t k => XS.goto X14.here hx rfl (pc0 := 44) (pc' := 11) rfl (hb hby d6_44) (by decide) (by decide) k) ?_
        rw [own_succ ix]
        rw [own_cs c25_9]
        exact ih (ix + 1) (by omega) (own_u rr (own_c ff gg ix) (gg (Int32.ofNat ix))) _ _ _ X14 e14 N14 K14 (Fi_.other W14 (Or.inl nr2)) (Fv_.other W14 (Or.inl nr2)) (AI_.other W14 nr0) (AV_.other W14 nr1) A14_b2 (own_Pr1 c25_9 (by omega) hR (by decide) hP)
  exact LOOP 64 0 rfl (fun _ => 0) _ _ _ X2 e2 N0 K2 (Fi.ext E2) (Fv.ext E2) (AI.ext E2) (AV.ext E2) VR (fun t ht => absurd ht (Nat.not_lt_zero t))
theorem ef_rmD1 (m : MethodId) (x0 : Addr) : entryFrame m #[(.ref x0)] 4 = mkF m 0 #[.val (.ref x0), .unset, .unset, .unset] [] := by first | (simp [entryFrame, mkF, argsToLocals, Value.category]; done) | rfl
def Q_rmD1 (Z : State) (mp : Addr) (ia : Addr) (va : Addr) (ki : ClassId) (kv : ClassId) (ff : Int32 → Value) (gg : Int32 → Int64) (h0 : Heap) (n0 : Nat) (v : Option Value) (h : Heap) (L : List Loc) : Prop := ∃ (r : Addr) (kr : ClassId) (rr : Int32 → Int64), v = some (.ref r) ∧ Fr n0 L ∧ Keep h0 h [] ∧ own_Av Z h r kr .long (1 : Int32) (fun i => .long (rr i)) ∧ own_Pr ff gg 64 rr ∧ n0 ≤ r
set_option maxRecDepth 65536 in
set_option maxHeartbeats 40000000 in
theorem rmD1 (l : Launch) (Z : State) (a0 : Array Value) (hw : ∀ d ∈ tables_1, d.before a0 Z = true) (ws : List Jvm.Cond) (mp : Addr) (ia : Addr) (va : Addr) (ki : ClassId) (kv : ClassId) (ff : Int32 → Value) (gg : Int32 → Int64) (h0 : Heap) (n0 : Nat) (Z0 : n0 ≤ h0.size) (Fi : Fld Z h0 mp "com/example/slimheap/slimheap/hprof/IdMap" "ids" "[J" (.ref ia)) (Fv : Fld Z h0 mp "com/example/slimheap/slimheap/hprof/IdMap" "values" "[Ljava/lang/Object;" (.ref va)) (AI : own_Av Z h0 ia ki .long (64 : Int32) (fun i => .long (gg i))) (AV : own_Av Z h0 va kv (.object "java/lang/Object") (64 : Int32) ff) (Fs : Fld Z h0 mp "com/example/slimheap/slimheap/hprof/IdMap" "size" "I" (.int (1 : Int32))) (hR : (own_pre ff gg 64).length = 1) :
    MetFree l (⟨"com/example/slimheap/slimheap/hprof/IdMap", "ids", "()[J"⟩ : MethodName) (head1 (Jvm.Cond.code (⟨"com/example/slimheap/slimheap/hprof/IdMap", "ids", "()[J"⟩ : MethodName) prog_31_method_4_code 4 (some (.array .long)) :: ws) ({ frames := 0, cells := 1, slots := 1, locals := 0 } : Room)) (fun aa_ U => aa_ = #[(.ref mp)] ∧ Z.Warmed39 U.vm ∧ U.heap = h0) (fun _ _ _ _ _ => True) (fun _ U o U' => ∃ v L, o = .returned v ∧ Q_rmD1 Z mp ia va ki kv ff gg h0 n0 v U'.heap L ∧ FrameEnd U o U' L ({ frames := 0, cells := 1, slots := 1, locals := 0 } : Room).cells ({ frames := 0, cells := 1, slots := 1, locals := 0 } : Room).slots) := by
  refine MetFree.of_bodySF (plainFor_of_name pn_0) hisR ?_
  intro p e s m args below meth c s₁ Bd hml0 hP hK
  obtain ⟨rfl, hZ, hh⟩ := hP
  have hx := Bd.exec
  have hby := Bd.bytes
  have hml : c.maxLocals = 4 := hml0
  have hown : s.vm.findClass "com/example/slimheap/slimheap/hprof/IdMap" = some m.cls := findClass_of_methodNamed Bd.named
  have hnm := (name_of_methodNamed Bd.named Bd.method).1
  have X0 : Stand p l e ({ frames := 0, cells := 1, slots := 1, locals := 0 } : Room) s m #[(.ref mp)] below meth c s₁ [] 0 0 := Stand.of_body Bd
  have e0 : s₁.heap = h0 := by rw [← hh, Bd.state]; rfl
  have N0 := Fr.nil n0
  show OEnds p e below (OEndP s (Q_rmD1 Z mp ia va ki kv ff gg h0 n0) ({ frames := 0, cells := 1, slots := 1, locals := 0 } : Room).cells ({ frames := 0, cells := 1, slots := 1, locals := 0 } : Room).slots) s₁ (entryFrame m #[(.ref mp)] 4)
  rw [ef_rmD1 m mp]
  refine OEnds.go (g' := (mkF m 1 #[.val (.ref mp), .unset, .unset, .unset] [(.ref mp)])) (fun t k => XS.aloadN X0.here hx rfl (hb hby d6_0) rfl rfl k) ?_
  obtain ⟨T1, X1, e1, st1⟩ := getF X0 hx hZ hown (host := "") (Or.inl (hw _ (List.mem_of_getElem? (i := 33) rfl))) Via.refl e0 Fs (g := (mkF m 1 #[.val (.ref mp), .unset, .unset, .unset] [(.ref mp)])) rfl rfl (hb hby d6_1)
  refine OEnds.go (g' := (mkF m 4 #[.val (.ref mp), .unset, .unset, .unset] [(.int (1 : Int32))])) st1 ?_
  obtain ⟨T2, h2, k2, X2, e2, E2, A2, st2⟩ := newP X1 hx hZ (hw _ (List.mem_of_getElem? (i := 9) rfl)) e1 (g := (mkF m 4 #[.val (.ref mp), .unset, .unset, .unset] [(.int (1 : Int32))])) rfl (hb hby d6_4) rfl (by decide) (cap := 1) (by decide) (by decide) (by decide) (by decide)
  obtain ⟨b2, g2⟩ : ∃ z, z = h0.size := ⟨_, rfl⟩
  rw [← g2] at A2 st2
  have g_b2 : n0 ≤ b2 := Nat.le_trans Z0 (Nat.le_of_eq g2.symm)
  have sz_b2 : h0.size ≤ b2 := Nat.le_trans (Keep.refl h0 []).1 (Nat.le_of_eq g2.symm)
  have K2 : Keep h0 h2 [] := (Keep.refl h0 []).ext E2
  have V_b2 : Arv Z h2 b2 k2 .long (1 : Int32) [(.long (0 : Int64))] (.long (0 : Int64)) := (Arv.new A2 (by decide)).pad (pad_rep [] (.long (0 : Int64)) 1)
  refine OEnds.go (g' := (mkF m 6 #[.val (.ref mp), .unset, .unset, .unset] [(.ref b2)])) st2 ?_
  refine OEnds.go (g' := (mkF m 7 #[.val (.ref mp), .val (.ref b2), .unset, .unset] [])) (fun t k => XS.astoreN X2.here hx rfl (hb hby d6_6) rfl rfl (l' := #[.val (.ref mp), .val (.ref b2), .unset, .unset]) rfl k) ?_
  refine OEnds.go (g' := (mkF m 8 #[.val (.ref mp), .val (.ref b2), .unset, .unset] [(.int (0 : Int32))])) (fun t k => XS.iconst X2.here hx rfl (hb hby d6_7) k) ?_
  refine OEnds.go (g' := (mkF m 9 #[.val (.ref mp), .val (.ref b2), .val (.int (0 : Int32)), .unset] [])) (fun t k => XS.istoreN X2.here hx rfl (hb hby d6_8) rfl (l' := #[.val (.ref mp), .val (.ref b2), .val (.int (0 : Int32)), .unset]) rfl k) ?_
  refine OEnds.go (g' := (mkF m 10 #[.val (.ref mp), .val (.ref b2), .val (.int (0 : Int32)), .unset] [(.int (0 : Int32))])) (fun t k => XS.iconst X2.here hx rfl (hb hby d6_9) k) ?_
  refine OEnds.go (g' := (mkF m 11 #[.val (.ref mp), .val (.ref b2), .val (.int (0 : Int32)), .val (.int (0 : Int32))] [])) (fun t k => XS.istoreN X2.here hx rfl (hb hby d6_10) rfl (l' := #[.val (.ref mp), .val (.ref b2), .val (.int (0 : Int32)), .val (.int (0 : Int32))]) rfl k) ?_
  have nr0 : ia ≠ b2 := (Nat.ne_of_lt (Nat.lt_of_lt_of_le AI.lt (Nat.le_of_eq g2.symm)))
  have nr1 : va ≠ b2 := (Nat.ne_of_lt (Nat.lt_of_lt_of_le AV.lt (Nat.le_of_eq g2.symm)))
  have nr2 : mp ≠ b2 := (Nat.ne_of_lt (Nat.lt_of_lt_of_le Fi.lt (Nat.le_of_eq g2.symm)))
  have VR : own_Av Z h2 b2 k2 .long (1 : Int32) (fun i => .long ((fun _ => (0 : Int64)) i)) := own_Av.new A2 (by decide)
  have LOOP : ∀ (fu ix : Nat) (hfu : fu + ix = 64) (rr : Int32 → Int64) (TT : State) (ll_ : List Loc) (hh_ : Heap) (XX : Stand p l e ({ frames := 0, cells := 1, slots := 1, locals := 0 } : Room) s m #[.ref mp] below meth c TT ll_ 1 1) (eT : TT.heap = hh_) (NN : Fr n0 ll_) (KK : Keep h0 hh_ []) (Fi_ : Fld Z hh_ mp "com/example/slimheap/slimheap/hprof/IdMap" "ids" "[J" (.ref ia)) (Fv_ : Fld Z hh_ mp "com/example/slimheap/slimheap/hprof/IdMap" "values" "[Ljava/lang/Object;" (.ref va)) (AI_ : own_Av Z hh_ ia ki .long (64 : Int32) (fun i => .long (gg i))) (AV_ : own_Av Z hh_ va kv (.object "java/lang/Object") (64 : Int32) ff) (AR_ : own_Av Z hh_ b2 k2 .long (1 : Int32) (fun i => .long (rr i))) (hP : own_Pr ff gg ix rr), OEnds p e below (OEndP s (Q_rmD1 Z mp ia va ki kv ff gg h0 n0) ({ frames := 0, cells := 1, slots := 1, locals := 0 } : Room).cells ({ frames := 0, cells := 1, slots := 1, locals := 0 } : Room).slots) TT (mkF m 11 #[.val (.ref mp), .val (.ref b2), .val (.int (own_c ff gg ix)), .val (.int (Int32.ofNat ix))] []) := by
    intro fu
    induction fu with
    | zero =>
      intro ix hfu rr TT ll_ hh_ XX eT NN KK Fi_ Fv_ AI_ AV_ AR_ hP
      obtain rfl : ix = 64 := by omega
      refine OEnds.go (g' := (mkF m 12 #[.val (.ref mp), .val (.ref b2), .val (.int (own_c ff gg 64)), .val (.int (Int32.ofNat 64))] [(.int (Int32.ofNat 64))])) (fun t k => XS.iloadN XX.here hx rfl (hb hby d6_11) rfl k) ?_
      refine OEnds.go (g' := (mkF m 13 #[.val (.ref mp), .val (.ref b2), .val (.int (own_c ff gg 64)), .val (.int (Int32.ofNat 64))] [(.ref mp), (.int (Int32.ofNat 64))])) (fun t k => XS.aloadN XX.here hx rfl (hb hby d6_12) rfl rfl k) ?_
      obtain ⟨T3, X3, e3, st3⟩ := getF XX hx hZ hown (host := "") (Or.inl (hw _ (List.mem_of_getElem? (i := 14) rfl))) Via.refl eT Fv_ (g := (mkF m 13 #[.val (.ref mp), .val (.ref b2), .val (.int (own_c ff gg 64)), .val (.int (Int32.ofNat 64))] [(.ref mp), (.int (Int32.ofNat 64))])) rfl rfl (hb hby d6_13)
      refine OEnds.go (g' := (mkF m 16 #[.val (.ref mp), .val (.ref b2), .val (.int (own_c ff gg 64)), .val (.int (Int32.ofNat 64))] [(.ref va), (.int (Int32.ofNat 64))])) st3 ?_
      obtain ⟨cl4, Ar4, qa4, Sa4, Na4, Ha4⟩ := @id _ AV_
      refine OEnds.go (g' := (mkF m 17 #[.val (.ref mp), .val (.ref b2), .val (.int (own_c ff gg 64)), .val (.int (Int32.ofNat 64))] [(.int (64 : Int32)), (.int (Int32.ofNat 64))])) (fun t k => X3.arraylength hx (by rw [e3]; exact Ar4.1) (State.isArrayOf_alike hZ.alike Ar4.2.1) (g := (mkF m 16 #[.val (.ref mp), .val (.ref b2), .val (.int (own_c ff gg 64)), .val (.int (Int32.ofNat 64))] [(.ref va), (.int (Int32.ofNat 64))])) rfl rfl (hb hby d6_16) t (by rw [len_of Sa4 Na4]; exact k)) ?_
      refine OEnds.go (g' := (mkF m 47 #[.val (.ref mp), .val (.ref b2), .val (.int (own_c ff gg 64)), .val (.int (Int32.ofNat 64))] [])) (fun t k => XS.icmpYes X3.here hx rfl (pc0 := 17) (pc' := 47) rfl (hb hby d6_17) rfl (flt (by decide : ¬ ((Int32.ofNat 64) < (64 : Int32)))).2.1 (by decide) (by decide) k) ?_
      refine OEnds.go (g' := (mkF m 48 #[.val (.ref mp), .val (.ref b2), .val (.int (own_c ff gg 64)), .val (.int (Int32.ofNat 64))] [(.ref b2)])) (fun t k => XS.aloadN X3.here hx rfl (hb hby d6_47) rfl rfl k) ?_
      exact OEnds.outA X3 Bd.notSynchronized hx Bd.returns rfl rfl (hb hby d6_48) (by rw [e3]; exact ⟨b2, k2, rr, rfl, NN, KK, AR_, hP, g_b2⟩) (by decide) (by decide)
    | succ fu ih =>
      intro ix hfu rr TT ll_ hh_ XX eT NN KK Fi_ Fv_ AI_ AV_ AR_ hP
      have hi : ix < 64 := by omega
      refine OEnds.go (g' := (mkF m 12 #[.val (.ref mp), .val (.ref b2), .val (.int (own_c ff gg ix)), .val (.int (Int32.ofNat ix))] [(.int (Int32.ofNat ix))])) (fun t k => XS.iloadN XX.here hx rfl (hb hby d6_11) rfl k) ?_
      refine OEnds.go (g' := (mkF m 13 #[.val (.ref mp), .val (.ref b2), .val (.int (own_c ff gg ix)), .val (.int (Int32.ofNat ix))] [(.ref mp), (.int (Int32.ofNat ix))])) (fun t k => XS.aloadN XX.here hx rfl (hb hby d6_12) rfl rfl k) ?_
      obtain ⟨T5, X5, e5, st5⟩ := getF XX hx hZ hown (host := "") (Or.inl (hw _ (List.mem_of_getElem? (i := 14) rfl))) Via.refl eT Fv_ (g := (mkF m 13 #[.val (.ref mp), .val (.ref b2), .val (.int (own_c ff gg ix)), .val (.int (Int32.ofNat ix))] [(.ref mp), (.int (Int32.ofNat ix))])) rfl rfl (hb hby d6_13)
      refine OEnds.go (g' := (mkF m 16 #[.val (.ref mp), .val (.ref b2), .val (.int (own_c ff gg ix)), .val (.int (Int32.ofNat ix))] [(.ref va), (.int (Int32.ofNat ix))])) st5 ?_
      obtain ⟨cl6, Ar6, qa6, Sa6, Na6, Ha6⟩ := @id _ AV_
      refine OEnds.go (g' := (mkF m 17 #[.val (.ref mp), .val (.ref b2), .val (.int (own_c ff gg ix)), .val (.int (Int32.ofNat ix))] [(.int (64 : Int32)), (.int (Int32.ofNat ix))])) (fun t k => X5.arraylength hx (by rw [e5]; exact Ar6.1) (State.isArrayOf_alike hZ.alike Ar6.2.1) (g := (mkF m 16 #[.val (.ref mp), .val (.ref b2), .val (.int (own_c ff gg ix)), .val (.int (Int32.ofNat ix))] [(.ref va), (.int (Int32.ofNat ix))])) rfl rfl (hb hby d6_16) t (by rw [len_of Sa6 Na6]; exact k)) ?_
      refine OEnds.go (g' := (mkF m 20 #[.val (.ref mp), .val (.ref b2), .val (.int (own_c ff gg ix)), .val (.int (Int32.ofNat ix))] [])) (fun t k => XS.icmpNo X5.here hx rfl (hb hby d6_17) rfl (tlt ((own_in64 hi).2 : ((Int32.ofNat ix) < (64 : Int32)))).2.1 k) ?_
      refine OEnds.go (g' := (mkF m 21 #[.val (.ref mp), .val (.ref b2), .val (.int (own_c ff gg ix)), .val (.int (Int32.ofNat ix))] [(.ref mp)])) (fun t k => XS.aloadN X5.here hx rfl (hb hby d6_20) rfl rfl k) ?_
      obtain ⟨T7, X7, e7, st7⟩ := getF X5 hx hZ hown (host := "") (Or.inl (hw _ (List.mem_of_getElem? (i := 14) rfl))) Via.refl e5 Fv_ (g := (mkF m 21 #[.val (.ref mp), .val (.ref b2), .val (.int (own_c ff gg ix)), .val (.int (Int32.ofNat ix))] [(.ref mp)])) rfl rfl (hb hby d6_21)
      refine OEnds.go (g' := (mkF m 24 #[.val (.ref mp), .val (.ref b2), .val (.int (own_c ff gg ix)), .val (.int (Int32.ofNat ix))] [(.ref va)])) st7 ?_
      refine OEnds.go (g' := (mkF m 25 #[.val (.ref mp), .val (.ref b2), .val (.int (own_c ff gg ix)), .val (.int (Int32.ofNat ix))] [(.int (Int32.ofNat ix)), (.ref va)])) (fun t k => XS.iloadN X7.here hx rfl (hb hby d6_24) rfl k) ?_
      obtain ⟨cl8, Ar8, qa8, Sa8, Na8, Ha8⟩ := @id _ AV_
      have hin8 : ¬ ((Int32.ofNat ix) < 0 ∨ cl8.slots.size ≤ ((Int32.ofNat ix)).toNatClampNeg) := inb_of Sa8 (own_in64 hi)
      by_cases c25_9 : (ff (Int32.ofNat ix)) = .null
      · -- yes
        have hat8 : cl8.slots[((Int32.ofNat ix)).toNatClampNeg]? = some .null := (Ha8 _ hin8).1.trans (congrArg some c25_9)
        refine OEnds.go (g' := (mkF m 26 #[.val (.ref mp), .val (.ref b2), .val (.int (own_c ff gg ix)), .val (.int (Int32.ofNat ix))] [.null])) (X7.aaload hx (j := (Int32.ofNat ix)) (v := .null) (by rw [e7]; exact Ar8.1) (State.isArrayOf_alike hZ.alike Ar8.2.1) rfl Ar8.2.2 hin8 hat8 (g := (mkF m 25 #[.val (.ref mp), .val (.ref b2), .val (.int (own_c ff gg ix)), .val (.int (Int32.ofNat ix))] [(.int (Int32.ofNat ix)), (.ref va)])) rfl rfl (hb hby d6_25)) ?_
        refine OEnds.go (g' := (mkF m 41 #[.val (.ref mp), .val (.ref b2), .val (.int (own_c ff gg ix)), .val (.int (Int32.ofNat ix))] [])) (fun t k => XS.ifnullYes X7.here hx rfl (pc0 := 26) (pc' := 41) rfl (hb hby d6_26) rfl (by decide) (by decide) k) ?_
        refine OEnds.go (g' := (mkF m 44 #[.val (.ref mp), .val (.ref b2), .val (.int (own_c ff gg ix)), .val (.int ((Int32.ofNat ix) + (1 : Int32)))] [])) (fun t k => XS.iinc X7.here hx rfl (hb hby d6_41) rfl (l' := #[.val (.ref mp), .val (.ref b2), .val (.int (own_c ff gg ix)), .val (.int ((Int32.ofNat ix) + (1 : Int32)))]) rfl k) ?_
        refine OEnds.go (g' := (mkF m 11 #[.val (.ref mp), .val (.ref b2), .val (.int (own_c ff gg ix)), .val (.int ((Int32.ofNat ix) + (1 : Int32)))] [])) (fun t k => XS.goto X7.here hx rfl (pc0 := 44) (pc' := 11) rfl (hb hby d6_44) (by decide) (by decide) k) ?_
        rw [own_succ ix]
        rw [show own_c ff gg ix = own_c ff gg (ix + 1) from by rw [own_c, own_c, own_pres0 c25_9]]
        exact ih (ix + 1) (by omega) rr _ _ _ X7 e7 NN KK Fi_ Fv_ AI_ AV_ AR_ (own_Pr0 c25_9 hP)
      · -- no
        obtain ⟨y_10, hy_10⟩ := own_nnref (Ha8 _ hin8).2 rfl c25_9
        have hat8 : cl8.slots[((Int32.ofNat ix)).toNatClampNeg]? = some (.ref y_10) := (Ha8 _ hin8).1.trans (congrArg some hy_10)
        refine OEnds.go (g' := (mkF m 26 #[.val (.ref mp), .val (.ref b2), .val (.int (own_c ff gg ix)), .val (.int (Int32.ofNat ix))] [(.ref y_10)])) (X7.aaload hx (j := (Int32.ofNat ix)) (v := (.ref y_10)) (by rw [e7]; exact Ar8.1) (State.isArrayOf_alike hZ.alike Ar8.2.1) rfl Ar8.2.2 hin8 hat8 (g := (mkF m 25 #[.val (.ref mp), .val (.ref b2), .val (.int (own_c ff gg ix)), .val (.int (Int32.ofNat ix))] [(.int (Int32.ofNat ix)), (.ref va)])) rfl rfl (hb hby d6_25)) ?_
        refine OEnds.go (g' := (mkF m 29 #[.val (.ref mp), .val (.ref b2), .val (.int (own_c ff gg ix)), .val (.int (Int32.ofNat ix))] [])) (fun t k => XS.ifnullNo X7.here hx rfl (hb hby d6_26) rfl k) ?_
        refine OEnds.go (g' := (mkF m 30 #[.val (.ref mp), .val (.ref b2), .val (.int (own_c ff gg ix)), .val (.int (Int32.ofNat ix))] [(.ref b2)])) (fun t k => XS.aloadN X7.here hx rfl (hb hby d6_29) rfl rfl k) ?_
        refine OEnds.go (g' := (mkF m 31 #[.val (.ref mp), .val (.ref b2), .val (.int (own_c ff gg ix)), .val (.int (Int32.ofNat ix))] [(.int (own_c ff gg ix)), (.ref b2)])) (fun t k => XS.iloadN X7.here hx rfl (hb hby d6_30) rfl k) ?_
        refine OEnds.go (g' := (mkF m 34 #[.val (.ref mp), .val (.ref b2), .val (.int ((own_c ff gg ix) + (1 : Int32))), .val (.int (Int32.ofNat ix))] [(.int (own_c ff gg ix)), (.ref b2)])) (fun t k => XS.iinc X7.here hx rfl (hb hby d6_31) rfl (l' := #[.val (.ref mp), .val (.ref b2), .val (.int ((own_c ff gg ix) + (1 : Int32))), .val (.int (Int32.ofNat ix))]) rfl k) ?_
        refine OEnds.go (g' := (mkF m 35 #[.val (.ref mp), .val (.ref b2), .val (.int ((own_c ff gg ix) + (1 : Int32))), .val (.int (Int32.ofNat ix))] [(.ref mp), (.int (own_c ff gg ix)), (.ref b2)])) (fun t k => XS.aloadN X7.here hx rfl (hb hby d6_34) rfl rfl k) ?_
        obtain ⟨T11, X11, e11, st11⟩ := getF X7 hx hZ hown (host := "") (Or.inl (hw _ (List.mem_of_getElem? (i := 10) rfl))) Via.refl e7 Fi_ (g := (mkF m 35 #[.val (.ref mp), .val (.ref b2), .val (.int ((own_c ff gg ix) + (1 : Int32))), .val (.int (Int32.ofNat ix))] [(.ref mp), (.int (own_c ff gg ix)), (.ref b2)])) rfl rfl (hb hby d6_35)
        refine OEnds.go (g' := (mkF m 38 #[.val (.ref mp), .val (.ref b2), .val (.int ((own_c ff gg ix) + (1 : Int32))), .val (.int (Int32.ofNat ix))] [(.ref ia), (.int (own_c ff gg ix)), (.ref b2)])) st11 ?_
        refine OEnds.go (g' := (mkF m 39 #[.val (.ref mp), .val (.ref b2), .val (.int ((own_c ff gg ix) + (1 : Int32))), .val (.int (Int32.ofNat ix))] [(.int (Int32.ofNat ix)), (.ref ia), (.int (own_c ff gg ix)), (.ref b2)])) (fun t k => XS.iloadN X11.here hx rfl (hb hby d6_38) rfl k) ?_
        obtain ⟨cl12, Ar12, qa12, Sa12, Na12, Ha12⟩ := @id _ AI_
        have hin12 : ¬ ((Int32.ofNat ix) < 0 ∨ cl12.slots.size ≤ ((Int32.ofNat ix)).toNatClampNeg) := inb_of Sa12 (own_in64 hi)
        have hat12 : cl12.slots[((Int32.ofNat ix)).toNatClampNeg]? = some (.long (gg (Int32.ofNat ix))) := (Ha12 _ hin12).1
        refine OEnds.go (g' := (mkF m 40 #[.val (.ref mp), .val (.ref b2), .val (.int ((own_c ff gg ix) + (1 : Int32))), .val (.int (Int32.ofNat ix))] [(.long (gg (Int32.ofNat ix))), (.int (own_c ff gg ix)), (.ref b2)])) (X11.laload hx (j := (Int32.ofNat ix)) (v := (.long (gg (Int32.ofNat ix)))) (by rw [e11]; exact Ar12.1) (State.isArrayOf_alike hZ.alike Ar12.2.1) Ar12.2.2 hin12 hat12 (g := (mkF m 39 #[.val (.ref mp), .val (.ref b2), .val (.int ((own_c ff gg ix) + (1 : Int32))), .val (.int (Int32.ofNat ix))] [(.int (Int32.ofNat ix)), (.ref ia), (.int (own_c ff gg ix)), (.ref b2)])) rfl rfl (hb hby d6_39)) ?_
        obtain ⟨cl13, Ar13, qa13, Sa13, Na13, Ha13⟩ := @id _ AR_
        have hin13 : ¬ ((own_c ff gg ix) < 0 ∨ cl13.slots.size ≤ ((own_c ff gg ix)).toNatClampNeg) := inb_of Sa13 (own_cb c25_9 hi hR (by decide) (by decide))
        obtain ⟨T14, h14, X14, e14, W14, st14⟩ := stJ X11 hx hZ e11 Ar13 (j := (own_c ff gg ix)) hin13 (g := (mkF m 40 #[.val (.ref mp), .val (.ref b2), .val (.int ((own_c ff gg ix) + (1 : Int32))), .val (.int (Int32.ofNat ix))] [(.long (gg (Int32.ofNat ix))), (.int (own_c ff gg ix)), (.ref b2)])) rfl rfl (hb hby d6_40)
        have N14 := Fr.snoc X14 NN g_b2
        have K14 : Keep h0 h14 [] := KK.wr W14 (Or.inr sz_b2)
        have A14_b2 : own_Av Z h14 b2 k2 .long (1 : Int32) (fun i => .long ((own_u rr (own_c ff gg ix) (gg (Int32.ofNat ix))) i)) := own_Av.setJ Ar13 qa13 Sa13 Na13 Ha13 W14 hin13
        refine OEnds.go (g' := (mkF m 41 #[.val (.ref mp), .val (.ref b2), .val (.int ((own_c ff gg ix) + (1 : Int32))), .val (.int (Int32.ofNat ix))] [])) st14 ?_
        refine OEnds.go (g' := (mkF m 44 #[.val (.ref mp), .val (.ref b2), .val (.int ((own_c ff gg ix) + (1 : Int32))), .val (.int ((Int32.ofNat ix) + (1 : Int32)))] [])) (fun t k => XS.iinc X14.here hx rfl (hb hby d6_41) rfl (l' := #[.val (.ref mp), .val (.ref b2), .val (.int ((own_c ff gg ix) + (1 : Int32))), .val (.int ((Int32.ofNat ix) + (1 : Int32)))]) rfl k) ?_
        refine OEnds.go (g' := (mkF m 11 #[.val (.ref mp), .val (.ref b2), .val (.int ((own_c ff gg ix) + (1 : Int32))), .val (.int ((Int32.ofNat ix) + (1 : Int32)))] [])) (fun t k => XS.goto X14.here hx rfl (pc0 := 44) (pc' := 11) rfl (hb hby d6_44) (by decide) (by decide) k) ?_
        rw [own_succ ix]
        rw [own_cs c25_9]
        exact ih (ix + 1) (by omega) (own_u rr (own_c ff gg ix) (gg (Int32.ofNat ix))) _ _ _ X14 e14 N14 K14 (Fi_.other W14 (Or.inl nr2)) (Fv_.other W14 (Or.inl nr2)) (AI_.other W14 nr0) (AV_.other W14 nr1) A14_b2 (own_Pr1 c25_9 (by omega) hR (by decide) hP)
  exact LOOP 64 0 rfl (fun _ => 0) _ _ _ X2 e2 N0 K2 (Fi.ext E2) (Fv.ext E2) (AI.ext E2) (AV.ext E2) VR (fun t ht => absurd ht (Nat.not_lt_zero t))
theorem ef_rmD2 (m : MethodId) (x0 : Addr) : entryFrame m #[(.ref x0)] 4 = mkF m 0 #[.val (.ref x0), .unset, .unset, .unset] [] := by first | (simp [entryFrame, mkF, argsToLocals, Value.category]; done) | rfl
def Q_rmD2 (Z : State) (mp : Addr) (ia : Addr) (va : Addr) (ki : ClassId) (kv : ClassId) (ff : Int32 → Value) (gg : Int32 → Int64) (h0 : Heap) (n0 : Nat) (v : Option Value) (h : Heap) (L : List Loc) : Prop := ∃ (r : Addr) (kr : ClassId) (rr : Int32 → Int64), v = some (.ref r) ∧ Fr n0 L ∧ Keep h0 h [] ∧ own_Av Z h r kr .long (2 : Int32) (fun i => .long (rr i)) ∧ own_Pr ff gg 64 rr ∧ n0 ≤ r
set_option maxRecDepth 65536 in
set_option maxHeartbeats 40000000 in
theorem rmD2 (l : Launch) (Z : State) (a0 : Array Value) (hw : ∀ d ∈ tables_1, d.before a0 Z = true) (ws : List Jvm.Cond) (mp : Addr) (ia : Addr) (va : Addr) (ki : ClassId) (kv : ClassId) (ff : Int32 → Value) (gg : Int32 → Int64) (h0 : Heap) (n0 : Nat) (Z0 : n0 ≤ h0.size) (Fi : Fld Z h0 mp "com/example/slimheap/slimheap/hprof/IdMap" "ids" "[J" (.ref ia)) (Fv : Fld Z h0 mp "com/example/slimheap/slimheap/hprof/IdMap" "values" "[Ljava/lang/Object;" (.ref va)) (AI : own_Av Z h0 ia ki .long (64 : Int32) (fun i => .long (gg i))) (AV : own_Av Z h0 va kv (.object "java/lang/Object") (64 : Int32) ff) (Fs : Fld Z h0 mp "com/example/slimheap/slimheap/hprof/IdMap" "size" "I" (.int (2 : Int32))) (hR : (own_pre ff gg 64).length = 2) :
    MetFree l (⟨"com/example/slimheap/slimheap/hprof/IdMap", "ids", "()[J"⟩ : MethodName) (head1 (Jvm.Cond.code (⟨"com/example/slimheap/slimheap/hprof/IdMap", "ids", "()[J"⟩ : MethodName) prog_31_method_4_code 4 (some (.array .long)) :: ws) ({ frames := 0, cells := 1, slots := 2, locals := 0 } : Room)) (fun aa_ U => aa_ = #[(.ref mp)] ∧ Z.Warmed39 U.vm ∧ U.heap = h0) (fun _ _ _ _ _ => True) (fun _ U o U' => ∃ v L, o = .returned v ∧ Q_rmD2 Z mp ia va ki kv ff gg h0 n0 v U'.heap L ∧ FrameEnd U o U' L ({ frames := 0, cells := 1, slots := 2, locals := 0 } : Room).cells ({ frames := 0, cells := 1, slots := 2, locals := 0 } : Room).slots) := by
  refine MetFree.of_bodySF (plainFor_of_name pn_0) hisR ?_
  intro p e s m args below meth c s₁ Bd hml0 hP hK
  obtain ⟨rfl, hZ, hh⟩ := hP
  have hx := Bd.exec
  have hby := Bd.bytes
  have hml : c.maxLocals = 4 := hml0
  have hown : s.vm.findClass "com/example/slimheap/slimheap/hprof/IdMap" = some m.cls := findClass_of_methodNamed Bd.named
  have hnm := (name_of_methodNamed Bd.named Bd.method).1
  have X0 : Stand p l e ({ frames := 0, cells := 1, slots := 2, locals := 0 } : Room) s m #[(.ref mp)] below meth c s₁ [] 0 0 := Stand.of_body Bd
  have e0 : s₁.heap = h0 := by rw [← hh, Bd.state]; rfl
  have N0 := Fr.nil n0
  show OEnds p e below (OEndP s (Q_rmD2 Z mp ia va ki kv ff gg h0 n0) ({ frames := 0, cells := 1, slots := 2, locals := 0 } : Room).cells ({ frames := 0, cells := 1, slots := 2, locals := 0 } : Room).slots) s₁ (entryFrame m #[(.ref mp)] 4)
  rw [ef_rmD2 m mp]
  refine OEnds.go (g' := (mkF m 1 #[.val (.ref mp), .unset, .unset, .unset] [(.ref mp)])) (fun t k => XS.aloadN X0.here hx rfl (hb hby d6_0) rfl rfl k) ?_
  obtain ⟨T1, X1, e1, st1⟩ := getF X0 hx hZ hown (host := "") (Or.inl (hw _ (List.mem_of_getElem? (i := 33) rfl))) Via.refl e0 Fs (g := (mkF m 1 #[.val (.ref mp), .unset, .unset, .unset] [(.ref mp)])) rfl rfl (hb hby d6_1)
  refine OEnds.go (g' := (mkF m 4 #[.val (.ref mp), .unset, .unset, .unset] [(.int (2 : Int32))])) st1 ?_
  obtain ⟨T2, h2, k2, X2, e2, E2, A2, st2⟩ := newP X1 hx hZ (hw _ (List.mem_of_getElem? (i := 9) rfl)) e1 (g := (mkF m 4 #[.val (.ref mp), .unset, .unset, .unset] [(.int (2 : Int32))])) rfl (hb hby d6_4) rfl (by decide) (cap := 2) (by decide) (by decide) (by decide) (by decide)
  obtain ⟨b2, g2⟩ : ∃ z, z = h0.size := ⟨_, rfl⟩
  rw [← g2] at A2 st2
  have g_b2 : n0 ≤ b2 := Nat.le_trans Z0 (Nat.le_of_eq g2.symm)
  have sz_b2 : h0.size ≤ b2 := Nat.le_trans (Keep.refl h0 []).1 (Nat.le_of_eq g2.symm)
  have K2 : Keep h0 h2 [] := (Keep.refl h0 []).ext E2
  have V_b2 : Arv Z h2 b2 k2 .long (2 : Int32) [(.long (0 : Int64)), (.long (0 : Int64))] (.long (0 : Int64)) := (Arv.new A2 (by decide)).pad (pad_rep [] (.long (0 : Int64)) 2)
  refine OEnds.go (g' := (mkF m 6 #[.val (.ref mp), .unset, .unset, .unset] [(.ref b2)])) st2 ?_
  refine OEnds.go (g' := (mkF m 7 #[.val (.ref mp), .val (.ref b2), .unset, .unset] [])) (fun t k => XS.astoreN X2.here hx rfl (hb hby d6_6) rfl rfl (l' := #[.val (.ref mp), .val (.ref b2), .unset, .unset]) rfl k) ?_
  refine OEnds.go (g' := (mkF m 8 #[.val (.ref mp), .val (.ref b2), .unset, .unset] [(.int (0 : Int32))])) (fun t k => XS.iconst X2.here hx rfl (hb hby d6_7) k) ?_
  refine OEnds.go (g' := (mkF m 9 #[.val (.ref mp), .val (.ref b2), .val (.int (0 : Int32)), .unset] [])) (fun t k => XS.istoreN X2.here hx rfl (hb hby d6_8) rfl (l' := #[.val (.ref mp), .val (.ref b2), .val (.int (0 : Int32)), .unset]) rfl k) ?_
  refine OEnds.go (g' := (mkF m 10 #[.val (.ref mp), .val (.ref b2), .val (.int (0 : Int32)), .unset] [(.int (0 : Int32))])) (fun t k => XS.iconst X2.here hx rfl (hb hby d6_9) k) ?_
  refine OEnds.go (g' := (mkF m 11 #[.val (.ref mp), .val (.ref b2), .val (.int (0 : Int32)), .val (.int (0 : Int32))] [])) (fun t k => XS.istoreN X2.here hx rfl (hb hby d6_10) rfl (l' := #[.val (.ref mp), .val (.ref b2), .val (.int (0 : Int32)), .val (.int (0 : Int32))]) rfl k) ?_
  have nr0 : ia ≠ b2 := (Nat.ne_of_lt (Nat.lt_of_lt_of_le AI.lt (Nat.le_of_eq g2.symm)))
  have nr1 : va ≠ b2 := (Nat.ne_of_lt (Nat.lt_of_lt_of_le AV.lt (Nat.le_of_eq g2.symm)))
  have nr2 : mp ≠ b2 := (Nat.ne_of_lt (Nat.lt_of_lt_of_le Fi.lt (Nat.le_of_eq g2.symm)))
  have VR : own_Av Z h2 b2 k2 .long (2 : Int32) (fun i => .long ((fun _ => (0 : Int64)) i)) := own_Av.new A2 (by decide)
  have LOOP : ∀ (fu ix : Nat) (hfu : fu + ix = 64) (rr : Int32 → Int64) (TT : State) (ll_ : List Loc) (hh_ : Heap) (XX : Stand p l e ({ frames := 0, cells := 1, slots := 2, locals := 0 } : Room) s m #[.ref mp] below meth c TT ll_ 1 2) (eT : TT.heap = hh_) (NN : Fr n0 ll_) (KK : Keep h0 hh_ []) (Fi_ : Fld Z hh_ mp "com/example/slimheap/slimheap/hprof/IdMap" "ids" "[J" (.ref ia)) (Fv_ : Fld Z hh_ mp "com/example/slimheap/slimheap/hprof/IdMap" "values" "[Ljava/lang/Object;" (.ref va)) (AI_ : own_Av Z hh_ ia ki .long (64 : Int32) (fun i => .long (gg i))) (AV_ : own_Av Z hh_ va kv (.object "java/lang/Object") (64 : Int32) ff) (AR_ : own_Av Z hh_ b2 k2 .long (2 : Int32) (fun i => .long (rr i))) (hP : own_Pr ff gg ix rr), OEnds p e below (OEndP s (Q_rmD2 Z mp ia va ki kv ff gg h0 n0) ({ frames := 0, cells := 1, slots := 2, locals := 0 } : Room).cells ({ frames := 0, cells := 1, slots := 2, locals := 0 } : Room).slots) TT (mkF m 11 #[.val (.ref mp), .val (.ref b2), .val (.int (own_c ff gg ix)), .val (.int (Int32.ofNat ix))] []) := by
    intro fu
    induction fu with
    | zero =>
      intro ix hfu rr TT ll_ hh_ XX eT NN KK Fi_ Fv_ AI_ AV_ AR_ hP
      obtain rfl : ix = 64 := by omega
      refine OEnds.go (g' := (mkF m 12 #[.val (.ref mp), .val (.ref b2), .val (.int (own_c ff gg 64)), .val (.int (Int32.ofNat 64))] [(.int (Int32.ofNat 64))])) (fun t k => XS.iloadN XX.here hx rfl (hb hby d6_11) rfl k) ?_
      refine OEnds.go (g' := (mkF m 13 #[.val (.ref mp), .val (.ref b2), .val (.int (own_c ff gg 64)), .val (.int (Int32.ofNat 64))] [(.ref mp), (.int (Int32.ofNat 64))])) (fun t k => XS.aloadN XX.here hx rfl (hb hby d6_12) rfl rfl k) ?_
      obtain ⟨T3, X3, e3, st3⟩ := getF XX hx hZ hown (host := "") (Or.inl (hw _ (List.mem_of_getElem? (i := 14) rfl))) Via.refl eT Fv_ (g := (mkF m 13 #[.val (.ref mp), .val (.ref b2), .val (.int (own_c ff gg 64)), .val (.int (Int32.ofNat 64))] [(.ref mp), (.int (Int32.ofNat 64))])) rfl rfl (hb hby d6_13)
      refine OEnds.go (g' := (mkF m 16 #[.val (.ref mp), .val (.ref b2), .val (.int (own_c ff gg 64)), .val (.int (Int32.ofNat 64))] [(.ref va), (.int (Int32.ofNat 64))])) st3 ?_
      obtain ⟨cl4, Ar4, qa4, Sa4, Na4, Ha4⟩ := @id _ AV_
      refine OEnds.go (g' := (mkF m 17 #[.val (.ref mp), .val (.ref b2), .val (.int (own_c ff gg 64)), .val (.int (Int32.ofNat 64))] [(.int (64 : Int32)), (.int (Int32.ofNat 64))])) (fun t k => X3.arraylength hx (by rw [e3]; exact Ar4.1) (State.isArrayOf_alike hZ.alike Ar4.2.1) (g := (mkF m 16 #[.val (.ref mp), .val (.ref b2), .val (.int (own_c ff gg 64)), .val (.int (Int32.ofNat 64))] [(.ref va), (.int (Int32.ofNat 64))])) rfl rfl (hb hby d6_16) t (by rw [len_of Sa4 Na4]; exact k)) ?_
      refine OEnds.go (g' := (mkF m 47 #[.val (.ref mp), .val (.ref b2), .val (.int (own_c ff gg 64)), .val (.int (Int32.ofNat 64))] [])) (fun t k => XS.icmpYes X3.here hx rfl (pc0 := 17) (pc' := 47) rfl (hb hby d6_17) rfl (flt (by decide : ¬ ((Int32.ofNat 64) < (64 : Int32)))).2.1 (by decide) (by decide) k) ?_
      refine OEnds.go (g' := (mkF m 48 #[.val (.ref mp), .val (.ref b2), .val (.int (own_c ff gg 64)), .val (.int (Int32.ofNat 64))] [(.ref b2)])) (fun t k => XS.aloadN X3.here hx rfl (hb hby d6_47) rfl rfl k) ?_
      exact OEnds.outA X3 Bd.notSynchronized hx Bd.returns rfl rfl (hb hby d6_48) (by rw [e3]; exact ⟨b2, k2, rr, rfl, NN, KK, AR_, hP, g_b2⟩) (by decide) (by decide)
    | succ fu ih =>
      intro ix hfu rr TT ll_ hh_ XX eT NN KK Fi_ Fv_ AI_ AV_ AR_ hP
      have hi : ix < 64 := by omega
      refine OEnds.go (g' := (mkF m 12 #[.val (.ref mp), .val (.ref b2), .val (.int (own_c ff gg ix)), .val (.int (Int32.ofNat ix))] [(.int (Int32.ofNat ix))])) (fun t k => XS.iloadN XX.here hx rfl (hb hby d6_11) rfl k) ?_
      refine OEnds.go (g' := (mkF m 13 #[.val (.ref mp), .val (.ref b2), .val (.int (own_c ff gg ix)), .val (.int (Int32.ofNat ix))] [(.ref mp), (.int (Int32.ofNat ix))])) (fun t k => XS.aloadN XX.here hx rfl (hb hby d6_12) rfl rfl k) ?_
      obtain ⟨T5, X5, e5, st5⟩ := getF XX hx hZ hown (host := "") (Or.inl (hw _ (List.mem_of_getElem? (i := 14) rfl))) Via.refl eT Fv_ (g := (mkF m 13 #[.val (.ref mp), .val (.ref b2), .val (.int (own_c ff gg ix)), .val (.int (Int32.ofNat ix))] [(.ref mp), (.int (Int32.ofNat ix))])) rfl rfl (hb hby d6_13)
      refine OEnds.go (g' := (mkF m 16 #[.val (.ref mp), .val (.ref b2), .val (.int (own_c ff gg ix)), .val (.int (Int32.ofNat ix))] [(.ref va), (.int (Int32.ofNat ix))])) st5 ?_
      obtain ⟨cl6, Ar6, qa6, Sa6, Na6, Ha6⟩ := @id _ AV_
      refine OEnds.go (g' := (mkF m 17 #[.val (.ref mp), .val (.ref b2), .val (.int (own_c ff gg ix)), .val (.int (Int32.ofNat ix))] [(.int (64 : Int32)), (.int (Int32.ofNat ix))])) (fun t k => X5.arraylength hx (by rw [e5]; exact Ar6.1) (State.isArrayOf_alike hZ.alike Ar6.2.1) (g := (mkF m 16 #[.val (.ref mp), .val (.ref b2), .val (.int (own_c ff gg ix)), .val (.int (Int32.ofNat ix))] [(.ref va), (.int (Int32.ofNat ix))])) rfl rfl (hb hby d6_16) t (by rw [len_of Sa6 Na6]; exact k)) ?_
      refine OEnds.go (g' := (mkF m 20 #[.val (.ref mp), .val (.ref b2), .val (.int (own_c ff gg ix)), .val (.int (Int32.ofNat ix))] [])) (fun t k => XS.icmpNo X5.here hx rfl (hb hby d6_17) rfl (tlt ((own_in64 hi).2 : ((Int32.ofNat ix) < (64 : Int32)))).2.1 k) ?_
      refine OEnds.go (g' := (mkF m 21 #[.val (.ref mp), .val (.ref b2), .val (.int (own_c ff gg ix)), .val (.int (Int32.ofNat ix))] [(.ref mp)])) (fun t k => XS.aloadN X5.here hx rfl (hb hby d6_20) rfl rfl k) ?_
      obtain ⟨T7, X7, e7, st7⟩ := getF X5 hx hZ hown (host := "") (Or.inl (hw _ (List.mem_of_getElem? (i := 14) rfl))) Via.refl e5 Fv_ (g := (mkF m 21 #[.val (.ref mp), .val (.ref b2), .val (.int (own_c ff gg ix)), .val (.int (Int32.ofNat ix))] [(.ref mp)])) rfl rfl (hb hby d6_21)
      refine OEnds.go (g' := (mkF m 24 #[.val (.ref mp), .val (.ref b2), .val (.int (own_c ff gg ix)), .val (.int (Int32.ofNat ix))] [(.ref va)])) st7 ?_
      refine OEnds.go (g' := (mkF m 25 #[.val (.ref mp), .val (.ref b2), .val (.int (own_c ff gg ix)), .val (.int (Int32.ofNat ix))] [(.int (Int32.ofNat ix)), (.ref va)])) (fun t k => XS.iloadN X7.here hx rfl (hb hby d6_24) rfl k) ?_
      obtain ⟨cl8, Ar8, qa8, Sa8, Na8, Ha8⟩ := @id _ AV_
      have hin8 : ¬ ((Int32.ofNat ix) < 0 ∨ cl8.slots.size ≤ ((Int32.ofNat ix)).toNatClampNeg) := inb_of Sa8 (own_in64 hi)
      by_cases c25_9 : (ff (Int32.ofNat ix)) = .null
      · -- yes
        have hat8 : cl8.slots[((Int32.ofNat ix)).toNatClampNeg]? = some .null := (Ha8 _ hin8).1.trans (congrArg some c25_9)
        refine OEnds.go (g' := (mkF m 26 #[.val (.ref mp), .val (.ref b2), .val (.int (own_c ff gg ix)), .val (.int (Int32.ofNat ix))] [.null])) (X7.aaload hx (j := (Int32.ofNat ix)) (v := .null) (by rw [e7]; exact Ar8.1) (State.isArrayOf_alike hZ.alike Ar8.2.1) rfl Ar8.2.2 hin8 hat8 (g := (mkF m 25 #[.val (.ref mp), .val (.ref b2), .val (.int (own_c ff gg ix)), .val (.int (Int32.ofNat ix))] [(.int (Int32.ofNat ix)), (.ref va)])) rfl rfl (hb hby d6_25)) ?_
        refine OEnds.go (g' := (mkF m 41 #[.val (.ref mp), .val (.ref b2), .val (.int (own_c ff gg ix)), .val (.int (Int32.ofNat ix))] [])) (fun t k => XS.ifnullYes X7.here hx rfl (pc0 := 26) (pc' := 41) rfl (hb hby d6_26) rfl (by decide) (by decide) k) ?_
        refine OEnds.go (g' := (mkF m 44 #[.val (.ref mp), .val (.ref b2), .val (.int (own_c ff gg ix)), .val (.int ((Int32.ofNat ix) + (1 : Int32)))] [])) (fun t k => XS.iinc X7.here hx rfl (hb hby d6_41) rfl (l' := #[.val (.ref mp), .val (.ref b2), .val (.int (own_c ff gg ix)), .val (.int ((Int32.ofNat ix) + (1 : Int32)))]) rfl k) ?_
        refine OEnds.go (g' := (mkF m 11 #[.val (.ref mp), .val (.ref b2), .val (.int (own_c ff gg ix)), .val (.int ((Int32.ofNat ix) + (1 : Int32)))] [])) (fun t k => XS.goto X7.here hx rfl (pc0 := 44) (pc' := 11) rfl (hb hby d6_44) (by decide) (by decide) k) ?_
        rw [own_succ ix]
        rw [show own_c ff gg ix = own_c ff gg (ix + 1) from by rw [own_c, own_c, own_pres0 c25_9]]
        exact ih (ix + 1) (by omega) rr _ _ _ X7 e7 NN KK Fi_ Fv_ AI_ AV_ AR_ (own_Pr0 c25_9 hP)
      · -- no
        obtain ⟨y_10, hy_10⟩ := own_nnref (Ha8 _ hin8).2 rfl c25_9
        have hat8 : cl8.slots[((Int32.ofNat ix)).toNatClampNeg]? = some (.ref y_10) := (Ha8 _ hin8).1.trans (congrArg some hy_10)
        refine OEnds.go (g' := (mkF m 26 #[.val (.ref mp), .val (.ref b2), .val (.int (own_c ff gg ix)), .val (.int (Int32.ofNat ix))] [(.ref y_10)])) (X7.aaload hx (j := (Int32.ofNat ix)) (v := (.ref y_10)) (by rw [e7]; exact Ar8.1) (State.isArrayOf_alike hZ.alike Ar8.2.1) rfl Ar8.2.2 hin8 hat8 (g := (mkF m 25 #[.val (.ref mp), .val (.ref b2), .val (.int (own_c ff gg ix)), .val (.int (Int32.ofNat ix))] [(.int (Int32.ofNat ix)), (.ref va)])) rfl rfl (hb hby d6_25)) ?_
        refine OEnds.go (g' := (mkF m 29 #[.val (.ref mp), .val (.ref b2), .val (.int (own_c ff gg ix)), .val (.int (Int32.ofNat ix))] [])) (fun t k => XS.ifnullNo X7.here hx rfl (hb hby d6_26) rfl k) ?_
        refine OEnds.go (g' := (mkF m 30 #[.val (.ref mp), .val (.ref b2), .val (.int (own_c ff gg ix)), .val (.int (Int32.ofNat ix))] [(.ref b2)])) (fun t k => XS.aloadN X7.here hx rfl (hb hby d6_29) rfl rfl k) ?_
        refine OEnds.go (g' := (mkF m 31 #[.val (.ref mp), .val (.ref b2), .val (.int (own_c ff gg ix)), .val (.int (Int32.ofNat ix))] [(.int (own_c ff gg ix)), (.ref b2)])) (fun t k => XS.iloadN X7.here hx rfl (hb hby d6_30) rfl k) ?_
        refine OEnds.go (g' := (mkF m 34 #[.val (.ref mp), .val (.ref b2), .val (.int ((own_c ff gg ix) + (1 : Int32))), .val (.int (Int32.ofNat ix))] [(.int (own_c ff gg ix)), (.ref b2)])) (fun t k => XS.iinc X7.here hx rfl (hb hby d6_31) rfl (l' := #[.val (.ref mp), .val (.ref b2), .val (.int ((own_c ff gg ix) + (1 : Int32))), .val (.int (Int32.ofNat ix))]) rfl k) ?_
        refine OEnds.go (g' := (mkF m 35 #[.val (.ref mp), .val (.ref b2), .val (.int ((own_c ff gg ix) + (1 : Int32))), .val (.int (Int32.ofNat ix))] [(.ref mp), (.int (own_c ff gg ix)), (.ref b2)])) (fun t k => XS.aloadN X7.here hx rfl (hb hby d6_34) rfl rfl k) ?_
        obtain ⟨T11, X11, e11, st11⟩ := getF X7 hx hZ hown (host := "") (Or.inl (hw _ (List.mem_of_getElem? (i := 10) rfl))) Via.refl e7 Fi_ (g := (mkF m 35 #[.val (.ref mp), .val (.ref b2), .val (.int ((own_c ff gg ix) + (1 : Int32))), .val (.int (Int32.ofNat ix))] [(.ref mp), (.int (own_c ff gg ix)), (.ref b2)])) rfl rfl (hb hby d6_35)
        refine OEnds.go (g' := (mkF m 38 #[.val (.ref mp), .val (.ref b2), .val (.int ((own_c ff gg ix) + (1 : Int32))), .val (.int (Int32.ofNat ix))] [(.ref ia), (.int (own_c ff gg ix)), (.ref b2)])) st11 ?_
        refine OEnds.go (g' := (mkF m 39 #[.val (.ref mp), .val (.ref b2), .val (.int ((own_c ff gg ix) + (1 : Int32))), .val (.int (Int32.ofNat ix))] [(.int (Int32.ofNat ix)), (.ref ia), (.int (own_c ff gg ix)), (.ref b2)])) (fun t k => XS.iloadN X11.here hx rfl (hb hby d6_38) rfl k) ?_
        obtain ⟨cl12, Ar12, qa12, Sa12, Na12, Ha12⟩ := @id _ AI_
        have hin12 : ¬ ((Int32.ofNat ix) < 0 ∨ cl12.slots.size ≤ ((Int32.ofNat ix)).toNatClampNeg) := inb_of Sa12 (own_in64 hi)
        have hat12 : cl12.slots[((Int32.ofNat ix)).toNatClampNeg]? = some (.long (gg (Int32.ofNat ix))) := (Ha12 _ hin12).1
        refine OEnds.go (g' := (mkF m 40 #[.val (.ref mp), .val (.ref b2), .val (.int ((own_c ff gg ix) + (1 : Int32))), .val (.int (Int32.ofNat ix))] [(.long (gg (Int32.ofNat ix))), (.int (own_c ff gg ix)), (.ref b2)])) (X11.laload hx (j := (Int32.ofNat ix)) (v := (.long (gg (Int32.ofNat ix)))) (by rw [e11]; exact Ar12.1) (State.isArrayOf_alike hZ.alike Ar12.2.1) Ar12.2.2 hin12 hat12 (g := (mkF m 39 #[.val (.ref mp), .val (.ref b2), .val (.int ((own_c ff gg ix) + (1 : Int32))), .val (.int (Int32.ofNat ix))] [(.int (Int32.ofNat ix)), (.ref ia), (.int (own_c ff gg ix)), (.ref b2)])) rfl rfl (hb hby d6_39)) ?_
        obtain ⟨cl13, Ar13, qa13, Sa13, Na13, Ha13⟩ := @id _ AR_
        have hin13 : ¬ ((own_c ff gg ix) < 0 ∨ cl13.slots.size ≤ ((own_c ff gg ix)).toNatClampNeg) := inb_of Sa13 (own_cb c25_9 hi hR (by decide) (by decide))
        obtain ⟨T14, h14, X14, e14, W14, st14⟩ := stJ X11 hx hZ e11 Ar13 (j := (own_c ff gg ix)) hin13 (g := (mkF m 40 #[.val (.ref mp), .val (.ref b2), .val (.int ((own_c ff gg ix) + (1 : Int32))), .val (.int (Int32.ofNat ix))] [(.long (gg (Int32.ofNat ix))), (.int (own_c ff gg ix)), (.ref b2)])) rfl rfl (hb hby d6_40)
        have N14 := Fr.snoc X14 NN g_b2
        have K14 : Keep h0 h14 [] := KK.wr W14 (Or.inr sz_b2)
        have A14_b2 : own_Av Z h14 b2 k2 .long (2 : Int32) (fun i => .long ((own_u rr (own_c ff gg ix) (gg (Int32.ofNat ix))) i)) := own_Av.setJ Ar13 qa13 Sa13 Na13 Ha13 W14 hin13
        refine OEnds.go (g' := (mkF m 41 #[.val (.ref mp), .val (.ref b2), .val (.int ((own_c ff gg ix) + (1 : Int32))), .val (.int (Int32.ofNat ix))] [])) st14 ?_
        refine OEnds.go (g' := (mkF m 44 #[.val (.ref mp), .val (.ref b2), .val (.int ((own_c ff gg ix) + (1 : Int32))), .val (.int ((Int32.ofNat ix) + (1 : Int32)))] [])) (fun t k => XS.iinc X14.here hx rfl (hb hby d6_41) rfl (l' := #[.val (.ref mp), .val (.ref b2), .val (.int ((own_c ff gg ix) + (1 : Int32))), .val (.int ((Int32.ofNat ix) + (1 : Int32)))]) rfl k) ?_
        refine OEnds.go (g' := (mkF m 11 #[.val (.ref mp), .val (.ref b2), .val (.int ((own_c ff gg ix) + (1 : Int32))), .val (.int ((Int32.ofNat ix) + (1 : Int32)))] [])) (fun t k => XS.goto X14.here hx rfl (pc0 := 44) (pc' := 11) rfl (hb hby d6_44) (by decide) (by decide) k) ?_
        rw [own_succ ix]
        rw [own_cs c25_9]
        exact ih (ix + 1) (by omega) (own_u rr (own_c ff gg ix) (gg (Int32.ofNat ix))) _ _ _ X14 e14 N14 K14 (Fi_.other W14 (Or.inl nr2)) (Fv_.other W14 (Or.inl nr2)) (AI_.other W14 nr0) (AV_.other W14 nr1) A14_b2 (own_Pr1 c25_9 (by omega) hR (by decide) hP)
  exact LOOP 64 0 rfl (fun _ => 0) _ _ _ X2 e2 N0 K2 (Fi.ext E2) (Fv.ext E2) (AI.ext E2) (AV.ext E2) VR (fun t ht => absurd ht (Nat.not_lt_zero t))
theorem ef_rmD3 (m : MethodId) (x0 : Addr) : entryFrame m #[(.ref x0)] 4 = mkF m 0 #[.val (.ref x0), .unset, .unset, .unset] [] := by first | (simp [entryFrame, mkF, argsToLocals, Value.category]; done) | rfl
def Q_rmD3 (Z : State) (mp : Addr) (ia : Addr) (va : Addr) (ki : ClassId) (kv : ClassId) (ff : Int32 → Value) (gg : Int32 → Int64) (h0 : Heap) (n0 : Nat) (v : Option Value) (h : Heap) (L : List Loc) : Prop := ∃ (r : Addr) (kr : ClassId) (rr : Int32 → Int64), v = some (.ref r) ∧ Fr n0 L ∧ Keep h0 h [] ∧ own_Av Z h r kr .long (3 : Int32) (fun i => .long (rr i)) ∧ own_Pr ff gg 64 rr ∧ n0 ≤ r
set_option maxRecDepth 65536 in
set_option maxHeartbeats 40000000 in
theorem rmD3 (l : Launch) (Z : State) (a0 : Array Value) (hw : ∀ d ∈ tables_1, d.before a0 Z = true) (ws : List Jvm.Cond) (mp : Addr) (ia : Addr) (va : Addr) (ki : ClassId) (kv : ClassId) (ff : Int32 → Value) (gg : Int32 → Int64) (h0 : Heap) (n0 : Nat) (Z0 : n0 ≤ h0.size) (Fi : Fld Z h0 mp "com/example/slimheap/slimheap/hprof/IdMap" "ids" "[J" (.ref ia)) (Fv : Fld Z h0 mp "com/example/slimheap/slimheap/hprof/IdMap" "values" "[Ljava/lang/Object;" (.ref va)) (AI : own_Av Z h0 ia ki .long (64 : Int32) (fun i => .long (gg i))) (AV : own_Av Z h0 va kv (.object "java/lang/Object") (64 : Int32) ff) (Fs : Fld Z h0 mp "com/example/slimheap/slimheap/hprof/IdMap" "size" "I" (.int (3 : Int32))) (hR : (own_pre ff gg 64).length = 3) :
    MetFree l (⟨"com/example/slimheap/slimheap/hprof/IdMap", "ids", "()[J"⟩ : MethodName) (head1 (Jvm.Cond.code (⟨"com/example/slimheap/slimheap/hprof/IdMap", "ids", "()[J"⟩ : MethodName) prog_31_method_4_code 4 (some (.array .long)) :: ws) ({ frames := 0, cells := 1, slots := 3, locals := 0 } : Room)) (fun aa_ U => aa_ = #[(.ref mp)] ∧ Z.Warmed39 U.vm ∧ U.heap = h0) (fun _ _ _ _ _ => True) (fun _ U o U' => ∃ v L, o = .returned v ∧ Q_rmD3 Z mp ia va ki kv ff gg h0 n0 v U'.heap L ∧ FrameEnd U o U' L ({ frames := 0, cells := 1, slots := 3, locals := 0 } : Room).cells ({ frames := 0, cells := 1, slots := 3, locals := 0 } : Room).slots) := by
  refine MetFree.of_bodySF (plainFor_of_name pn_0) hisR ?_
  intro p e s m args below meth c s₁ Bd hml0 hP hK
  obtain ⟨rfl, hZ, hh⟩ := hP
  have hx := Bd.exec
  have hby := Bd.bytes
  have hml : c.maxLocals = 4 := hml0
  have hown : s.vm.findClass "com/example/slimheap/slimheap/hprof/IdMap" = some m.cls := findClass_of_methodNamed Bd.named
  have hnm := (name_of_methodNamed Bd.named Bd.method).1
  have X0 : Stand p l e ({ frames := 0, cells := 1, slots := 3, locals := 0 } : Room) s m #[(.ref mp)] below meth c s₁ [] 0 0 := Stand.of_body Bd
  have e0 : s₁.heap = h0 := by rw [← hh, Bd.state]; rfl
  have N0 := Fr.nil n0
  show OEnds p e below (OEndP s (Q_rmD3 Z mp ia va ki kv ff gg h0 n0) ({ frames := 0, cells := 1, slots := 3, locals := 0 } : Room).cells ({ frames := 0, cells := 1, slots := 3, locals := 0 } : Room).slots) s₁ (entryFrame m #[(.ref mp)] 4)
  rw [ef_rmD3 m mp]
  refine OEnds.go (g' := (mkF m 1 #[.val (.ref mp), .unset, .unset, .unset] [(.ref mp)])) (fun t k => XS.aloadN X0.here hx rfl (hb hby d6_0) rfl rfl k) ?_
  obtain ⟨T1, X1, e1, st1⟩ := getF X0 hx hZ hown (host := "") (Or.inl (hw _ (List.mem_of_getElem? (i := 33) rfl))) Via.refl e0 Fs (g := (mkF m 1 #[.val (.ref mp), .unset, .unset, .unset] [(.ref mp)])) rfl rfl (hb hby d6_1)
  refine OEnds.go (g' := (mkF m 4 #[.val (.ref mp), .unset, .unset, .unset] [(.int (3 : Int32))])) st1 ?_
  obtain ⟨T2, h2, k2, X2, e2, E2, A2, st2⟩ := newP X1 hx hZ (hw _ (List.mem_of_getElem? (i := 9) rfl)) e1 (g := (mkF m 4 #[.val (.ref mp), .unset, .unset, .unset] [(.int (3 : Int32))])) rfl (hb hby d6_4) rfl (by decide) (cap := 3) (by decide) (by decide) (by decide) (by decide)
  obtain ⟨b2, g2⟩ : ∃ z, z = h0.size := ⟨_, rfl⟩
  rw [← g2] at A2 st2
  have g_b2 : n0 ≤ b2 := Nat.le_trans Z0 (Nat.le_of_eq g2.symm)
  have sz_b2 : h0.size ≤ b2 := Nat.le_trans (Keep.refl h0 []).1 (Nat.le_of_eq g2.symm)
  have K2 : Keep h0 h2 [] := (Keep.refl h0 []).ext E2
  have V_b2 : Arv Z h2 b2 k2 .long (3 : Int32) [(.long (0 : Int64)), (.long (0 : Int64)), (.long (0 : Int64))] (.long (0 : Int64)) := (Arv.new A2 (by decide)).pad (pad_rep [] (.long (0 : Int64)) 3)
  refine OEnds.go (g' := (mkF m 6 #[.val (.ref mp), .unset, .unset, .unset] [(.ref b2)])) st2 ?_
  refine OEnds.go (g' := (mkF m 7 #[.val (.ref mp), .val (.ref b2), .unset, .unset] [])) (fun t k => XS.astoreN X2.here hx rfl (hb hby d6_6) rfl rfl (l' := #[.val (.ref mp), .val (.ref b2), .unset, .unset]) rfl k) ?_
  refine OEnds.go (g' := (mkF m 8 #[.val (.ref mp), .val (.ref b2), .unset, .unset] [(.int (0 : Int32))])) (fun t k => XS.iconst X2.here hx rfl (hb hby d6_7) k) ?_
  refine OEnds.go (g' := (mkF m 9 #[.val (.ref mp), .val (.ref b2), .val (.int (0 : Int32)), .unset] [])) (fun t k => XS.istoreN X2.here hx rfl (hb hby d6_8) rfl (l' := #[.val (.ref mp), .val (.ref b2), .val (.int (0 : Int32)), .unset]) rfl k) ?_
  refine OEnds.go (g' := (mkF m 10 #[.val (.ref mp), .val (.ref b2), .val (.int (0 : Int32)), .unset] [(.int (0 : Int32))])) (fun t k => XS.iconst X2.here hx rfl (hb hby d6_9) k) ?_
  refine OEnds.go (g' := (mkF m 11 #[.val (.ref mp), .val (.ref b2), .val (.int (0 : Int32)), .val (.int (0 : Int32))] [])) (fun t k => XS.istoreN X2.here hx rfl (hb hby d6_10) rfl (l' := #[.val (.ref mp), .val (.ref b2), .val (.int (0 : Int32)), .val (.int (0 : Int32))]) rfl k) ?_
  have nr0 : ia ≠ b2 := (Nat.ne_of_lt (Nat.lt_of_lt_of_le AI.lt (Nat.le_of_eq g2.symm)))
  have nr1 : va ≠ b2 := (Nat.ne_of_lt (Nat.lt_of_lt_of_le AV.lt (Nat.le_of_eq g2.symm)))
  have nr2 : mp ≠ b2 := (Nat.ne_of_lt (Nat.lt_of_lt_of_le Fi.lt (Nat.le_of_eq g2.symm)))
  have VR : own_Av Z h2 b2 k2 .long (3 : Int32) (fun i => .long ((fun _ => (0 : Int64)) i)) := own_Av.new A2 (by decide)
  have LOOP : ∀ (fu ix : Nat) (hfu : fu + ix = 64) (rr : Int32 → Int64) (TT : State) (ll_ : List Loc) (hh_ : Heap) (XX : Stand p l e ({ frames := 0, cells := 1, slots := 3, locals := 0 } : Room) s m #[.ref mp] below meth c TT ll_ 1 3) (eT : TT.heap = hh_) (NN : Fr n0 ll_) (KK : Keep h0 hh_ []) (Fi_ : Fld Z hh_ mp "com/example/slimheap/slimheap/hprof/IdMap" "ids" "[J" (.ref ia)) (Fv_ : Fld Z hh_ mp "com/example/slimheap/slimheap/hprof/IdMap" "values" "[Ljava/lang/Object;" (.ref va)) (AI_ : own_Av Z hh_ ia ki .long (64 : Int32) (fun i => .long (gg i))) (AV_ : own_Av Z hh_ va kv (.object "java/lang/Object") (64 : Int32) ff) (AR_ : own_Av Z hh_ b2 k2 .long (3 : Int32) (fun i => .long (rr i))) (hP : own_Pr ff gg ix rr), OEnds p e below (OEndP s (Q_rmD3 Z mp ia va ki kv ff gg h0 n0) ({ frames := 0, cells := 1, slots := 3, locals := 0 } : Room).cells ({ frames := 0, cells := 1, slots := 3, locals := 0 } : Room).slots) TT (mkF m 11 #[.val (.ref mp), .val (.ref b2), .val (.int (own_c ff gg ix)), .val (.int (Int32.ofNat ix))] []) := by
    intro fu
    induction fu with
    | zero =>
      intro ix hfu rr TT ll_ hh_ XX eT NN KK Fi_ Fv_ AI_ AV_ AR_ hP
      obtain rfl : ix = 64 := by omega
      refine OEnds.go (g' := (mkF m 12 #[.val (.ref mp), .val (.ref b2), .val (.int (own_c ff gg 64)), .val (.int (Int32.ofNat 64))] [(.int (Int32.ofNat 64))])) (fun t k => XS.iloadN XX.here hx rfl (hb hby d6_11) rfl k) ?_
      refine OEnds.go (g' := (mkF m 13 #[.val (.ref mp), .val (.ref b2), .val (.int (own_c ff gg 64)), .val (.int (Int32.ofNat 64))] [(.ref mp), (.int (Int32.ofNat 64))])) (fun t k => XS.aloadN XX.here hx rfl (hb hby d6_12) rfl rfl k) ?_
      obtain ⟨T3, X3, e3, st3⟩ := getF XX hx hZ hown (host := "") (Or.inl (hw _ (List.mem_of_getElem? (i := 14) rfl))) Via.refl eT Fv_ (g := (mkF m 13 #[.val (.ref mp), .val (.ref b2), .val (.int (own_c ff gg 64)), .val (.int (Int32.ofNat 64))] [(.ref mp), (.int (Int32.ofNat 64))])) rfl rfl (hb hby d6_13)
      refine OEnds.go (g' := (mkF m 16 #[.val (.ref mp), .val (.ref b2), .val (.int (own_c ff gg 64)), .val (.int (Int32.ofNat 64))] [(.ref va), (.int (Int32.ofNat 64))])) st3 ?_
      obtain ⟨cl4, Ar4, qa4, Sa4, Na4, Ha4⟩ := @id _ AV_
      refine OEnds.go (g' := (mkF m 17 #[.val (.ref mp), .val (.ref b2), .val (.int (own_c ff gg 64)), .val (.int (Int32.ofNat 64))] [(.int (64 : Int32)), (.int (Int32.ofNat 64))])) (fun t k => X3.arraylength hx (by rw [e3]; exact Ar4.1) (State.isArrayOf_alike hZ.alike Ar4.2.1) (g := (mkF m 16 #[.val (.ref mp), .val (.ref b2), .val (.int (own_c ff gg 64)), .val (.int (Int32.ofNat 64))] [(.ref va), (.int (Int32.ofNat 64))])) rfl rfl (hb hby d6_16) t (by rw [len_of Sa4 Na4]; exact k)) ?_
      refine OEnds.go (g' := (mkF m 47 #[.val (.ref mp), .val (.ref b2), .val (.int (own_c ff gg 64)), .val (.int (Int32.ofNat 64))] [])) (fun t k => XS.icmpYes X3.here hx rfl (pc0 := 17) (pc' := 47) rfl (hb hby d6_17) rfl (flt (by decide : ¬ ((Int32.ofNat 64) < (64 : Int32)))).2.1 (by decide) (by decide) k) ?_
      refine OEnds.go (g' := (mkF m 48 #[.val (.ref mp), .val (.ref b2), .val (.int (own_c ff gg 64)), .val (.int (Int32.ofNat 64))] [(.ref b2)])) (fun t k => XS.aloadN X3.here hx rfl (hb hby d6_47) rfl rfl k) ?_
      exact OEnds.outA X3 Bd.notSynchronized hx Bd.returns rfl rfl (hb hby d6_48) (by rw [e3]; exact ⟨b2, k2, rr, rfl, NN, KK, AR_, hP, g_b2⟩) (by decide) (by decide)
    | succ fu ih =>
      intro ix hfu rr TT ll_ hh_ XX eT NN KK Fi_ Fv_ AI_ AV_ AR_ hP
      have hi : ix < 64 := by omega
      refine OEnds.go (g' := (mkF m 12 #[.val (.ref mp), .val (.ref b2), .val (.int (own_c ff gg ix)), .val (.int (Int32.ofNat ix))] [(.int (Int32.ofNat ix))])) (fun t k => XS.iloadN XX.here hx rfl (hb hby d6_11) rfl k) ?_
      refine OEnds.go (g' := (mkF m 13 #[.val (.ref mp), .val (.ref b2), .val (.int (own_c ff gg ix)), .val (.int (Int32.ofNat ix))] [(.ref mp), (.int (Int32.ofNat ix))])) (fun t k => XS.aloadN XX.here hx rfl (hb hby d6_12) rfl rfl k) ?_
      obtain ⟨T5, X5, e5, st5⟩ := getF XX hx hZ hown (host := "") (Or.inl (hw _ (List.mem_of_getElem? (i := 14) rfl))) Via.refl eT Fv_ (g := (mkF m 13 #[.val (.ref mp), .val (.ref b2), .val (.int (own_c ff gg ix)), .val (.int (Int32.ofNat ix))] [(.ref mp), (.int (Int32.ofNat ix))])) rfl rfl (hb hby d6_13)
      refine OEnds.go (g' := (mkF m 16 #[.val (.ref mp), .val (.ref b2), .val (.int (own_c ff gg ix)), .val (.int (Int32.ofNat ix))] [(.ref va), (.int (Int32.ofNat ix))])) st5 ?_
      obtain ⟨cl6, Ar6, qa6, Sa6, Na6, Ha6⟩ := @id _ AV_
      refine OEnds.go (g' := (mkF m 17 #[.val (.ref mp), .val (.ref b2), .val (.int (own_c ff gg ix)), .val (.int (Int32.ofNat ix))] [(.int (64 : Int32)), (.int (Int32.ofNat ix))])) (fun t k => X5.arraylength hx (by rw [e5]; exact Ar6.1) (State.isArrayOf_alike hZ.alike Ar6.2.1) (g := (mkF m 16 #[.val (.ref mp), .val (.ref b2), .val (.int (own_c ff gg ix)), .val (.int (Int32.ofNat ix))] [(.ref va), (.int (Int32.ofNat ix))])) rfl rfl (hb hby d6_16) t (by rw [len_of Sa6 Na6]; exact k)) ?_
      refine OEnds.go (g' := (mkF m 20 #[.val (.ref mp), .val (.ref b2), .val (.int (own_c ff gg ix)), .val (.int (Int32.ofNat ix))] [])) (fun t k => XS.icmpNo X5.here hx rfl (hb hby d6_17) rfl (tlt ((own_in64 hi).2 : ((Int32.ofNat ix) < (64 : Int32)))).2.1 k) ?_
      refine OEnds.go (g' := (mkF m 21 #[.val (.ref mp), .val (.ref b2), .val (.int (own_c ff gg ix)), .val (.int (Int32.ofNat ix))] [(.ref mp)])) (fun t k => XS.aloadN X5.here hx rfl (hb hby d6_20) rfl rfl k) ?_
      obtain ⟨T7, X7, e7, st7⟩ := getF X5 hx hZ hown (host := "") (Or.inl (hw _ (List.mem_of_getElem? (i := 14) rfl))) Via.refl e5 Fv_ (g := (mkF m 21 #[.val (.ref mp), .val (.ref b2), .val (.int (own_c ff gg ix)), .val (.int (Int32.ofNat ix))] [(.ref mp)])) rfl rfl (hb hby d6_21)
      refine OEnds.go (g' := (mkF m 24 #[.val (.ref mp), .val (.ref b2), .val (.int (own_c ff gg ix)), .val (.int (Int32.ofNat ix))] [(.ref va)])) st7 ?_
      refine OEnds.go (g' := (mkF m 25 #[.val (.ref mp), .val (.ref b2), .val (.int (own_c ff gg ix)), .val (.int (Int32.ofNat ix))] [(.int (Int32.ofNat ix)), (.ref va)])) (fun t k => XS.iloadN X7.here hx rfl (hb hby d6_24) rfl k) ?_
      obtain ⟨cl8, Ar8, qa8, Sa8, Na8, Ha8⟩ := @id _ AV_
      have hin8 : ¬ ((Int32.ofNat ix) < 0 ∨ cl8.slots.size ≤ ((Int32.ofNat ix)).toNatClampNeg) := inb_of Sa8 (own_in64 hi)
      by_cases c25_9 : (ff (Int32.ofNat ix)) = .null
      · -- yes
        have hat8 : cl8.slots[((Int32.ofNat ix)).toNatClampNeg]? = some .null := (Ha8 _ hin8).1.trans (congrArg some c25_9)
        refine OEnds.go (g' := (mkF m 26 #[.val (.ref mp), .val (.ref b2), .val (.int (own_c ff gg ix)), .val (.int (Int32.ofNat ix))] [.null])) (X7.aaload hx (j := (Int32.ofNat ix)) (v := .null) (by rw [e7]; exact Ar8.1) (State.isArrayOf_alike hZ.alike Ar8.2.1) rfl Ar8.2.2 hin8 hat8 (g := (mkF m 25 #[.val (.ref mp), .val (.ref b2), .val (.int (own_c ff gg ix)), .val (.int (Int32.ofNat ix))] [(.int (Int32.ofNat ix)), (.ref va)])) rfl rfl (hb hby d6_25)) ?_
        refine OEnds.go (g' := (mkF m 41 #[.val (.ref mp), .val (.ref b2), .val (.int (own_c ff gg ix)), .val (.int (Int32.ofNat ix))] [])) (fun t k => XS.ifnullYes X7.here hx rfl (pc0 := 26) (pc' := 41) rfl (hb hby d6_26) rfl (by decide) (by decide) k) ?_
        refine OEnds.go (g' := (mkF m 44 #[.val (.ref mp), .val (.ref b2), .val (.int (own_c ff gg ix)), .val (.int ((Int32.ofNat ix) + (1 : Int32)))] [])) (fun t k => XS.iinc X7.here hx rfl (hb hby d6_41) rfl (l' := #[.val (.ref mp), .val (.ref b2), .val (.int (own_c ff gg ix)), .val (.int ((Int32.ofNat ix) + (1 : Int32)))]) rfl k) ?_
        refine OEnds.go (g' := (mkF m 11 #[.val (.ref mp), .val (.ref b2), .val (.int (own_c ff gg ix)), .val (.int ((Int32.ofNat ix) + (1 : Int32)))] [])) (fun t k => XS.goto X7.here hx rfl (pc0 := 44) (pc' := 11) rfl (hb hby d6_44) (by decide) (by decide) k) ?_
        rw [own_succ ix]
        rw [show own_c ff gg ix = own_c ff gg (ix + 1) from by rw [own_c, own_c, own_pres0 c25_9]]
        exact ih (ix + 1) (by omega) rr _ _ _ X7 e7 NN KK Fi_ Fv_ AI_ AV_ AR_ (own_Pr0 c25_9 hP)
      · -- no
        obtain ⟨y_10, hy_10⟩ := own_nnref (Ha8 _ hin8).2 rfl c25_9
        have hat8 : cl8.slots[((Int32.ofNat ix)).toNatClampNeg]? = some (.ref y_10) := (Ha8 _ hin8).1.trans (congrArg some hy_10)
        refine OEnds.go (g' := (mkF m 26 #[.val (.ref mp), .val (.ref b2), .val (.int (own_c ff gg ix)), .val (.int (Int32.ofNat ix))] [(.ref y_10)])) (X7.aaload hx (j := (Int32.ofNat ix)) (v := (.ref y_10)) (by rw [e7]; exact Ar8.1) (State.isArrayOf_alike hZ.alike Ar8.2.1) rfl Ar8.2.2 hin8 hat8 (g := (mkF m 25 #[.val (.ref mp), .val (.ref b2), .val (.int (own_c ff gg ix)), .val (.int (Int32.ofNat ix))] [(.int (Int32.ofNat ix)), (.ref va)])) rfl rfl (hb hby d6_25)) ?_
        refine OEnds.go (g' := (mkF m 29 #[.val (.ref mp), .val (.ref b2), .val (.int (own_c ff gg ix)), .val (.int (Int32.ofNat ix))] [])) (fun t k => XS.ifnullNo X7.here hx rfl (hb hby d6_26) rfl k) ?_
        refine OEnds.go (g' := (mkF m 30 #[.val (.ref mp), .val (.ref b2), .val (.int (own_c ff gg ix)), .val (.int (Int32.ofNat ix))] [(.ref b2)])) (fun t k => XS.aloadN X7.here hx rfl (hb hby d6_29) rfl rfl k) ?_
        refine OEnds.go (g' := (mkF m 31 #[.val (.ref mp), .val (.ref b2), .val (.int (own_c ff gg ix)), .val (.int (Int32.ofNat ix))] [(.int (own_c ff gg ix)), (.ref b2)])) (fun t k => XS.iloadN X7.here hx rfl (hb hby d6_30) rfl k) ?_
        refine OEnds.go (g' := (mkF m 34 #[.val (.ref mp), .val (.ref b2), .val (.int ((own_c ff gg ix) + (1 : Int32))), .val (.int (Int32.ofNat ix))] [(.int (own_c ff gg ix)), (.ref b2)])) (fun t k => XS.iinc X7.here hx rfl (hb hby d6_31) rfl (l' := #[.val (.ref mp), .val (.ref b2), .val (.int ((own_c ff gg ix) + (1 : Int32))), .val (.int (Int32.ofNat ix))]) rfl k) ?_
        refine OEnds.go (g' := (mkF m 35 #[.val (.ref mp), .val (.ref b2), .val (.int ((own_c ff gg ix) + (1 : Int32))), .val (.int (Int32.ofNat ix))] [(.ref mp), (.int (own_c ff gg ix)), (.ref b2)])) (fun t k => XS.aloadN X7.here hx rfl (hb hby d6_34) rfl rfl k) ?_
        obtain ⟨T11, X11, e11, st11⟩ := getF X7 hx hZ hown (host := "") (Or.inl (hw _ (List.mem_of_getElem? (i := 10) rfl))) Via.refl e7 Fi_ (g := (mkF m 35 #[.val (.ref mp), .val (.ref b2), .val (.int ((own_c ff gg ix) + (1 : Int32))), .val (.int (Int32.ofNat ix))] [(.ref mp), (.int (own_c ff gg ix)), (.ref b2)])) rfl rfl (hb hby d6_35)
        refine OEnds.go (g' := (mkF m 38 #[.val (.ref mp), .val (.ref b2), .val (.int ((own_c ff gg ix) + (1 : Int32))), .val (.int (Int32.ofNat ix))] [(.ref ia), (.int (own_c ff gg ix)), (.ref b2)])) st11 ?_
        refine OEnds.go (g' := (mkF m 39 #[.val (.ref mp), .val (.ref b2), .val (.int ((own_c ff gg ix) + (1 : Int32))), .val (.int (Int32.ofNat ix))] [(.int (Int32.ofNat ix)), (.ref ia), (.int (own_c ff gg ix)), (.ref b2)])) (fun t k => XS.iloadN X11.here hx rfl (hb hby d6_38) rfl k) ?_
        obtain ⟨cl12, Ar12, qa12, Sa12, Na12, Ha12⟩ := @id _ AI_
        have hin12 : ¬ ((Int32.ofNat ix) < 0 ∨ cl12.slots.size ≤ ((Int32.ofNat ix)).toNatClampNeg) := inb_of Sa12 (own_in64 hi)
        have hat12 : cl12.slots[((Int32.ofNat ix)).toNatClampNeg]? = some (.long (gg (Int32.ofNat ix))) := (Ha12 _ hin12).1
        refine OEnds.go (g' := (mkF m 40 #[.val (.ref mp), .val (.ref b2), .val (.int ((own_c ff gg ix) + (1 : Int32))), .val (.int (Int32.ofNat ix))] [(.long (gg (Int32.ofNat ix))), (.int (own_c ff gg ix)), (.ref b2)])) (X11.laload hx (j := (Int32.ofNat ix)) (v := (.long (gg (Int32.ofNat ix)))) (by rw [e11]; exact Ar12.1) (State.isArrayOf_alike hZ.alike Ar12.2.1) Ar12.2.2 hin12 hat12 (g := (mkF m 39 #[.val (.ref mp), .val (.ref b2), .val (.int ((own_c ff gg ix) + (1 : Int32))), .val (.int (Int32.ofNat ix))] [(.int (Int32.ofNat ix)), (.ref ia), (.int (own_c ff gg ix)), (.ref b2)])) rfl rfl (hb hby d6_39)) ?_
        obtain ⟨cl13, Ar13, qa13, Sa13, Na13, Ha13⟩ := @id _ AR_
        have hin13 : ¬ ((own_c ff gg ix) < 0 ∨ cl13.slots.size ≤ ((own_c ff gg ix)).toNatClampNeg) := inb_of Sa13 (own_cb c25_9 hi hR (by decide) (by decide))
        obtain ⟨T14, h14, X14, e14, W14, st14⟩ := stJ X11 hx hZ e11 Ar13 (j := (own_c ff gg ix)) hin13 (g := (mkF m 40 #[.val (.ref mp), .val (.ref b2), .val (.int ((own_c ff gg ix) + (1 : Int32))), .val (.int (Int32.ofNat ix))] [(.long (gg (Int32.ofNat ix))), (.int (own_c ff gg ix)), (.ref b2)])) rfl rfl (hb hby d6_40)
        have N14 := Fr.snoc X14 NN g_b2
        have K14 : Keep h0 h14 [] := KK.wr W14 (Or.inr sz_b2)
        have A14_b2 : own_Av Z h14 b2 k2 .long (3 : Int32) (fun i => .long ((own_u rr (own_c ff gg ix) (gg (Int32.ofNat ix))) i)) := own_Av.setJ Ar13 qa13 Sa13 Na13 Ha13 W14 hin13
        refine OEnds.go (g' := (mkF m 41 #[.val (.ref mp), .val (.ref b2), .val (.int ((own_c ff gg ix) + (1 : Int32))), .val (.int (Int32.ofNat ix))] [])) st14 ?_
        refine OEnds.go (g' := (mkF m 44 #[.val (.ref mp), .val (.ref b2), .val (.int ((own_c ff gg ix) + (1 : Int32))), .val (.int ((Int32.ofNat ix) + (1 : Int32)))] [])) (fun t k => XS.iinc X14.here hx rfl (hb hby d6_41) rfl (l' := #[.val (.ref mp), .val (.ref b2), .val (.int ((own_c ff gg ix) + (1 : Int32))), .val (.int ((Int32.ofNat ix) + (1 : Int32)))]) rfl k) ?_
        refine OEnds.go (g' := (mkF m 11 #[.val (.ref mp), .val (.ref b2), .val (.int ((own_c ff gg ix) + (1 : Int32))), .val (.int ((Int32.ofNat ix) + (1 : Int32)))] [])) (fun t k => XS.goto X14.here hx rfl (pc0 := 44) (pc' := 11) rfl (hb hby d6_44) (by decide) (by decide) k) ?_
        rw [own_succ ix]
        rw [own_cs c25_9]
        exact ih (ix + 1) (by omega) (own_u rr (own_c ff gg ix) (gg (Int32.ofNat ix))) _ _ _ X14 e14 N14 K14 (Fi_.other W14 (Or.inl nr2)) (Fv_.other W14 (Or.inl nr2)) (AI_.other W14 nr0) (AV_.other W14 nr1) A14_b2 (own_Pr1 c25_9 (by omega) hR (by decide) hP)
  exact LOOP 64 0 rfl (fun _ => 0) _ _ _ X2 e2 N0 K2 (Fi.ext E2) (Fv.ext E2) (AI.ext E2) (AV.ext E2) VR (fun t ht => absurd ht (Nat.not_lt_zero t))
theorem ef_rmH1 (m : MethodId) (x0 : Addr) (x1 : Int64) : entryFrame m #[(.ref x0), (.long x1)] 3 = mkF m 0 #[.val (.ref x0), .val (.long x1), .second] [] := by first | (simp [entryFrame, mkF, argsToLocals, Value.category]; done) | rfl
def fH1 (xx : Int64) (u0 : Int64) : Int32 := if u0 = xx then (1 : Int32) else (0 : Int32)
def Q_rmH1 (Z : State) (ar : Addr) (xx : Int64) (kr : ClassId) (u0 : Int64) (h0 : Heap) (n0 : Nat) (v : Option Value) (h : Heap) (L : List Loc) : Prop := v = some (.int (fH1 xx u0)) ∧ Fr n0 L ∧ h = h0
set_option maxRecDepth 65536 in
set_option maxHeartbeats 40000000 in
theorem rmH1 (l : Launch) (Z : State) (a0 : Array Value) (hw : ∀ d ∈ tables_1, d.before a0 Z = true) (ws : List Jvm.Cond) (ar : Addr) (xx : Int64) (kr : ClassId) (u0 : Int64) (h0 : Heap) (n0 : Nat) (Z0 : n0 ≤ h0.size) (V0 : Arv Z h0 ar kr .long (1 : Int32) [(.long u0)] (.long (0 : Int64))) :
    MetFree l (⟨"com/example/slimheap/slimheap/hprof/IdMapIdsPinLaw", "has", "([JJ)Z"⟩ : MethodName) (head1 (Jvm.Cond.code (⟨"com/example/slimheap/slimheap/hprof/IdMapIdsPinLaw", "has", "([JJ)Z"⟩ : MethodName) method_3_code 3 (some .boolean) :: ws) ({ frames := 0, cells := 0, slots := 0, locals := 0 } : Room)) (fun aa_ U => aa_ = #[(.ref ar), (.long xx)] ∧ Z.Warmed39 U.vm ∧ U.heap = h0) (fun _ _ _ _ _ => True) (fun _ U o U' => ∃ v L, o = .returned v ∧ Q_rmH1 Z ar xx kr u0 h0 n0 v U'.heap L ∧ FrameEnd U o U' L ({ frames := 0, cells := 0, slots := 0, locals := 0 } : Room).cells ({ frames := 0, cells := 0, slots := 0, locals := 0 } : Room).slots) := by
  refine MetFree.of_bodySF (plainFor_of_name pn_2) hisR ?_
  intro p e s m args below meth c s₁ Bd hml0 hP hK
  obtain ⟨rfl, hZ, hh⟩ := hP
  have hx := Bd.exec
  have hby := Bd.bytes
  have hml : c.maxLocals = 3 := hml0
  have hown : s.vm.findClass "com/example/slimheap/slimheap/hprof/IdMapIdsPinLaw" = some m.cls := findClass_of_methodNamed Bd.named
  have hnm := (name_of_methodNamed Bd.named Bd.method).1
  have X0 : Stand p l e ({ frames := 0, cells := 0, slots := 0, locals := 0 } : Room) s m #[(.ref ar), (.long xx)] below meth c s₁ [] 0 0 := Stand.of_body Bd
  have e0 : s₁.heap = h0 := by rw [← hh, Bd.state]; rfl
  have N0 := Fr.nil n0
  show OEnds p e below (OEndP s (Q_rmH1 Z ar xx kr u0 h0 n0) ({ frames := 0, cells := 0, slots := 0, locals := 0 } : Room).cells ({ frames := 0, cells := 0, slots := 0, locals := 0 } : Room).slots) s₁ (entryFrame m #[(.ref ar), (.long xx)] 3)
  rw [ef_rmH1 m ar xx]
  refine OEnds.go (g' := (mkF m 1 #[.val (.ref ar), .val (.long xx), .second] [(.ref ar)])) (fun t k => XS.aloadN X0.here hx rfl (hb hby d7_0) rfl rfl k) ?_
  obtain ⟨cl1, Ar1, qa1, Sa1, Na1, Ha1, Ga1⟩ := @id _ V0
  refine OEnds.go (g' := (mkF m 2 #[.val (.ref ar), .val (.long xx), .second] [(.int (1 : Int32))])) (fun t k => X0.arraylength hx (by rw [e0]; exact Ar1.1) (State.isArrayOf_alike hZ.alike Ar1.2.1) (g := (mkF m 1 #[.val (.ref ar), .val (.long xx), .second] [(.ref ar)])) rfl rfl (hb hby d7_1) t (by rw [len_of Sa1 Na1]; exact k)) ?_
  refine OEnds.go (g' := (mkF m 5 #[.val (.ref ar), .val (.long xx), .second] [])) (fun t k => XS.ifNo X0.here hx rfl (hb hby d7_2) rfl ((if0 _ _).trans (tlt (by decide : ((0 : Int32) < (1 : Int32)))).2.2.2) k) ?_
  refine OEnds.go (g' := (mkF m 6 #[.val (.ref ar), .val (.long xx), .second] [(.ref ar)])) (fun t k => XS.aloadN X0.here hx rfl (hb hby d7_5) rfl rfl k) ?_
  refine OEnds.go (g' := (mkF m 7 #[.val (.ref ar), .val (.long xx), .second] [(.int (0 : Int32)), (.ref ar)])) (fun t k => XS.iconst X0.here hx rfl (hb hby d7_6) k) ?_
  obtain ⟨cl2, Ar2, qa2, Sa2, Na2, Ha2, Ga2⟩ := @id _ V0
  have hin2 : ¬ ((0 : Int32) < 0 ∨ cl2.slots.size ≤ ((0 : Int32)).toNatClampNeg) := inb_of Sa2 ⟨by decide, by decide⟩
  have hat2 : cl2.slots[((0 : Int32)).toNatClampNeg]? = some (.long u0) := Has.at Ha2 hin2 rfl
  refine OEnds.go (g' := (mkF m 8 #[.val (.ref ar), .val (.long xx), .second] [(.long u0)])) (X0.laload hx (j := (0 : Int32)) (v := (.long u0)) (by rw [e0]; exact Ar2.1) (State.isArrayOf_alike hZ.alike Ar2.2.1) Ar2.2.2 hin2 hat2 (g := (mkF m 7 #[.val (.ref ar), .val (.long xx), .second] [(.int (0 : Int32)), (.ref ar)])) rfl rfl (hb hby d7_7)) ?_
  refine OEnds.go (g' := (mkF m 9 #[.val (.ref ar), .val (.long xx), .second] [(.long xx), (.long u0)])) (fun t k => XS.lloadN X0.here hx rfl (hb hby d7_8) rfl k) ?_
  refine OEnds.go (g' := (mkF m 10 #[.val (.ref ar), .val (.long xx), .second] [(.int (lcmpW u0 xx))])) (fun t k => XS.lcmp X0.here hx rfl (hb hby d7_9) rfl k) ?_
  by_cases c10_3 : u0 = xx
  · -- yes
    refine OEnds.go (g' := (mkF m 41 #[.val (.ref ar), .val (.long xx), .second] [])) (fun t k => XS.ifYes X0.here hx rfl (pc0 := 10) (pc' := 41) rfl (hb hby d7_10) rfl ((if0 _ _).trans (teq ((lw_eq _ _).mpr c10_3)).1) (by decide) (by decide) k) ?_
    refine OEnds.go (g' := (mkF m 42 #[.val (.ref ar), .val (.long xx), .second] [(.int (1 : Int32))])) (fun t k => XS.iconst X0.here hx rfl (hb hby d7_41) k) ?_
    refine OEnds.go (g' := (mkF m 46 #[.val (.ref ar), .val (.long xx), .second] [(.int (1 : Int32))])) (fun t k => XS.goto X0.here hx rfl (pc0 := 42) (pc' := 46) rfl (hb hby d7_42) (by decide) (by decide) k) ?_
    exact OEnds.outN X0 Bd.notSynchronized hx (t := .boolean) Bd.returns (by simp) (hb hby d7_46) ⟨by show (some (.int (1 : Int32)) : Option Value) = some (.int (fH1 xx u0)); rw [fH1, if_pos c10_3], N0, e0⟩ (by decide) (by decide)
  · -- no
    refine OEnds.go (g' := (mkF m 13 #[.val (.ref ar), .val (.long xx), .second] [])) (fun t k => XS.ifNo X0.here hx rfl (hb hby d7_10) rfl ((if0 _ _).trans (feq (fun q => c10_3 ((lw_eq _ _).mp q))).1) k) ?_
    refine OEnds.go (g' := (mkF m 14 #[.val (.ref ar), .val (.long xx), .second] [(.ref ar)])) (fun t k => XS.aloadN X0.here hx rfl (hb hby d7_13) rfl rfl k) ?_
    obtain ⟨cl4, Ar4, qa4, Sa4, Na4, Ha4, Ga4⟩ := @id _ V0
    refine OEnds.go (g' := (mkF m 15 #[.val (.ref ar), .val (.long xx), .second] [(.int (1 : Int32))])) (fun t k => X0.arraylength hx (by rw [e0]; exact Ar4.1) (State.isArrayOf_alike hZ.alike Ar4.2.1) (g := (mkF m 14 #[.val (.ref ar), .val (.long xx), .second] [(.ref ar)])) rfl rfl (hb hby d7_14) t (by rw [len_of Sa4 Na4]; exact k)) ?_
    refine OEnds.go (g' := (mkF m 16 #[.val (.ref ar), .val (.long xx), .second] [(.int (1 : Int32)), (.int (1 : Int32))])) (fun t k => XS.iconst X0.here hx rfl (hb hby d7_15) k) ?_
    refine OEnds.go (g' := (mkF m 27 #[.val (.ref ar), .val (.long xx), .second] [])) (fun t k => XS.icmpYes X0.here hx rfl (pc0 := 16) (pc' := 27) rfl (hb hby d7_16) rfl (flt (by decide : ¬ ((1 : Int32) < (1 : Int32)))).2.2.2 (by decide) (by decide) k) ?_
    refine OEnds.go (g' := (mkF m 28 #[.val (.ref ar), .val (.long xx), .second] [(.ref ar)])) (fun t k => XS.aloadN X0.here hx rfl (hb hby d7_27) rfl rfl k) ?_
    obtain ⟨cl5, Ar5, qa5, Sa5, Na5, Ha5, Ga5⟩ := @id _ V0
    refine OEnds.go (g' := (mkF m 29 #[.val (.ref ar), .val (.long xx), .second] [(.int (1 : Int32))])) (fun t k => X0.arraylength hx (by rw [e0]; exact Ar5.1) (State.isArrayOf_alike hZ.alike Ar5.2.1) (g := (mkF m 28 #[.val (.ref ar), .val (.long xx), .second] [(.ref ar)])) rfl rfl (hb hby d7_28) t (by rw [len_of Sa5 Na5]; exact k)) ?_
    refine OEnds.go (g' := (mkF m 30 #[.val (.ref ar), .val (.long xx), .second] [(.int (2 : Int32)), (.int (1 : Int32))])) (fun t k => XS.iconst X0.here hx rfl (hb hby d7_29) k) ?_
    refine OEnds.go (g' := (mkF m 45 #[.val (.ref ar), .val (.long xx), .second] [])) (fun t k => XS.icmpYes X0.here hx rfl (pc0 := 30) (pc' := 45) rfl (hb hby d7_30) rfl (flt (by decide : ¬ ((2 : Int32) < (1 : Int32)))).2.2.2 (by decide) (by decide) k) ?_
    refine OEnds.go (g' := (mkF m 46 #[.val (.ref ar), .val (.long xx), .second] [(.int (0 : Int32))])) (fun t k => XS.iconst X0.here hx rfl (hb hby d7_45) k) ?_
    exact OEnds.outN X0 Bd.notSynchronized hx (t := .boolean) Bd.returns (by simp) (hb hby d7_46) ⟨by show (some (.int (0 : Int32)) : Option Value) = some (.int (fH1 xx u0)); rw [fH1, if_neg c10_3], N0, e0⟩ (by decide) (by decide)
theorem own_has1 (xx u0 : Int64) (h : xx ∈ [u0]) : ¬ fH1 xx u0 = 0 := by
  simp only [List.mem_cons, List.not_mem_nil, or_false] at h
  rcases h with h <;> simp +decide [fH1, h]
theorem ef_rmH2 (m : MethodId) (x0 : Addr) (x1 : Int64) : entryFrame m #[(.ref x0), (.long x1)] 3 = mkF m 0 #[.val (.ref x0), .val (.long x1), .second] [] := by first | (simp [entryFrame, mkF, argsToLocals, Value.category]; done) | rfl
def fH2 (xx : Int64) (u0 : Int64) (u1 : Int64) : Int32 := if u0 = xx then (1 : Int32) else if u1 = xx then (1 : Int32) else (0 : Int32)
def Q_rmH2 (Z : State) (ar : Addr) (xx : Int64) (kr : ClassId) (u0 : Int64) (u1 : Int64) (h0 : Heap) (n0 : Nat) (v : Option Value) (h : Heap) (L : List Loc) : Prop := v = some (.int (fH2 xx u0 u1)) ∧ Fr n0 L ∧ h = h0
set_option maxRecDepth 65536 in
set_option maxHeartbeats 40000000 in
theorem rmH2 (l : Launch) (Z : State) (a0 : Array Value) (hw : ∀ d ∈ tables_1, d.before a0 Z = true) (ws : List Jvm.Cond) (ar : Addr) (xx : Int64) (kr : ClassId) (u0 : Int64) (u1 : Int64) (h0 : Heap) (n0 : Nat) (Z0 : n0 ≤ h0.size) (V0 : Arv Z h0 ar kr .long (2 : Int32) [(.long u0), (.long u1)] (.long (0 : Int64))) :
    MetFree l (⟨"com/example/slimheap/slimheap/hprof/IdMapIdsPinLaw", "has", "([JJ)Z"⟩ : MethodName) (head1 (Jvm.Cond.code (⟨"com/example/slimheap/slimheap/hprof/IdMapIdsPinLaw", "has", "([JJ)Z"⟩ : MethodName) method_3_code 3 (some .boolean) :: ws) ({ frames := 0, cells := 0, slots := 0, locals := 0 } : Room)) (fun aa_ U => aa_ = #[(.ref ar), (.long xx)] ∧ Z.Warmed39 U.vm ∧ U.heap = h0) (fun _ _ _ _ _ => True) (fun _ U o U' => ∃ v L, o = .returned v ∧ Q_rmH2 Z ar xx kr u0 u1 h0 n0 v U'.heap L ∧ FrameEnd U o U' L ({ frames := 0, cells := 0, slots := 0, locals := 0 } : Room).cells ({ frames := 0, cells := 0, slots := 0, locals := 0 } : Room).slots) := by
  refine MetFree.of_bodySF (plainFor_of_name pn_2) hisR ?_
  intro p e s m args below meth c s₁ Bd hml0 hP hK
  obtain ⟨rfl, hZ, hh⟩ := hP
  have hx := Bd.exec
  have hby := Bd.bytes
  have hml : c.maxLocals = 3 := hml0
  have hown : s.vm.findClass "com/example/slimheap/slimheap/hprof/IdMapIdsPinLaw" = some m.cls := findClass_of_methodNamed Bd.named
  have hnm := (name_of_methodNamed Bd.named Bd.method).1
  have X0 : Stand p l e ({ frames := 0, cells := 0, slots := 0, locals := 0 } : Room) s m #[(.ref ar), (.long xx)] below meth c s₁ [] 0 0 := Stand.of_body Bd
  have e0 : s₁.heap = h0 := by rw [← hh, Bd.state]; rfl
  have N0 := Fr.nil n0
  show OEnds p e below (OEndP s (Q_rmH2 Z ar xx kr u0 u1 h0 n0) ({ frames := 0, cells := 0, slots := 0, locals := 0 } : Room).cells ({ frames := 0, cells := 0, slots := 0, locals := 0 } : Room).slots) s₁ (entryFrame m #[(.ref ar), (.long xx)] 3)
  rw [ef_rmH2 m ar xx]
  refine OEnds.go (g' := (mkF m 1 #[.val (.ref ar), .val (.long xx), .second] [(.ref ar)])) (fun t k => XS.aloadN X0.here hx rfl (hb hby d7_0) rfl rfl k) ?_
  obtain ⟨cl1, Ar1, qa1, Sa1, Na1, Ha1, Ga1⟩ := @id _ V0
  refine OEnds.go (g' := (mkF m 2 #[.val (.ref ar), .val (.long xx), .second] [(.int (2 : Int32))])) (fun t k => X0.arraylength hx (by rw [e0]; exact Ar1.1) (State.isArrayOf_alike hZ.alike Ar1.2.1) (g := (mkF m 1 #[.val (.ref ar), .val (.long xx), .second] [(.ref ar)])) rfl rfl (hb hby d7_1) t (by rw [len_of Sa1 Na1]; exact k)) ?_
  refine OEnds.go (g' := (mkF m 5 #[.val (.ref ar), .val (.long xx), .second] [])) (fun t k => XS.ifNo X0.here hx rfl (hb hby d7_2) rfl ((if0 _ _).trans (tlt (by decide : ((0 : Int32) < (2 : Int32)))).2.2.2) k) ?_
  refine OEnds.go (g' := (mkF m 6 #[.val (.ref ar), .val (.long xx), .second] [(.ref ar)])) (fun t k => XS.aloadN X0.here hx rfl (hb hby d7_5) rfl rfl k) ?_
  refine OEnds.go (g' := (mkF m 7 #[.val (.ref ar), .val (.long xx), .second] [(.int (0 : Int32)), (.ref ar)])) (fun t k => XS.iconst X0.here hx rfl (hb hby d7_6) k) ?_
  obtain ⟨cl2, Ar2, qa2, Sa2, Na2, Ha2, Ga2⟩ := @id _ V0
  have hin2 : ¬ ((0 : Int32) < 0 ∨ cl2.slots.size ≤ ((0 : Int32)).toNatClampNeg) := inb_of Sa2 ⟨by decide, by decide⟩
  have hat2 : cl2.slots[((0 : Int32)).toNatClampNeg]? = some (.long u0) := Has.at Ha2 hin2 rfl
  refine OEnds.go (g' := (mkF m 8 #[.val (.ref ar), .val (.long xx), .second] [(.long u0)])) (X0.laload hx (j := (0 : Int32)) (v := (.long u0)) (by rw [e0]; exact Ar2.1) (State.isArrayOf_alike hZ.alike Ar2.2.1) Ar2.2.2 hin2 hat2 (g := (mkF m 7 #[.val (.ref ar), .val (.long xx), .second] [(.int (0 : Int32)), (.ref ar)])) rfl rfl (hb hby d7_7)) ?_
  refine OEnds.go (g' := (mkF m 9 #[.val (.ref ar), .val (.long xx), .second] [(.long xx), (.long u0)])) (fun t k => XS.lloadN X0.here hx rfl (hb hby d7_8) rfl k) ?_
  refine OEnds.go (g' := (mkF m 10 #[.val (.ref ar), .val (.long xx), .second] [(.int (lcmpW u0 xx))])) (fun t k => XS.lcmp X0.here hx rfl (hb hby d7_9) rfl k) ?_
  by_cases c10_3 : u0 = xx
  · -- yes
    refine OEnds.go (g' := (mkF m 41 #[.val (.ref ar), .val (.long xx), .second] [])) (fun t k => XS.ifYes X0.here hx rfl (pc0 := 10) (pc' := 41) rfl (hb hby d7_10) rfl ((if0 _ _).trans (teq ((lw_eq _ _).mpr c10_3)).1) (by decide) (by decide) k) ?_
    refine OEnds.go (g' := (mkF m 42 #[.val (.ref ar), .val (.long xx), .second] [(.int (1 : Int32))])) (fun t k => XS.iconst X0.here hx rfl (hb hby d7_41) k) ?_
    refine OEnds.go (g' := (mkF m 46 #[.val (.ref ar), .val (.long xx), .second] [(.int (1 : Int32))])) (fun t k => XS.goto X0.here hx rfl (pc0 := 42) (pc' := 46) rfl (hb hby d7_42) (by decide) (by decide) k) ?_
    exact OEnds.outN X0 Bd.notSynchronized hx (t := .boolean) Bd.returns (by simp) (hb hby d7_46) ⟨by show (some (.int (1 : Int32)) : Option Value) = some (.int (fH2 xx u0 u1)); rw [fH2, if_pos c10_3], N0, e0⟩ (by decide) (by decide)
  · -- no
    refine OEnds.go (g' := (mkF m 13 #[.val (.ref ar), .val (.long xx), .second] [])) (fun t k => XS.ifNo X0.here hx rfl (hb hby d7_10) rfl ((if0 _ _).trans (feq (fun q => c10_3 ((lw_eq _ _).mp q))).1) k) ?_
    refine OEnds.go (g' := (mkF m 14 #[.val (.ref ar), .val (.long xx), .second] [(.ref ar)])) (fun t k => XS.aloadN X0.here hx rfl (hb hby d7_13) rfl rfl k) ?_
    obtain ⟨cl4, Ar4, qa4, Sa4, Na4, Ha4, Ga4⟩ := @id _ V0
    refine OEnds.go (g' := (mkF m 15 #[.val (.ref ar), .val (.long xx), .second] [(.int (2 : Int32))])) (fun t k => X0.arraylength hx (by rw [e0]; exact Ar4.1) (State.isArrayOf_alike hZ.alike Ar4.2.1) (g := (mkF m 14 #[.val (.ref ar), .val (.long xx), .second] [(.ref ar)])) rfl rfl (hb hby d7_14) t (by rw [len_of Sa4 Na4]; exact k)) ?_
    refine OEnds.go (g' := (mkF m 16 #[.val (.ref ar), .val (.long xx), .second] [(.int (1 : Int32)), (.int (2 : Int32))])) (fun t k => XS.iconst X0.here hx rfl (hb hby d7_15) k) ?_
    refine OEnds.go (g' := (mkF m 19 #[.val (.ref ar), .val (.long xx), .second] [])) (fun t k => XS.icmpNo X0.here hx rfl (hb hby d7_16) rfl (tlt (by decide : ((1 : Int32) < (2 : Int32)))).2.2.2 k) ?_
    refine OEnds.go (g' := (mkF m 20 #[.val (.ref ar), .val (.long xx), .second] [(.ref ar)])) (fun t k => XS.aloadN X0.here hx rfl (hb hby d7_19) rfl rfl k) ?_
    refine OEnds.go (g' := (mkF m 21 #[.val (.ref ar), .val (.long xx), .second] [(.int (1 : Int32)), (.ref ar)])) (fun t k => XS.iconst X0.here hx rfl (hb hby d7_20) k) ?_
    obtain ⟨cl5, Ar5, qa5, Sa5, Na5, Ha5, Ga5⟩ := @id _ V0
    have hin5 : ¬ ((1 : Int32) < 0 ∨ cl5.slots.size ≤ ((1 : Int32)).toNatClampNeg) := inb_of Sa5 ⟨by decide, by decide⟩
    have hat5 : cl5.slots[((1 : Int32)).toNatClampNeg]? = some (.long u1) := Has.at Ha5 hin5 rfl
    refine OEnds.go (g' := (mkF m 22 #[.val (.ref ar), .val (.long xx), .second] [(.long u1)])) (X0.laload hx (j := (1 : Int32)) (v := (.long u1)) (by rw [e0]; exact Ar5.1) (State.isArrayOf_alike hZ.alike Ar5.2.1) Ar5.2.2 hin5 hat5 (g := (mkF m 21 #[.val (.ref ar), .val (.long xx), .second] [(.int (1 : Int32)), (.ref ar)])) rfl rfl (hb hby d7_21)) ?_
    refine OEnds.go (g' := (mkF m 23 #[.val (.ref ar), .val (.long xx), .second] [(.long xx), (.long u1)])) (fun t k => XS.lloadN X0.here hx rfl (hb hby d7_22) rfl k) ?_
    refine OEnds.go (g' := (mkF m 24 #[.val (.ref ar), .val (.long xx), .second] [(.int (lcmpW u1 xx))])) (fun t k => XS.lcmp X0.here hx rfl (hb hby d7_23) rfl k) ?_
    by_cases c24_6 : u1 = xx
    · -- yes
      refine OEnds.go (g' := (mkF m 41 #[.val (.ref ar), .val (.long xx), .second] [])) (fun t k => XS.ifYes X0.here hx rfl (pc0 := 24) (pc' := 41) rfl (hb hby d7_24) rfl ((if0 _ _).trans (teq ((lw_eq _ _).mpr c24_6)).1) (by decide) (by decide) k) ?_
      refine OEnds.go (g' := (mkF m 42 #[.val (.ref ar), .val (.long xx), .second] [(.int (1 : Int32))])) (fun t k => XS.iconst X0.here hx rfl (hb hby d7_41) k) ?_
      refine OEnds.go (g' := (mkF m 46 #[.val (.ref ar), .val (.long xx), .second] [(.int (1 : Int32))])) (fun t k => XS.goto X0.here hx rfl (pc0 := 42) (pc' := 46) rfl (hb hby d7_42) (by decide) (by decide) k) ?_
      exact OEnds.outN X0 Bd.notSynchronized hx (t := .boolean) Bd.returns (by simp) (hb hby d7_46) ⟨by show (some (.int (1 : Int32)) : Option Value) = some (.int (fH2 xx u0 u1)); rw [fH2, if_neg c10_3, if_pos c24_6], N0, e0⟩ (by decide) (by decide)
    · -- no
      refine OEnds.go (g' := (mkF m 27 #[.val (.ref ar), .val (.long xx), .second] [])) (fun t k => XS.ifNo X0.here hx rfl (hb hby d7_24) rfl ((if0 _ _).trans (feq (fun q => c24_6 ((lw_eq _ _).mp q))).1) k) ?_
      refine OEnds.go (g' := (mkF m 28 #[.val (.ref ar), .val (.long xx), .second] [(.ref ar)])) (fun t k => XS.aloadN X0.here hx rfl (hb hby d7_27) rfl rfl k) ?_
      obtain ⟨cl7, Ar7, qa7, Sa7, Na7, Ha7, Ga7⟩ := @id _ V0
      refine OEnds.go (g' := (mkF m 29 #[.val (.ref ar), .val (.long xx), .second] [(.int (2 : Int32))])) (fun t k => X0.arraylength hx (by rw [e0]; exact Ar7.1) (State.isArrayOf_alike hZ.alike Ar7.2.1) (g := (mkF m 28 #[.val (.ref ar), .val (.long xx), .second] [(.ref ar)])) rfl rfl (hb hby d7_28) t (by rw [len_of Sa7 Na7]; exact k)) ?_
      refine OEnds.go (g' := (mkF m 30 #[.val (.ref ar), .val (.long xx), .second] [(.int (2 : Int32)), (.int (2 : Int32))])) (fun t k => XS.iconst X0.here hx rfl (hb hby d7_29) k) ?_
      refine OEnds.go (g' := (mkF m 45 #[.val (.ref ar), .val (.long xx), .second] [])) (fun t k => XS.icmpYes X0.here hx rfl (pc0 := 30) (pc' := 45) rfl (hb hby d7_30) rfl (flt (by decide : ¬ ((2 : Int32) < (2 : Int32)))).2.2.2 (by decide) (by decide) k) ?_
      refine OEnds.go (g' := (mkF m 46 #[.val (.ref ar), .val (.long xx), .second] [(.int (0 : Int32))])) (fun t k => XS.iconst X0.here hx rfl (hb hby d7_45) k) ?_
      exact OEnds.outN X0 Bd.notSynchronized hx (t := .boolean) Bd.returns (by simp) (hb hby d7_46) ⟨by show (some (.int (0 : Int32)) : Option Value) = some (.int (fH2 xx u0 u1)); rw [fH2, if_neg c10_3, if_neg c24_6], N0, e0⟩ (by decide) (by decide)
theorem own_has2 (xx u0 u1 : Int64) (h : xx ∈ [u0, u1]) : ¬ fH2 xx u0 u1 = 0 := by
  simp only [List.mem_cons, List.not_mem_nil, or_false] at h
  rcases h with h | h <;> simp +decide [fH2, h]
theorem ef_rmH3 (m : MethodId) (x0 : Addr) (x1 : Int64) : entryFrame m #[(.ref x0), (.long x1)] 3 = mkF m 0 #[.val (.ref x0), .val (.long x1), .second] [] := by first | (simp [entryFrame, mkF, argsToLocals, Value.category]; done) | rfl
def fH3 (xx : Int64) (u0 : Int64) (u1 : Int64) (u2 : Int64) : Int32 := if u0 = xx then (1 : Int32) else if u1 = xx then (1 : Int32) else if u2 = xx then (1 : Int32) else (0 : Int32)
def Q_rmH3 (Z : State) (ar : Addr) (xx : Int64) (kr : ClassId) (u0 : Int64) (u1 : Int64) (u2 : Int64) (h0 : Heap) (n0 : Nat) (v : Option Value) (h : Heap) (L : List Loc) : Prop := v = some (.int (fH3 xx u0 u1 u2)) ∧ Fr n0 L ∧ h = h0
set_option maxRecDepth 65536 in
set_option maxHeartbeats 40000000 in
theorem rmH3 (l : Launch) (Z : State) (a0 : Array Value) (hw : ∀ d ∈ tables_1, d.before a0 Z = true) (ws : List Jvm.Cond) (ar : Addr) (xx : Int64) (kr : ClassId) (u0 : Int64) (u1 : Int64) (u2 : Int64) (h0 : Heap) (n0 : Nat) (Z0 : n0 ≤ h0.size) (V0 : Arv Z h0 ar kr .long (3 : Int32) [(.long u0), (.long u1), (.long u2)] (.long (0 : Int64))) :
    MetFree l (⟨"com/example/slimheap/slimheap/hprof/IdMapIdsPinLaw", "has", "([JJ)Z"⟩ : MethodName) (head1 (Jvm.Cond.code (⟨"com/example/slimheap/slimheap/hprof/IdMapIdsPinLaw", "has", "([JJ)Z"⟩ : MethodName) method_3_code 3 (some .boolean) :: ws) ({ frames := 0, cells := 0, slots := 0, locals := 0 } : Room)) (fun aa_ U => aa_ = #[(.ref ar), (.long xx)] ∧ Z.Warmed39 U.vm ∧ U.heap = h0) (fun _ _ _ _ _ => True) (fun _ U o U' => ∃ v L, o = .returned v ∧ Q_rmH3 Z ar xx kr u0 u1 u2 h0 n0 v U'.heap L ∧ FrameEnd U o U' L ({ frames := 0, cells := 0, slots := 0, locals := 0 } : Room).cells ({ frames := 0, cells := 0, slots := 0, locals := 0 } : Room).slots) := by
  refine MetFree.of_bodySF (plainFor_of_name pn_2) hisR ?_
  intro p e s m args below meth c s₁ Bd hml0 hP hK
  obtain ⟨rfl, hZ, hh⟩ := hP
  have hx := Bd.exec
  have hby := Bd.bytes
  have hml : c.maxLocals = 3 := hml0
  have hown : s.vm.findClass "com/example/slimheap/slimheap/hprof/IdMapIdsPinLaw" = some m.cls := findClass_of_methodNamed Bd.named
  have hnm := (name_of_methodNamed Bd.named Bd.method).1
  have X0 : Stand p l e ({ frames := 0, cells := 0, slots := 0, locals := 0 } : Room) s m #[(.ref ar), (.long xx)] below meth c s₁ [] 0 0 := Stand.of_body Bd
  have e0 : s₁.heap = h0 := by rw [← hh, Bd.state]; rfl
  have N0 := Fr.nil n0
  show OEnds p e below (OEndP s (Q_rmH3 Z ar xx kr u0 u1 u2 h0 n0) ({ frames := 0, cells := 0, slots := 0, locals := 0 } : Room).cells ({ frames := 0, cells := 0, slots := 0, locals := 0 } : Room).slots) s₁ (entryFrame m #[(.ref ar), (.long xx)] 3)
  rw [ef_rmH3 m ar xx]
  refine OEnds.go (g' := (mkF m 1 #[.val (.ref ar), .val (.long xx), .second] [(.ref ar)])) (fun t k => XS.aloadN X0.here hx rfl (hb hby d7_0) rfl rfl k) ?_
  obtain ⟨cl1, Ar1, qa1, Sa1, Na1, Ha1, Ga1⟩ := @id _ V0
  refine OEnds.go (g' := (mkF m 2 #[.val (.ref ar), .val (.long xx), .second] [(.int (3 : Int32))])) (fun t k => X0.arraylength hx (by rw [e0]; exact Ar1.1) (State.isArrayOf_alike hZ.alike Ar1.2.1) (g := (mkF m 1 #[.val (.ref ar), .val (.long xx), .second] [(.ref ar)])) rfl rfl (hb hby d7_1) t (by rw [len_of Sa1 Na1]; exact k)) ?_
  refine OEnds.go (g' := (mkF m 5 #[.val (.ref ar), .val (.long xx), .second] [])) (fun t k => XS.ifNo X0.here hx rfl (hb hby d7_2) rfl ((if0 _ _).trans (tlt (by decide : ((0 : Int32) < (3 : Int32)))).2.2.2) k) ?_
  refine OEnds.go (g' := (mkF m 6 #[.val (.ref ar), .val (.long xx), .second] [(.ref ar)])) (fun t k => XS.aloadN X0.here hx rfl (hb hby d7_5) rfl rfl k) ?_
  refine OEnds.go (g' := (mkF m 7 #[.val (.ref ar), .val (.long xx), .second] [(.int (0 : Int32)), (.ref ar)])) (fun t k => XS.iconst X0.here hx rfl (hb hby d7_6) k) ?_
  obtain ⟨cl2, Ar2, qa2, Sa2, Na2, Ha2, Ga2⟩ := @id _ V0
  have hin2 : ¬ ((0 : Int32) < 0 ∨ cl2.slots.size ≤ ((0 : Int32)).toNatClampNeg) := inb_of Sa2 ⟨by decide, by decide⟩
  have hat2 : cl2.slots[((0 : Int32)).toNatClampNeg]? = some (.long u0) := Has.at Ha2 hin2 rfl
  refine OEnds.go (g' := (mkF m 8 #[.val (.ref ar), .val (.long xx), .second] [(.long u0)])) (X0.laload hx (j := (0 : Int32)) (v := (.long u0)) (by rw [e0]; exact Ar2.1) (State.isArrayOf_alike hZ.alike Ar2.2.1) Ar2.2.2 hin2 hat2 (g := (mkF m 7 #[.val (.ref ar), .val (.long xx), .second] [(.int (0 : Int32)), (.ref ar)])) rfl rfl (hb hby d7_7)) ?_
  refine OEnds.go (g' := (mkF m 9 #[.val (.ref ar), .val (.long xx), .second] [(.long xx), (.long u0)])) (fun t k => XS.lloadN X0.here hx rfl (hb hby d7_8) rfl k) ?_
  refine OEnds.go (g' := (mkF m 10 #[.val (.ref ar), .val (.long xx), .second] [(.int (lcmpW u0 xx))])) (fun t k => XS.lcmp X0.here hx rfl (hb hby d7_9) rfl k) ?_
  by_cases c10_3 : u0 = xx
  · -- yes
    refine OEnds.go (g' := (mkF m 41 #[.val (.ref ar), .val (.long xx), .second] [])) (fun t k => XS.ifYes X0.here hx rfl (pc0 := 10) (pc' := 41) rfl (hb hby d7_10) rfl ((if0 _ _).trans (teq ((lw_eq _ _).mpr c10_3)).1) (by decide) (by decide) k) ?_
    refine OEnds.go (g' := (mkF m 42 #[.val (.ref ar), .val (.long xx), .second] [(.int (1 : Int32))])) (fun t k => XS.iconst X0.here hx rfl (hb hby d7_41) k) ?_
    refine OEnds.go (g' := (mkF m 46 #[.val (.ref ar), .val (.long xx), .second] [(.int (1 : Int32))])) (fun t k => XS.goto X0.here hx rfl (pc0 := 42) (pc' := 46) rfl (hb hby d7_42) (by decide) (by decide) k) ?_
    exact OEnds.outN X0 Bd.notSynchronized hx (t := .boolean) Bd.returns (by simp) (hb hby d7_46) ⟨by show (some (.int (1 : Int32)) : Option Value) = some (.int (fH3 xx u0 u1 u2)); rw [fH3, if_pos c10_3], N0, e0⟩ (by decide) (by decide)
  · -- no
    refine OEnds.go (g' := (mkF m 13 #[.val (.ref ar), .val (.long xx), .second] [])) (fun t k => XS.ifNo X0.here hx rfl (hb hby d7_10) rfl ((if0 _ _).trans (feq (fun q => c10_3 ((lw_eq _ _).mp q))).1) k) ?_
    refine OEnds.go (g' := (mkF m 14 #[.val (.ref ar), .val (.long xx), .second] [(.ref ar)])) (fun t k => XS.aloadN X0.here hx rfl (hb hby d7_13) rfl rfl k) ?_
    obtain ⟨cl4, Ar4, qa4, Sa4, Na4, Ha4, Ga4⟩ := @id _ V0
    refine OEnds.go (g' := (mkF m 15 #[.val (.ref ar), .val (.long xx), .second] [(.int (3 : Int32))])) (fun t k => X0.arraylength hx (by rw [e0]; exact Ar4.1) (State.isArrayOf_alike hZ.alike Ar4.2.1) (g := (mkF m 14 #[.val (.ref ar), .val (.long xx), .second] [(.ref ar)])) rfl rfl (hb hby d7_14) t (by rw [len_of Sa4 Na4]; exact k)) ?_
    refine OEnds.go (g' := (mkF m 16 #[.val (.ref ar), .val (.long xx), .second] [(.int (1 : Int32)), (.int (3 : Int32))])) (fun t k => XS.iconst X0.here hx rfl (hb hby d7_15) k) ?_
    refine OEnds.go (g' := (mkF m 19 #[.val (.ref ar), .val (.long xx), .second] [])) (fun t k => XS.icmpNo X0.here hx rfl (hb hby d7_16) rfl (tlt (by decide : ((1 : Int32) < (3 : Int32)))).2.2.2 k) ?_
    refine OEnds.go (g' := (mkF m 20 #[.val (.ref ar), .val (.long xx), .second] [(.ref ar)])) (fun t k => XS.aloadN X0.here hx rfl (hb hby d7_19) rfl rfl k) ?_
    refine OEnds.go (g' := (mkF m 21 #[.val (.ref ar), .val (.long xx), .second] [(.int (1 : Int32)), (.ref ar)])) (fun t k => XS.iconst X0.here hx rfl (hb hby d7_20) k) ?_
    obtain ⟨cl5, Ar5, qa5, Sa5, Na5, Ha5, Ga5⟩ := @id _ V0
    have hin5 : ¬ ((1 : Int32) < 0 ∨ cl5.slots.size ≤ ((1 : Int32)).toNatClampNeg) := inb_of Sa5 ⟨by decide, by decide⟩
    have hat5 : cl5.slots[((1 : Int32)).toNatClampNeg]? = some (.long u1) := Has.at Ha5 hin5 rfl
    refine OEnds.go (g' := (mkF m 22 #[.val (.ref ar), .val (.long xx), .second] [(.long u1)])) (X0.laload hx (j := (1 : Int32)) (v := (.long u1)) (by rw [e0]; exact Ar5.1) (State.isArrayOf_alike hZ.alike Ar5.2.1) Ar5.2.2 hin5 hat5 (g := (mkF m 21 #[.val (.ref ar), .val (.long xx), .second] [(.int (1 : Int32)), (.ref ar)])) rfl rfl (hb hby d7_21)) ?_
    refine OEnds.go (g' := (mkF m 23 #[.val (.ref ar), .val (.long xx), .second] [(.long xx), (.long u1)])) (fun t k => XS.lloadN X0.here hx rfl (hb hby d7_22) rfl k) ?_
    refine OEnds.go (g' := (mkF m 24 #[.val (.ref ar), .val (.long xx), .second] [(.int (lcmpW u1 xx))])) (fun t k => XS.lcmp X0.here hx rfl (hb hby d7_23) rfl k) ?_
    by_cases c24_6 : u1 = xx
    · -- yes
      refine OEnds.go (g' := (mkF m 41 #[.val (.ref ar), .val (.long xx), .second] [])) (fun t k => XS.ifYes X0.here hx rfl (pc0 := 24) (pc' := 41) rfl (hb hby d7_24) rfl ((if0 _ _).trans (teq ((lw_eq _ _).mpr c24_6)).1) (by decide) (by decide) k) ?_
      refine OEnds.go (g' := (mkF m 42 #[.val (.ref ar), .val (.long xx), .second] [(.int (1 : Int32))])) (fun t k => XS.iconst X0.here hx rfl (hb hby d7_41) k) ?_
      refine OEnds.go (g' := (mkF m 46 #[.val (.ref ar), .val (.long xx), .second] [(.int (1 : Int32))])) (fun t k => XS.goto X0.here hx rfl (pc0 := 42) (pc' := 46) rfl (hb hby d7_42) (by decide) (by decide) k) ?_
      exact OEnds.outN X0 Bd.notSynchronized hx (t := .boolean) Bd.returns (by simp) (hb hby d7_46) ⟨by show (some (.int (1 : Int32)) : Option Value) = some (.int (fH3 xx u0 u1 u2)); rw [fH3, if_neg c10_3, if_pos c24_6], N0, e0⟩ (by decide) (by decide)
    · -- no
      refine OEnds.go (g' := (mkF m 27 #[.val (.ref ar), .val (.long xx), .second] [])) (fun t k => XS.ifNo X0.here hx rfl (hb hby d7_24) rfl ((if0 _ _).trans (feq (fun q => c24_6 ((lw_eq _ _).mp q))).1) k) ?_
      refine OEnds.go (g' := (mkF m 28 #[.val (.ref ar), .val (.long xx), .second] [(.ref ar)])) (fun t k => XS.aloadN X0.here hx rfl (hb hby d7_27) rfl rfl k) ?_
      obtain ⟨cl7, Ar7, qa7, Sa7, Na7, Ha7, Ga7⟩ := @id _ V0
      refine OEnds.go (g' := (mkF m 29 #[.val (.ref ar), .val (.long xx), .second] [(.int (3 : Int32))])) (fun t k => X0.arraylength hx (by rw [e0]; exact Ar7.1) (State.isArrayOf_alike hZ.alike Ar7.2.1) (g := (mkF m 28 #[.val (.ref ar), .val (.long xx), .second] [(.ref ar)])) rfl rfl (hb hby d7_28) t (by rw [len_of Sa7 Na7]; exact k)) ?_
      refine OEnds.go (g' := (mkF m 30 #[.val (.ref ar), .val (.long xx), .second] [(.int (2 : Int32)), (.int (3 : Int32))])) (fun t k => XS.iconst X0.here hx rfl (hb hby d7_29) k) ?_
      refine OEnds.go (g' := (mkF m 33 #[.val (.ref ar), .val (.long xx), .second] [])) (fun t k => XS.icmpNo X0.here hx rfl (hb hby d7_30) rfl (tlt (by decide : ((2 : Int32) < (3 : Int32)))).2.2.2 k) ?_
      refine OEnds.go (g' := (mkF m 34 #[.val (.ref ar), .val (.long xx), .second] [(.ref ar)])) (fun t k => XS.aloadN X0.here hx rfl (hb hby d7_33) rfl rfl k) ?_
      refine OEnds.go (g' := (mkF m 35 #[.val (.ref ar), .val (.long xx), .second] [(.int (2 : Int32)), (.ref ar)])) (fun t k => XS.iconst X0.here hx rfl (hb hby d7_34) k) ?_
      obtain ⟨cl8, Ar8, qa8, Sa8, Na8, Ha8, Ga8⟩ := @id _ V0
      have hin8 : ¬ ((2 : Int32) < 0 ∨ cl8.slots.size ≤ ((2 : Int32)).toNatClampNeg) := inb_of Sa8 ⟨by decide, by decide⟩
      have hat8 : cl8.slots[((2 : Int32)).toNatClampNeg]? = some (.long u2) := Has.at Ha8 hin8 rfl
      refine OEnds.go (g' := (mkF m 36 #[.val (.ref ar), .val (.long xx), .second] [(.long u2)])) (X0.laload hx (j := (2 : Int32)) (v := (.long u2)) (by rw [e0]; exact Ar8.1) (State.isArrayOf_alike hZ.alike Ar8.2.1) Ar8.2.2 hin8 hat8 (g := (mkF m 35 #[.val (.ref ar), .val (.long xx), .second] [(.int (2 : Int32)), (.ref ar)])) rfl rfl (hb hby d7_35)) ?_
      refine OEnds.go (g' := (mkF m 37 #[.val (.ref ar), .val (.long xx), .second] [(.long xx), (.long u2)])) (fun t k => XS.lloadN X0.here hx rfl (hb hby d7_36) rfl k) ?_
      refine OEnds.go (g' := (mkF m 38 #[.val (.ref ar), .val (.long xx), .second] [(.int (lcmpW u2 xx))])) (fun t k => XS.lcmp X0.here hx rfl (hb hby d7_37) rfl k) ?_
      by_cases c38_9 : u2 = xx
      · -- yes
        refine OEnds.go (g' := (mkF m 41 #[.val (.ref ar), .val (.long xx), .second] [])) (fun t k => XS.ifNo X0.here hx rfl (hb hby d7_38) rfl ((if0 _ _).trans (teq ((lw_eq _ _).mpr c38_9)).2) k) ?_
        refine OEnds.go (g' := (mkF m 42 #[.val (.ref ar), .val (.long xx), .second] [(.int (1 : Int32))])) (fun t k => XS.iconst X0.here hx rfl (hb hby d7_41) k) ?_
        refine OEnds.go (g' := (mkF m 46 #[.val (.ref ar), .val (.long xx), .second] [(.int (1 : Int32))])) (fun t k => XS.goto X0.here hx rfl (pc0 := 42) (pc' := 46) rfl (hb hby d7_42) (by decide) (by decide) k) ?_
        exact OEnds.outN X0 Bd.notSynchronized hx (t := .boolean) Bd.returns (by simp) (hb hby d7_46) ⟨by show (some (.int (1 : Int32)) : Option Value) = some (.int (fH3 xx u0 u1 u2)); rw [fH3, if_neg c10_3, if_neg c24_6, if_pos c38_9], N0, e0⟩ (by decide) (by decide)
      · -- no
        refine OEnds.go (g' := (mkF m 45 #[.val (.ref ar), .val (.long xx), .second] [])) (fun t k => XS.ifYes X0.here hx rfl (pc0 := 38) (pc' := 45) rfl (hb hby d7_38) rfl ((if0 _ _).trans (feq (fun q => c38_9 ((lw_eq _ _).mp q))).2) (by decide) (by decide) k) ?_
        refine OEnds.go (g' := (mkF m 46 #[.val (.ref ar), .val (.long xx), .second] [(.int (0 : Int32))])) (fun t k => XS.iconst X0.here hx rfl (hb hby d7_45) k) ?_
        exact OEnds.outN X0 Bd.notSynchronized hx (t := .boolean) Bd.returns (by simp) (hb hby d7_46) ⟨by show (some (.int (0 : Int32)) : Option Value) = some (.int (fH3 xx u0 u1 u2)); rw [fH3, if_neg c10_3, if_neg c24_6, if_neg c38_9], N0, e0⟩ (by decide) (by decide)
theorem own_has3 (xx u0 u1 u2 : Int64) (h : xx ∈ [u0, u1, u2]) : ¬ fH3 xx u0 u1 u2 = 0 := by
  simp only [List.mem_cons, List.not_mem_nil, or_false] at h
  rcases h with h | h | h <;> simp +decide [fH3, h]
theorem ef_rm8 (m : MethodId) (x0 : Int64) (x1 : Int32) (x2 : Int64) (x3 : Int64) (x4 : Int64) : entryFrame m #[(.long x0), (.int x1), (.long x2), (.long x3), (.long x4)] 9 = mkF m 0 #[.val (.long x0), .second, .val (.int x1), .val (.long x2), .second, .val (.long x3), .second, .val (.long x4), .second] [] := by first | (simp [entryFrame, mkF, argsToLocals, Value.category]; done) | rfl
def f8 (q0 : Int64) (p1 : Int32) (q2 : Int64) (q3 : Int64) (q4 : Int64) : Int32 := if p1 < (1 : Int32) then if p1 < (2 : Int32) then if p1 < (3 : Int32) then (0 : Int32) else if q0 = q4 then (1 : Int32) else (0 : Int32) else if q0 = q3 then (1 : Int32) else if p1 < (3 : Int32) then (0 : Int32) else if q0 = q4 then (1 : Int32) else (0 : Int32) else if q0 = q2 then (1 : Int32) else if p1 < (2 : Int32) then if p1 < (3 : Int32) then (0 : Int32) else if q0 = q4 then (1 : Int32) else (0 : Int32) else if q0 = q3 then (1 : Int32) else if p1 < (3 : Int32) then (0 : Int32) else if q0 = q4 then (1 : Int32) else (0 : Int32)
def Q_rm8 (Z : State) (q0 : Int64) (p1 : Int32) (q2 : Int64) (q3 : Int64) (q4 : Int64) (h0 : Heap) (n0 : Nat) (v : Option Value) (h : Heap) (L : List Loc) : Prop := v = some (.int (f8 q0 p1 q2 q3 q4)) ∧ Fr n0 L ∧ h = h0
set_option maxRecDepth 65536 in
set_option maxHeartbeats 40000000 in
theorem rm8 (l : Launch) (Z : State) (a0 : Array Value) (hw : ∀ d ∈ tables_1, d.before a0 Z = true) (ws : List Jvm.Cond) (q0 : Int64) (p1 : Int32) (q2 : Int64) (q3 : Int64) (q4 : Int64) (h0 : Heap) (n0 : Nat) (Z0 : n0 ≤ h0.size) :
    MetFree l (⟨"com/example/slimheap/slimheap/hprof/IdMapIdsPinLaw", "inSet", "(JIJJJ)Z"⟩ : MethodName) (head1 (Jvm.Cond.code (⟨"com/example/slimheap/slimheap/hprof/IdMapIdsPinLaw", "inSet", "(JIJJJ)Z"⟩ : MethodName) method_4_code 9 (some .boolean) :: ws) ({ frames := 0, cells := 0, slots := 0, locals := 0 } : Room)) (fun aa_ U => aa_ = #[(.long q0), (.int p1), (.long q2), (.long q3), (.long q4)] ∧ Z.Warmed39 U.vm ∧ U.heap = h0) (fun _ _ _ _ _ => True) (fun _ U o U' => ∃ v L, o = .returned v ∧ Q_rm8 Z q0 p1 q2 q3 q4 h0 n0 v U'.heap L ∧ FrameEnd U o U' L ({ frames := 0, cells := 0, slots := 0, locals := 0 } : Room).cells ({ frames := 0, cells := 0, slots := 0, locals := 0 } : Room).slots) := by
  refine MetFree.of_bodySF (plainFor_of_name pn_2) hisR ?_
  intro p e s m args below meth c s₁ Bd hml0 hP hK
  obtain ⟨rfl, hZ, hh⟩ := hP
  have hx := Bd.exec
  have hby := Bd.bytes
  have hml : c.maxLocals = 9 := hml0
  have hown : s.vm.findClass "com/example/slimheap/slimheap/hprof/IdMapIdsPinLaw" = some m.cls := findClass_of_methodNamed Bd.named
  have hnm := (name_of_methodNamed Bd.named Bd.method).1
  have X0 : Stand p l e ({ frames := 0, cells := 0, slots := 0, locals := 0 } : Room) s m #[(.long q0), (.int p1), (.long q2), (.long q3), (.long q4)] below meth c s₁ [] 0 0 := Stand.of_body Bd
  have e0 : s₁.heap = h0 := by rw [← hh, Bd.state]; rfl
  have N0 := Fr.nil n0
  show OEnds p e below (OEndP s (Q_rm8 Z q0 p1 q2 q3 q4 h0 n0) ({ frames := 0, cells := 0, slots := 0, locals := 0 } : Room).cells ({ frames := 0, cells := 0, slots := 0, locals := 0 } : Room).slots) s₁ (entryFrame m #[(.long q0), (.int p1), (.long q2), (.long q3), (.long q4)] 9)
  rw [ef_rm8 m q0 p1 q2 q3 q4]
  refine OEnds.go (g' := (mkF m 1 #[.val (.long q0), .second, .val (.int p1), .val (.long q2), .second, .val (.long q3), .second, .val (.long q4), .second] [(.int p1)])) (fun t k => XS.iloadN X0.here hx rfl (hb hby d8_0) rfl k) ?_
  refine OEnds.go (g' := (mkF m 2 #[.val (.long q0), .second, .val (.int p1), .val (.long q2), .second, .val (.long q3), .second, .val (.long q4), .second] [(.int (1 : Int32)), (.int p1)])) (fun t k => XS.iconst X0.here hx rfl (hb hby d8_1) k) ?_
  by_cases c2_1 : p1 < (1 : Int32)
  · -- yes
    refine OEnds.go (g' := (mkF m 11 #[.val (.long q0), .second, .val (.int p1), .val (.long q2), .second, .val (.long q3), .second, .val (.long q4), .second] [])) (fun t k => XS.icmpYes X0.here hx rfl (pc0 := 2) (pc' := 11) rfl (hb hby d8_2) rfl (tlt c2_1).1 (by decide) (by decide) k) ?_
    refine OEnds.go (g' := (mkF m 12 #[.val (.long q0), .second, .val (.int p1), .val (.long q2), .second, .val (.long q3), .second, .val (.long q4), .second] [(.int p1)])) (fun t k => XS.iloadN X0.here hx rfl (hb hby d8_11) rfl k) ?_
    refine OEnds.go (g' := (mkF m 13 #[.val (.long q0), .second, .val (.int p1), .val (.long q2), .second, .val (.long q3), .second, .val (.long q4), .second] [(.int (2 : Int32)), (.int p1)])) (fun t k => XS.iconst X0.here hx rfl (hb hby d8_12) k) ?_
    by_cases c13_2 : p1 < (2 : Int32)
    · -- yes
      refine OEnds.go (g' := (mkF m 23 #[.val (.long q0), .second, .val (.int p1), .val (.long q2), .second, .val (.long q3), .second, .val (.long q4), .second] [])) (fun t k => XS.icmpYes X0.here hx rfl (pc0 := 13) (pc' := 23) rfl (hb hby d8_13) rfl (tlt c13_2).1 (by decide) (by decide) k) ?_
      refine OEnds.go (g' := (mkF m 24 #[.val (.long q0), .second, .val (.int p1), .val (.long q2), .second, .val (.long q3), .second, .val (.long q4), .second] [(.int p1)])) (fun t k => XS.iloadN X0.here hx rfl (hb hby d8_23) rfl k) ?_
      refine OEnds.go (g' := (mkF m 25 #[.val (.long q0), .second, .val (.int p1), .val (.long q2), .second, .val (.long q3), .second, .val (.long q4), .second] [(.int (3 : Int32)), (.int p1)])) (fun t k => XS.iconst X0.here hx rfl (hb hby d8_24) k) ?_
      by_cases c25_3 : p1 < (3 : Int32)
      · -- yes
        refine OEnds.go (g' := (mkF m 39 #[.val (.long q0), .second, .val (.int p1), .val (.long q2), .second, .val (.long q3), .second, .val (.long q4), .second] [])) (fun t k => XS.icmpYes X0.here hx rfl (pc0 := 25) (pc' := 39) rfl (hb hby d8_25) rfl (tlt c25_3).1 (by decide) (by decide) k) ?_
        refine OEnds.go (g' := (mkF m 40 #[.val (.long q0), .second, .val (.int p1), .val (.long q2), .second, .val (.long q3), .second, .val (.long q4), .second] [(.int (0 : Int32))])) (fun t k => XS.iconst X0.here hx rfl (hb hby d8_39) k) ?_
        exact OEnds.outN X0 Bd.notSynchronized hx (t := .boolean) Bd.returns (by simp) (hb hby d8_40) ⟨by show (some (.int (0 : Int32)) : Option Value) = some (.int (f8 q0 p1 q2 q3 q4)); rw [f8, if_pos c2_1, if_pos c13_2, if_pos c25_3], N0, e0⟩ (by decide) (by decide)
      · -- no
        refine OEnds.go (g' := (mkF m 28 #[.val (.long q0), .second, .val (.int p1), .val (.long q2), .second, .val (.long q3), .second, .val (.long q4), .second] [])) (fun t k => XS.icmpNo X0.here hx rfl (hb hby d8_25) rfl (flt c25_3).1 k) ?_
        refine OEnds.go (g' := (mkF m 29 #[.val (.long q0), .second, .val (.int p1), .val (.long q2), .second, .val (.long q3), .second, .val (.long q4), .second] [(.long q0)])) (fun t k => XS.lloadN X0.here hx rfl (hb hby d8_28) rfl k) ?_
        refine OEnds.go (g' := (mkF m 31 #[.val (.long q0), .second, .val (.int p1), .val (.long q2), .second, .val (.long q3), .second, .val (.long q4), .second] [(.long q4), (.long q0)])) (fun t k => XS.lload X0.here hx rfl (hb hby d8_29) rfl k) ?_
        refine OEnds.go (g' := (mkF m 32 #[.val (.long q0), .second, .val (.int p1), .val (.long q2), .second, .val (.long q3), .second, .val (.long q4), .second] [(.int (lcmpW q0 q4))])) (fun t k => XS.lcmp X0.here hx rfl (hb hby d8_31) rfl k) ?_
        by_cases c32_4 : q0 = q4
        · -- yes
          refine OEnds.go (g' := (mkF m 35 #[.val (.long q0), .second, .val (.int p1), .val (.long q2), .second, .val (.long q3), .second, .val (.long q4), .second] [])) (fun t k => XS.ifNo X0.here hx rfl (hb hby d8_32) rfl ((if0 _ _).trans (teq ((lw_eq _ _).mpr c32_4)).2) k) ?_
          refine OEnds.go (g' := (mkF m 36 #[.val (.long q0), .second, .val (.int p1), .val (.long q2), .second, .val (.long q3), .second, .val (.long q4), .second] [(.int (1 : Int32))])) (fun t k => XS.iconst X0.here hx rfl (hb hby d8_35) k) ?_
          refine OEnds.go (g' := (mkF m 40 #[.val (.long q0), .second, .val (.int p1), .val (.long q2), .second, .val (.long q3), .second, .val (.long q4), .second] [(.int (1 : Int32))])) (fun t k => XS.goto X0.here hx rfl (pc0 := 36) (pc' := 40) rfl (hb hby d8_36) (by decide) (by decide) k) ?_
          exact OEnds.outN X0 Bd.notSynchronized hx (t := .boolean) Bd.returns (by simp) (hb hby d8_40) ⟨by show (some (.int (1 : Int32)) : Option Value) = some (.int (f8 q0 p1 q2 q3 q4)); rw [f8, if_pos c2_1, if_pos c13_2, if_neg c25_3, if_pos c32_4], N0, e0⟩ (by decide) (by decide)
        · -- no
          refine OEnds.go (g' := (mkF m 39 #[.val (.long q0), .second, .val (.int p1), .val (.long q2), .second, .val (.long q3), .second, .val (.long q4), .second] [])) (fun t k => XS.ifYes X0.here hx rfl (pc0 := 32) (pc' := 39) rfl (hb hby d8_32) rfl ((if0 _ _).trans (feq (fun q => c32_4 ((lw_eq _ _).mp q))).2) (by decide) (by decide) k) ?_
          refine OEnds.go (g' := (mkF m 40 #[.val (.long q0), .second, .val (.int p1), .val (.long q2), .second, .val (.long q3), .second, .val (.long q4), .second] [(.int (0 : Int32))])) (fun t k => XS.iconst X0.here hx rfl (hb hby d8_39) k) ?_
          exact OEnds.outN X0 Bd.notSynchronized hx (t := .boolean) Bd.returns (by simp) (hb hby d8_40) ⟨by show (some (.int (0 : Int32)) : Option Value) = some (.int (f8 q0 p1 q2 q3 q4)); rw [f8, if_pos c2_1, if_pos c13_2, if_neg c25_3, if_neg c32_4], N0, e0⟩ (by decide) (by decide)
    · -- no
      refine OEnds.go (g' := (mkF m 16 #[.val (.long q0), .second, .val (.int p1), .val (.long q2), .second, .val (.long q3), .second, .val (.long q4), .second] [])) (fun t k => XS.icmpNo X0.here hx rfl (hb hby d8_13) rfl (flt c13_2).1 k) ?_
      refine OEnds.go (g' := (mkF m 17 #[.val (.long q0), .second, .val (.int p1), .val (.long q2), .second, .val (.long q3), .second, .val (.long q4), .second] [(.long q0)])) (fun t k => XS.lloadN X0.here hx rfl (hb hby d8_16) rfl k) ?_
      refine OEnds.go (g' := (mkF m 19 #[.val (.long q0), .second, .val (.int p1), .val (.long q2), .second, .val (.long q3), .second, .val (.long q4), .second] [(.long q3), (.long q0)])) (fun t k => XS.lload X0.here hx rfl (hb hby d8_17) rfl k) ?_
      refine OEnds.go (g' := (mkF m 20 #[.val (.long q0), .second, .val (.int p1), .val (.long q2), .second, .val (.long q3), .second, .val (.long q4), .second] [(.int (lcmpW q0 q3))])) (fun t k => XS.lcmp X0.here hx rfl (hb hby d8_19) rfl k) ?_
      by_cases c20_5 : q0 = q3
      · -- yes
        refine OEnds.go (g' := (mkF m 35 #[.val (.long q0), .second, .val (.int p1), .val (.long q2), .second, .val (.long q3), .second, .val (.long q4), .second] [])) (fun t k => XS.ifYes X0.here hx rfl (pc0 := 20) (pc' := 35) rfl (hb hby d8_20) rfl ((if0 _ _).trans (teq ((lw_eq _ _).mpr c20_5)).1) (by decide) (by decide) k) ?_
        refine OEnds.go (g' := (mkF m 36 #[.val (.long q0), .second, .val (.int p1), .val (.long q2), .second, .val (.long q3), .second, .val (.long q4), .second] [(.int (1 : Int32))])) (fun t k => XS.iconst X0.here hx rfl (hb hby d8_35) k) ?_
        refine OEnds.go (g' := (mkF m 40 #[.val (.long q0), .second, .val (.int p1), .val (.long q2), .second, .val (.long q3), .second, .val (.long q4), .second] [(.int (1 : Int32))])) (fun t k => XS.goto X0.here hx rfl (pc0 := 36) (pc' := 40) rfl (hb hby d8_36) (by decide) (by decide) k) ?_
        exact OEnds.outN X0 Bd.notSynchronized hx (t := .boolean) Bd.returns (by simp) (hb hby d8_40) ⟨by show (some (.int (1 : Int32)) : Option Value) = some (.int (f8 q0 p1 q2 q3 q4)); rw [f8, if_pos c2_1, if_neg c13_2, if_pos c20_5], N0, e0⟩ (by decide) (by decide)
      · -- no
        refine OEnds.go (g' := (mkF m 23 #[.val (.long q0), .second, .val (.int p1), .val (.long q2), .second, .val (.long q3), .second, .val (.long q4), .second] [])) (fun t k => XS.ifNo X0.here hx rfl (hb hby d8_20) rfl ((if0 _ _).trans (feq (fun q => c20_5 ((lw_eq _ _).mp q))).1) k) ?_
        refine OEnds.go (g' := (mkF m 24 #[.val (.long q0), .second, .val (.int p1), .val (.long q2), .second, .val (.long q3), .second, .val (.long q4), .second] [(.int p1)])) (fun t k => XS.iloadN X0.here hx rfl (hb hby d8_23) rfl k) ?_
        refine OEnds.go (g' := (mkF m 25 #[.val (.long q0), .second, .val (.int p1), .val (.long q2), .second, .val (.long q3), .second, .val (.long q4), .second] [(.int (3 : Int32)), (.int p1)])) (fun t k => XS.iconst X0.here hx rfl (hb hby d8_24) k) ?_
        by_cases c25_6 : p1 < (3 : Int32)
        · -- yes
          refine OEnds.go (g' := (mkF m 39 #[.val (.long q0), .second, .val (.int p1), .val (.long q2), .second, .val (.long q3), .second, .val (.long q4), .second] [])) (fun t k => XS.icmpYes X0.here hx rfl (pc0 := 25) (pc' := 39) rfl (hb hby d8_25) rfl (tlt c25_6).1 (by decide) (by decide) k) ?_
          refine OEnds.go (g' := (mkF m 40 #[.val (.long q0), .second, .val (.int p1), .val (.long q2), .second, .val (.long q3), .second, .val (.long q4), .second] [(.int (0 : Int32))])) (fun t k => XS.iconst X0.here hx rfl (hb hby d8_39) k) ?_
          exact OEnds.outN X0 Bd.notSynchronized hx (t := .boolean) Bd.returns (by simp) (hb hby d8_40) ⟨by show (some (.int (0 : Int32)) : Option Value) = some (.int (f8 q0 p1 q2 q3 q4)); rw [f8, if_pos c2_1, if_neg c13_2, if_neg c20_5, if_pos c25_6], N0, e0⟩ (by decide) (by decide)
        · -- no
          refine OEnds.go (g' := (mkF m 28 #[.val (.long q0), .second, .val (.int p1), .val (.long q2), .second, .val (.long q3), .second, .val (.long q4), .second] [])) (fun t k => XS.icmpNo X0.here hx rfl (hb hby d8_25) rfl (flt c25_6).1 k) ?_
          refine OEnds.go (g' := (mkF m 29 #[.val (.long q0), .second, .val (.int p1), .val (.long q2), .second, .val (.long q3), .second, .val (.long q4), .second] [(.long q0)])) (fun t k => XS.lloadN X0.here hx rfl (hb hby d8_28) rfl k) ?_
          refine OEnds.go (g' := (mkF m 31 #[.val (.long q0), .second, .val (.int p1), .val (.long q2), .second, .val (.long q3), .second, .val (.long q4), .second] [(.long q4), (.long q0)])) (fun t k => XS.lload X0.here hx rfl (hb hby d8_29) rfl k) ?_
          refine OEnds.go (g' := (mkF m 32 #[.val (.long q0), .second, .val (.int p1), .val (.long q2), .second, .val (.long q3), .second, .val (.long q4), .second] [(.int (lcmpW q0 q4))])) (fun t k => XS.lcmp X0.here hx rfl (hb hby d8_31) rfl k) ?_
          by_cases c32_7 : q0 = q4
          · -- yes
            refine OEnds.go (g' := (mkF m 35 #[.val (.long q0), .second, .val (.int p1), .val (.long q2), .second, .val (.long q3), .second, .val (.long q4), .second] [])) (fun t k => XS.ifNo X0.here hx rfl (hb hby d8_32) rfl ((if0 _ _).trans (teq ((lw_eq _ _).mpr c32_7)).2) k) ?_
            refine OEnds.go (g' := (mkF m 36 #[.val (.long q0), .second, .val (.int p1), .val (.long q2), .second, .val (.long q3), .second, .val (.long q4), .second] [(.int (1 : Int32))])) (fun t k => XS.iconst X0.here hx rfl (hb hby d8_35) k) ?_
            refine OEnds.go (g' := (mkF m 40 #[.val (.long q0), .second, .val (.int p1), .val (.long q2), .second, .val (.long q3), .second, .val (.long q4), .second] [(.int (1 : Int32))])) (fun t k => XS.goto X0.here hx rfl (pc0 := 36) (pc' := 40) rfl (hb hby d8_36) (by decide) (by decide) k) ?_
            exact OEnds.outN X0 Bd.notSynchronized hx (t := .boolean) Bd.returns (by simp) (hb hby d8_40) ⟨by show (some (.int (1 : Int32)) : Option Value) = some (.int (f8 q0 p1 q2 q3 q4)); rw [f8, if_pos c2_1, if_neg c13_2, if_neg c20_5, if_neg c25_6, if_pos c32_7], N0, e0⟩ (by decide) (by decide)
          · -- no
            refine OEnds.go (g' := (mkF m 39 #[.val (.long q0), .second, .val (.int p1), .val (.long q2), .second, .val (.long q3), .second, .val (.long q4), .second] [])) (fun t k => XS.ifYes X0.here hx rfl (pc0 := 32) (pc' := 39) rfl (hb hby d8_32) rfl ((if0 _ _).trans (feq (fun q => c32_7 ((lw_eq _ _).mp q))).2) (by decide) (by decide) k) ?_
            refine OEnds.go (g' := (mkF m 40 #[.val (.long q0), .second, .val (.int p1), .val (.long q2), .second, .val (.long q3), .second, .val (.long q4), .second] [(.int (0 : Int32))])) (fun t k => XS.iconst X0.here hx rfl (hb hby d8_39) k) ?_
            exact OEnds.outN X0 Bd.notSynchronized hx (t := .boolean) Bd.returns (by simp) (hb hby d8_40) ⟨by show (some (.int (0 : Int32)) : Option Value) = some (.int (f8 q0 p1 q2 q3 q4)); rw [f8, if_pos c2_1, if_neg c13_2, if_neg c20_5, if_neg c25_6, if_neg c32_7], N0, e0⟩ (by decide) (by decide)
  · -- no
    refine OEnds.go (g' := (mkF m 5 #[.val (.long q0), .second, .val (.int p1), .val (.long q2), .second, .val (.long q3), .second, .val (.long q4), .second] [])) (fun t k => XS.icmpNo X0.here hx rfl (hb hby d8_2) rfl (flt c2_1).1 k) ?_
    refine OEnds.go (g' := (mkF m 6 #[.val (.long q0), .second, .val (.int p1), .val (.long q2), .second, .val (.long q3), .second, .val (.long q4), .second] [(.long q0)])) (fun t k => XS.lloadN X0.here hx rfl (hb hby d8_5) rfl k) ?_
    refine OEnds.go (g' := (mkF m 7 #[.val (.long q0), .second, .val (.int p1), .val (.long q2), .second, .val (.long q3), .second, .val (.long q4), .second] [(.long q2), (.long q0)])) (fun t k => XS.lloadN X0.here hx rfl (hb hby d8_6) rfl k) ?_
    refine OEnds.go (g' := (mkF m 8 #[.val (.long q0), .second, .val (.int p1), .val (.long q2), .second, .val (.long q3), .second, .val (.long q4), .second] [(.int (lcmpW q0 q2))])) (fun t k => XS.lcmp X0.here hx rfl (hb hby d8_7) rfl k) ?_
    by_cases c8_8 : q0 = q2
    · -- yes
      refine OEnds.go (g' := (mkF m 35 #[.val (.long q0), .second, .val (.int p1), .val (.long q2), .second, .val (.long q3), .second, .val (.long q4), .second] [])) (fun t k => XS.ifYes X0.here hx rfl (pc0 := 8) (pc' := 35) rfl (hb hby d8_8) rfl ((if0 _ _).trans (teq ((lw_eq _ _).mpr c8_8)).1) (by decide) (by decide) k) ?_
      refine OEnds.go (g' := (mkF m 36 #[.val (.long q0), .second, .val (.int p1), .val (.long q2), .second, .val (.long q3), .second, .val (.long q4), .second] [(.int (1 : Int32))])) (fun t k => XS.iconst X0.here hx rfl (hb hby d8_35) k) ?_
      refine OEnds.go (g' := (mkF m 40 #[.val (.long q0), .second, .val (.int p1), .val (.long q2), .second, .val (.long q3), .second, .val (.long q4), .second] [(.int (1 : Int32))])) (fun t k => XS.goto X0.here hx rfl (pc0 := 36) (pc' := 40) rfl (hb hby d8_36) (by decide) (by decide) k) ?_
      exact OEnds.outN X0 Bd.notSynchronized hx (t := .boolean) Bd.returns (by simp) (hb hby d8_40) ⟨by show (some (.int (1 : Int32)) : Option Value) = some (.int (f8 q0 p1 q2 q3 q4)); rw [f8, if_neg c2_1, if_pos c8_8], N0, e0⟩ (by decide) (by decide)
    · -- no
      refine OEnds.go (g' := (mkF m 11 #[.val (.long q0), .second, .val (.int p1), .val (.long q2), .second, .val (.long q3), .second, .val (.long q4), .second] [])) (fun t k => XS.ifNo X0.here hx rfl (hb hby d8_8) rfl ((if0 _ _).trans (feq (fun q => c8_8 ((lw_eq _ _).mp q))).1) k) ?_
      refine OEnds.go (g' := (mkF m 12 #[.val (.long q0), .second, .val (.int p1), .val (.long q2), .second, .val (.long q3), .second, .val (.long q4), .second] [(.int p1)])) (fun t k => XS.iloadN X0.here hx rfl (hb hby d8_11) rfl k) ?_
      refine OEnds.go (g' := (mkF m 13 #[.val (.long q0), .second, .val (.int p1), .val (.long q2), .second, .val (.long q3), .second, .val (.long q4), .second] [(.int (2 : Int32)), (.int p1)])) (fun t k => XS.iconst X0.here hx rfl (hb hby d8_12) k) ?_
      by_cases c13_9 : p1 < (2 : Int32)
      · -- yes
        refine OEnds.go (g' := (mkF m 23 #[.val (.long q0), .second, .val (.int p1), .val (.long q2), .second, .val (.long q3), .second, .val (.long q4), .second] [])) (fun t k => XS.icmpYes X0.here hx rfl (pc0 := 13) (pc' := 23) rfl (hb hby d8_13) rfl (tlt c13_9).1 (by decide) (by decide) k) ?_
        refine OEnds.go (g' := (mkF m 24 #[.val (.long q0), .second, .val (.int p1), .val (.long q2), .second, .val (.long q3), .second, .val (.long q4), .second] [(.int p1)])) (fun t k => XS.iloadN X0.here hx rfl (hb hby d8_23) rfl k) ?_
        refine OEnds.go (g' := (mkF m 25 #[.val (.long q0), .second, .val (.int p1), .val (.long q2), .second, .val (.long q3), .second, .val (.long q4), .second] [(.int (3 : Int32)), (.int p1)])) (fun t k => XS.iconst X0.here hx rfl (hb hby d8_24) k) ?_
        by_cases c25_10 : p1 < (3 : Int32)
        · -- yes
          refine OEnds.go (g' := (mkF m 39 #[.val (.long q0), .second, .val (.int p1), .val (.long q2), .second, .val (.long q3), .second, .val (.long q4), .second] [])) (fun t k => XS.icmpYes X0.here hx rfl (pc0 := 25) (pc' := 39) rfl (hb hby d8_25) rfl (tlt c25_10).1 (by decide) (by decide) k) ?_
          refine OEnds.go (g' := (mkF m 40 #[.val (.long q0), .second, .val (.int p1), .val (.long q2), .second, .val (.long q3), .second, .val (.long q4), .second] [(.int (0 : Int32))])) (fun t k => XS.iconst X0.here hx rfl (hb hby d8_39) k) ?_
          exact OEnds.outN X0 Bd.notSynchronized hx (t := .boolean) Bd.returns (by simp) (hb hby d8_40) ⟨by show (some (.int (0 : Int32)) : Option Value) = some (.int (f8 q0 p1 q2 q3 q4)); rw [f8, if_neg c2_1, if_neg c8_8, if_pos c13_9, if_pos c25_10], N0, e0⟩ (by decide) (by decide)
        · -- no
          refine OEnds.go (g' := (mkF m 28 #[.val (.long q0), .second, .val (.int p1), .val (.long q2), .second, .val (.long q3), .second, .val (.long q4), .second] [])) (fun t k => XS.icmpNo X0.here hx rfl (hb hby d8_25) rfl (flt c25_10).1 k) ?_
          refine OEnds.go (g' := (mkF m 29 #[.val (.long q0), .second, .val (.int p1), .val (.long q2), .second, .val (.long q3), .second, .val (.long q4), .second] [(.long q0)])) (fun t k => XS.lloadN X0.here hx rfl (hb hby d8_28) rfl k) ?_
          refine OEnds.go (g' := (mkF m 31 #[.val (.long q0), .second, .val (.int p1), .val (.long q2), .second, .val (.long q3), .second, .val (.long q4), .second] [(.long q4), (.long q0)])) (fun t k => XS.lload X0.here hx rfl (hb hby d8_29) rfl k) ?_
          refine OEnds.go (g' := (mkF m 32 #[.val (.long q0), .second, .val (.int p1), .val (.long q2), .second, .val (.long q3), .second, .val (.long q4), .second] [(.int (lcmpW q0 q4))])) (fun t k => XS.lcmp X0.here hx rfl (hb hby d8_31) rfl k) ?_
          by_cases c32_11 : q0 = q4
          · -- yes
            refine OEnds.go (g' := (mkF m 35 #[.val (.long q0), .second, .val (.int p1), .val (.long q2), .second, .val (.long q3), .second, .val (.long q4), .second] [])) (fun t k => XS.ifNo X0.here hx rfl (hb hby d8_32) rfl ((if0 _ _).trans (teq ((lw_eq _ _).mpr c32_11)).2) k) ?_
            refine OEnds.go (g' := (mkF m 36 #[.val (.long q0), .second, .val (.int p1), .val (.long q2), .second, .val (.long q3), .second, .val (.long q4), .second] [(.int (1 : Int32))])) (fun t k => XS.iconst X0.here hx rfl (hb hby d8_35) k) ?_
            refine OEnds.go (g' := (mkF m 40 #[.val (.long q0), .second, .val (.int p1), .val (.long q2), .second, .val (.long q3), .second, .val (.long q4), .second] [(.int (1 : Int32))])) (fun t k => XS.goto X0.here hx rfl (pc0 := 36) (pc' := 40) rfl (hb hby d8_36) (by decide) (by decide) k) ?_
            exact OEnds.outN X0 Bd.notSynchronized hx (t := .boolean) Bd.returns (by simp) (hb hby d8_40) ⟨by show (some (.int (1 : Int32)) : Option Value) = some (.int (f8 q0 p1 q2 q3 q4)); rw [f8, if_neg c2_1, if_neg c8_8, if_pos c13_9, if_neg c25_10, if_pos c32_11], N0, e0⟩ (by decide) (by decide)
          · -- no
            refine OEnds.go (g' := (mkF m 39 #[.val (.long q0), .second, .val (.int p1), .val (.long q2), .second, .val (.long q3), .second, .val (.long q4), .second] [])) (fun t k => XS.ifYes X0.here hx rfl (pc0 := 32) (pc' := 39) rfl (hb hby d8_32) rfl ((if0 _ _).trans (feq (fun q => c32_11 ((lw_eq _ _).mp q))).2) (by decide) (by decide) k) ?_
            refine OEnds.go (g' := (mkF m 40 #[.val (.long q0), .second, .val (.int p1), .val (.long q2), .second, .val (.long q3), .second, .val (.long q4), .second] [(.int (0 : Int32))])) (fun t k => XS.iconst X0.here hx rfl (hb hby d8_39) k) ?_
            exact OEnds.outN X0 Bd.notSynchronized hx (t := .boolean) Bd.returns (by simp) (hb hby d8_40) ⟨by show (some (.int (0 : Int32)) : Option Value) = some (.int (f8 q0 p1 q2 q3 q4)); rw [f8, if_neg c2_1, if_neg c8_8, if_pos c13_9, if_neg c25_10, if_neg c32_11], N0, e0⟩ (by decide) (by decide)
      · -- no
        refine OEnds.go (g' := (mkF m 16 #[.val (.long q0), .second, .val (.int p1), .val (.long q2), .second, .val (.long q3), .second, .val (.long q4), .second] [])) (fun t k => XS.icmpNo X0.here hx rfl (hb hby d8_13) rfl (flt c13_9).1 k) ?_
        refine OEnds.go (g' := (mkF m 17 #[.val (.long q0), .second, .val (.int p1), .val (.long q2), .second, .val (.long q3), .second, .val (.long q4), .second] [(.long q0)])) (fun t k => XS.lloadN X0.here hx rfl (hb hby d8_16) rfl k) ?_
        refine OEnds.go (g' := (mkF m 19 #[.val (.long q0), .second, .val (.int p1), .val (.long q2), .second, .val (.long q3), .second, .val (.long q4), .second] [(.long q3), (.long q0)])) (fun t k => XS.lload X0.here hx rfl (hb hby d8_17) rfl k) ?_
        refine OEnds.go (g' := (mkF m 20 #[.val (.long q0), .second, .val (.int p1), .val (.long q2), .second, .val (.long q3), .second, .val (.long q4), .second] [(.int (lcmpW q0 q3))])) (fun t k => XS.lcmp X0.here hx rfl (hb hby d8_19) rfl k) ?_
        by_cases c20_12 : q0 = q3
        · -- yes
          refine OEnds.go (g' := (mkF m 35 #[.val (.long q0), .second, .val (.int p1), .val (.long q2), .second, .val (.long q3), .second, .val (.long q4), .second] [])) (fun t k => XS.ifYes X0.here hx rfl (pc0 := 20) (pc' := 35) rfl (hb hby d8_20) rfl ((if0 _ _).trans (teq ((lw_eq _ _).mpr c20_12)).1) (by decide) (by decide) k) ?_
          refine OEnds.go (g' := (mkF m 36 #[.val (.long q0), .second, .val (.int p1), .val (.long q2), .second, .val (.long q3), .second, .val (.long q4), .second] [(.int (1 : Int32))])) (fun t k => XS.iconst X0.here hx rfl (hb hby d8_35) k) ?_
          refine OEnds.go (g' := (mkF m 40 #[.val (.long q0), .second, .val (.int p1), .val (.long q2), .second, .val (.long q3), .second, .val (.long q4), .second] [(.int (1 : Int32))])) (fun t k => XS.goto X0.here hx rfl (pc0 := 36) (pc' := 40) rfl (hb hby d8_36) (by decide) (by decide) k) ?_
          exact OEnds.outN X0 Bd.notSynchronized hx (t := .boolean) Bd.returns (by simp) (hb hby d8_40) ⟨by show (some (.int (1 : Int32)) : Option Value) = some (.int (f8 q0 p1 q2 q3 q4)); rw [f8, if_neg c2_1, if_neg c8_8, if_neg c13_9, if_pos c20_12], N0, e0⟩ (by decide) (by decide)
        · -- no
          refine OEnds.go (g' := (mkF m 23 #[.val (.long q0), .second, .val (.int p1), .val (.long q2), .second, .val (.long q3), .second, .val (.long q4), .second] [])) (fun t k => XS.ifNo X0.here hx rfl (hb hby d8_20) rfl ((if0 _ _).trans (feq (fun q => c20_12 ((lw_eq _ _).mp q))).1) k) ?_
          refine OEnds.go (g' := (mkF m 24 #[.val (.long q0), .second, .val (.int p1), .val (.long q2), .second, .val (.long q3), .second, .val (.long q4), .second] [(.int p1)])) (fun t k => XS.iloadN X0.here hx rfl (hb hby d8_23) rfl k) ?_
          refine OEnds.go (g' := (mkF m 25 #[.val (.long q0), .second, .val (.int p1), .val (.long q2), .second, .val (.long q3), .second, .val (.long q4), .second] [(.int (3 : Int32)), (.int p1)])) (fun t k => XS.iconst X0.here hx rfl (hb hby d8_24) k) ?_
          by_cases c25_13 : p1 < (3 : Int32)
          · -- yes
            refine OEnds.go (g' := (mkF m 39 #[.val (.long q0), .second, .val (.int p1), .val (.long q2), .second, .val (.long q3), .second, .val (.long q4), .second] [])) (fun t k => XS.icmpYes X0.here hx rfl (pc0 := 25) (pc' := 39) rfl (hb hby d8_25) rfl (tlt c25_13).1 (by decide) (by decide) k) ?_
            refine OEnds.go (g' := (mkF m 40 #[.val (.long q0), .second, .val (.int p1), .val (.long q2), .second, .val (.long q3), .second, .val (.long q4), .second] [(.int (0 : Int32))])) (fun t k => XS.iconst X0.here hx rfl (hb hby d8_39) k) ?_
            exact OEnds.outN X0 Bd.notSynchronized hx (t := .boolean) Bd.returns (by simp) (hb hby d8_40) ⟨by show (some (.int (0 : Int32)) : Option Value) = some (.int (f8 q0 p1 q2 q3 q4)); rw [f8, if_neg c2_1, if_neg c8_8, if_neg c13_9, if_neg c20_12, if_pos c25_13], N0, e0⟩ (by decide) (by decide)
          · -- no
            refine OEnds.go (g' := (mkF m 28 #[.val (.long q0), .second, .val (.int p1), .val (.long q2), .second, .val (.long q3), .second, .val (.long q4), .second] [])) (fun t k => XS.icmpNo X0.here hx rfl (hb hby d8_25) rfl (flt c25_13).1 k) ?_
            refine OEnds.go (g' := (mkF m 29 #[.val (.long q0), .second, .val (.int p1), .val (.long q2), .second, .val (.long q3), .second, .val (.long q4), .second] [(.long q0)])) (fun t k => XS.lloadN X0.here hx rfl (hb hby d8_28) rfl k) ?_
            refine OEnds.go (g' := (mkF m 31 #[.val (.long q0), .second, .val (.int p1), .val (.long q2), .second, .val (.long q3), .second, .val (.long q4), .second] [(.long q4), (.long q0)])) (fun t k => XS.lload X0.here hx rfl (hb hby d8_29) rfl k) ?_
            refine OEnds.go (g' := (mkF m 32 #[.val (.long q0), .second, .val (.int p1), .val (.long q2), .second, .val (.long q3), .second, .val (.long q4), .second] [(.int (lcmpW q0 q4))])) (fun t k => XS.lcmp X0.here hx rfl (hb hby d8_31) rfl k) ?_
            by_cases c32_14 : q0 = q4
            · -- yes
              refine OEnds.go (g' := (mkF m 35 #[.val (.long q0), .second, .val (.int p1), .val (.long q2), .second, .val (.long q3), .second, .val (.long q4), .second] [])) (fun t k => XS.ifNo X0.here hx rfl (hb hby d8_32) rfl ((if0 _ _).trans (teq ((lw_eq _ _).mpr c32_14)).2) k) ?_
              refine OEnds.go (g' := (mkF m 36 #[.val (.long q0), .second, .val (.int p1), .val (.long q2), .second, .val (.long q3), .second, .val (.long q4), .second] [(.int (1 : Int32))])) (fun t k => XS.iconst X0.here hx rfl (hb hby d8_35) k) ?_
              refine OEnds.go (g' := (mkF m 40 #[.val (.long q0), .second, .val (.int p1), .val (.long q2), .second, .val (.long q3), .second, .val (.long q4), .second] [(.int (1 : Int32))])) (fun t k => XS.goto X0.here hx rfl (pc0 := 36) (pc' := 40) rfl (hb hby d8_36) (by decide) (by decide) k) ?_
              exact OEnds.outN X0 Bd.notSynchronized hx (t := .boolean) Bd.returns (by simp) (hb hby d8_40) ⟨by show (some (.int (1 : Int32)) : Option Value) = some (.int (f8 q0 p1 q2 q3 q4)); rw [f8, if_neg c2_1, if_neg c8_8, if_neg c13_9, if_neg c20_12, if_neg c25_13, if_pos c32_14], N0, e0⟩ (by decide) (by decide)
            · -- no
              refine OEnds.go (g' := (mkF m 39 #[.val (.long q0), .second, .val (.int p1), .val (.long q2), .second, .val (.long q3), .second, .val (.long q4), .second] [])) (fun t k => XS.ifYes X0.here hx rfl (pc0 := 32) (pc' := 39) rfl (hb hby d8_32) rfl ((if0 _ _).trans (feq (fun q => c32_14 ((lw_eq _ _).mp q))).2) (by decide) (by decide) k) ?_
              refine OEnds.go (g' := (mkF m 40 #[.val (.long q0), .second, .val (.int p1), .val (.long q2), .second, .val (.long q3), .second, .val (.long q4), .second] [(.int (0 : Int32))])) (fun t k => XS.iconst X0.here hx rfl (hb hby d8_39) k) ?_
              exact OEnds.outN X0 Bd.notSynchronized hx (t := .boolean) Bd.returns (by simp) (hb hby d8_40) ⟨by show (some (.int (0 : Int32)) : Option Value) = some (.int (f8 q0 p1 q2 q3 q4)); rw [f8, if_neg c2_1, if_neg c8_8, if_neg c13_9, if_neg c20_12, if_neg c25_13, if_neg c32_14], N0, e0⟩ (by decide) (by decide)
theorem own_set1 (u q0 q1 q2 : Int64) (h : u = q0) : ¬ f8 u (1 : Int32) q0 q1 q2 = 0 := by
  rcases h with h <;> simp +decide [f8, h]
theorem own_set2 (u q0 q1 q2 : Int64) (h : u = q0 ∨ u = q1) : ¬ f8 u (2 : Int32) q0 q1 q2 = 0 := by
  rcases h with h | h <;> simp +decide [f8, h]
theorem own_set3 (u q0 q1 q2 : Int64) (h : u = q0 ∨ u = q1 ∨ u = q2) : ¬ f8 u (3 : Int32) q0 q1 q2 = 0 := by
  rcases h with h | h | h <;> simp +decide [f8, h]
theorem own_and3 (x : Int32) : (x &&& (3 : Int32)) = (0 : Int32) ∨ (x &&& (3 : Int32)) = (1 : Int32) ∨ (x &&& (3 : Int32)) = (2 : Int32) ∨ (x &&& (3 : Int32)) = (3 : Int32) := by
  have h := c_mask x 3 2 (by decide) (by decide)
  generalize x &&& (3 : Int32) = c at *
  exact own_fin (P := fun c => c = (0 : Int32) ∨ c = (1 : Int32) ∨ c = (2 : Int32) ∨ c = (3 : Int32)) 4 (by decide) c (by omega) (by omega)
theorem own_ids {E : List (Int32 × Int64)} {x : Int64} (h : ∃ e ∈ E, e.2 = x) : x ∈ E.map Prod.snd := by
  obtain ⟨e, he, rfl⟩ := h; exact List.mem_map.mpr ⟨e, he, rfl⟩
theorem own_plA {Z : State} {h : Heap} {a : Addr} {k : ClassId} {ty : FieldType} {n : Int32} {f : Int32 → Value} (F : own_Av Z h a k ty n f) : ∃ c : Cell, h[a]? = some c ∧ c.vm.isStatics = false := by
  obtain ⟨c, A, -⟩ := F; exact ⟨c, A.1, A.plain⟩
def own_at (cl : Cell) (j : Int32) : Value := (cl.slots[j.toNatClampNeg]?).getD .null
theorem own_AvStart {s : State} {a : Addr} {cl : Cell} {ty : FieldType} {z : Int32} (hf : Fit s) (A : Arr s s.heap a cl ty) (q : cl.slots.size < 2 ^ 31) (e : cl.slots.size.toInt32 = z) (hz : ¬ z < 0) : own_Av s s.heap a cl.cls ty z (own_at cl) := by
  refine ⟨cl, A, rfl, by rw [← e]; simp only [Int32.toNatClampNeg, len_toInt q]; rfl, hz, fun j hj => ?_⟩
  obtain ⟨v, h1, h2⟩ := elem_fit hf A hj
  simp only [own_at, h1, Option.getD_some]
  exact ⟨trivial, h2⟩
theorem own_cache {args : Array Value} {s : State} {t : Term} {B : Cond} {x : Addr} {cl : Cell} {ty : FieldType} {C : String} (ev : t.eval args s none [] s = some (.ref x)) (A : Arr s s.heap x cl ty) (q : cl.slots.size < 2 ^ 31) (e : cl.slots.size.toInt32 = (256 : Int32)) (h : (Jvm.Cond.all t (.and (.exactly (.elem t (.index 0)) C) B)).value args s none s [] = some true) (j : Int32) (hj : ¬ j < 0 ∧ j < (256 : Int32)) (ev2 : t.eval args s none [j.toNatClampNeg] s = some (.ref x)) : ∃ y, own_at cl j = .ref y ∧ Exa s s.heap y C := by
  have S : cl.slots.size = (256 : Int32).toNatClampNeg := by rw [← e]; simp only [Int32.toNatClampNeg, len_toInt q]; rfl
  have hin := inb_of S hj
  obtain ⟨h1, -⟩ := and_e (Cond.all_elim ev (A.fin (Vm.Alike.refl _)) h _ (Nat.lt_of_not_le fun y => hin (Or.inr y)))
  obtain ⟨y, c', cell, k, e1, e2, e3, e4, e5, rfl, e7⟩ := Cond.exactly_spec (show (Cond.exactly (.elem t (.index 0)) C).holds args s none s [j.toNatClampNeg] = true from by rw [Cond.holds, h1]; rfl)
  have hi := idx_at (s := s) (args := args) (first := s) (o := none) hj.1
  obtain ⟨-, g2⟩ := elem_in e1 ev2 hi A.1
  exact ⟨y, by rw [own_at, g2]; rfl, cell, k, e3, e2, e4, e5, e7⟩
theorem ef_rm0 (m : MethodId) (x0 : Int64) (x1 : Int64) (x2 : Int64) (x3 : Int32) : entryFrame m #[(.long x0), (.long x1), (.long x2), (.int x3)] maxLocals = mkF m 0 #[.val (.long x0), .second, .val (.long x1), .second, .val (.long x2), .second, .val (.int x3), .unset, .unset, .unset, .unset] [] := by first | (simp [entryFrame, mkF, argsToLocals, Value.category, maxLocals]; done) | rfl
def Q_rm0 (Z : State) (q0 : Int64) (q1 : Int64) (q2 : Int64) (p3 : Int32) (cc : Addr) (kc : ClassId) (fc : Int32 → Value) (y_1 : Addr) (y_2 : Addr) (y_3 : Addr) (h0 : Heap) (n0 : Nat) (v : Option Value) (h : Heap) (L : List Loc) : Prop := v = some (.int 1) ∧ Fr n0 L
set_option maxRecDepth 65536 in
set_option maxHeartbeats 40000000 in
theorem rm0 (l : Launch) (Z : State) (a0 : Array Value) (hw : ∀ d ∈ tables_1, d.before a0 Z = true) (ws : List Jvm.Cond) (q0 : Int64) (q1 : Int64) (q2 : Int64) (p3 : Int32) (cc : Addr) (kc : ClassId) (fc : Int32 → Value) (y_1 : Addr) (y_2 : Addr) (y_3 : Addr) (h0 : Heap) (n0 : Nat) (Z0 : n0 ≤ h0.size) (SH : Sta Z h0 "java/lang/Integer$IntegerCache" "high" "I" (.int (127 : Int32))) (SC : Sta Z h0 "java/lang/Integer$IntegerCache" "cache" "[Ljava/lang/Integer;" (.ref cc)) (AC : own_Av Z h0 cc kc (.object "java/lang/Integer") (256 : Int32) fc) (hy1 : fc (129 : Int32) = .ref y_1) (hy2 : fc (130 : Int32) = .ref y_2) (hy3 : fc (131 : Int32) = .ref y_3) (EY1 : Exa Z h0 y_1 "java/lang/Integer") (EY2 : Exa Z h0 y_2 "java/lang/Integer") (EY3 : Exa Z h0 y_3 "java/lang/Integer") :
    MetFree l x (head1 (Jvm.Cond.code x code maxLocals ret :: ws) room_1) (fun aa_ U => aa_ = #[(.long q0), (.long q1), (.long q2), (.int p3)] ∧ Z.Warmed39 U.vm ∧ U.heap = h0) (fun _ _ _ _ _ => True) (fun _ U o U' => ∃ v L, o = .returned v ∧ Q_rm0 Z q0 q1 q2 p3 cc kc fc y_1 y_2 y_3 h0 n0 v U'.heap L ∧ FrameEnd U o U' L room_1.cells room_1.slots) := by
  refine MetFree.of_bodySF (plainFor_of_name pn_2) hisR ?_
  intro p e s m args below meth c s₁ Bd hml0 hP hK
  obtain ⟨rfl, hZ, hh⟩ := hP
  have hx := Bd.exec
  have hby := Bd.bytes
  have hml : c.maxLocals = 11 := hml0
  have hown : s.vm.findClass "com/example/slimheap/slimheap/hprof/IdMapIdsPinLaw" = some m.cls := findClass_of_methodNamed Bd.named
  have hnm := (name_of_methodNamed Bd.named Bd.method).1
  have X0 : Stand p l e room_1 s m #[(.long q0), (.long q1), (.long q2), (.int p3)] below meth c s₁ [] 0 0 := Stand.of_body Bd
  have e0 : s₁.heap = h0 := by rw [← hh, Bd.state]; rfl
  have N0 := Fr.nil n0
  show OEnds p e below (OEndP s (Q_rm0 Z q0 q1 q2 p3 cc kc fc y_1 y_2 y_3 h0 n0) room_1.cells room_1.slots) s₁ (entryFrame m #[(.long q0), (.long q1), (.long q2), (.int p3)] maxLocals)
  rw [ef_rm0 m q0 q1 q2 p3]
  refine OEnds.go (g' := (mkF m 2 #[.val (.long q0), .second, .val (.long q1), .second, .val (.long q2), .second, .val (.int p3), .unset, .unset, .unset, .unset] [(.int p3)])) (fun t k => XS.iload X0.here hx rfl (hb hby at_0) rfl k) ?_
  refine OEnds.go (g' := (mkF m 3 #[.val (.long q0), .second, .val (.long q1), .second, .val (.long q2), .second, .val (.int p3), .unset, .unset, .unset, .unset] [(.int (3 : Int32)), (.int p3)])) (fun t k => XS.iconst X0.here hx rfl (hb hby at_2) k) ?_
  refine OEnds.go (g' := (mkF m 4 #[.val (.long q0), .second, .val (.long q1), .second, .val (.long q2), .second, .val (.int p3), .unset, .unset, .unset, .unset] [(.int (p3 &&& (3 : Int32)))])) (fun t k => XS.iand X0.here hx rfl (hb hby at_3) rfl k) ?_
  rcases (own_and3 _ : (p3 &&& (3 : Int32)) = (0 : Int32) ∨ (p3 &&& (3 : Int32)) = (1 : Int32) ∨ (p3 &&& (3 : Int32)) = (2 : Int32) ∨ (p3 &&& (3 : Int32)) = (3 : Int32)) with k4_1 | k4_1 | k4_1 | k4_1
  · -- (0 : Int32)
    rw [k4_1]
    refine OEnds.go (g' := (mkF m 6 #[.val (.long q0), .second, .val (.long q1), .second, .val (.long q2), .second, .val (.int p3), .val (.int (0 : Int32)), .unset, .unset, .unset] [])) (fun t k => XS.istore X0.here hx rfl (hb hby at_4) rfl (l' := #[.val (.long q0), .second, .val (.long q1), .second, .val (.long q2), .second, .val (.int p3), .val (.int (0 : Int32)), .unset, .unset, .unset]) rfl k) ?_
    obtain ⟨T2, h2, X2, e2, E2, A2, D2, -, st2⟩ := newO X0 hx hZ hown (hw _ (List.mem_of_getElem? (i := 0) rfl)) (hw _ (List.mem_of_getElem? (i := 1) rfl)) (hw _ (List.mem_of_getElem? (i := 2) rfl)) e0 (g := (mkF m 6 #[.val (.long q0), .second, .val (.long q1), .second, .val (.long q2), .second, .val (.int p3), .val (.int (0 : Int32)), .unset, .unset, .unset] [])) rfl (hb hby at_6) (by decide) (by decide)
    obtain ⟨b2, g2⟩ : ∃ z, z = h0.size := ⟨_, rfl⟩
    rw [← g2] at A2 D2 st2
    have g_b2 : n0 ≤ b2 := Nat.le_trans Z0 (Nat.le_of_eq g2.symm)
    have F_ids_b2 : Fld Z h2 b2 "com/example/slimheap/slimheap/hprof/IdMap" "ids" "[J" .null := D2 (Or.inl (hw _ (List.mem_of_getElem? (i := 11) rfl))) (ty := (.array .long)) (by decide)
    have F_values_b2 : Fld Z h2 b2 "com/example/slimheap/slimheap/hprof/IdMap" "values" "[Ljava/lang/Object;" .null := D2 (Or.inl (hw _ (List.mem_of_getElem? (i := 15) rfl))) (ty := (.array (.object "java/lang/Object"))) (by decide)
    have F_size_b2 : Fld Z h2 b2 "com/example/slimheap/slimheap/hprof/IdMap" "size" "I" (.int (0 : Int32)) := D2 (Or.inl (hw _ (List.mem_of_getElem? (i := 34) rfl))) (ty := .int) (by decide)
    refine OEnds.go (g' := (mkF m 9 #[.val (.long q0), .second, .val (.long q1), .second, .val (.long q2), .second, .val (.int p3), .val (.int (0 : Int32)), .unset, .unset, .unset] [(.ref b2)])) st2 ?_
    refine OEnds.go (g' := (mkF m 10 #[.val (.long q0), .second, .val (.long q1), .second, .val (.long q2), .second, .val (.int p3), .val (.int (0 : Int32)), .unset, .unset, .unset] [(.ref b2), (.ref b2)])) (fun t k => XS.dup X2.here hx rfl (hb hby at_9) rfl rfl k) ?_
    obtain ⟨_, _, ⟨T3, L3, k3, n3⟩, -, X3, ⟨Lc3, hQ3, l3, y3, z3⟩, st3⟩ := X2.specialBack hx (y := (⟨"com/example/slimheap/slimheap/hprof/IdMap", "<init>", "()V"⟩ : MethodName)) rfl hown (mvT hZ (hw _ (List.mem_of_getElem? (i := 3) rfl))) (mvT hZ (hw _ (List.mem_of_getElem? (i := 4) rfl))) (mvT hZ (hw _ (List.mem_of_getElem? (i := 5) rfl))) (by decide) (backOf (W := 1) (rm1 l Z a0 hw [] b2 h2 n0 (Nat.le_trans Z0 E2.1) A2 F_ids_b2 F_values_b2 F_size_b2 g_b2) hZ (hw _ (List.mem_of_getElem? (i := 5) rfl)) (hw _ (List.mem_of_getElem? (i := 2) rfl)) (by decide) (by decide)) (g := (mkF m 10 #[.val (.long q0), .second, .val (.long q1), .second, .val (.long q2), .second, .val (.int p3), .val (.int (0 : Int32)), .unset, .unset, .unset] [(.ref b2), (.ref b2)])) rfl (by rw [hml]; rfl) (Steps.refl _) (a := b2) (argsL := []) (rest := [(.ref b2)]) (lenOf pd_1 rfl) rfl (by show 2 * 0 + _ ≤ _; exact Nat.le_of_eq rfl) (hb hby at_10) (fun _ _ => ⟨rfl, e2, (by decide : 1 + 2 ≤ _), (by decide : 3 + 128 ≤ _)⟩)
    dsimp only [Pt.U, Pt.locs, Pt.cells, Pt.slots] at X3 l3 y3 z3 st3 hQ3
    subst l3 y3 z3
    obtain ⟨ia3, va3, ki3, kv3, rfl, N3q, K3q, E3q, Fi3q, Fv3q, Fs3q, AI3q, AV3q, OV3q, g_ia3, sz_ia3, g_va3, sz_va3, ne3⟩ := hQ3
    have N3 := Fr.app N0 N3q
    refine OEnds.tr (g' := (mkF m 13 #[.val (.long q0), .second, .val (.long q1), .second, .val (.long q2), .second, .val (.int p3), .val (.int (0 : Int32)), .unset, .unset, .unset] [(.ref b2)])) st3 ?_
    refine OEnds.go (g' := (mkF m 15 #[.val (.long q0), .second, .val (.long q1), .second, .val (.long q2), .second, .val (.int p3), .val (.int (0 : Int32)), .val (.ref b2), .unset, .unset] [])) (fun t k => XS.astore X3.here hx rfl (hb hby at_13) rfl rfl (l' := #[.val (.long q0), .second, .val (.long q1), .second, .val (.long q2), .second, .val (.int p3), .val (.int (0 : Int32)), .val (.ref b2), .unset, .unset]) rfl k) ?_
    refine OEnds.go (g' := (mkF m 17 #[.val (.long q0), .second, .val (.long q1), .second, .val (.long q2), .second, .val (.int p3), .val (.int (0 : Int32)), .val (.ref b2), .unset, .unset] [(.int (0 : Int32))])) (fun t k => XS.iload X3.here hx rfl (hb hby at_15) rfl k) ?_
    refine OEnds.go (g' := (mkF m 18 #[.val (.long q0), .second, .val (.long q1), .second, .val (.long q2), .second, .val (.int p3), .val (.int (0 : Int32)), .val (.ref b2), .unset, .unset] [(.int (1 : Int32)), (.int (0 : Int32))])) (fun t k => XS.iconst X3.here hx rfl (hb hby at_17) k) ?_
    refine OEnds.go (g' := (mkF m 31 #[.val (.long q0), .second, .val (.long q1), .second, .val (.long q2), .second, .val (.int p3), .val (.int (0 : Int32)), .val (.ref b2), .unset, .unset] [])) (fun t k => XS.icmpYes X3.here hx rfl (pc0 := 18) (pc' := 31) rfl (hb hby at_18) rfl (tlt (by decide : ((0 : Int32) < (1 : Int32)))).1 (by decide) (by decide) k) ?_
    refine OEnds.go (g' := (mkF m 33 #[.val (.long q0), .second, .val (.long q1), .second, .val (.long q2), .second, .val (.int p3), .val (.int (0 : Int32)), .val (.ref b2), .unset, .unset] [(.int (0 : Int32))])) (fun t k => XS.iload X3.here hx rfl (hb hby at_31) rfl k) ?_
    refine OEnds.go (g' := (mkF m 34 #[.val (.long q0), .second, .val (.long q1), .second, .val (.long q2), .second, .val (.int p3), .val (.int (0 : Int32)), .val (.ref b2), .unset, .unset] [(.int (2 : Int32)), (.int (0 : Int32))])) (fun t k => XS.iconst X3.here hx rfl (hb hby at_33) k) ?_
    refine OEnds.go (g' := (mkF m 47 #[.val (.long q0), .second, .val (.long q1), .second, .val (.long q2), .second, .val (.int p3), .val (.int (0 : Int32)), .val (.ref b2), .unset, .unset] [])) (fun t k => XS.icmpYes X3.here hx rfl (pc0 := 34) (pc' := 47) rfl (hb hby at_34) rfl (tlt (by decide : ((0 : Int32) < (2 : Int32)))).1 (by decide) (by decide) k) ?_
    refine OEnds.go (g' := (mkF m 49 #[.val (.long q0), .second, .val (.long q1), .second, .val (.long q2), .second, .val (.int p3), .val (.int (0 : Int32)), .val (.ref b2), .unset, .unset] [(.int (0 : Int32))])) (fun t k => XS.iload X3.here hx rfl (hb hby at_47) rfl k) ?_
    refine OEnds.go (g' := (mkF m 50 #[.val (.long q0), .second, .val (.long q1), .second, .val (.long q2), .second, .val (.int p3), .val (.int (0 : Int32)), .val (.ref b2), .unset, .unset] [(.int (3 : Int32)), (.int (0 : Int32))])) (fun t k => XS.iconst X3.here hx rfl (hb hby at_49) k) ?_
    refine OEnds.go (g' := (mkF m 64 #[.val (.long q0), .second, .val (.long q1), .second, .val (.long q2), .second, .val (.int p3), .val (.int (0 : Int32)), .val (.ref b2), .unset, .unset] [])) (fun t k => XS.icmpYes X3.here hx rfl (pc0 := 50) (pc' := 64) rfl (hb hby at_50) rfl (tlt (by decide : ((0 : Int32) < (3 : Int32)))).1 (by decide) (by decide) k) ?_
    refine OEnds.go (g' := (mkF m 66 #[.val (.long q0), .second, .val (.long q1), .second, .val (.long q2), .second, .val (.int p3), .val (.int (0 : Int32)), .val (.ref b2), .unset, .unset] [(.ref b2)])) (fun t k => XS.aload X3.here hx rfl (hb hby at_64) rfl rfl k) ?_
    obtain ⟨cq4, kq4, q4a, q4b, q4c⟩ := isOf hZ rfl E3q
    obtain ⟨_, _, ⟨T4, L4, k4, n4⟩, -, X4, ⟨Lc4, hQ4, l4, y4, z4⟩, st4⟩ := X3.virtualBack hx (y := (⟨"com/example/slimheap/slimheap/hprof/IdMap", "ids", "()[J"⟩ : MethodName)) (z := (⟨"com/example/slimheap/slimheap/hprof/IdMap", "ids", "()[J"⟩ : MethodName)) hown (mvT hZ (hw _ (List.mem_of_getElem? (i := 36) rfl))) (mvT hZ (hw _ (List.mem_of_getElem? (i := 37) rfl))) (notFace_of_selects (args := #[]) (mvT hZ (hw _ (List.mem_of_getElem? (i := 39) rfl)))) (mvT hZ (hw _ (List.mem_of_getElem? (i := 39) rfl))) (mvT hZ (hw _ (List.mem_of_getElem? (i := 38) rfl))) (by decide) (backOf (W := 0) (rmD0 l Z a0 hw [] b2 ia3 va3 ki3 kv3 (fun _ => .null) (fun _ => (0 : Int64)) T3.heap n0 (Nat.le_trans (Nat.le_trans Z0 E2.1) K3q.1) Fi3q Fv3q AI3q AV3q Fs3q (own_perm own_Inv0).length_eq) hZ (hw _ (List.mem_of_getElem? (i := 40) rfl)) (hw _ (List.mem_of_getElem? (i := 2) rfl)) (by decide) (by decide)) q4a q4c (g := (mkF m 66 #[.val (.long q0), .second, .val (.long q1), .second, .val (.long q2), .second, .val (.int p3), .val (.int (0 : Int32)), .val (.ref b2), .unset, .unset] [(.ref b2)])) rfl (by rw [hml]; rfl) (Steps.refl _) (argsL := []) (rest := []) (lenOf pd_2 rfl) rfl (by show 2 * 0 + _ ≤ _; exact Nat.le_of_eq rfl) (hb hby at_66) (fun _ _ => ⟨rfl, rfl, (by decide : 3 + 1 ≤ _), (by decide : 131 + 0 ≤ _)⟩)
    dsimp only [Pt.U, Pt.locs, Pt.cells, Pt.slots] at X4 l4 y4 z4 st4 hQ4
    subst l4 y4 z4
    obtain ⟨r4, kr4, rr4, rfl, N4q, K4q, AR4, hP4, g_r4⟩ := hQ4
    have N4 := Fr.app N3 N4q
    have VR4 : Arv Z T4.heap r4 kr4 .long (0 : Int32) [] (.long (0 : Int64)) := own_Av.arv (n := 0) AR4 (by decide)
    have pm4 : ([] : List Int64).Perm [] := List.Perm.refl _
    refine OEnds.tr (g' := (mkF m 69 #[.val (.long q0), .second, .val (.long q1), .second, .val (.long q2), .second, .val (.int p3), .val (.int (0 : Int32)), .val (.ref b2), .unset, .unset] [(.ref r4)])) st4 ?_
    refine OEnds.go (g' := (mkF m 71 #[.val (.long q0), .second, .val (.long q1), .second, .val (.long q2), .second, .val (.int p3), .val (.int (0 : Int32)), .val (.ref b2), .val (.ref r4), .unset] [])) (fun t k => XS.astore X4.here hx rfl (hb hby at_69) rfl rfl (l' := #[.val (.long q0), .second, .val (.long q1), .second, .val (.long q2), .second, .val (.int p3), .val (.int (0 : Int32)), .val (.ref b2), .val (.ref r4), .unset]) rfl k) ?_
    refine OEnds.go (g' := (mkF m 72 #[.val (.long q0), .second, .val (.long q1), .second, .val (.long q2), .second, .val (.int p3), .val (.int (0 : Int32)), .val (.ref b2), .val (.ref r4), .unset] [(.int (0 : Int32))])) (fun t k => XS.iconst X4.here hx rfl (hb hby at_71) k) ?_
    refine OEnds.go (g' := (mkF m 74 #[.val (.long q0), .second, .val (.long q1), .second, .val (.long q2), .second, .val (.int p3), .val (.int (0 : Int32)), .val (.ref b2), .val (.ref r4), .val (.int (0 : Int32))] [])) (fun t k => XS.istore X4.here hx rfl (hb hby at_72) rfl (l' := #[.val (.long q0), .second, .val (.long q1), .second, .val (.long q2), .second, .val (.int p3), .val (.int (0 : Int32)), .val (.ref b2), .val (.ref r4), .val (.int (0 : Int32))]) rfl k) ?_
    refine OEnds.go (g' := (mkF m 76 #[.val (.long q0), .second, .val (.long q1), .second, .val (.long q2), .second, .val (.int p3), .val (.int (0 : Int32)), .val (.ref b2), .val (.ref r4), .val (.int (0 : Int32))] [(.int (0 : Int32))])) (fun t k => XS.iload X4.here hx rfl (hb hby at_74) rfl k) ?_
    refine OEnds.go (g' := (mkF m 77 #[.val (.long q0), .second, .val (.long q1), .second, .val (.long q2), .second, .val (.int p3), .val (.int (0 : Int32)), .val (.ref b2), .val (.ref r4), .val (.int (0 : Int32))] [(.int (1 : Int32)), (.int (0 : Int32))])) (fun t k => XS.iconst X4.here hx rfl (hb hby at_76) k) ?_
    refine OEnds.go (g' := (mkF m 83 #[.val (.long q0), .second, .val (.long q1), .second, .val (.long q2), .second, .val (.int p3), .val (.int (0 : Int32)), .val (.ref b2), .val (.ref r4), .val (.int (0 : Int32))] [])) (fun t k => XS.icmpYes X4.here hx rfl (pc0 := 77) (pc' := 83) rfl (hb hby at_77) rfl (tlt (by decide : ((0 : Int32) < (1 : Int32)))).1 (by decide) (by decide) k) ?_
    refine OEnds.go (g' := (mkF m 85 #[.val (.long q0), .second, .val (.long q1), .second, .val (.long q2), .second, .val (.int p3), .val (.int (0 : Int32)), .val (.ref b2), .val (.ref r4), .val (.int (0 : Int32))] [(.int (0 : Int32))])) (fun t k => XS.iload X4.here hx rfl (hb hby at_83) rfl k) ?_
    refine OEnds.go (g' := (mkF m 86 #[.val (.long q0), .second, .val (.long q1), .second, .val (.long q2), .second, .val (.int p3), .val (.int (0 : Int32)), .val (.ref b2), .val (.ref r4), .val (.int (0 : Int32))] [(.int (2 : Int32)), (.int (0 : Int32))])) (fun t k => XS.iconst X4.here hx rfl (hb hby at_85) k) ?_
    refine OEnds.go (g' := (mkF m 98 #[.val (.long q0), .second, .val (.long q1), .second, .val (.long q2), .second, .val (.int p3), .val (.int (0 : Int32)), .val (.ref b2), .val (.ref r4), .val (.int (0 : Int32))] [])) (fun t k => XS.icmpYes X4.here hx rfl (pc0 := 86) (pc' := 98) rfl (hb hby at_86) rfl (tlt (by decide : ((0 : Int32) < (2 : Int32)))).1 (by decide) (by decide) k) ?_
    refine OEnds.go (g' := (mkF m 100 #[.val (.long q0), .second, .val (.long q1), .second, .val (.long q2), .second, .val (.int p3), .val (.int (0 : Int32)), .val (.ref b2), .val (.ref r4), .val (.int (0 : Int32))] [(.int (0 : Int32))])) (fun t k => XS.iload X4.here hx rfl (hb hby at_98) rfl k) ?_
    refine OEnds.go (g' := (mkF m 101 #[.val (.long q0), .second, .val (.long q1), .second, .val (.long q2), .second, .val (.int p3), .val (.int (0 : Int32)), .val (.ref b2), .val (.ref r4), .val (.int (0 : Int32))] [(.int (3 : Int32)), (.int (0 : Int32))])) (fun t k => XS.iconst X4.here hx rfl (hb hby at_100) k) ?_
    refine OEnds.go (g' := (mkF m 121 #[.val (.long q0), .second, .val (.long q1), .second, .val (.long q2), .second, .val (.int p3), .val (.int (0 : Int32)), .val (.ref b2), .val (.ref r4), .val (.int (0 : Int32))] [])) (fun t k => XS.icmpYes X4.here hx rfl (pc0 := 101) (pc' := 121) rfl (hb hby at_101) rfl (tlt (by decide : ((0 : Int32) < (3 : Int32)))).1 (by decide) (by decide) k) ?_
    refine OEnds.go (g' := (mkF m 123 #[.val (.long q0), .second, .val (.long q1), .second, .val (.long q2), .second, .val (.int p3), .val (.int (0 : Int32)), .val (.ref b2), .val (.ref r4), .val (.int (0 : Int32))] [(.ref r4)])) (fun t k => XS.aload X4.here hx rfl (hb hby at_121) rfl rfl k) ?_
    refine OEnds.go (g' := (mkF m 126 #[.val (.long q0), .second, .val (.long q1), .second, .val (.long q2), .second, .val (.int p3), .val (.int (0 : Int32)), .val (.ref b2), .val (.ref r4), .val (.int (0 : Int32))] [])) (fun t k => XS.ifnullNo X4.here hx rfl (hb hby at_123) rfl k) ?_
    refine OEnds.go (g' := (mkF m 128 #[.val (.long q0), .second, .val (.long q1), .second, .val (.long q2), .second, .val (.int p3), .val (.int (0 : Int32)), .val (.ref b2), .val (.ref r4), .val (.int (0 : Int32))] [(.ref r4)])) (fun t k => XS.aload X4.here hx rfl (hb hby at_126) rfl rfl k) ?_
    obtain ⟨cl5, Ar5, qa5, Sa5, Na5, Ha5, Ga5⟩ := @id _ VR4
    refine OEnds.go (g' := (mkF m 129 #[.val (.long q0), .second, .val (.long q1), .second, .val (.long q2), .second, .val (.int p3), .val (.int (0 : Int32)), .val (.ref b2), .val (.ref r4), .val (.int (0 : Int32))] [(.int (0 : Int32))])) (fun t k => X4.arraylength hx Ar5.1 (State.isArrayOf_alike hZ.alike Ar5.2.1) (g := (mkF m 128 #[.val (.long q0), .second, .val (.long q1), .second, .val (.long q2), .second, .val (.int p3), .val (.int (0 : Int32)), .val (.ref b2), .val (.ref r4), .val (.int (0 : Int32))] [(.ref r4)])) rfl rfl (hb hby at_128) t (by rw [len_of Sa5 Na5]; exact k)) ?_
    refine OEnds.go (g' := (mkF m 131 #[.val (.long q0), .second, .val (.long q1), .second, .val (.long q2), .second, .val (.int p3), .val (.int (0 : Int32)), .val (.ref b2), .val (.ref r4), .val (.int (0 : Int32))] [(.int (0 : Int32)), (.int (0 : Int32))])) (fun t k => XS.iload X4.here hx rfl (hb hby at_129) rfl k) ?_
    refine OEnds.go (g' := (mkF m 136 #[.val (.long q0), .second, .val (.long q1), .second, .val (.long q2), .second, .val (.int p3), .val (.int (0 : Int32)), .val (.ref b2), .val (.ref r4), .val (.int (0 : Int32))] [])) (fun t k => XS.icmpYes X4.here hx rfl (pc0 := 131) (pc' := 136) rfl (hb hby at_131) rfl (teq (by decide : ((0 : Int32) = (0 : Int32)))).1 (by decide) (by decide) k) ?_
    refine OEnds.go (g' := (mkF m 138 #[.val (.long q0), .second, .val (.long q1), .second, .val (.long q2), .second, .val (.int p3), .val (.int (0 : Int32)), .val (.ref b2), .val (.ref r4), .val (.int (0 : Int32))] [(.int (0 : Int32))])) (fun t k => XS.iload X4.here hx rfl (hb hby at_136) rfl k) ?_
    refine OEnds.go (g' := (mkF m 139 #[.val (.long q0), .second, .val (.long q1), .second, .val (.long q2), .second, .val (.int p3), .val (.int (0 : Int32)), .val (.ref b2), .val (.ref r4), .val (.int (0 : Int32))] [(.int (1 : Int32)), (.int (0 : Int32))])) (fun t k => XS.iconst X4.here hx rfl (hb hby at_138) k) ?_
    refine OEnds.go (g' := (mkF m 153 #[.val (.long q0), .second, .val (.long q1), .second, .val (.long q2), .second, .val (.int p3), .val (.int (0 : Int32)), .val (.ref b2), .val (.ref r4), .val (.int (0 : Int32))] [])) (fun t k => XS.icmpYes X4.here hx rfl (pc0 := 139) (pc' := 153) rfl (hb hby at_139) rfl (tlt (by decide : ((0 : Int32) < (1 : Int32)))).1 (by decide) (by decide) k) ?_
    refine OEnds.go (g' := (mkF m 155 #[.val (.long q0), .second, .val (.long q1), .second, .val (.long q2), .second, .val (.int p3), .val (.int (0 : Int32)), .val (.ref b2), .val (.ref r4), .val (.int (0 : Int32))] [(.int (0 : Int32))])) (fun t k => XS.iload X4.here hx rfl (hb hby at_153) rfl k) ?_
    refine OEnds.go (g' := (mkF m 156 #[.val (.long q0), .second, .val (.long q1), .second, .val (.long q2), .second, .val (.int p3), .val (.int (0 : Int32)), .val (.ref b2), .val (.ref r4), .val (.int (0 : Int32))] [(.int (2 : Int32)), (.int (0 : Int32))])) (fun t k => XS.iconst X4.here hx rfl (hb hby at_155) k) ?_
    refine OEnds.go (g' := (mkF m 170 #[.val (.long q0), .second, .val (.long q1), .second, .val (.long q2), .second, .val (.int p3), .val (.int (0 : Int32)), .val (.ref b2), .val (.ref r4), .val (.int (0 : Int32))] [])) (fun t k => XS.icmpYes X4.here hx rfl (pc0 := 156) (pc' := 170) rfl (hb hby at_156) rfl (tlt (by decide : ((0 : Int32) < (2 : Int32)))).1 (by decide) (by decide) k) ?_
    refine OEnds.go (g' := (mkF m 172 #[.val (.long q0), .second, .val (.long q1), .second, .val (.long q2), .second, .val (.int p3), .val (.int (0 : Int32)), .val (.ref b2), .val (.ref r4), .val (.int (0 : Int32))] [(.int (0 : Int32))])) (fun t k => XS.iload X4.here hx rfl (hb hby at_170) rfl k) ?_
    refine OEnds.go (g' := (mkF m 173 #[.val (.long q0), .second, .val (.long q1), .second, .val (.long q2), .second, .val (.int p3), .val (.int (0 : Int32)), .val (.ref b2), .val (.ref r4), .val (.int (0 : Int32))] [(.int (3 : Int32)), (.int (0 : Int32))])) (fun t k => XS.iconst X4.here hx rfl (hb hby at_172) k) ?_
    refine OEnds.go (g' := (mkF m 188 #[.val (.long q0), .second, .val (.long q1), .second, .val (.long q2), .second, .val (.int p3), .val (.int (0 : Int32)), .val (.ref b2), .val (.ref r4), .val (.int (0 : Int32))] [])) (fun t k => XS.icmpYes X4.here hx rfl (pc0 := 173) (pc' := 188) rfl (hb hby at_173) rfl (tlt (by decide : ((0 : Int32) < (3 : Int32)))).1 (by decide) (by decide) k) ?_
    refine OEnds.go (g' := (mkF m 190 #[.val (.long q0), .second, .val (.long q1), .second, .val (.long q2), .second, .val (.int p3), .val (.int (0 : Int32)), .val (.ref b2), .val (.ref r4), .val (.int (0 : Int32))] [(.ref r4)])) (fun t k => XS.aload X4.here hx rfl (hb hby at_188) rfl rfl k) ?_
    obtain ⟨cl6, Ar6, qa6, Sa6, Na6, Ha6, Ga6⟩ := @id _ VR4
    refine OEnds.go (g' := (mkF m 191 #[.val (.long q0), .second, .val (.long q1), .second, .val (.long q2), .second, .val (.int p3), .val (.int (0 : Int32)), .val (.ref b2), .val (.ref r4), .val (.int (0 : Int32))] [(.int (0 : Int32))])) (fun t k => X4.arraylength hx Ar6.1 (State.isArrayOf_alike hZ.alike Ar6.2.1) (g := (mkF m 190 #[.val (.long q0), .second, .val (.long q1), .second, .val (.long q2), .second, .val (.int p3), .val (.int (0 : Int32)), .val (.ref b2), .val (.ref r4), .val (.int (0 : Int32))] [(.ref r4)])) rfl rfl (hb hby at_190) t (by rw [len_of Sa6 Na6]; exact k)) ?_
    refine OEnds.go (g' := (mkF m 212 #[.val (.long q0), .second, .val (.long q1), .second, .val (.long q2), .second, .val (.int p3), .val (.int (0 : Int32)), .val (.ref b2), .val (.ref r4), .val (.int (0 : Int32))] [])) (fun t k => XS.ifYes X4.here hx rfl (pc0 := 191) (pc' := 212) rfl (hb hby at_191) rfl ((if0 _ _).trans (flt (by decide : ¬ ((0 : Int32) < (0 : Int32)))).2.2.2) (by decide) (by decide) k) ?_
    refine OEnds.go (g' := (mkF m 214 #[.val (.long q0), .second, .val (.long q1), .second, .val (.long q2), .second, .val (.int p3), .val (.int (0 : Int32)), .val (.ref b2), .val (.ref r4), .val (.int (0 : Int32))] [(.ref r4)])) (fun t k => XS.aload X4.here hx rfl (hb hby at_212) rfl rfl k) ?_
    obtain ⟨cl7, Ar7, qa7, Sa7, Na7, Ha7, Ga7⟩ := @id _ VR4
    refine OEnds.go (g' := (mkF m 215 #[.val (.long q0), .second, .val (.long q1), .second, .val (.long q2), .second, .val (.int p3), .val (.int (0 : Int32)), .val (.ref b2), .val (.ref r4), .val (.int (0 : Int32))] [(.int (0 : Int32))])) (fun t k => X4.arraylength hx Ar7.1 (State.isArrayOf_alike hZ.alike Ar7.2.1) (g := (mkF m 214 #[.val (.long q0), .second, .val (.long q1), .second, .val (.long q2), .second, .val (.int p3), .val (.int (0 : Int32)), .val (.ref b2), .val (.ref r4), .val (.int (0 : Int32))] [(.ref r4)])) rfl rfl (hb hby at_214) t (by rw [len_of Sa7 Na7]; exact k)) ?_
    refine OEnds.go (g' := (mkF m 216 #[.val (.long q0), .second, .val (.long q1), .second, .val (.long q2), .second, .val (.int p3), .val (.int (0 : Int32)), .val (.ref b2), .val (.ref r4), .val (.int (0 : Int32))] [(.int (1 : Int32)), (.int (0 : Int32))])) (fun t k => XS.iconst X4.here hx rfl (hb hby at_215) k) ?_
    refine OEnds.go (g' := (mkF m 237 #[.val (.long q0), .second, .val (.long q1), .second, .val (.long q2), .second, .val (.int p3), .val (.int (0 : Int32)), .val (.ref b2), .val (.ref r4), .val (.int (0 : Int32))] [])) (fun t k => XS.icmpYes X4.here hx rfl (pc0 := 216) (pc' := 237) rfl (hb hby at_216) rfl (flt (by decide : ¬ ((1 : Int32) < (0 : Int32)))).2.2.2 (by decide) (by decide) k) ?_
    refine OEnds.go (g' := (mkF m 239 #[.val (.long q0), .second, .val (.long q1), .second, .val (.long q2), .second, .val (.int p3), .val (.int (0 : Int32)), .val (.ref b2), .val (.ref r4), .val (.int (0 : Int32))] [(.ref r4)])) (fun t k => XS.aload X4.here hx rfl (hb hby at_237) rfl rfl k) ?_
    obtain ⟨cl8, Ar8, qa8, Sa8, Na8, Ha8, Ga8⟩ := @id _ VR4
    refine OEnds.go (g' := (mkF m 240 #[.val (.long q0), .second, .val (.long q1), .second, .val (.long q2), .second, .val (.int p3), .val (.int (0 : Int32)), .val (.ref b2), .val (.ref r4), .val (.int (0 : Int32))] [(.int (0 : Int32))])) (fun t k => X4.arraylength hx Ar8.1 (State.isArrayOf_alike hZ.alike Ar8.2.1) (g := (mkF m 239 #[.val (.long q0), .second, .val (.long q1), .second, .val (.long q2), .second, .val (.int p3), .val (.int (0 : Int32)), .val (.ref b2), .val (.ref r4), .val (.int (0 : Int32))] [(.ref r4)])) rfl rfl (hb hby at_239) t (by rw [len_of Sa8 Na8]; exact k)) ?_
    refine OEnds.go (g' := (mkF m 241 #[.val (.long q0), .second, .val (.long q1), .second, .val (.long q2), .second, .val (.int p3), .val (.int (0 : Int32)), .val (.ref b2), .val (.ref r4), .val (.int (0 : Int32))] [(.int (2 : Int32)), (.int (0 : Int32))])) (fun t k => XS.iconst X4.here hx rfl (hb hby at_240) k) ?_
    refine OEnds.go (g' := (mkF m 262 #[.val (.long q0), .second, .val (.long q1), .second, .val (.long q2), .second, .val (.int p3), .val (.int (0 : Int32)), .val (.ref b2), .val (.ref r4), .val (.int (0 : Int32))] [])) (fun t k => XS.icmpYes X4.here hx rfl (pc0 := 241) (pc' := 262) rfl (hb hby at_241) rfl (flt (by decide : ¬ ((2 : Int32) < (0 : Int32)))).2.2.2 (by decide) (by decide) k) ?_
    refine OEnds.go (g' := (mkF m 263 #[.val (.long q0), .second, .val (.long q1), .second, .val (.long q2), .second, .val (.int p3), .val (.int (0 : Int32)), .val (.ref b2), .val (.ref r4), .val (.int (0 : Int32))] [(.int (1 : Int32))])) (fun t k => XS.iconst X4.here hx rfl (hb hby at_262) k) ?_
    exact OEnds.outN X4 Bd.notSynchronized hx (t := .boolean) Bd.returns (by simp) (hb hby at_263) ⟨rfl, N4⟩ (by decide) (by decide)
  · -- (1 : Int32)
    rw [k4_1]
    refine OEnds.go (g' := (mkF m 6 #[.val (.long q0), .second, .val (.long q1), .second, .val (.long q2), .second, .val (.int p3), .val (.int (1 : Int32)), .unset, .unset, .unset] [])) (fun t k => XS.istore X0.here hx rfl (hb hby at_4) rfl (l' := #[.val (.long q0), .second, .val (.long q1), .second, .val (.long q2), .second, .val (.int p3), .val (.int (1 : Int32)), .unset, .unset, .unset]) rfl k) ?_
    obtain ⟨T9, h9, X9, e9, E9, A9, D9, -, st9⟩ := newO X0 hx hZ hown (hw _ (List.mem_of_getElem? (i := 0) rfl)) (hw _ (List.mem_of_getElem? (i := 1) rfl)) (hw _ (List.mem_of_getElem? (i := 2) rfl)) e0 (g := (mkF m 6 #[.val (.long q0), .second, .val (.long q1), .second, .val (.long q2), .second, .val (.int p3), .val (.int (1 : Int32)), .unset, .unset, .unset] [])) rfl (hb hby at_6) (by decide) (by decide)
    obtain ⟨b9, g9⟩ : ∃ z, z = h0.size := ⟨_, rfl⟩
    rw [← g9] at A9 D9 st9
    have g_b9 : n0 ≤ b9 := Nat.le_trans Z0 (Nat.le_of_eq g9.symm)
    have F_ids_b9 : Fld Z h9 b9 "com/example/slimheap/slimheap/hprof/IdMap" "ids" "[J" .null := D9 (Or.inl (hw _ (List.mem_of_getElem? (i := 11) rfl))) (ty := (.array .long)) (by decide)
    have F_values_b9 : Fld Z h9 b9 "com/example/slimheap/slimheap/hprof/IdMap" "values" "[Ljava/lang/Object;" .null := D9 (Or.inl (hw _ (List.mem_of_getElem? (i := 15) rfl))) (ty := (.array (.object "java/lang/Object"))) (by decide)
    have F_size_b9 : Fld Z h9 b9 "com/example/slimheap/slimheap/hprof/IdMap" "size" "I" (.int (0 : Int32)) := D9 (Or.inl (hw _ (List.mem_of_getElem? (i := 34) rfl))) (ty := .int) (by decide)
    refine OEnds.go (g' := (mkF m 9 #[.val (.long q0), .second, .val (.long q1), .second, .val (.long q2), .second, .val (.int p3), .val (.int (1 : Int32)), .unset, .unset, .unset] [(.ref b9)])) st9 ?_
    refine OEnds.go (g' := (mkF m 10 #[.val (.long q0), .second, .val (.long q1), .second, .val (.long q2), .second, .val (.int p3), .val (.int (1 : Int32)), .unset, .unset, .unset] [(.ref b9), (.ref b9)])) (fun t k => XS.dup X9.here hx rfl (hb hby at_9) rfl rfl k) ?_
    obtain ⟨_, _, ⟨T10, L10, k10, n10⟩, -, X10, ⟨Lc10, hQ10, l10, y10, z10⟩, st10⟩ := X9.specialBack hx (y := (⟨"com/example/slimheap/slimheap/hprof/IdMap", "<init>", "()V"⟩ : MethodName)) rfl hown (mvT hZ (hw _ (List.mem_of_getElem? (i := 3) rfl))) (mvT hZ (hw _ (List.mem_of_getElem? (i := 4) rfl))) (mvT hZ (hw _ (List.mem_of_getElem? (i := 5) rfl))) (by decide) (backOf (W := 1) (rm1 l Z a0 hw [] b9 h9 n0 (Nat.le_trans Z0 E9.1) A9 F_ids_b9 F_values_b9 F_size_b9 g_b9) hZ (hw _ (List.mem_of_getElem? (i := 5) rfl)) (hw _ (List.mem_of_getElem? (i := 2) rfl)) (by decide) (by decide)) (g := (mkF m 10 #[.val (.long q0), .second, .val (.long q1), .second, .val (.long q2), .second, .val (.int p3), .val (.int (1 : Int32)), .unset, .unset, .unset] [(.ref b9), (.ref b9)])) rfl (by rw [hml]; rfl) (Steps.refl _) (a := b9) (argsL := []) (rest := [(.ref b9)]) (lenOf pd_1 rfl) rfl (by show 2 * 0 + _ ≤ _; exact Nat.le_of_eq rfl) (hb hby at_10) (fun _ _ => ⟨rfl, e9, (by decide : 1 + 2 ≤ _), (by decide : 3 + 128 ≤ _)⟩)
    dsimp only [Pt.U, Pt.locs, Pt.cells, Pt.slots] at X10 l10 y10 z10 st10 hQ10
    subst l10 y10 z10
    obtain ⟨ia10, va10, ki10, kv10, rfl, N10q, K10q, E10q, Fi10q, Fv10q, Fs10q, AI10q, AV10q, OV10q, g_ia10, sz_ia10, g_va10, sz_va10, ne10⟩ := hQ10
    have N10 := Fr.app N0 N10q
    refine OEnds.tr (g' := (mkF m 13 #[.val (.long q0), .second, .val (.long q1), .second, .val (.long q2), .second, .val (.int p3), .val (.int (1 : Int32)), .unset, .unset, .unset] [(.ref b9)])) st10 ?_
    refine OEnds.go (g' := (mkF m 15 #[.val (.long q0), .second, .val (.long q1), .second, .val (.long q2), .second, .val (.int p3), .val (.int (1 : Int32)), .val (.ref b9), .unset, .unset] [])) (fun t k => XS.astore X10.here hx rfl (hb hby at_13) rfl rfl (l' := #[.val (.long q0), .second, .val (.long q1), .second, .val (.long q2), .second, .val (.int p3), .val (.int (1 : Int32)), .val (.ref b9), .unset, .unset]) rfl k) ?_
    refine OEnds.go (g' := (mkF m 17 #[.val (.long q0), .second, .val (.long q1), .second, .val (.long q2), .second, .val (.int p3), .val (.int (1 : Int32)), .val (.ref b9), .unset, .unset] [(.int (1 : Int32))])) (fun t k => XS.iload X10.here hx rfl (hb hby at_15) rfl k) ?_
    refine OEnds.go (g' := (mkF m 18 #[.val (.long q0), .second, .val (.long q1), .second, .val (.long q2), .second, .val (.int p3), .val (.int (1 : Int32)), .val (.ref b9), .unset, .unset] [(.int (1 : Int32)), (.int (1 : Int32))])) (fun t k => XS.iconst X10.here hx rfl (hb hby at_17) k) ?_
    refine OEnds.go (g' := (mkF m 21 #[.val (.long q0), .second, .val (.long q1), .second, .val (.long q2), .second, .val (.int p3), .val (.int (1 : Int32)), .val (.ref b9), .unset, .unset] [])) (fun t k => XS.icmpNo X10.here hx rfl (hb hby at_18) rfl (flt (by decide : ¬ ((1 : Int32) < (1 : Int32)))).1 k) ?_
    refine OEnds.go (g' := (mkF m 23 #[.val (.long q0), .second, .val (.long q1), .second, .val (.long q2), .second, .val (.int p3), .val (.int (1 : Int32)), .val (.ref b9), .unset, .unset] [(.ref b9)])) (fun t k => XS.aload X10.here hx rfl (hb hby at_21) rfl rfl k) ?_
    refine OEnds.go (g' := (mkF m 24 #[.val (.long q0), .second, .val (.long q1), .second, .val (.long q2), .second, .val (.int p3), .val (.int (1 : Int32)), .val (.ref b9), .unset, .unset] [(.long q0), (.ref b9)])) (fun t k => XS.lloadN X10.here hx rfl (hb hby at_23) rfl k) ?_
    refine OEnds.go (g' := (mkF m 25 #[.val (.long q0), .second, .val (.long q1), .second, .val (.long q2), .second, .val (.int p3), .val (.int (1 : Int32)), .val (.ref b9), .unset, .unset] [(.int (1 : Int32)), (.long q0), (.ref b9)])) (fun t k => XS.iconst X10.here hx rfl (hb hby at_24) k) ?_
    obtain ⟨_, _, ⟨T11, L11, k11, n11⟩, -, X11, ⟨Lc11, hQ11, l11, y11, z11⟩, st11⟩ := Jvm.LawKit.callS X10 hx (y := (⟨"java/lang/Integer", "valueOf", "(I)Ljava/lang/Integer;"⟩ : MethodName)) hown (mvT hZ (hw _ (List.mem_of_getElem? (i := 16) rfl))) (mvT hZ (hw _ (List.mem_of_getElem? (i := 17) rfl))) (mvT hZ (hw _ (List.mem_of_getElem? (i := 18) rfl))) (mvT hZ (hw _ (List.mem_of_getElem? (i := 19) rfl))) (by decide) (backOf (W := 3) (rmV1 l Z a0 hw [] cc kc fc y_1 T10.heap n0 (Nat.le_trans (Nat.le_trans Z0 E9.1) K10q.1) (own_sta_keep (SH.ext E9) K10q (allS (own_plE A9) all0)) (own_sta_keep (SC.ext E9) K10q (allS (own_plE A9) all0)) ((AC.ext E9).keep K10q (ninS (Nat.ne_of_lt (Nat.lt_of_lt_of_le AC.lt (Nat.le_of_eq g9.symm))) nin0)) hy1) hZ (hw _ (List.mem_of_getElem? (i := 19) rfl)) (hw _ (List.mem_of_getElem? (i := 18) rfl)) (by decide) (by decide)) (g := (mkF m 25 #[.val (.long q0), .second, .val (.long q1), .second, .val (.long q2), .second, .val (.int p3), .val (.int (1 : Int32)), .val (.ref b9), .unset, .unset] [(.int (1 : Int32)), (.long q0), (.ref b9)])) rfl (by rw [hml]; rfl) (argsL := [(.int (1 : Int32))]) (rest := [(.long q0), (.ref b9)]) (lenOf pd_3 rfl) rfl (by show 2 * 0 + _ ≤ _; exact Nat.le_of_eq rfl) (hb hby at_25) (fun _ _ => ⟨rfl, rfl, (by decide : 3 + 0 ≤ _), (by decide : 131 + 0 ≤ _)⟩)
    dsimp only [Pt.U, Pt.locs, Pt.cells, Pt.slots] at X11 l11 y11 z11 st11 hQ11
    subst l11 y11 z11
    obtain ⟨rfl, N11q, e11⟩ := hQ11
    have N11 := Fr.app N10 N11q
    refine OEnds.go (g' := (mkF m 28 #[.val (.long q0), .second, .val (.long q1), .second, .val (.long q2), .second, .val (.int p3), .val (.int (1 : Int32)), .val (.ref b9), .unset, .unset] [(.ref y_1), (.long q0), (.ref b9)])) st11 ?_
    obtain ⟨cq12, kq12, q12a, q12b, q12c⟩ := isOf hZ e11 E10q
    obtain ⟨_, _, ⟨T12, L12, k12, n12⟩, -, X12, ⟨Lc12, hQ12, l12, y12, z12⟩, st12⟩ := X11.virtualBack hx (y := (⟨"com/example/slimheap/slimheap/hprof/IdMap", "put", "(JLjava/lang/Object;)V"⟩ : MethodName)) (z := (⟨"com/example/slimheap/slimheap/hprof/IdMap", "put", "(JLjava/lang/Object;)V"⟩ : MethodName)) hown (mvT hZ (hw _ (List.mem_of_getElem? (i := 23) rfl))) (mvT hZ (hw _ (List.mem_of_getElem? (i := 24) rfl))) (notFace_of_selects (args := #[]) (mvT hZ (hw _ (List.mem_of_getElem? (i := 26) rfl)))) (mvT hZ (hw _ (List.mem_of_getElem? (i := 26) rfl))) (mvT hZ (hw _ (List.mem_of_getElem? (i := 25) rfl))) (by decide) (backOf (W := 0) (rmP0 l Z a0 hw [] b9 q0 y_1 ia10 va10 ki10 kv10 (fun _ => .null) (fun _ => (0 : Int64)) T10.heap n0 (Nat.le_trans (Nat.le_trans Z0 E9.1) K10q.1) E10q Fi10q Fv10q AI10q AV10q (own_3 q0 own_Inv0 (Nat.le_of_ble_eq_true rfl)) Fs10q OV10q ((EY1.ext E9).keep K10q) g_b9 g_ia10 g_va10 (Nat.ne_of_lt (Nat.lt_of_lt_of_le A9.lt sz_ia10)) (Nat.ne_of_lt (Nat.lt_of_lt_of_le A9.lt sz_va10)) ne10) hZ (hw _ (List.mem_of_getElem? (i := 27) rfl)) (hw _ (List.mem_of_getElem? (i := 2) rfl)) (by decide) (by decide)) q12a q12c (g := (mkF m 28 #[.val (.long q0), .second, .val (.long q1), .second, .val (.long q2), .second, .val (.int p3), .val (.int (1 : Int32)), .val (.ref b9), .unset, .unset] [(.ref y_1), (.long q0), (.ref b9)])) rfl (by rw [hml]; rfl) (Steps.refl _) (argsL := [(.long q0), (.ref y_1)]) (rest := []) (lenOf pd_4 rfl) rfl (by show 2 * 0 + _ ≤ _; exact Nat.le_of_eq rfl) (hb hby at_28) (fun _ _ => ⟨rfl, e11, (by decide : 3 + 0 ≤ _), (by decide : 131 + 0 ≤ _)⟩)
    dsimp only [Pt.U, Pt.locs, Pt.cells, Pt.slots] at X12 l12 y12 z12 st12 hQ12
    subst l12 y12 z12
    obtain ⟨rfl, N12q, K12q, E12q, Fi12q, Fv12q, j12, Fd12, AV12q, hO12⟩ := hQ12
    have N12 := Fr.app N11 N12q
    refine OEnds.tr (g' := (mkF m 31 #[.val (.long q0), .second, .val (.long q1), .second, .val (.long q2), .second, .val (.int p3), .val (.int (1 : Int32)), .val (.ref b9), .unset, .unset] [])) st12 ?_
    rcases hO12 with ⟨hn12, Fs12q, AI12q⟩ | ⟨hn12, Fs12q, AI12q⟩
    · -- new
      obtain ⟨nx12, I12⟩ := own_ins (y := y_1) own_Inv0 Fd12 hn12
      refine OEnds.go (g' := (mkF m 33 #[.val (.long q0), .second, .val (.long q1), .second, .val (.long q2), .second, .val (.int p3), .val (.int (1 : Int32)), .val (.ref b9), .unset, .unset] [(.int (1 : Int32))])) (fun t k => XS.iload X12.here hx rfl (hb hby at_31) rfl k) ?_
      refine OEnds.go (g' := (mkF m 34 #[.val (.long q0), .second, .val (.long q1), .second, .val (.long q2), .second, .val (.int p3), .val (.int (1 : Int32)), .val (.ref b9), .unset, .unset] [(.int (2 : Int32)), (.int (1 : Int32))])) (fun t k => XS.iconst X12.here hx rfl (hb hby at_33) k) ?_
      refine OEnds.go (g' := (mkF m 47 #[.val (.long q0), .second, .val (.long q1), .second, .val (.long q2), .second, .val (.int p3), .val (.int (1 : Int32)), .val (.ref b9), .unset, .unset] [])) (fun t k => XS.icmpYes X12.here hx rfl (pc0 := 34) (pc' := 47) rfl (hb hby at_34) rfl (tlt (by decide : ((1 : Int32) < (2 : Int32)))).1 (by decide) (by decide) k) ?_
      refine OEnds.go (g' := (mkF m 49 #[.val (.long q0), .second, .val (.long q1), .second, .val (.long q2), .second, .val (.int p3), .val (.int (1 : Int32)), .val (.ref b9), .unset, .unset] [(.int (1 : Int32))])) (fun t k => XS.iload X12.here hx rfl (hb hby at_47) rfl k) ?_
      refine OEnds.go (g' := (mkF m 50 #[.val (.long q0), .second, .val (.long q1), .second, .val (.long q2), .second, .val (.int p3), .val (.int (1 : Int32)), .val (.ref b9), .unset, .unset] [(.int (3 : Int32)), (.int (1 : Int32))])) (fun t k => XS.iconst X12.here hx rfl (hb hby at_49) k) ?_
      refine OEnds.go (g' := (mkF m 64 #[.val (.long q0), .second, .val (.long q1), .second, .val (.long q2), .second, .val (.int p3), .val (.int (1 : Int32)), .val (.ref b9), .unset, .unset] [])) (fun t k => XS.icmpYes X12.here hx rfl (pc0 := 50) (pc' := 64) rfl (hb hby at_50) rfl (tlt (by decide : ((1 : Int32) < (3 : Int32)))).1 (by decide) (by decide) k) ?_
      refine OEnds.go (g' := (mkF m 66 #[.val (.long q0), .second, .val (.long q1), .second, .val (.long q2), .second, .val (.int p3), .val (.int (1 : Int32)), .val (.ref b9), .unset, .unset] [(.ref b9)])) (fun t k => XS.aload X12.here hx rfl (hb hby at_64) rfl rfl k) ?_
      obtain ⟨cq13, kq13, q13a, q13b, q13c⟩ := isOf hZ rfl E12q
      obtain ⟨_, _, ⟨T13, L13, k13, n13⟩, -, X13, ⟨Lc13, hQ13, l13, y13, z13⟩, st13⟩ := X12.virtualBack hx (y := (⟨"com/example/slimheap/slimheap/hprof/IdMap", "ids", "()[J"⟩ : MethodName)) (z := (⟨"com/example/slimheap/slimheap/hprof/IdMap", "ids", "()[J"⟩ : MethodName)) hown (mvT hZ (hw _ (List.mem_of_getElem? (i := 36) rfl))) (mvT hZ (hw _ (List.mem_of_getElem? (i := 37) rfl))) (notFace_of_selects (args := #[]) (mvT hZ (hw _ (List.mem_of_getElem? (i := 39) rfl)))) (mvT hZ (hw _ (List.mem_of_getElem? (i := 39) rfl))) (mvT hZ (hw _ (List.mem_of_getElem? (i := 38) rfl))) (by decide) (backOf (W := 0) (rmD1 l Z a0 hw [] b9 ia10 va10 ki10 kv10 (own_u (fun _ => .null) j12 (.ref y_1)) (own_u (fun _ => (0 : Int64)) j12 q0) T12.heap n0 (Nat.le_trans (Nat.le_trans (Nat.le_trans Z0 E9.1) K10q.1) K12q.1) Fi12q Fv12q AI12q AV12q Fs12q (own_perm I12).length_eq) hZ (hw _ (List.mem_of_getElem? (i := 40) rfl)) (hw _ (List.mem_of_getElem? (i := 2) rfl)) (by decide) (by decide)) q13a q13c (g := (mkF m 66 #[.val (.long q0), .second, .val (.long q1), .second, .val (.long q2), .second, .val (.int p3), .val (.int (1 : Int32)), .val (.ref b9), .unset, .unset] [(.ref b9)])) rfl (by rw [hml]; rfl) (Steps.refl _) (argsL := []) (rest := []) (lenOf pd_2 rfl) rfl (by show 2 * 0 + _ ≤ _; exact Nat.le_of_eq rfl) (hb hby at_66) (fun _ _ => ⟨rfl, rfl, (by decide : 3 + 1 ≤ _), (by decide : 131 + 1 ≤ _)⟩)
      dsimp only [Pt.U, Pt.locs, Pt.cells, Pt.slots] at X13 l13 y13 z13 st13 hQ13
      subst l13 y13 z13
      obtain ⟨r13, kr13, rr13, rfl, N13q, K13q, AR13, hP13, g_r13⟩ := hQ13
      have N13 := Fr.app N12 N13q
      have VR13 : Arv Z T13.heap r13 kr13 .long (1 : Int32) [(.long (rr13 (0 : Int32)))] (.long (0 : Int64)) := own_Av.arv (n := 1) AR13 (by decide)
      have pm13 : ([(rr13 (0 : Int32))] : List Int64).Perm [q0] := by have t := own_perm I12; have u := own_lits hP13 (own_perm I12).length_eq; rw [u] at t; exact t
      refine OEnds.tr (g' := (mkF m 69 #[.val (.long q0), .second, .val (.long q1), .second, .val (.long q2), .second, .val (.int p3), .val (.int (1 : Int32)), .val (.ref b9), .unset, .unset] [(.ref r13)])) st13 ?_
      refine OEnds.go (g' := (mkF m 71 #[.val (.long q0), .second, .val (.long q1), .second, .val (.long q2), .second, .val (.int p3), .val (.int (1 : Int32)), .val (.ref b9), .val (.ref r13), .unset] [])) (fun t k => XS.astore X13.here hx rfl (hb hby at_69) rfl rfl (l' := #[.val (.long q0), .second, .val (.long q1), .second, .val (.long q2), .second, .val (.int p3), .val (.int (1 : Int32)), .val (.ref b9), .val (.ref r13), .unset]) rfl k) ?_
      refine OEnds.go (g' := (mkF m 72 #[.val (.long q0), .second, .val (.long q1), .second, .val (.long q2), .second, .val (.int p3), .val (.int (1 : Int32)), .val (.ref b9), .val (.ref r13), .unset] [(.int (0 : Int32))])) (fun t k => XS.iconst X13.here hx rfl (hb hby at_71) k) ?_
      refine OEnds.go (g' := (mkF m 74 #[.val (.long q0), .second, .val (.long q1), .second, .val (.long q2), .second, .val (.int p3), .val (.int (1 : Int32)), .val (.ref b9), .val (.ref r13), .val (.int (0 : Int32))] [])) (fun t k => XS.istore X13.here hx rfl (hb hby at_72) rfl (l' := #[.val (.long q0), .second, .val (.long q1), .second, .val (.long q2), .second, .val (.int p3), .val (.int (1 : Int32)), .val (.ref b9), .val (.ref r13), .val (.int (0 : Int32))]) rfl k) ?_
      refine OEnds.go (g' := (mkF m 76 #[.val (.long q0), .second, .val (.long q1), .second, .val (.long q2), .second, .val (.int p3), .val (.int (1 : Int32)), .val (.ref b9), .val (.ref r13), .val (.int (0 : Int32))] [(.int (1 : Int32))])) (fun t k => XS.iload X13.here hx rfl (hb hby at_74) rfl k) ?_
      refine OEnds.go (g' := (mkF m 77 #[.val (.long q0), .second, .val (.long q1), .second, .val (.long q2), .second, .val (.int p3), .val (.int (1 : Int32)), .val (.ref b9), .val (.ref r13), .val (.int (0 : Int32))] [(.int (1 : Int32)), (.int (1 : Int32))])) (fun t k => XS.iconst X13.here hx rfl (hb hby at_76) k) ?_
      refine OEnds.go (g' := (mkF m 80 #[.val (.long q0), .second, .val (.long q1), .second, .val (.long q2), .second, .val (.int p3), .val (.int (1 : Int32)), .val (.ref b9), .val (.ref r13), .val (.int (0 : Int32))] [])) (fun t k => XS.icmpNo X13.here hx rfl (hb hby at_77) rfl (flt (by decide : ¬ ((1 : Int32) < (1 : Int32)))).1 k) ?_
      refine OEnds.go (g' := (mkF m 83 #[.val (.long q0), .second, .val (.long q1), .second, .val (.long q2), .second, .val (.int p3), .val (.int (1 : Int32)), .val (.ref b9), .val (.ref r13), .val (.int ((0 : Int32) + (1 : Int32)))] [])) (fun t k => XS.iinc X13.here hx rfl (hb hby at_80) rfl (l' := #[.val (.long q0), .second, .val (.long q1), .second, .val (.long q2), .second, .val (.int p3), .val (.int (1 : Int32)), .val (.ref b9), .val (.ref r13), .val (.int ((0 : Int32) + (1 : Int32)))]) rfl k) ?_
      rw [show ((0 : Int32) + (1 : Int32)) = (1 : Int32) from by decide]
      refine OEnds.go (g' := (mkF m 85 #[.val (.long q0), .second, .val (.long q1), .second, .val (.long q2), .second, .val (.int p3), .val (.int (1 : Int32)), .val (.ref b9), .val (.ref r13), .val (.int (1 : Int32))] [(.int (1 : Int32))])) (fun t k => XS.iload X13.here hx rfl (hb hby at_83) rfl k) ?_
      refine OEnds.go (g' := (mkF m 86 #[.val (.long q0), .second, .val (.long q1), .second, .val (.long q2), .second, .val (.int p3), .val (.int (1 : Int32)), .val (.ref b9), .val (.ref r13), .val (.int (1 : Int32))] [(.int (2 : Int32)), (.int (1 : Int32))])) (fun t k => XS.iconst X13.here hx rfl (hb hby at_85) k) ?_
      refine OEnds.go (g' := (mkF m 98 #[.val (.long q0), .second, .val (.long q1), .second, .val (.long q2), .second, .val (.int p3), .val (.int (1 : Int32)), .val (.ref b9), .val (.ref r13), .val (.int (1 : Int32))] [])) (fun t k => XS.icmpYes X13.here hx rfl (pc0 := 86) (pc' := 98) rfl (hb hby at_86) rfl (tlt (by decide : ((1 : Int32) < (2 : Int32)))).1 (by decide) (by decide) k) ?_
      refine OEnds.go (g' := (mkF m 100 #[.val (.long q0), .second, .val (.long q1), .second, .val (.long q2), .second, .val (.int p3), .val (.int (1 : Int32)), .val (.ref b9), .val (.ref r13), .val (.int (1 : Int32))] [(.int (1 : Int32))])) (fun t k => XS.iload X13.here hx rfl (hb hby at_98) rfl k) ?_
      refine OEnds.go (g' := (mkF m 101 #[.val (.long q0), .second, .val (.long q1), .second, .val (.long q2), .second, .val (.int p3), .val (.int (1 : Int32)), .val (.ref b9), .val (.ref r13), .val (.int (1 : Int32))] [(.int (3 : Int32)), (.int (1 : Int32))])) (fun t k => XS.iconst X13.here hx rfl (hb hby at_100) k) ?_
      refine OEnds.go (g' := (mkF m 121 #[.val (.long q0), .second, .val (.long q1), .second, .val (.long q2), .second, .val (.int p3), .val (.int (1 : Int32)), .val (.ref b9), .val (.ref r13), .val (.int (1 : Int32))] [])) (fun t k => XS.icmpYes X13.here hx rfl (pc0 := 101) (pc' := 121) rfl (hb hby at_101) rfl (tlt (by decide : ((1 : Int32) < (3 : Int32)))).1 (by decide) (by decide) k) ?_
      refine OEnds.go (g' := (mkF m 123 #[.val (.long q0), .second, .val (.long q1), .second, .val (.long q2), .second, .val (.int p3), .val (.int (1 : Int32)), .val (.ref b9), .val (.ref r13), .val (.int (1 : Int32))] [(.ref r13)])) (fun t k => XS.aload X13.here hx rfl (hb hby at_121) rfl rfl k) ?_
      refine OEnds.go (g' := (mkF m 126 #[.val (.long q0), .second, .val (.long q1), .second, .val (.long q2), .second, .val (.int p3), .val (.int (1 : Int32)), .val (.ref b9), .val (.ref r13), .val (.int (1 : Int32))] [])) (fun t k => XS.ifnullNo X13.here hx rfl (hb hby at_123) rfl k) ?_
      refine OEnds.go (g' := (mkF m 128 #[.val (.long q0), .second, .val (.long q1), .second, .val (.long q2), .second, .val (.int p3), .val (.int (1 : Int32)), .val (.ref b9), .val (.ref r13), .val (.int (1 : Int32))] [(.ref r13)])) (fun t k => XS.aload X13.here hx rfl (hb hby at_126) rfl rfl k) ?_
      obtain ⟨cl14, Ar14, qa14, Sa14, Na14, Ha14, Ga14⟩ := @id _ VR13
      refine OEnds.go (g' := (mkF m 129 #[.val (.long q0), .second, .val (.long q1), .second, .val (.long q2), .second, .val (.int p3), .val (.int (1 : Int32)), .val (.ref b9), .val (.ref r13), .val (.int (1 : Int32))] [(.int (1 : Int32))])) (fun t k => X13.arraylength hx Ar14.1 (State.isArrayOf_alike hZ.alike Ar14.2.1) (g := (mkF m 128 #[.val (.long q0), .second, .val (.long q1), .second, .val (.long q2), .second, .val (.int p3), .val (.int (1 : Int32)), .val (.ref b9), .val (.ref r13), .val (.int (1 : Int32))] [(.ref r13)])) rfl rfl (hb hby at_128) t (by rw [len_of Sa14 Na14]; exact k)) ?_
      refine OEnds.go (g' := (mkF m 131 #[.val (.long q0), .second, .val (.long q1), .second, .val (.long q2), .second, .val (.int p3), .val (.int (1 : Int32)), .val (.ref b9), .val (.ref r13), .val (.int (1 : Int32))] [(.int (1 : Int32)), (.int (1 : Int32))])) (fun t k => XS.iload X13.here hx rfl (hb hby at_129) rfl k) ?_
      refine OEnds.go (g' := (mkF m 136 #[.val (.long q0), .second, .val (.long q1), .second, .val (.long q2), .second, .val (.int p3), .val (.int (1 : Int32)), .val (.ref b9), .val (.ref r13), .val (.int (1 : Int32))] [])) (fun t k => XS.icmpYes X13.here hx rfl (pc0 := 131) (pc' := 136) rfl (hb hby at_131) rfl (teq (by decide : ((1 : Int32) = (1 : Int32)))).1 (by decide) (by decide) k) ?_
      refine OEnds.go (g' := (mkF m 138 #[.val (.long q0), .second, .val (.long q1), .second, .val (.long q2), .second, .val (.int p3), .val (.int (1 : Int32)), .val (.ref b9), .val (.ref r13), .val (.int (1 : Int32))] [(.int (1 : Int32))])) (fun t k => XS.iload X13.here hx rfl (hb hby at_136) rfl k) ?_
      refine OEnds.go (g' := (mkF m 139 #[.val (.long q0), .second, .val (.long q1), .second, .val (.long q2), .second, .val (.int p3), .val (.int (1 : Int32)), .val (.ref b9), .val (.ref r13), .val (.int (1 : Int32))] [(.int (1 : Int32)), (.int (1 : Int32))])) (fun t k => XS.iconst X13.here hx rfl (hb hby at_138) k) ?_
      refine OEnds.go (g' := (mkF m 142 #[.val (.long q0), .second, .val (.long q1), .second, .val (.long q2), .second, .val (.int p3), .val (.int (1 : Int32)), .val (.ref b9), .val (.ref r13), .val (.int (1 : Int32))] [])) (fun t k => XS.icmpNo X13.here hx rfl (hb hby at_139) rfl (flt (by decide : ¬ ((1 : Int32) < (1 : Int32)))).1 k) ?_
      refine OEnds.go (g' := (mkF m 144 #[.val (.long q0), .second, .val (.long q1), .second, .val (.long q2), .second, .val (.int p3), .val (.int (1 : Int32)), .val (.ref b9), .val (.ref r13), .val (.int (1 : Int32))] [(.ref r13)])) (fun t k => XS.aload X13.here hx rfl (hb hby at_142) rfl rfl k) ?_
      refine OEnds.go (g' := (mkF m 145 #[.val (.long q0), .second, .val (.long q1), .second, .val (.long q2), .second, .val (.int p3), .val (.int (1 : Int32)), .val (.ref b9), .val (.ref r13), .val (.int (1 : Int32))] [(.long q0), (.ref r13)])) (fun t k => XS.lloadN X13.here hx rfl (hb hby at_144) rfl k) ?_
      obtain ⟨_, _, ⟨T15, L15, k15, n15⟩, -, X15, ⟨Lc15, hQ15, l15, y15, z15⟩, st15⟩ := Jvm.LawKit.callS X13 hx (y := (⟨"com/example/slimheap/slimheap/hprof/IdMapIdsPinLaw", "has", "([JJ)Z"⟩ : MethodName)) hown (mvT hZ (hw _ (List.mem_of_getElem? (i := 41) rfl))) (mvT hZ (hw _ (List.mem_of_getElem? (i := 42) rfl))) (mvT hZ (hw _ (List.mem_of_getElem? (i := 43) rfl))) (mvT hZ (hw _ (List.mem_of_getElem? (i := 44) rfl))) (by decide) (backOf (W := 0) (rmH1 l Z a0 hw [] r13 q0 kr13 (rr13 (0 : Int32)) T13.heap n0 (Nat.le_trans (Nat.le_trans (Nat.le_trans (Nat.le_trans Z0 E9.1) K10q.1) K12q.1) K13q.1) VR13) hZ (hw _ (List.mem_of_getElem? (i := 44) rfl)) (hw _ (List.mem_of_getElem? (i := 43) rfl)) (by decide) (by decide)) (g := (mkF m 145 #[.val (.long q0), .second, .val (.long q1), .second, .val (.long q2), .second, .val (.int p3), .val (.int (1 : Int32)), .val (.ref b9), .val (.ref r13), .val (.int (1 : Int32))] [(.long q0), (.ref r13)])) rfl (by rw [hml]; rfl) (argsL := [(.ref r13), (.long q0)]) (rest := []) (lenOf pd_5 rfl) rfl (by show 2 * 0 + _ ≤ _; exact Nat.le_of_eq rfl) (hb hby at_145) (fun _ _ => ⟨rfl, rfl, (by decide : 4 + 0 ≤ _), (by decide : 132 + 0 ≤ _)⟩)
      dsimp only [Pt.U, Pt.locs, Pt.cells, Pt.slots] at X15 l15 y15 z15 st15 hQ15
      subst l15 y15 z15
      obtain ⟨rfl, N15q, e15⟩ := hQ15
      have N15 := Fr.app N13 N15q
      refine OEnds.go (g' := (mkF m 148 #[.val (.long q0), .second, .val (.long q1), .second, .val (.long q2), .second, .val (.int p3), .val (.int (1 : Int32)), .val (.ref b9), .val (.ref r13), .val (.int (1 : Int32))] [(.int (fH1 q0 (rr13 (0 : Int32))))])) st15 ?_
      refine OEnds.go (g' := (mkF m 153 #[.val (.long q0), .second, .val (.long q1), .second, .val (.long q2), .second, .val (.int p3), .val (.int (1 : Int32)), .val (.ref b9), .val (.ref r13), .val (.int (1 : Int32))] [])) (fun t k => XS.ifYes X15.here hx rfl (pc0 := 148) (pc' := 153) rfl (hb hby at_148) rfl ((if0 _ _).trans (feq (own_has1 _ _ (pm13.mem_iff.mpr (by simp)) : ¬ ((fH1 q0 (rr13 (0 : Int32))) = (0 : Int32)))).2) (by decide) (by decide) k) ?_
      refine OEnds.go (g' := (mkF m 155 #[.val (.long q0), .second, .val (.long q1), .second, .val (.long q2), .second, .val (.int p3), .val (.int (1 : Int32)), .val (.ref b9), .val (.ref r13), .val (.int (1 : Int32))] [(.int (1 : Int32))])) (fun t k => XS.iload X15.here hx rfl (hb hby at_153) rfl k) ?_
      refine OEnds.go (g' := (mkF m 156 #[.val (.long q0), .second, .val (.long q1), .second, .val (.long q2), .second, .val (.int p3), .val (.int (1 : Int32)), .val (.ref b9), .val (.ref r13), .val (.int (1 : Int32))] [(.int (2 : Int32)), (.int (1 : Int32))])) (fun t k => XS.iconst X15.here hx rfl (hb hby at_155) k) ?_
      refine OEnds.go (g' := (mkF m 170 #[.val (.long q0), .second, .val (.long q1), .second, .val (.long q2), .second, .val (.int p3), .val (.int (1 : Int32)), .val (.ref b9), .val (.ref r13), .val (.int (1 : Int32))] [])) (fun t k => XS.icmpYes X15.here hx rfl (pc0 := 156) (pc' := 170) rfl (hb hby at_156) rfl (tlt (by decide : ((1 : Int32) < (2 : Int32)))).1 (by decide) (by decide) k) ?_
      refine OEnds.go (g' := (mkF m 172 #[.val (.long q0), .second, .val (.long q1), .second, .val (.long q2), .second, .val (.int p3), .val (.int (1 : Int32)), .val (.ref b9), .val (.ref r13), .val (.int (1 : Int32))] [(.int (1 : Int32))])) (fun t k => XS.iload X15.here hx rfl (hb hby at_170) rfl k) ?_
      refine OEnds.go (g' := (mkF m 173 #[.val (.long q0), .second, .val (.long q1), .second, .val (.long q2), .second, .val (.int p3), .val (.int (1 : Int32)), .val (.ref b9), .val (.ref r13), .val (.int (1 : Int32))] [(.int (3 : Int32)), (.int (1 : Int32))])) (fun t k => XS.iconst X15.here hx rfl (hb hby at_172) k) ?_
      refine OEnds.go (g' := (mkF m 188 #[.val (.long q0), .second, .val (.long q1), .second, .val (.long q2), .second, .val (.int p3), .val (.int (1 : Int32)), .val (.ref b9), .val (.ref r13), .val (.int (1 : Int32))] [])) (fun t k => XS.icmpYes X15.here hx rfl (pc0 := 173) (pc' := 188) rfl (hb hby at_173) rfl (tlt (by decide : ((1 : Int32) < (3 : Int32)))).1 (by decide) (by decide) k) ?_
      refine OEnds.go (g' := (mkF m 190 #[.val (.long q0), .second, .val (.long q1), .second, .val (.long q2), .second, .val (.int p3), .val (.int (1 : Int32)), .val (.ref b9), .val (.ref r13), .val (.int (1 : Int32))] [(.ref r13)])) (fun t k => XS.aload X15.here hx rfl (hb hby at_188) rfl rfl k) ?_
      obtain ⟨cl16, Ar16, qa16, Sa16, Na16, Ha16, Ga16⟩ := @id _ VR13
      refine OEnds.go (g' := (mkF m 191 #[.val (.long q0), .second, .val (.long q1), .second, .val (.long q2), .second, .val (.int p3), .val (.int (1 : Int32)), .val (.ref b9), .val (.ref r13), .val (.int (1 : Int32))] [(.int (1 : Int32))])) (fun t k => X15.arraylength hx (by rw [e15]; exact Ar16.1) (State.isArrayOf_alike hZ.alike Ar16.2.1) (g := (mkF m 190 #[.val (.long q0), .second, .val (.long q1), .second, .val (.long q2), .second, .val (.int p3), .val (.int (1 : Int32)), .val (.ref b9), .val (.ref r13), .val (.int (1 : Int32))] [(.ref r13)])) rfl rfl (hb hby at_190) t (by rw [len_of Sa16 Na16]; exact k)) ?_
      refine OEnds.go (g' := (mkF m 194 #[.val (.long q0), .second, .val (.long q1), .second, .val (.long q2), .second, .val (.int p3), .val (.int (1 : Int32)), .val (.ref b9), .val (.ref r13), .val (.int (1 : Int32))] [])) (fun t k => XS.ifNo X15.here hx rfl (hb hby at_191) rfl ((if0 _ _).trans (tlt (by decide : ((0 : Int32) < (1 : Int32)))).2.2.2) k) ?_
      refine OEnds.go (g' := (mkF m 196 #[.val (.long q0), .second, .val (.long q1), .second, .val (.long q2), .second, .val (.int p3), .val (.int (1 : Int32)), .val (.ref b9), .val (.ref r13), .val (.int (1 : Int32))] [(.ref r13)])) (fun t k => XS.aload X15.here hx rfl (hb hby at_194) rfl rfl k) ?_
      refine OEnds.go (g' := (mkF m 197 #[.val (.long q0), .second, .val (.long q1), .second, .val (.long q2), .second, .val (.int p3), .val (.int (1 : Int32)), .val (.ref b9), .val (.ref r13), .val (.int (1 : Int32))] [(.int (0 : Int32)), (.ref r13)])) (fun t k => XS.iconst X15.here hx rfl (hb hby at_196) k) ?_
      obtain ⟨cl17, Ar17, qa17, Sa17, Na17, Ha17, Ga17⟩ := @id _ VR13
      have hin17 : ¬ ((0 : Int32) < 0 ∨ cl17.slots.size ≤ ((0 : Int32)).toNatClampNeg) := inb_of Sa17 ⟨by decide, by decide⟩
      have hat17 : cl17.slots[((0 : Int32)).toNatClampNeg]? = some (.long (rr13 (0 : Int32))) := Has.at Ha17 hin17 rfl
      refine OEnds.go (g' := (mkF m 198 #[.val (.long q0), .second, .val (.long q1), .second, .val (.long q2), .second, .val (.int p3), .val (.int (1 : Int32)), .val (.ref b9), .val (.ref r13), .val (.int (1 : Int32))] [(.long (rr13 (0 : Int32)))])) (X15.laload hx (j := (0 : Int32)) (v := (.long (rr13 (0 : Int32)))) (by rw [e15]; exact Ar17.1) (State.isArrayOf_alike hZ.alike Ar17.2.1) Ar17.2.2 hin17 hat17 (g := (mkF m 197 #[.val (.long q0), .second, .val (.long q1), .second, .val (.long q2), .second, .val (.int p3), .val (.int (1 : Int32)), .val (.ref b9), .val (.ref r13), .val (.int (1 : Int32))] [(.int (0 : Int32)), (.ref r13)])) rfl rfl (hb hby at_197)) ?_
      refine OEnds.go (g' := (mkF m 200 #[.val (.long q0), .second, .val (.long q1), .second, .val (.long q2), .second, .val (.int p3), .val (.int (1 : Int32)), .val (.ref b9), .val (.ref r13), .val (.int (1 : Int32))] [(.int (1 : Int32)), (.long (rr13 (0 : Int32)))])) (fun t k => XS.iload X15.here hx rfl (hb hby at_198) rfl k) ?_
      refine OEnds.go (g' := (mkF m 201 #[.val (.long q0), .second, .val (.long q1), .second, .val (.long q2), .second, .val (.int p3), .val (.int (1 : Int32)), .val (.ref b9), .val (.ref r13), .val (.int (1 : Int32))] [(.long q0), (.int (1 : Int32)), (.long (rr13 (0 : Int32)))])) (fun t k => XS.lloadN X15.here hx rfl (hb hby at_200) rfl k) ?_
      refine OEnds.go (g' := (mkF m 202 #[.val (.long q0), .second, .val (.long q1), .second, .val (.long q2), .second, .val (.int p3), .val (.int (1 : Int32)), .val (.ref b9), .val (.ref r13), .val (.int (1 : Int32))] [(.long q1), (.long q0), (.int (1 : Int32)), (.long (rr13 (0 : Int32)))])) (fun t k => XS.lloadN X15.here hx rfl (hb hby at_201) rfl k) ?_
      refine OEnds.go (g' := (mkF m 204 #[.val (.long q0), .second, .val (.long q1), .second, .val (.long q2), .second, .val (.int p3), .val (.int (1 : Int32)), .val (.ref b9), .val (.ref r13), .val (.int (1 : Int32))] [(.long q2), (.long q1), (.long q0), (.int (1 : Int32)), (.long (rr13 (0 : Int32)))])) (fun t k => XS.lload X15.here hx rfl (hb hby at_202) rfl k) ?_
      obtain ⟨_, _, ⟨T18, L18, k18, n18⟩, -, X18, ⟨Lc18, hQ18, l18, y18, z18⟩, st18⟩ := Jvm.LawKit.callS X15 hx (y := (⟨"com/example/slimheap/slimheap/hprof/IdMapIdsPinLaw", "inSet", "(JIJJJ)Z"⟩ : MethodName)) hown (mvT hZ (hw _ (List.mem_of_getElem? (i := 45) rfl))) (mvT hZ (hw _ (List.mem_of_getElem? (i := 46) rfl))) (mvT hZ (hw _ (List.mem_of_getElem? (i := 43) rfl))) (mvT hZ (hw _ (List.mem_of_getElem? (i := 47) rfl))) (by decide) (backOf (W := 0) (rm8 l Z a0 hw [] (rr13 (0 : Int32)) (1 : Int32) q0 q1 q2 T13.heap n0 (Nat.le_trans (Nat.le_trans (Nat.le_trans (Nat.le_trans Z0 E9.1) K10q.1) K12q.1) K13q.1)) hZ (hw _ (List.mem_of_getElem? (i := 47) rfl)) (hw _ (List.mem_of_getElem? (i := 43) rfl)) (by decide) (by decide)) (g := (mkF m 204 #[.val (.long q0), .second, .val (.long q1), .second, .val (.long q2), .second, .val (.int p3), .val (.int (1 : Int32)), .val (.ref b9), .val (.ref r13), .val (.int (1 : Int32))] [(.long q2), (.long q1), (.long q0), (.int (1 : Int32)), (.long (rr13 (0 : Int32)))])) rfl (by rw [hml]; rfl) (argsL := [(.long (rr13 (0 : Int32))), (.int (1 : Int32)), (.long q0), (.long q1), (.long q2)]) (rest := []) (lenOf pd_6 rfl) rfl (by show 2 * 0 + _ ≤ _; exact Nat.le_of_eq rfl) (hb hby at_204) (fun _ _ => ⟨rfl, e15, (by decide : 4 + 0 ≤ _), (by decide : 132 + 0 ≤ _)⟩)
      dsimp only [Pt.U, Pt.locs, Pt.cells, Pt.slots] at X18 l18 y18 z18 st18 hQ18
      subst l18 y18 z18
      obtain ⟨rfl, N18q, e18⟩ := hQ18
      have N18 := Fr.app N15 N18q
      refine OEnds.go (g' := (mkF m 207 #[.val (.long q0), .second, .val (.long q1), .second, .val (.long q2), .second, .val (.int p3), .val (.int (1 : Int32)), .val (.ref b9), .val (.ref r13), .val (.int (1 : Int32))] [(.int (f8 (rr13 (0 : Int32)) (1 : Int32) q0 q1 q2))])) st18 ?_
      refine OEnds.go (g' := (mkF m 212 #[.val (.long q0), .second, .val (.long q1), .second, .val (.long q2), .second, .val (.int p3), .val (.int (1 : Int32)), .val (.ref b9), .val (.ref r13), .val (.int (1 : Int32))] [])) (fun t k => XS.ifYes X18.here hx rfl (pc0 := 207) (pc' := 212) rfl (hb hby at_207) rfl ((if0 _ _).trans (feq (own_set1 _ _ _ _ (by have t := pm13.mem_iff.mp (show (rr13 (0 : Int32)) ∈ ([(rr13 (0 : Int32))] : List Int64) from by simp); simp only [List.mem_cons, List.not_mem_nil, or_false] at t; first | (rcases t with t | t | t <;> simp [t]; done) | (rcases t with t | t <;> simp [t]; done) | (simp [t]; done)) : ¬ ((f8 (rr13 (0 : Int32)) (1 : Int32) q0 q1 q2) = (0 : Int32)))).2) (by decide) (by decide) k) ?_
      refine OEnds.go (g' := (mkF m 214 #[.val (.long q0), .second, .val (.long q1), .second, .val (.long q2), .second, .val (.int p3), .val (.int (1 : Int32)), .val (.ref b9), .val (.ref r13), .val (.int (1 : Int32))] [(.ref r13)])) (fun t k => XS.aload X18.here hx rfl (hb hby at_212) rfl rfl k) ?_
      obtain ⟨cl19, Ar19, qa19, Sa19, Na19, Ha19, Ga19⟩ := @id _ VR13
      refine OEnds.go (g' := (mkF m 215 #[.val (.long q0), .second, .val (.long q1), .second, .val (.long q2), .second, .val (.int p3), .val (.int (1 : Int32)), .val (.ref b9), .val (.ref r13), .val (.int (1 : Int32))] [(.int (1 : Int32))])) (fun t k => X18.arraylength hx (by rw [e18]; exact Ar19.1) (State.isArrayOf_alike hZ.alike Ar19.2.1) (g := (mkF m 214 #[.val (.long q0), .second, .val (.long q1), .second, .val (.long q2), .second, .val (.int p3), .val (.int (1 : Int32)), .val (.ref b9), .val (.ref r13), .val (.int (1 : Int32))] [(.ref r13)])) rfl rfl (hb hby at_214) t (by rw [len_of Sa19 Na19]; exact k)) ?_
      refine OEnds.go (g' := (mkF m 216 #[.val (.long q0), .second, .val (.long q1), .second, .val (.long q2), .second, .val (.int p3), .val (.int (1 : Int32)), .val (.ref b9), .val (.ref r13), .val (.int (1 : Int32))] [(.int (1 : Int32)), (.int (1 : Int32))])) (fun t k => XS.iconst X18.here hx rfl (hb hby at_215) k) ?_
      refine OEnds.go (g' := (mkF m 237 #[.val (.long q0), .second, .val (.long q1), .second, .val (.long q2), .second, .val (.int p3), .val (.int (1 : Int32)), .val (.ref b9), .val (.ref r13), .val (.int (1 : Int32))] [])) (fun t k => XS.icmpYes X18.here hx rfl (pc0 := 216) (pc' := 237) rfl (hb hby at_216) rfl (flt (by decide : ¬ ((1 : Int32) < (1 : Int32)))).2.2.2 (by decide) (by decide) k) ?_
      refine OEnds.go (g' := (mkF m 239 #[.val (.long q0), .second, .val (.long q1), .second, .val (.long q2), .second, .val (.int p3), .val (.int (1 : Int32)), .val (.ref b9), .val (.ref r13), .val (.int (1 : Int32))] [(.ref r13)])) (fun t k => XS.aload X18.here hx rfl (hb hby at_237) rfl rfl k) ?_
      obtain ⟨cl20, Ar20, qa20, Sa20, Na20, Ha20, Ga20⟩ := @id _ VR13
      refine OEnds.go (g' := (mkF m 240 #[.val (.long q0), .second, .val (.long q1), .second, .val (.long q2), .second, .val (.int p3), .val (.int (1 : Int32)), .val (.ref b9), .val (.ref r13), .val (.int (1 : Int32))] [(.int (1 : Int32))])) (fun t k => X18.arraylength hx (by rw [e18]; exact Ar20.1) (State.isArrayOf_alike hZ.alike Ar20.2.1) (g := (mkF m 239 #[.val (.long q0), .second, .val (.long q1), .second, .val (.long q2), .second, .val (.int p3), .val (.int (1 : Int32)), .val (.ref b9), .val (.ref r13), .val (.int (1 : Int32))] [(.ref r13)])) rfl rfl (hb hby at_239) t (by rw [len_of Sa20 Na20]; exact k)) ?_
      refine OEnds.go (g' := (mkF m 241 #[.val (.long q0), .second, .val (.long q1), .second, .val (.long q2), .second, .val (.int p3), .val (.int (1 : Int32)), .val (.ref b9), .val (.ref r13), .val (.int (1 : Int32))] [(.int (2 : Int32)), (.int (1 : Int32))])) (fun t k => XS.iconst X18.here hx rfl (hb hby at_240) k) ?_
      refine OEnds.go (g' := (mkF m 262 #[.val (.long q0), .second, .val (.long q1), .second, .val (.long q2), .second, .val (.int p3), .val (.int (1 : Int32)), .val (.ref b9), .val (.ref r13), .val (.int (1 : Int32))] [])) (fun t k => XS.icmpYes X18.here hx rfl (pc0 := 241) (pc' := 262) rfl (hb hby at_241) rfl (flt (by decide : ¬ ((2 : Int32) < (1 : Int32)))).2.2.2 (by decide) (by decide) k) ?_
      refine OEnds.go (g' := (mkF m 263 #[.val (.long q0), .second, .val (.long q1), .second, .val (.long q2), .second, .val (.int p3), .val (.int (1 : Int32)), .val (.ref b9), .val (.ref r13), .val (.int (1 : Int32))] [(.int (1 : Int32))])) (fun t k => XS.iconst X18.here hx rfl (hb hby at_262) k) ?_
      exact OEnds.outN X18 Bd.notSynchronized hx (t := .boolean) Bd.returns (by simp) (hb hby at_263) ⟨rfl, N18⟩ (by decide) (by decide)
    · -- again
      exact absurd rfl hn12
  · -- (2 : Int32)
    rw [k4_1]
    refine OEnds.go (g' := (mkF m 6 #[.val (.long q0), .second, .val (.long q1), .second, .val (.long q2), .second, .val (.int p3), .val (.int (2 : Int32)), .unset, .unset, .unset] [])) (fun t k => XS.istore X0.here hx rfl (hb hby at_4) rfl (l' := #[.val (.long q0), .second, .val (.long q1), .second, .val (.long q2), .second, .val (.int p3), .val (.int (2 : Int32)), .unset, .unset, .unset]) rfl k) ?_
    obtain ⟨T21, h21, X21, e21, E21, A21, D21, -, st21⟩ := newO X0 hx hZ hown (hw _ (List.mem_of_getElem? (i := 0) rfl)) (hw _ (List.mem_of_getElem? (i := 1) rfl)) (hw _ (List.mem_of_getElem? (i := 2) rfl)) e0 (g := (mkF m 6 #[.val (.long q0), .second, .val (.long q1), .second, .val (.long q2), .second, .val (.int p3), .val (.int (2 : Int32)), .unset, .unset, .unset] [])) rfl (hb hby at_6) (by decide) (by decide)
    obtain ⟨b21, g21⟩ : ∃ z, z = h0.size := ⟨_, rfl⟩
    rw [← g21] at A21 D21 st21
    have g_b21 : n0 ≤ b21 := Nat.le_trans Z0 (Nat.le_of_eq g21.symm)
    have F_ids_b21 : Fld Z h21 b21 "com/example/slimheap/slimheap/hprof/IdMap" "ids" "[J" .null := D21 (Or.inl (hw _ (List.mem_of_getElem? (i := 11) rfl))) (ty := (.array .long)) (by decide)
    have F_values_b21 : Fld Z h21 b21 "com/example/slimheap/slimheap/hprof/IdMap" "values" "[Ljava/lang/Object;" .null := D21 (Or.inl (hw _ (List.mem_of_getElem? (i := 15) rfl))) (ty := (.array (.object "java/lang/Object"))) (by decide)
    have F_size_b21 : Fld Z h21 b21 "com/example/slimheap/slimheap/hprof/IdMap" "size" "I" (.int (0 : Int32)) := D21 (Or.inl (hw _ (List.mem_of_getElem? (i := 34) rfl))) (ty := .int) (by decide)
    refine OEnds.go (g' := (mkF m 9 #[.val (.long q0), .second, .val (.long q1), .second, .val (.long q2), .second, .val (.int p3), .val (.int (2 : Int32)), .unset, .unset, .unset] [(.ref b21)])) st21 ?_
    refine OEnds.go (g' := (mkF m 10 #[.val (.long q0), .second, .val (.long q1), .second, .val (.long q2), .second, .val (.int p3), .val (.int (2 : Int32)), .unset, .unset, .unset] [(.ref b21), (.ref b21)])) (fun t k => XS.dup X21.here hx rfl (hb hby at_9) rfl rfl k) ?_
    obtain ⟨_, _, ⟨T22, L22, k22, n22⟩, -, X22, ⟨Lc22, hQ22, l22, y22, z22⟩, st22⟩ := X21.specialBack hx (y := (⟨"com/example/slimheap/slimheap/hprof/IdMap", "<init>", "()V"⟩ : MethodName)) rfl hown (mvT hZ (hw _ (List.mem_of_getElem? (i := 3) rfl))) (mvT hZ (hw _ (List.mem_of_getElem? (i := 4) rfl))) (mvT hZ (hw _ (List.mem_of_getElem? (i := 5) rfl))) (by decide) (backOf (W := 1) (rm1 l Z a0 hw [] b21 h21 n0 (Nat.le_trans Z0 E21.1) A21 F_ids_b21 F_values_b21 F_size_b21 g_b21) hZ (hw _ (List.mem_of_getElem? (i := 5) rfl)) (hw _ (List.mem_of_getElem? (i := 2) rfl)) (by decide) (by decide)) (g := (mkF m 10 #[.val (.long q0), .second, .val (.long q1), .second, .val (.long q2), .second, .val (.int p3), .val (.int (2 : Int32)), .unset, .unset, .unset] [(.ref b21), (.ref b21)])) rfl (by rw [hml]; rfl) (Steps.refl _) (a := b21) (argsL := []) (rest := [(.ref b21)]) (lenOf pd_1 rfl) rfl (by show 2 * 0 + _ ≤ _; exact Nat.le_of_eq rfl) (hb hby at_10) (fun _ _ => ⟨rfl, e21, (by decide : 1 + 2 ≤ _), (by decide : 3 + 128 ≤ _)⟩)
    dsimp only [Pt.U, Pt.locs, Pt.cells, Pt.slots] at X22 l22 y22 z22 st22 hQ22
    subst l22 y22 z22
    obtain ⟨ia22, va22, ki22, kv22, rfl, N22q, K22q, E22q, Fi22q, Fv22q, Fs22q, AI22q, AV22q, OV22q, g_ia22, sz_ia22, g_va22, sz_va22, ne22⟩ := hQ22
    have N22 := Fr.app N0 N22q
    refine OEnds.tr (g' := (mkF m 13 #[.val (.long q0), .second, .val (.long q1), .second, .val (.long q2), .second, .val (.int p3), .val (.int (2 : Int32)), .unset, .unset, .unset] [(.ref b21)])) st22 ?_
    refine OEnds.go (g' := (mkF m 15 #[.val (.long q0), .second, .val (.long q1), .second, .val (.long q2), .second, .val (.int p3), .val (.int (2 : Int32)), .val (.ref b21), .unset, .unset] [])) (fun t k => XS.astore X22.here hx rfl (hb hby at_13) rfl rfl (l' := #[.val (.long q0), .second, .val (.long q1), .second, .val (.long q2), .second, .val (.int p3), .val (.int (2 : Int32)), .val (.ref b21), .unset, .unset]) rfl k) ?_
    refine OEnds.go (g' := (mkF m 17 #[.val (.long q0), .second, .val (.long q1), .second, .val (.long q2), .second, .val (.int p3), .val (.int (2 : Int32)), .val (.ref b21), .unset, .unset] [(.int (2 : Int32))])) (fun t k => XS.iload X22.here hx rfl (hb hby at_15) rfl k) ?_
    refine OEnds.go (g' := (mkF m 18 #[.val (.long q0), .second, .val (.long q1), .second, .val (.long q2), .second, .val (.int p3), .val (.int (2 : Int32)), .val (.ref b21), .unset, .unset] [(.int (1 : Int32)), (.int (2 : Int32))])) (fun t k => XS.iconst X22.here hx rfl (hb hby at_17) k) ?_
    refine OEnds.go (g' := (mkF m 21 #[.val (.long q0), .second, .val (.long q1), .second, .val (.long q2), .second, .val (.int p3), .val (.int (2 : Int32)), .val (.ref b21), .unset, .unset] [])) (fun t k => XS.icmpNo X22.here hx rfl (hb hby at_18) rfl (flt (by decide : ¬ ((2 : Int32) < (1 : Int32)))).1 k) ?_
    refine OEnds.go (g' := (mkF m 23 #[.val (.long q0), .second, .val (.long q1), .second, .val (.long q2), .second, .val (.int p3), .val (.int (2 : Int32)), .val (.ref b21), .unset, .unset] [(.ref b21)])) (fun t k => XS.aload X22.here hx rfl (hb hby at_21) rfl rfl k) ?_
    refine OEnds.go (g' := (mkF m 24 #[.val (.long q0), .second, .val (.long q1), .second, .val (.long q2), .second, .val (.int p3), .val (.int (2 : Int32)), .val (.ref b21), .unset, .unset] [(.long q0), (.ref b21)])) (fun t k => XS.lloadN X22.here hx rfl (hb hby at_23) rfl k) ?_
    refine OEnds.go (g' := (mkF m 25 #[.val (.long q0), .second, .val (.long q1), .second, .val (.long q2), .second, .val (.int p3), .val (.int (2 : Int32)), .val (.ref b21), .unset, .unset] [(.int (1 : Int32)), (.long q0), (.ref b21)])) (fun t k => XS.iconst X22.here hx rfl (hb hby at_24) k) ?_
    obtain ⟨_, _, ⟨T23, L23, k23, n23⟩, -, X23, ⟨Lc23, hQ23, l23, y23, z23⟩, st23⟩ := Jvm.LawKit.callS X22 hx (y := (⟨"java/lang/Integer", "valueOf", "(I)Ljava/lang/Integer;"⟩ : MethodName)) hown (mvT hZ (hw _ (List.mem_of_getElem? (i := 16) rfl))) (mvT hZ (hw _ (List.mem_of_getElem? (i := 17) rfl))) (mvT hZ (hw _ (List.mem_of_getElem? (i := 18) rfl))) (mvT hZ (hw _ (List.mem_of_getElem? (i := 19) rfl))) (by decide) (backOf (W := 3) (rmV1 l Z a0 hw [] cc kc fc y_1 T22.heap n0 (Nat.le_trans (Nat.le_trans Z0 E21.1) K22q.1) (own_sta_keep (SH.ext E21) K22q (allS (own_plE A21) all0)) (own_sta_keep (SC.ext E21) K22q (allS (own_plE A21) all0)) ((AC.ext E21).keep K22q (ninS (Nat.ne_of_lt (Nat.lt_of_lt_of_le AC.lt (Nat.le_of_eq g21.symm))) nin0)) hy1) hZ (hw _ (List.mem_of_getElem? (i := 19) rfl)) (hw _ (List.mem_of_getElem? (i := 18) rfl)) (by decide) (by decide)) (g := (mkF m 25 #[.val (.long q0), .second, .val (.long q1), .second, .val (.long q2), .second, .val (.int p3), .val (.int (2 : Int32)), .val (.ref b21), .unset, .unset] [(.int (1 : Int32)), (.long q0), (.ref b21)])) rfl (by rw [hml]; rfl) (argsL := [(.int (1 : Int32))]) (rest := [(.long q0), (.ref b21)]) (lenOf pd_3 rfl) rfl (by show 2 * 0 + _ ≤ _; exact Nat.le_of_eq rfl) (hb hby at_25) (fun _ _ => ⟨rfl, rfl, (by decide : 3 + 0 ≤ _), (by decide : 131 + 0 ≤ _)⟩)
    dsimp only [Pt.U, Pt.locs, Pt.cells, Pt.slots] at X23 l23 y23 z23 st23 hQ23
    subst l23 y23 z23
    obtain ⟨rfl, N23q, e23⟩ := hQ23
    have N23 := Fr.app N22 N23q
    refine OEnds.go (g' := (mkF m 28 #[.val (.long q0), .second, .val (.long q1), .second, .val (.long q2), .second, .val (.int p3), .val (.int (2 : Int32)), .val (.ref b21), .unset, .unset] [(.ref y_1), (.long q0), (.ref b21)])) st23 ?_
    obtain ⟨cq24, kq24, q24a, q24b, q24c⟩ := isOf hZ e23 E22q
    obtain ⟨_, _, ⟨T24, L24, k24, n24⟩, -, X24, ⟨Lc24, hQ24, l24, y24, z24⟩, st24⟩ := X23.virtualBack hx (y := (⟨"com/example/slimheap/slimheap/hprof/IdMap", "put", "(JLjava/lang/Object;)V"⟩ : MethodName)) (z := (⟨"com/example/slimheap/slimheap/hprof/IdMap", "put", "(JLjava/lang/Object;)V"⟩ : MethodName)) hown (mvT hZ (hw _ (List.mem_of_getElem? (i := 23) rfl))) (mvT hZ (hw _ (List.mem_of_getElem? (i := 24) rfl))) (notFace_of_selects (args := #[]) (mvT hZ (hw _ (List.mem_of_getElem? (i := 26) rfl)))) (mvT hZ (hw _ (List.mem_of_getElem? (i := 26) rfl))) (mvT hZ (hw _ (List.mem_of_getElem? (i := 25) rfl))) (by decide) (backOf (W := 0) (rmP0 l Z a0 hw [] b21 q0 y_1 ia22 va22 ki22 kv22 (fun _ => .null) (fun _ => (0 : Int64)) T22.heap n0 (Nat.le_trans (Nat.le_trans Z0 E21.1) K22q.1) E22q Fi22q Fv22q AI22q AV22q (own_3 q0 own_Inv0 (Nat.le_of_ble_eq_true rfl)) Fs22q OV22q ((EY1.ext E21).keep K22q) g_b21 g_ia22 g_va22 (Nat.ne_of_lt (Nat.lt_of_lt_of_le A21.lt sz_ia22)) (Nat.ne_of_lt (Nat.lt_of_lt_of_le A21.lt sz_va22)) ne22) hZ (hw _ (List.mem_of_getElem? (i := 27) rfl)) (hw _ (List.mem_of_getElem? (i := 2) rfl)) (by decide) (by decide)) q24a q24c (g := (mkF m 28 #[.val (.long q0), .second, .val (.long q1), .second, .val (.long q2), .second, .val (.int p3), .val (.int (2 : Int32)), .val (.ref b21), .unset, .unset] [(.ref y_1), (.long q0), (.ref b21)])) rfl (by rw [hml]; rfl) (Steps.refl _) (argsL := [(.long q0), (.ref y_1)]) (rest := []) (lenOf pd_4 rfl) rfl (by show 2 * 0 + _ ≤ _; exact Nat.le_of_eq rfl) (hb hby at_28) (fun _ _ => ⟨rfl, e23, (by decide : 3 + 0 ≤ _), (by decide : 131 + 0 ≤ _)⟩)
    dsimp only [Pt.U, Pt.locs, Pt.cells, Pt.slots] at X24 l24 y24 z24 st24 hQ24
    subst l24 y24 z24
    obtain ⟨rfl, N24q, K24q, E24q, Fi24q, Fv24q, j24, Fd24, AV24q, hO24⟩ := hQ24
    have N24 := Fr.app N23 N24q
    refine OEnds.tr (g' := (mkF m 31 #[.val (.long q0), .second, .val (.long q1), .second, .val (.long q2), .second, .val (.int p3), .val (.int (2 : Int32)), .val (.ref b21), .unset, .unset] [])) st24 ?_
    rcases hO24 with ⟨hn24, Fs24q, AI24q⟩ | ⟨hn24, Fs24q, AI24q⟩
    · -- new
      obtain ⟨nx24, I24⟩ := own_ins (y := y_1) own_Inv0 Fd24 hn24
      refine OEnds.go (g' := (mkF m 33 #[.val (.long q0), .second, .val (.long q1), .second, .val (.long q2), .second, .val (.int p3), .val (.int (2 : Int32)), .val (.ref b21), .unset, .unset] [(.int (2 : Int32))])) (fun t k => XS.iload X24.here hx rfl (hb hby at_31) rfl k) ?_
      refine OEnds.go (g' := (mkF m 34 #[.val (.long q0), .second, .val (.long q1), .second, .val (.long q2), .second, .val (.int p3), .val (.int (2 : Int32)), .val (.ref b21), .unset, .unset] [(.int (2 : Int32)), (.int (2 : Int32))])) (fun t k => XS.iconst X24.here hx rfl (hb hby at_33) k) ?_
      refine OEnds.go (g' := (mkF m 37 #[.val (.long q0), .second, .val (.long q1), .second, .val (.long q2), .second, .val (.int p3), .val (.int (2 : Int32)), .val (.ref b21), .unset, .unset] [])) (fun t k => XS.icmpNo X24.here hx rfl (hb hby at_34) rfl (flt (by decide : ¬ ((2 : Int32) < (2 : Int32)))).1 k) ?_
      refine OEnds.go (g' := (mkF m 39 #[.val (.long q0), .second, .val (.long q1), .second, .val (.long q2), .second, .val (.int p3), .val (.int (2 : Int32)), .val (.ref b21), .unset, .unset] [(.ref b21)])) (fun t k => XS.aload X24.here hx rfl (hb hby at_37) rfl rfl k) ?_
      refine OEnds.go (g' := (mkF m 40 #[.val (.long q0), .second, .val (.long q1), .second, .val (.long q2), .second, .val (.int p3), .val (.int (2 : Int32)), .val (.ref b21), .unset, .unset] [(.long q1), (.ref b21)])) (fun t k => XS.lloadN X24.here hx rfl (hb hby at_39) rfl k) ?_
      refine OEnds.go (g' := (mkF m 41 #[.val (.long q0), .second, .val (.long q1), .second, .val (.long q2), .second, .val (.int p3), .val (.int (2 : Int32)), .val (.ref b21), .unset, .unset] [(.int (2 : Int32)), (.long q1), (.ref b21)])) (fun t k => XS.iconst X24.here hx rfl (hb hby at_40) k) ?_
      obtain ⟨_, _, ⟨T25, L25, k25, n25⟩, -, X25, ⟨Lc25, hQ25, l25, y25, z25⟩, st25⟩ := Jvm.LawKit.callS X24 hx (y := (⟨"java/lang/Integer", "valueOf", "(I)Ljava/lang/Integer;"⟩ : MethodName)) hown (mvT hZ (hw _ (List.mem_of_getElem? (i := 16) rfl))) (mvT hZ (hw _ (List.mem_of_getElem? (i := 17) rfl))) (mvT hZ (hw _ (List.mem_of_getElem? (i := 18) rfl))) (mvT hZ (hw _ (List.mem_of_getElem? (i := 19) rfl))) (by decide) (backOf (W := 3) (rmV2 l Z a0 hw [] cc kc fc y_2 T24.heap n0 (Nat.le_trans (Nat.le_trans (Nat.le_trans Z0 E21.1) K22q.1) K24q.1) (own_sta_keep (own_sta_keep (SH.ext E21) K22q (allS (own_plE A21) all0)) K24q (allS (own_plE E22q) (allS (own_plA AI22q) (allS (own_plA AV22q) all0)))) (own_sta_keep (own_sta_keep (SC.ext E21) K22q (allS (own_plE A21) all0)) K24q (allS (own_plE E22q) (allS (own_plA AI22q) (allS (own_plA AV22q) all0)))) (((AC.ext E21).keep K22q (ninS (Nat.ne_of_lt (Nat.lt_of_lt_of_le AC.lt (Nat.le_of_eq g21.symm))) nin0)).keep K24q (ninS (Nat.ne_of_lt (Nat.lt_of_lt_of_le AC.lt (Nat.le_of_eq g21.symm))) (ninS (Nat.ne_of_lt (Nat.lt_of_lt_of_le (AC.ext E21).lt sz_ia22)) (ninS (Nat.ne_of_lt (Nat.lt_of_lt_of_le (AC.ext E21).lt sz_va22)) nin0)))) hy2) hZ (hw _ (List.mem_of_getElem? (i := 19) rfl)) (hw _ (List.mem_of_getElem? (i := 18) rfl)) (by decide) (by decide)) (g := (mkF m 41 #[.val (.long q0), .second, .val (.long q1), .second, .val (.long q2), .second, .val (.int p3), .val (.int (2 : Int32)), .val (.ref b21), .unset, .unset] [(.int (2 : Int32)), (.long q1), (.ref b21)])) rfl (by rw [hml]; rfl) (argsL := [(.int (2 : Int32))]) (rest := [(.long q1), (.ref b21)]) (lenOf pd_3 rfl) rfl (by show 2 * 0 + _ ≤ _; exact Nat.le_of_eq rfl) (hb hby at_41) (fun _ _ => ⟨rfl, rfl, (by decide : 3 + 0 ≤ _), (by decide : 131 + 0 ≤ _)⟩)
      dsimp only [Pt.U, Pt.locs, Pt.cells, Pt.slots] at X25 l25 y25 z25 st25 hQ25
      subst l25 y25 z25
      obtain ⟨rfl, N25q, e25⟩ := hQ25
      have N25 := Fr.app N24 N25q
      refine OEnds.go (g' := (mkF m 44 #[.val (.long q0), .second, .val (.long q1), .second, .val (.long q2), .second, .val (.int p3), .val (.int (2 : Int32)), .val (.ref b21), .unset, .unset] [(.ref y_2), (.long q1), (.ref b21)])) st25 ?_
      obtain ⟨cq26, kq26, q26a, q26b, q26c⟩ := isOf hZ e25 E24q
      obtain ⟨_, _, ⟨T26, L26, k26, n26⟩, -, X26, ⟨Lc26, hQ26, l26, y26, z26⟩, st26⟩ := X25.virtualBack hx (y := (⟨"com/example/slimheap/slimheap/hprof/IdMap", "put", "(JLjava/lang/Object;)V"⟩ : MethodName)) (z := (⟨"com/example/slimheap/slimheap/hprof/IdMap", "put", "(JLjava/lang/Object;)V"⟩ : MethodName)) hown (mvT hZ (hw _ (List.mem_of_getElem? (i := 23) rfl))) (mvT hZ (hw _ (List.mem_of_getElem? (i := 24) rfl))) (notFace_of_selects (args := #[]) (mvT hZ (hw _ (List.mem_of_getElem? (i := 26) rfl)))) (mvT hZ (hw _ (List.mem_of_getElem? (i := 26) rfl))) (mvT hZ (hw _ (List.mem_of_getElem? (i := 25) rfl))) (by decide) (backOf (W := 0) (rmP1 l Z a0 hw [] b21 q1 y_2 ia22 va22 ki22 kv22 (own_u (fun _ => .null) j24 (.ref y_1)) (own_u (fun _ => (0 : Int64)) j24 q0) T24.heap n0 (Nat.le_trans (Nat.le_trans (Nat.le_trans Z0 E21.1) K22q.1) K24q.1) E24q Fi24q Fv24q AI24q AV24q (own_3 q1 I24 (Nat.le_of_ble_eq_true rfl)) Fs24q OV22q (((EY2.ext E21).keep K22q).keep K24q) g_b21 g_ia22 g_va22 (Nat.ne_of_lt (Nat.lt_of_lt_of_le A21.lt sz_ia22)) (Nat.ne_of_lt (Nat.lt_of_lt_of_le A21.lt sz_va22)) ne22) hZ (hw _ (List.mem_of_getElem? (i := 27) rfl)) (hw _ (List.mem_of_getElem? (i := 2) rfl)) (by decide) (by decide)) q26a q26c (g := (mkF m 44 #[.val (.long q0), .second, .val (.long q1), .second, .val (.long q2), .second, .val (.int p3), .val (.int (2 : Int32)), .val (.ref b21), .unset, .unset] [(.ref y_2), (.long q1), (.ref b21)])) rfl (by rw [hml]; rfl) (Steps.refl _) (argsL := [(.long q1), (.ref y_2)]) (rest := []) (lenOf pd_4 rfl) rfl (by show 2 * 0 + _ ≤ _; exact Nat.le_of_eq rfl) (hb hby at_44) (fun _ _ => ⟨rfl, e25, (by decide : 3 + 0 ≤ _), (by decide : 131 + 0 ≤ _)⟩)
      dsimp only [Pt.U, Pt.locs, Pt.cells, Pt.slots] at X26 l26 y26 z26 st26 hQ26
      subst l26 y26 z26
      obtain ⟨rfl, N26q, K26q, E26q, Fi26q, Fv26q, j26, Fd26, AV26q, hO26⟩ := hQ26
      have N26 := Fr.app N25 N26q
      refine OEnds.tr (g' := (mkF m 47 #[.val (.long q0), .second, .val (.long q1), .second, .val (.long q2), .second, .val (.int p3), .val (.int (2 : Int32)), .val (.ref b21), .unset, .unset] [])) st26 ?_
      rcases hO26 with ⟨hn26, Fs26q, AI26q⟩ | ⟨hn26, Fs26q, AI26q⟩
      · -- new
        obtain ⟨nx26, I26⟩ := own_ins (y := y_2) I24 Fd26 hn26
        refine OEnds.go (g' := (mkF m 49 #[.val (.long q0), .second, .val (.long q1), .second, .val (.long q2), .second, .val (.int p3), .val (.int (2 : Int32)), .val (.ref b21), .unset, .unset] [(.int (2 : Int32))])) (fun t k => XS.iload X26.here hx rfl (hb hby at_47) rfl k) ?_
        refine OEnds.go (g' := (mkF m 50 #[.val (.long q0), .second, .val (.long q1), .second, .val (.long q2), .second, .val (.int p3), .val (.int (2 : Int32)), .val (.ref b21), .unset, .unset] [(.int (3 : Int32)), (.int (2 : Int32))])) (fun t k => XS.iconst X26.here hx rfl (hb hby at_49) k) ?_
        refine OEnds.go (g' := (mkF m 64 #[.val (.long q0), .second, .val (.long q1), .second, .val (.long q2), .second, .val (.int p3), .val (.int (2 : Int32)), .val (.ref b21), .unset, .unset] [])) (fun t k => XS.icmpYes X26.here hx rfl (pc0 := 50) (pc' := 64) rfl (hb hby at_50) rfl (tlt (by decide : ((2 : Int32) < (3 : Int32)))).1 (by decide) (by decide) k) ?_
        refine OEnds.go (g' := (mkF m 66 #[.val (.long q0), .second, .val (.long q1), .second, .val (.long q2), .second, .val (.int p3), .val (.int (2 : Int32)), .val (.ref b21), .unset, .unset] [(.ref b21)])) (fun t k => XS.aload X26.here hx rfl (hb hby at_64) rfl rfl k) ?_
        obtain ⟨cq27, kq27, q27a, q27b, q27c⟩ := isOf hZ rfl E26q
        obtain ⟨_, _, ⟨T27, L27, k27, n27⟩, -, X27, ⟨Lc27, hQ27, l27, y27, z27⟩, st27⟩ := X26.virtualBack hx (y := (⟨"com/example/slimheap/slimheap/hprof/IdMap", "ids", "()[J"⟩ : MethodName)) (z := (⟨"com/example/slimheap/slimheap/hprof/IdMap", "ids", "()[J"⟩ : MethodName)) hown (mvT hZ (hw _ (List.mem_of_getElem? (i := 36) rfl))) (mvT hZ (hw _ (List.mem_of_getElem? (i := 37) rfl))) (notFace_of_selects (args := #[]) (mvT hZ (hw _ (List.mem_of_getElem? (i := 39) rfl)))) (mvT hZ (hw _ (List.mem_of_getElem? (i := 39) rfl))) (mvT hZ (hw _ (List.mem_of_getElem? (i := 38) rfl))) (by decide) (backOf (W := 0) (rmD2 l Z a0 hw [] b21 ia22 va22 ki22 kv22 (own_u (own_u (fun _ => .null) j24 (.ref y_1)) j26 (.ref y_2)) (own_u (own_u (fun _ => (0 : Int64)) j24 q0) j26 q1) T26.heap n0 (Nat.le_trans (Nat.le_trans (Nat.le_trans (Nat.le_trans Z0 E21.1) K22q.1) K24q.1) K26q.1) Fi26q Fv26q AI26q AV26q Fs26q (own_perm I26).length_eq) hZ (hw _ (List.mem_of_getElem? (i := 40) rfl)) (hw _ (List.mem_of_getElem? (i := 2) rfl)) (by decide) (by decide)) q27a q27c (g := (mkF m 66 #[.val (.long q0), .second, .val (.long q1), .second, .val (.long q2), .second, .val (.int p3), .val (.int (2 : Int32)), .val (.ref b21), .unset, .unset] [(.ref b21)])) rfl (by rw [hml]; rfl) (Steps.refl _) (argsL := []) (rest := []) (lenOf pd_2 rfl) rfl (by show 2 * 0 + _ ≤ _; exact Nat.le_of_eq rfl) (hb hby at_66) (fun _ _ => ⟨rfl, rfl, (by decide : 3 + 1 ≤ _), (by decide : 131 + 2 ≤ _)⟩)
        dsimp only [Pt.U, Pt.locs, Pt.cells, Pt.slots] at X27 l27 y27 z27 st27 hQ27
        subst l27 y27 z27
        obtain ⟨r27, kr27, rr27, rfl, N27q, K27q, AR27, hP27, g_r27⟩ := hQ27
        have N27 := Fr.app N26 N27q
        have VR27 : Arv Z T27.heap r27 kr27 .long (2 : Int32) [(.long (rr27 (0 : Int32))), (.long (rr27 (1 : Int32)))] (.long (0 : Int64)) := own_Av.arv (n := 2) AR27 (by decide)
        have pm27 : ([(rr27 (0 : Int32)), (rr27 (1 : Int32))] : List Int64).Perm [q1, q0] := by have t := own_perm I26; have u := own_lits hP27 (own_perm I26).length_eq; rw [u] at t; exact t
        refine OEnds.tr (g' := (mkF m 69 #[.val (.long q0), .second, .val (.long q1), .second, .val (.long q2), .second, .val (.int p3), .val (.int (2 : Int32)), .val (.ref b21), .unset, .unset] [(.ref r27)])) st27 ?_
        refine OEnds.go (g' := (mkF m 71 #[.val (.long q0), .second, .val (.long q1), .second, .val (.long q2), .second, .val (.int p3), .val (.int (2 : Int32)), .val (.ref b21), .val (.ref r27), .unset] [])) (fun t k => XS.astore X27.here hx rfl (hb hby at_69) rfl rfl (l' := #[.val (.long q0), .second, .val (.long q1), .second, .val (.long q2), .second, .val (.int p3), .val (.int (2 : Int32)), .val (.ref b21), .val (.ref r27), .unset]) rfl k) ?_
        refine OEnds.go (g' := (mkF m 72 #[.val (.long q0), .second, .val (.long q1), .second, .val (.long q2), .second, .val (.int p3), .val (.int (2 : Int32)), .val (.ref b21), .val (.ref r27), .unset] [(.int (0 : Int32))])) (fun t k => XS.iconst X27.here hx rfl (hb hby at_71) k) ?_
        refine OEnds.go (g' := (mkF m 74 #[.val (.long q0), .second, .val (.long q1), .second, .val (.long q2), .second, .val (.int p3), .val (.int (2 : Int32)), .val (.ref b21), .val (.ref r27), .val (.int (0 : Int32))] [])) (fun t k => XS.istore X27.here hx rfl (hb hby at_72) rfl (l' := #[.val (.long q0), .second, .val (.long q1), .second, .val (.long q2), .second, .val (.int p3), .val (.int (2 : Int32)), .val (.ref b21), .val (.ref r27), .val (.int (0 : Int32))]) rfl k) ?_
        refine OEnds.go (g' := (mkF m 76 #[.val (.long q0), .second, .val (.long q1), .second, .val (.long q2), .second, .val (.int p3), .val (.int (2 : Int32)), .val (.ref b21), .val (.ref r27), .val (.int (0 : Int32))] [(.int (2 : Int32))])) (fun t k => XS.iload X27.here hx rfl (hb hby at_74) rfl k) ?_
        refine OEnds.go (g' := (mkF m 77 #[.val (.long q0), .second, .val (.long q1), .second, .val (.long q2), .second, .val (.int p3), .val (.int (2 : Int32)), .val (.ref b21), .val (.ref r27), .val (.int (0 : Int32))] [(.int (1 : Int32)), (.int (2 : Int32))])) (fun t k => XS.iconst X27.here hx rfl (hb hby at_76) k) ?_
        refine OEnds.go (g' := (mkF m 80 #[.val (.long q0), .second, .val (.long q1), .second, .val (.long q2), .second, .val (.int p3), .val (.int (2 : Int32)), .val (.ref b21), .val (.ref r27), .val (.int (0 : Int32))] [])) (fun t k => XS.icmpNo X27.here hx rfl (hb hby at_77) rfl (flt (by decide : ¬ ((2 : Int32) < (1 : Int32)))).1 k) ?_
        refine OEnds.go (g' := (mkF m 83 #[.val (.long q0), .second, .val (.long q1), .second, .val (.long q2), .second, .val (.int p3), .val (.int (2 : Int32)), .val (.ref b21), .val (.ref r27), .val (.int ((0 : Int32) + (1 : Int32)))] [])) (fun t k => XS.iinc X27.here hx rfl (hb hby at_80) rfl (l' := #[.val (.long q0), .second, .val (.long q1), .second, .val (.long q2), .second, .val (.int p3), .val (.int (2 : Int32)), .val (.ref b21), .val (.ref r27), .val (.int ((0 : Int32) + (1 : Int32)))]) rfl k) ?_
        rw [show ((0 : Int32) + (1 : Int32)) = (1 : Int32) from by decide]
        refine OEnds.go (g' := (mkF m 85 #[.val (.long q0), .second, .val (.long q1), .second, .val (.long q2), .second, .val (.int p3), .val (.int (2 : Int32)), .val (.ref b21), .val (.ref r27), .val (.int (1 : Int32))] [(.int (2 : Int32))])) (fun t k => XS.iload X27.here hx rfl (hb hby at_83) rfl k) ?_
        refine OEnds.go (g' := (mkF m 86 #[.val (.long q0), .second, .val (.long q1), .second, .val (.long q2), .second, .val (.int p3), .val (.int (2 : Int32)), .val (.ref b21), .val (.ref r27), .val (.int (1 : Int32))] [(.int (2 : Int32)), (.int (2 : Int32))])) (fun t k => XS.iconst X27.here hx rfl (hb hby at_85) k) ?_
        refine OEnds.go (g' := (mkF m 89 #[.val (.long q0), .second, .val (.long q1), .second, .val (.long q2), .second, .val (.int p3), .val (.int (2 : Int32)), .val (.ref b21), .val (.ref r27), .val (.int (1 : Int32))] [])) (fun t k => XS.icmpNo X27.here hx rfl (hb hby at_86) rfl (flt (by decide : ¬ ((2 : Int32) < (2 : Int32)))).1 k) ?_
        refine OEnds.go (g' := (mkF m 90 #[.val (.long q0), .second, .val (.long q1), .second, .val (.long q2), .second, .val (.int p3), .val (.int (2 : Int32)), .val (.ref b21), .val (.ref r27), .val (.int (1 : Int32))] [(.long q1)])) (fun t k => XS.lloadN X27.here hx rfl (hb hby at_89) rfl k) ?_
        refine OEnds.go (g' := (mkF m 91 #[.val (.long q0), .second, .val (.long q1), .second, .val (.long q2), .second, .val (.int p3), .val (.int (2 : Int32)), .val (.ref b21), .val (.ref r27), .val (.int (1 : Int32))] [(.long q0), (.long q1)])) (fun t k => XS.lloadN X27.here hx rfl (hb hby at_90) rfl k) ?_
        refine OEnds.go (g' := (mkF m 92 #[.val (.long q0), .second, .val (.long q1), .second, .val (.long q2), .second, .val (.int p3), .val (.int (2 : Int32)), .val (.ref b21), .val (.ref r27), .val (.int (1 : Int32))] [(.int (lcmpW q1 q0))])) (fun t k => XS.lcmp X27.here hx rfl (hb hby at_91) rfl k) ?_
        refine OEnds.go (g' := (mkF m 95 #[.val (.long q0), .second, .val (.long q1), .second, .val (.long q2), .second, .val (.int p3), .val (.int (2 : Int32)), .val (.ref b21), .val (.ref r27), .val (.int (1 : Int32))] [])) (fun t k => XS.ifNo X27.here hx rfl (hb hby at_92) rfl ((if0 _ _).trans (feq (fun q => (fun q : q1 = q0 => nx26 (j24, q0) (by simp) q.symm) ((lw_eq _ _).mp q))).1) k) ?_
        refine OEnds.go (g' := (mkF m 98 #[.val (.long q0), .second, .val (.long q1), .second, .val (.long q2), .second, .val (.int p3), .val (.int (2 : Int32)), .val (.ref b21), .val (.ref r27), .val (.int ((1 : Int32) + (1 : Int32)))] [])) (fun t k => XS.iinc X27.here hx rfl (hb hby at_95) rfl (l' := #[.val (.long q0), .second, .val (.long q1), .second, .val (.long q2), .second, .val (.int p3), .val (.int (2 : Int32)), .val (.ref b21), .val (.ref r27), .val (.int ((1 : Int32) + (1 : Int32)))]) rfl k) ?_
        rw [show ((1 : Int32) + (1 : Int32)) = (2 : Int32) from by decide]
        refine OEnds.go (g' := (mkF m 100 #[.val (.long q0), .second, .val (.long q1), .second, .val (.long q2), .second, .val (.int p3), .val (.int (2 : Int32)), .val (.ref b21), .val (.ref r27), .val (.int (2 : Int32))] [(.int (2 : Int32))])) (fun t k => XS.iload X27.here hx rfl (hb hby at_98) rfl k) ?_
        refine OEnds.go (g' := (mkF m 101 #[.val (.long q0), .second, .val (.long q1), .second, .val (.long q2), .second, .val (.int p3), .val (.int (2 : Int32)), .val (.ref b21), .val (.ref r27), .val (.int (2 : Int32))] [(.int (3 : Int32)), (.int (2 : Int32))])) (fun t k => XS.iconst X27.here hx rfl (hb hby at_100) k) ?_
        refine OEnds.go (g' := (mkF m 121 #[.val (.long q0), .second, .val (.long q1), .second, .val (.long q2), .second, .val (.int p3), .val (.int (2 : Int32)), .val (.ref b21), .val (.ref r27), .val (.int (2 : Int32))] [])) (fun t k => XS.icmpYes X27.here hx rfl (pc0 := 101) (pc' := 121) rfl (hb hby at_101) rfl (tlt (by decide : ((2 : Int32) < (3 : Int32)))).1 (by decide) (by decide) k) ?_
        refine OEnds.go (g' := (mkF m 123 #[.val (.long q0), .second, .val (.long q1), .second, .val (.long q2), .second, .val (.int p3), .val (.int (2 : Int32)), .val (.ref b21), .val (.ref r27), .val (.int (2 : Int32))] [(.ref r27)])) (fun t k => XS.aload X27.here hx rfl (hb hby at_121) rfl rfl k) ?_
        refine OEnds.go (g' := (mkF m 126 #[.val (.long q0), .second, .val (.long q1), .second, .val (.long q2), .second, .val (.int p3), .val (.int (2 : Int32)), .val (.ref b21), .val (.ref r27), .val (.int (2 : Int32))] [])) (fun t k => XS.ifnullNo X27.here hx rfl (hb hby at_123) rfl k) ?_
        refine OEnds.go (g' := (mkF m 128 #[.val (.long q0), .second, .val (.long q1), .second, .val (.long q2), .second, .val (.int p3), .val (.int (2 : Int32)), .val (.ref b21), .val (.ref r27), .val (.int (2 : Int32))] [(.ref r27)])) (fun t k => XS.aload X27.here hx rfl (hb hby at_126) rfl rfl k) ?_
        obtain ⟨cl28, Ar28, qa28, Sa28, Na28, Ha28, Ga28⟩ := @id _ VR27
        refine OEnds.go (g' := (mkF m 129 #[.val (.long q0), .second, .val (.long q1), .second, .val (.long q2), .second, .val (.int p3), .val (.int (2 : Int32)), .val (.ref b21), .val (.ref r27), .val (.int (2 : Int32))] [(.int (2 : Int32))])) (fun t k => X27.arraylength hx Ar28.1 (State.isArrayOf_alike hZ.alike Ar28.2.1) (g := (mkF m 128 #[.val (.long q0), .second, .val (.long q1), .second, .val (.long q2), .second, .val (.int p3), .val (.int (2 : Int32)), .val (.ref b21), .val (.ref r27), .val (.int (2 : Int32))] [(.ref r27)])) rfl rfl (hb hby at_128) t (by rw [len_of Sa28 Na28]; exact k)) ?_
        refine OEnds.go (g' := (mkF m 131 #[.val (.long q0), .second, .val (.long q1), .second, .val (.long q2), .second, .val (.int p3), .val (.int (2 : Int32)), .val (.ref b21), .val (.ref r27), .val (.int (2 : Int32))] [(.int (2 : Int32)), (.int (2 : Int32))])) (fun t k => XS.iload X27.here hx rfl (hb hby at_129) rfl k) ?_
        refine OEnds.go (g' := (mkF m 136 #[.val (.long q0), .second, .val (.long q1), .second, .val (.long q2), .second, .val (.int p3), .val (.int (2 : Int32)), .val (.ref b21), .val (.ref r27), .val (.int (2 : Int32))] [])) (fun t k => XS.icmpYes X27.here hx rfl (pc0 := 131) (pc' := 136) rfl (hb hby at_131) rfl (teq (by decide : ((2 : Int32) = (2 : Int32)))).1 (by decide) (by decide) k) ?_
        refine OEnds.go (g' := (mkF m 138 #[.val (.long q0), .second, .val (.long q1), .second, .val (.long q2), .second, .val (.int p3), .val (.int (2 : Int32)), .val (.ref b21), .val (.ref r27), .val (.int (2 : Int32))] [(.int (2 : Int32))])) (fun t k => XS.iload X27.here hx rfl (hb hby at_136) rfl k) ?_
        refine OEnds.go (g' := (mkF m 139 #[.val (.long q0), .second, .val (.long q1), .second, .val (.long q2), .second, .val (.int p3), .val (.int (2 : Int32)), .val (.ref b21), .val (.ref r27), .val (.int (2 : Int32))] [(.int (1 : Int32)), (.int (2 : Int32))])) (fun t k => XS.iconst X27.here hx rfl (hb hby at_138) k) ?_
        refine OEnds.go (g' := (mkF m 142 #[.val (.long q0), .second, .val (.long q1), .second, .val (.long q2), .second, .val (.int p3), .val (.int (2 : Int32)), .val (.ref b21), .val (.ref r27), .val (.int (2 : Int32))] [])) (fun t k => XS.icmpNo X27.here hx rfl (hb hby at_139) rfl (flt (by decide : ¬ ((2 : Int32) < (1 : Int32)))).1 k) ?_
        refine OEnds.go (g' := (mkF m 144 #[.val (.long q0), .second, .val (.long q1), .second, .val (.long q2), .second, .val (.int p3), .val (.int (2 : Int32)), .val (.ref b21), .val (.ref r27), .val (.int (2 : Int32))] [(.ref r27)])) (fun t k => XS.aload X27.here hx rfl (hb hby at_142) rfl rfl k) ?_
        refine OEnds.go (g' := (mkF m 145 #[.val (.long q0), .second, .val (.long q1), .second, .val (.long q2), .second, .val (.int p3), .val (.int (2 : Int32)), .val (.ref b21), .val (.ref r27), .val (.int (2 : Int32))] [(.long q0), (.ref r27)])) (fun t k => XS.lloadN X27.here hx rfl (hb hby at_144) rfl k) ?_
        obtain ⟨_, _, ⟨T29, L29, k29, n29⟩, -, X29, ⟨Lc29, hQ29, l29, y29, z29⟩, st29⟩ := Jvm.LawKit.callS X27 hx (y := (⟨"com/example/slimheap/slimheap/hprof/IdMapIdsPinLaw", "has", "([JJ)Z"⟩ : MethodName)) hown (mvT hZ (hw _ (List.mem_of_getElem? (i := 41) rfl))) (mvT hZ (hw _ (List.mem_of_getElem? (i := 42) rfl))) (mvT hZ (hw _ (List.mem_of_getElem? (i := 43) rfl))) (mvT hZ (hw _ (List.mem_of_getElem? (i := 44) rfl))) (by decide) (backOf (W := 0) (rmH2 l Z a0 hw [] r27 q0 kr27 (rr27 (0 : Int32)) (rr27 (1 : Int32)) T27.heap n0 (Nat.le_trans (Nat.le_trans (Nat.le_trans (Nat.le_trans (Nat.le_trans Z0 E21.1) K22q.1) K24q.1) K26q.1) K27q.1) VR27) hZ (hw _ (List.mem_of_getElem? (i := 44) rfl)) (hw _ (List.mem_of_getElem? (i := 43) rfl)) (by decide) (by decide)) (g := (mkF m 145 #[.val (.long q0), .second, .val (.long q1), .second, .val (.long q2), .second, .val (.int p3), .val (.int (2 : Int32)), .val (.ref b21), .val (.ref r27), .val (.int (2 : Int32))] [(.long q0), (.ref r27)])) rfl (by rw [hml]; rfl) (argsL := [(.ref r27), (.long q0)]) (rest := []) (lenOf pd_5 rfl) rfl (by show 2 * 0 + _ ≤ _; exact Nat.le_of_eq rfl) (hb hby at_145) (fun _ _ => ⟨rfl, rfl, (by decide : 4 + 0 ≤ _), (by decide : 133 + 0 ≤ _)⟩)
        dsimp only [Pt.U, Pt.locs, Pt.cells, Pt.slots] at X29 l29 y29 z29 st29 hQ29
        subst l29 y29 z29
        obtain ⟨rfl, N29q, e29⟩ := hQ29
        have N29 := Fr.app N27 N29q
        refine OEnds.go (g' := (mkF m 148 #[.val (.long q0), .second, .val (.long q1), .second, .val (.long q2), .second, .val (.int p3), .val (.int (2 : Int32)), .val (.ref b21), .val (.ref r27), .val (.int (2 : Int32))] [(.int (fH2 q0 (rr27 (0 : Int32)) (rr27 (1 : Int32))))])) st29 ?_
        refine OEnds.go (g' := (mkF m 153 #[.val (.long q0), .second, .val (.long q1), .second, .val (.long q2), .second, .val (.int p3), .val (.int (2 : Int32)), .val (.ref b21), .val (.ref r27), .val (.int (2 : Int32))] [])) (fun t k => XS.ifYes X29.here hx rfl (pc0 := 148) (pc' := 153) rfl (hb hby at_148) rfl ((if0 _ _).trans (feq (own_has2 _ _ _ (pm27.mem_iff.mpr (by simp)) : ¬ ((fH2 q0 (rr27 (0 : Int32)) (rr27 (1 : Int32))) = (0 : Int32)))).2) (by decide) (by decide) k) ?_
        refine OEnds.go (g' := (mkF m 155 #[.val (.long q0), .second, .val (.long q1), .second, .val (.long q2), .second, .val (.int p3), .val (.int (2 : Int32)), .val (.ref b21), .val (.ref r27), .val (.int (2 : Int32))] [(.int (2 : Int32))])) (fun t k => XS.iload X29.here hx rfl (hb hby at_153) rfl k) ?_
        refine OEnds.go (g' := (mkF m 156 #[.val (.long q0), .second, .val (.long q1), .second, .val (.long q2), .second, .val (.int p3), .val (.int (2 : Int32)), .val (.ref b21), .val (.ref r27), .val (.int (2 : Int32))] [(.int (2 : Int32)), (.int (2 : Int32))])) (fun t k => XS.iconst X29.here hx rfl (hb hby at_155) k) ?_
        refine OEnds.go (g' := (mkF m 159 #[.val (.long q0), .second, .val (.long q1), .second, .val (.long q2), .second, .val (.int p3), .val (.int (2 : Int32)), .val (.ref b21), .val (.ref r27), .val (.int (2 : Int32))] [])) (fun t k => XS.icmpNo X29.here hx rfl (hb hby at_156) rfl (flt (by decide : ¬ ((2 : Int32) < (2 : Int32)))).1 k) ?_
        refine OEnds.go (g' := (mkF m 161 #[.val (.long q0), .second, .val (.long q1), .second, .val (.long q2), .second, .val (.int p3), .val (.int (2 : Int32)), .val (.ref b21), .val (.ref r27), .val (.int (2 : Int32))] [(.ref r27)])) (fun t k => XS.aload X29.here hx rfl (hb hby at_159) rfl rfl k) ?_
        refine OEnds.go (g' := (mkF m 162 #[.val (.long q0), .second, .val (.long q1), .second, .val (.long q2), .second, .val (.int p3), .val (.int (2 : Int32)), .val (.ref b21), .val (.ref r27), .val (.int (2 : Int32))] [(.long q1), (.ref r27)])) (fun t k => XS.lloadN X29.here hx rfl (hb hby at_161) rfl k) ?_
        obtain ⟨_, _, ⟨T30, L30, k30, n30⟩, -, X30, ⟨Lc30, hQ30, l30, y30, z30⟩, st30⟩ := Jvm.LawKit.callS X29 hx (y := (⟨"com/example/slimheap/slimheap/hprof/IdMapIdsPinLaw", "has", "([JJ)Z"⟩ : MethodName)) hown (mvT hZ (hw _ (List.mem_of_getElem? (i := 41) rfl))) (mvT hZ (hw _ (List.mem_of_getElem? (i := 42) rfl))) (mvT hZ (hw _ (List.mem_of_getElem? (i := 43) rfl))) (mvT hZ (hw _ (List.mem_of_getElem? (i := 44) rfl))) (by decide) (backOf (W := 0) (rmH2 l Z a0 hw [] r27 q1 kr27 (rr27 (0 : Int32)) (rr27 (1 : Int32)) T27.heap n0 (Nat.le_trans (Nat.le_trans (Nat.le_trans (Nat.le_trans (Nat.le_trans Z0 E21.1) K22q.1) K24q.1) K26q.1) K27q.1) VR27) hZ (hw _ (List.mem_of_getElem? (i := 44) rfl)) (hw _ (List.mem_of_getElem? (i := 43) rfl)) (by decide) (by decide)) (g := (mkF m 162 #[.val (.long q0), .second, .val (.long q1), .second, .val (.long q2), .second, .val (.int p3), .val (.int (2 : Int32)), .val (.ref b21), .val (.ref r27), .val (.int (2 : Int32))] [(.long q1), (.ref r27)])) rfl (by rw [hml]; rfl) (argsL := [(.ref r27), (.long q1)]) (rest := []) (lenOf pd_5 rfl) rfl (by show 2 * 0 + _ ≤ _; exact Nat.le_of_eq rfl) (hb hby at_162) (fun _ _ => ⟨rfl, e29, (by decide : 4 + 0 ≤ _), (by decide : 133 + 0 ≤ _)⟩)
        dsimp only [Pt.U, Pt.locs, Pt.cells, Pt.slots] at X30 l30 y30 z30 st30 hQ30
        subst l30 y30 z30
        obtain ⟨rfl, N30q, e30⟩ := hQ30
        have N30 := Fr.app N29 N30q
        refine OEnds.go (g' := (mkF m 165 #[.val (.long q0), .second, .val (.long q1), .second, .val (.long q2), .second, .val (.int p3), .val (.int (2 : Int32)), .val (.ref b21), .val (.ref r27), .val (.int (2 : Int32))] [(.int (fH2 q1 (rr27 (0 : Int32)) (rr27 (1 : Int32))))])) st30 ?_
        refine OEnds.go (g' := (mkF m 170 #[.val (.long q0), .second, .val (.long q1), .second, .val (.long q2), .second, .val (.int p3), .val (.int (2 : Int32)), .val (.ref b21), .val (.ref r27), .val (.int (2 : Int32))] [])) (fun t k => XS.ifYes X30.here hx rfl (pc0 := 165) (pc' := 170) rfl (hb hby at_165) rfl ((if0 _ _).trans (feq (own_has2 _ _ _ (pm27.mem_iff.mpr (by simp)) : ¬ ((fH2 q1 (rr27 (0 : Int32)) (rr27 (1 : Int32))) = (0 : Int32)))).2) (by decide) (by decide) k) ?_
        refine OEnds.go (g' := (mkF m 172 #[.val (.long q0), .second, .val (.long q1), .second, .val (.long q2), .second, .val (.int p3), .val (.int (2 : Int32)), .val (.ref b21), .val (.ref r27), .val (.int (2 : Int32))] [(.int (2 : Int32))])) (fun t k => XS.iload X30.here hx rfl (hb hby at_170) rfl k) ?_
        refine OEnds.go (g' := (mkF m 173 #[.val (.long q0), .second, .val (.long q1), .second, .val (.long q2), .second, .val (.int p3), .val (.int (2 : Int32)), .val (.ref b21), .val (.ref r27), .val (.int (2 : Int32))] [(.int (3 : Int32)), (.int (2 : Int32))])) (fun t k => XS.iconst X30.here hx rfl (hb hby at_172) k) ?_
        refine OEnds.go (g' := (mkF m 188 #[.val (.long q0), .second, .val (.long q1), .second, .val (.long q2), .second, .val (.int p3), .val (.int (2 : Int32)), .val (.ref b21), .val (.ref r27), .val (.int (2 : Int32))] [])) (fun t k => XS.icmpYes X30.here hx rfl (pc0 := 173) (pc' := 188) rfl (hb hby at_173) rfl (tlt (by decide : ((2 : Int32) < (3 : Int32)))).1 (by decide) (by decide) k) ?_
        refine OEnds.go (g' := (mkF m 190 #[.val (.long q0), .second, .val (.long q1), .second, .val (.long q2), .second, .val (.int p3), .val (.int (2 : Int32)), .val (.ref b21), .val (.ref r27), .val (.int (2 : Int32))] [(.ref r27)])) (fun t k => XS.aload X30.here hx rfl (hb hby at_188) rfl rfl k) ?_
        obtain ⟨cl31, Ar31, qa31, Sa31, Na31, Ha31, Ga31⟩ := @id _ VR27
        refine OEnds.go (g' := (mkF m 191 #[.val (.long q0), .second, .val (.long q1), .second, .val (.long q2), .second, .val (.int p3), .val (.int (2 : Int32)), .val (.ref b21), .val (.ref r27), .val (.int (2 : Int32))] [(.int (2 : Int32))])) (fun t k => X30.arraylength hx (by rw [e30]; exact Ar31.1) (State.isArrayOf_alike hZ.alike Ar31.2.1) (g := (mkF m 190 #[.val (.long q0), .second, .val (.long q1), .second, .val (.long q2), .second, .val (.int p3), .val (.int (2 : Int32)), .val (.ref b21), .val (.ref r27), .val (.int (2 : Int32))] [(.ref r27)])) rfl rfl (hb hby at_190) t (by rw [len_of Sa31 Na31]; exact k)) ?_
        refine OEnds.go (g' := (mkF m 194 #[.val (.long q0), .second, .val (.long q1), .second, .val (.long q2), .second, .val (.int p3), .val (.int (2 : Int32)), .val (.ref b21), .val (.ref r27), .val (.int (2 : Int32))] [])) (fun t k => XS.ifNo X30.here hx rfl (hb hby at_191) rfl ((if0 _ _).trans (tlt (by decide : ((0 : Int32) < (2 : Int32)))).2.2.2) k) ?_
        refine OEnds.go (g' := (mkF m 196 #[.val (.long q0), .second, .val (.long q1), .second, .val (.long q2), .second, .val (.int p3), .val (.int (2 : Int32)), .val (.ref b21), .val (.ref r27), .val (.int (2 : Int32))] [(.ref r27)])) (fun t k => XS.aload X30.here hx rfl (hb hby at_194) rfl rfl k) ?_
        refine OEnds.go (g' := (mkF m 197 #[.val (.long q0), .second, .val (.long q1), .second, .val (.long q2), .second, .val (.int p3), .val (.int (2 : Int32)), .val (.ref b21), .val (.ref r27), .val (.int (2 : Int32))] [(.int (0 : Int32)), (.ref r27)])) (fun t k => XS.iconst X30.here hx rfl (hb hby at_196) k) ?_
        obtain ⟨cl32, Ar32, qa32, Sa32, Na32, Ha32, Ga32⟩ := @id _ VR27
        have hin32 : ¬ ((0 : Int32) < 0 ∨ cl32.slots.size ≤ ((0 : Int32)).toNatClampNeg) := inb_of Sa32 ⟨by decide, by decide⟩
        have hat32 : cl32.slots[((0 : Int32)).toNatClampNeg]? = some (.long (rr27 (0 : Int32))) := Has.at Ha32 hin32 rfl
        refine OEnds.go (g' := (mkF m 198 #[.val (.long q0), .second, .val (.long q1), .second, .val (.long q2), .second, .val (.int p3), .val (.int (2 : Int32)), .val (.ref b21), .val (.ref r27), .val (.int (2 : Int32))] [(.long (rr27 (0 : Int32)))])) (X30.laload hx (j := (0 : Int32)) (v := (.long (rr27 (0 : Int32)))) (by rw [e30]; exact Ar32.1) (State.isArrayOf_alike hZ.alike Ar32.2.1) Ar32.2.2 hin32 hat32 (g := (mkF m 197 #[.val (.long q0), .second, .val (.long q1), .second, .val (.long q2), .second, .val (.int p3), .val (.int (2 : Int32)), .val (.ref b21), .val (.ref r27), .val (.int (2 : Int32))] [(.int (0 : Int32)), (.ref r27)])) rfl rfl (hb hby at_197)) ?_
        refine OEnds.go (g' := (mkF m 200 #[.val (.long q0), .second, .val (.long q1), .second, .val (.long q2), .second, .val (.int p3), .val (.int (2 : Int32)), .val (.ref b21), .val (.ref r27), .val (.int (2 : Int32))] [(.int (2 : Int32)), (.long (rr27 (0 : Int32)))])) (fun t k => XS.iload X30.here hx rfl (hb hby at_198) rfl k) ?_
        refine OEnds.go (g' := (mkF m 201 #[.val (.long q0), .second, .val (.long q1), .second, .val (.long q2), .second, .val (.int p3), .val (.int (2 : Int32)), .val (.ref b21), .val (.ref r27), .val (.int (2 : Int32))] [(.long q0), (.int (2 : Int32)), (.long (rr27 (0 : Int32)))])) (fun t k => XS.lloadN X30.here hx rfl (hb hby at_200) rfl k) ?_
        refine OEnds.go (g' := (mkF m 202 #[.val (.long q0), .second, .val (.long q1), .second, .val (.long q2), .second, .val (.int p3), .val (.int (2 : Int32)), .val (.ref b21), .val (.ref r27), .val (.int (2 : Int32))] [(.long q1), (.long q0), (.int (2 : Int32)), (.long (rr27 (0 : Int32)))])) (fun t k => XS.lloadN X30.here hx rfl (hb hby at_201) rfl k) ?_
        refine OEnds.go (g' := (mkF m 204 #[.val (.long q0), .second, .val (.long q1), .second, .val (.long q2), .second, .val (.int p3), .val (.int (2 : Int32)), .val (.ref b21), .val (.ref r27), .val (.int (2 : Int32))] [(.long q2), (.long q1), (.long q0), (.int (2 : Int32)), (.long (rr27 (0 : Int32)))])) (fun t k => XS.lload X30.here hx rfl (hb hby at_202) rfl k) ?_
        obtain ⟨_, _, ⟨T33, L33, k33, n33⟩, -, X33, ⟨Lc33, hQ33, l33, y33, z33⟩, st33⟩ := Jvm.LawKit.callS X30 hx (y := (⟨"com/example/slimheap/slimheap/hprof/IdMapIdsPinLaw", "inSet", "(JIJJJ)Z"⟩ : MethodName)) hown (mvT hZ (hw _ (List.mem_of_getElem? (i := 45) rfl))) (mvT hZ (hw _ (List.mem_of_getElem? (i := 46) rfl))) (mvT hZ (hw _ (List.mem_of_getElem? (i := 43) rfl))) (mvT hZ (hw _ (List.mem_of_getElem? (i := 47) rfl))) (by decide) (backOf (W := 0) (rm8 l Z a0 hw [] (rr27 (0 : Int32)) (2 : Int32) q0 q1 q2 T27.heap n0 (Nat.le_trans (Nat.le_trans (Nat.le_trans (Nat.le_trans (Nat.le_trans Z0 E21.1) K22q.1) K24q.1) K26q.1) K27q.1)) hZ (hw _ (List.mem_of_getElem? (i := 47) rfl)) (hw _ (List.mem_of_getElem? (i := 43) rfl)) (by decide) (by decide)) (g := (mkF m 204 #[.val (.long q0), .second, .val (.long q1), .second, .val (.long q2), .second, .val (.int p3), .val (.int (2 : Int32)), .val (.ref b21), .val (.ref r27), .val (.int (2 : Int32))] [(.long q2), (.long q1), (.long q0), (.int (2 : Int32)), (.long (rr27 (0 : Int32)))])) rfl (by rw [hml]; rfl) (argsL := [(.long (rr27 (0 : Int32))), (.int (2 : Int32)), (.long q0), (.long q1), (.long q2)]) (rest := []) (lenOf pd_6 rfl) rfl (by show 2 * 0 + _ ≤ _; exact Nat.le_of_eq rfl) (hb hby at_204) (fun _ _ => ⟨rfl, e30, (by decide : 4 + 0 ≤ _), (by decide : 133 + 0 ≤ _)⟩)
        dsimp only [Pt.U, Pt.locs, Pt.cells, Pt.slots] at X33 l33 y33 z33 st33 hQ33
        subst l33 y33 z33
        obtain ⟨rfl, N33q, e33⟩ := hQ33
        have N33 := Fr.app N30 N33q
        refine OEnds.go (g' := (mkF m 207 #[.val (.long q0), .second, .val (.long q1), .second, .val (.long q2), .second, .val (.int p3), .val (.int (2 : Int32)), .val (.ref b21), .val (.ref r27), .val (.int (2 : Int32))] [(.int (f8 (rr27 (0 : Int32)) (2 : Int32) q0 q1 q2))])) st33 ?_
        refine OEnds.go (g' := (mkF m 212 #[.val (.long q0), .second, .val (.long q1), .second, .val (.long q2), .second, .val (.int p3), .val (.int (2 : Int32)), .val (.ref b21), .val (.ref r27), .val (.int (2 : Int32))] [])) (fun t k => XS.ifYes X33.here hx rfl (pc0 := 207) (pc' := 212) rfl (hb hby at_207) rfl ((if0 _ _).trans (feq (own_set2 _ _ _ _ (by have t := pm27.mem_iff.mp (show (rr27 (0 : Int32)) ∈ ([(rr27 (0 : Int32)), (rr27 (1 : Int32))] : List Int64) from by simp); simp only [List.mem_cons, List.not_mem_nil, or_false] at t; first | (rcases t with t | t | t <;> simp [t]; done) | (rcases t with t | t <;> simp [t]; done) | (simp [t]; done)) : ¬ ((f8 (rr27 (0 : Int32)) (2 : Int32) q0 q1 q2) = (0 : Int32)))).2) (by decide) (by decide) k) ?_
        refine OEnds.go (g' := (mkF m 214 #[.val (.long q0), .second, .val (.long q1), .second, .val (.long q2), .second, .val (.int p3), .val (.int (2 : Int32)), .val (.ref b21), .val (.ref r27), .val (.int (2 : Int32))] [(.ref r27)])) (fun t k => XS.aload X33.here hx rfl (hb hby at_212) rfl rfl k) ?_
        obtain ⟨cl34, Ar34, qa34, Sa34, Na34, Ha34, Ga34⟩ := @id _ VR27
        refine OEnds.go (g' := (mkF m 215 #[.val (.long q0), .second, .val (.long q1), .second, .val (.long q2), .second, .val (.int p3), .val (.int (2 : Int32)), .val (.ref b21), .val (.ref r27), .val (.int (2 : Int32))] [(.int (2 : Int32))])) (fun t k => X33.arraylength hx (by rw [e33]; exact Ar34.1) (State.isArrayOf_alike hZ.alike Ar34.2.1) (g := (mkF m 214 #[.val (.long q0), .second, .val (.long q1), .second, .val (.long q2), .second, .val (.int p3), .val (.int (2 : Int32)), .val (.ref b21), .val (.ref r27), .val (.int (2 : Int32))] [(.ref r27)])) rfl rfl (hb hby at_214) t (by rw [len_of Sa34 Na34]; exact k)) ?_
        refine OEnds.go (g' := (mkF m 216 #[.val (.long q0), .second, .val (.long q1), .second, .val (.long q2), .second, .val (.int p3), .val (.int (2 : Int32)), .val (.ref b21), .val (.ref r27), .val (.int (2 : Int32))] [(.int (1 : Int32)), (.int (2 : Int32))])) (fun t k => XS.iconst X33.here hx rfl (hb hby at_215) k) ?_
        refine OEnds.go (g' := (mkF m 219 #[.val (.long q0), .second, .val (.long q1), .second, .val (.long q2), .second, .val (.int p3), .val (.int (2 : Int32)), .val (.ref b21), .val (.ref r27), .val (.int (2 : Int32))] [])) (fun t k => XS.icmpNo X33.here hx rfl (hb hby at_216) rfl (tlt (by decide : ((1 : Int32) < (2 : Int32)))).2.2.2 k) ?_
        refine OEnds.go (g' := (mkF m 221 #[.val (.long q0), .second, .val (.long q1), .second, .val (.long q2), .second, .val (.int p3), .val (.int (2 : Int32)), .val (.ref b21), .val (.ref r27), .val (.int (2 : Int32))] [(.ref r27)])) (fun t k => XS.aload X33.here hx rfl (hb hby at_219) rfl rfl k) ?_
        refine OEnds.go (g' := (mkF m 222 #[.val (.long q0), .second, .val (.long q1), .second, .val (.long q2), .second, .val (.int p3), .val (.int (2 : Int32)), .val (.ref b21), .val (.ref r27), .val (.int (2 : Int32))] [(.int (1 : Int32)), (.ref r27)])) (fun t k => XS.iconst X33.here hx rfl (hb hby at_221) k) ?_
        obtain ⟨cl35, Ar35, qa35, Sa35, Na35, Ha35, Ga35⟩ := @id _ VR27
        have hin35 : ¬ ((1 : Int32) < 0 ∨ cl35.slots.size ≤ ((1 : Int32)).toNatClampNeg) := inb_of Sa35 ⟨by decide, by decide⟩
        have hat35 : cl35.slots[((1 : Int32)).toNatClampNeg]? = some (.long (rr27 (1 : Int32))) := Has.at Ha35 hin35 rfl
        refine OEnds.go (g' := (mkF m 223 #[.val (.long q0), .second, .val (.long q1), .second, .val (.long q2), .second, .val (.int p3), .val (.int (2 : Int32)), .val (.ref b21), .val (.ref r27), .val (.int (2 : Int32))] [(.long (rr27 (1 : Int32)))])) (X33.laload hx (j := (1 : Int32)) (v := (.long (rr27 (1 : Int32)))) (by rw [e33]; exact Ar35.1) (State.isArrayOf_alike hZ.alike Ar35.2.1) Ar35.2.2 hin35 hat35 (g := (mkF m 222 #[.val (.long q0), .second, .val (.long q1), .second, .val (.long q2), .second, .val (.int p3), .val (.int (2 : Int32)), .val (.ref b21), .val (.ref r27), .val (.int (2 : Int32))] [(.int (1 : Int32)), (.ref r27)])) rfl rfl (hb hby at_222)) ?_
        refine OEnds.go (g' := (mkF m 225 #[.val (.long q0), .second, .val (.long q1), .second, .val (.long q2), .second, .val (.int p3), .val (.int (2 : Int32)), .val (.ref b21), .val (.ref r27), .val (.int (2 : Int32))] [(.int (2 : Int32)), (.long (rr27 (1 : Int32)))])) (fun t k => XS.iload X33.here hx rfl (hb hby at_223) rfl k) ?_
        refine OEnds.go (g' := (mkF m 226 #[.val (.long q0), .second, .val (.long q1), .second, .val (.long q2), .second, .val (.int p3), .val (.int (2 : Int32)), .val (.ref b21), .val (.ref r27), .val (.int (2 : Int32))] [(.long q0), (.int (2 : Int32)), (.long (rr27 (1 : Int32)))])) (fun t k => XS.lloadN X33.here hx rfl (hb hby at_225) rfl k) ?_
        refine OEnds.go (g' := (mkF m 227 #[.val (.long q0), .second, .val (.long q1), .second, .val (.long q2), .second, .val (.int p3), .val (.int (2 : Int32)), .val (.ref b21), .val (.ref r27), .val (.int (2 : Int32))] [(.long q1), (.long q0), (.int (2 : Int32)), (.long (rr27 (1 : Int32)))])) (fun t k => XS.lloadN X33.here hx rfl (hb hby at_226) rfl k) ?_
        refine OEnds.go (g' := (mkF m 229 #[.val (.long q0), .second, .val (.long q1), .second, .val (.long q2), .second, .val (.int p3), .val (.int (2 : Int32)), .val (.ref b21), .val (.ref r27), .val (.int (2 : Int32))] [(.long q2), (.long q1), (.long q0), (.int (2 : Int32)), (.long (rr27 (1 : Int32)))])) (fun t k => XS.lload X33.here hx rfl (hb hby at_227) rfl k) ?_
        obtain ⟨_, _, ⟨T36, L36, k36, n36⟩, -, X36, ⟨Lc36, hQ36, l36, y36, z36⟩, st36⟩ := Jvm.LawKit.callS X33 hx (y := (⟨"com/example/slimheap/slimheap/hprof/IdMapIdsPinLaw", "inSet", "(JIJJJ)Z"⟩ : MethodName)) hown (mvT hZ (hw _ (List.mem_of_getElem? (i := 45) rfl))) (mvT hZ (hw _ (List.mem_of_getElem? (i := 46) rfl))) (mvT hZ (hw _ (List.mem_of_getElem? (i := 43) rfl))) (mvT hZ (hw _ (List.mem_of_getElem? (i := 47) rfl))) (by decide) (backOf (W := 0) (rm8 l Z a0 hw [] (rr27 (1 : Int32)) (2 : Int32) q0 q1 q2 T27.heap n0 (Nat.le_trans (Nat.le_trans (Nat.le_trans (Nat.le_trans (Nat.le_trans Z0 E21.1) K22q.1) K24q.1) K26q.1) K27q.1)) hZ (hw _ (List.mem_of_getElem? (i := 47) rfl)) (hw _ (List.mem_of_getElem? (i := 43) rfl)) (by decide) (by decide)) (g := (mkF m 229 #[.val (.long q0), .second, .val (.long q1), .second, .val (.long q2), .second, .val (.int p3), .val (.int (2 : Int32)), .val (.ref b21), .val (.ref r27), .val (.int (2 : Int32))] [(.long q2), (.long q1), (.long q0), (.int (2 : Int32)), (.long (rr27 (1 : Int32)))])) rfl (by rw [hml]; rfl) (argsL := [(.long (rr27 (1 : Int32))), (.int (2 : Int32)), (.long q0), (.long q1), (.long q2)]) (rest := []) (lenOf pd_6 rfl) rfl (by show 2 * 0 + _ ≤ _; exact Nat.le_of_eq rfl) (hb hby at_229) (fun _ _ => ⟨rfl, e33, (by decide : 4 + 0 ≤ _), (by decide : 133 + 0 ≤ _)⟩)
        dsimp only [Pt.U, Pt.locs, Pt.cells, Pt.slots] at X36 l36 y36 z36 st36 hQ36
        subst l36 y36 z36
        obtain ⟨rfl, N36q, e36⟩ := hQ36
        have N36 := Fr.app N33 N36q
        refine OEnds.go (g' := (mkF m 232 #[.val (.long q0), .second, .val (.long q1), .second, .val (.long q2), .second, .val (.int p3), .val (.int (2 : Int32)), .val (.ref b21), .val (.ref r27), .val (.int (2 : Int32))] [(.int (f8 (rr27 (1 : Int32)) (2 : Int32) q0 q1 q2))])) st36 ?_
        refine OEnds.go (g' := (mkF m 237 #[.val (.long q0), .second, .val (.long q1), .second, .val (.long q2), .second, .val (.int p3), .val (.int (2 : Int32)), .val (.ref b21), .val (.ref r27), .val (.int (2 : Int32))] [])) (fun t k => XS.ifYes X36.here hx rfl (pc0 := 232) (pc' := 237) rfl (hb hby at_232) rfl ((if0 _ _).trans (feq (own_set2 _ _ _ _ (by have t := pm27.mem_iff.mp (show (rr27 (1 : Int32)) ∈ ([(rr27 (0 : Int32)), (rr27 (1 : Int32))] : List Int64) from by simp); simp only [List.mem_cons, List.not_mem_nil, or_false] at t; first | (rcases t with t | t | t <;> simp [t]; done) | (rcases t with t | t <;> simp [t]; done) | (simp [t]; done)) : ¬ ((f8 (rr27 (1 : Int32)) (2 : Int32) q0 q1 q2) = (0 : Int32)))).2) (by decide) (by decide) k) ?_
        refine OEnds.go (g' := (mkF m 239 #[.val (.long q0), .second, .val (.long q1), .second, .val (.long q2), .second, .val (.int p3), .val (.int (2 : Int32)), .val (.ref b21), .val (.ref r27), .val (.int (2 : Int32))] [(.ref r27)])) (fun t k => XS.aload X36.here hx rfl (hb hby at_237) rfl rfl k) ?_
        obtain ⟨cl37, Ar37, qa37, Sa37, Na37, Ha37, Ga37⟩ := @id _ VR27
        refine OEnds.go (g' := (mkF m 240 #[.val (.long q0), .second, .val (.long q1), .second, .val (.long q2), .second, .val (.int p3), .val (.int (2 : Int32)), .val (.ref b21), .val (.ref r27), .val (.int (2 : Int32))] [(.int (2 : Int32))])) (fun t k => X36.arraylength hx (by rw [e36]; exact Ar37.1) (State.isArrayOf_alike hZ.alike Ar37.2.1) (g := (mkF m 239 #[.val (.long q0), .second, .val (.long q1), .second, .val (.long q2), .second, .val (.int p3), .val (.int (2 : Int32)), .val (.ref b21), .val (.ref r27), .val (.int (2 : Int32))] [(.ref r27)])) rfl rfl (hb hby at_239) t (by rw [len_of Sa37 Na37]; exact k)) ?_
        refine OEnds.go (g' := (mkF m 241 #[.val (.long q0), .second, .val (.long q1), .second, .val (.long q2), .second, .val (.int p3), .val (.int (2 : Int32)), .val (.ref b21), .val (.ref r27), .val (.int (2 : Int32))] [(.int (2 : Int32)), (.int (2 : Int32))])) (fun t k => XS.iconst X36.here hx rfl (hb hby at_240) k) ?_
        refine OEnds.go (g' := (mkF m 262 #[.val (.long q0), .second, .val (.long q1), .second, .val (.long q2), .second, .val (.int p3), .val (.int (2 : Int32)), .val (.ref b21), .val (.ref r27), .val (.int (2 : Int32))] [])) (fun t k => XS.icmpYes X36.here hx rfl (pc0 := 241) (pc' := 262) rfl (hb hby at_241) rfl (flt (by decide : ¬ ((2 : Int32) < (2 : Int32)))).2.2.2 (by decide) (by decide) k) ?_
        refine OEnds.go (g' := (mkF m 263 #[.val (.long q0), .second, .val (.long q1), .second, .val (.long q2), .second, .val (.int p3), .val (.int (2 : Int32)), .val (.ref b21), .val (.ref r27), .val (.int (2 : Int32))] [(.int (1 : Int32))])) (fun t k => XS.iconst X36.here hx rfl (hb hby at_262) k) ?_
        exact OEnds.outN X36 Bd.notSynchronized hx (t := .boolean) Bd.returns (by simp) (hb hby at_263) ⟨rfl, N36⟩ (by decide) (by decide)
      · -- again
        obtain ⟨nx26, I26⟩ := own_ovr (y := y_2) I24 Fd26 hn26
        rcases (by simpa using own_ids nx26 : q1 = q0) with t26
        · -- q0
          refine OEnds.go (g' := (mkF m 49 #[.val (.long q0), .second, .val (.long q1), .second, .val (.long q2), .second, .val (.int p3), .val (.int (2 : Int32)), .val (.ref b21), .unset, .unset] [(.int (2 : Int32))])) (fun t k => XS.iload X26.here hx rfl (hb hby at_47) rfl k) ?_
          refine OEnds.go (g' := (mkF m 50 #[.val (.long q0), .second, .val (.long q1), .second, .val (.long q2), .second, .val (.int p3), .val (.int (2 : Int32)), .val (.ref b21), .unset, .unset] [(.int (3 : Int32)), (.int (2 : Int32))])) (fun t k => XS.iconst X26.here hx rfl (hb hby at_49) k) ?_
          refine OEnds.go (g' := (mkF m 64 #[.val (.long q0), .second, .val (.long q1), .second, .val (.long q2), .second, .val (.int p3), .val (.int (2 : Int32)), .val (.ref b21), .unset, .unset] [])) (fun t k => XS.icmpYes X26.here hx rfl (pc0 := 50) (pc' := 64) rfl (hb hby at_50) rfl (tlt (by decide : ((2 : Int32) < (3 : Int32)))).1 (by decide) (by decide) k) ?_
          refine OEnds.go (g' := (mkF m 66 #[.val (.long q0), .second, .val (.long q1), .second, .val (.long q2), .second, .val (.int p3), .val (.int (2 : Int32)), .val (.ref b21), .unset, .unset] [(.ref b21)])) (fun t k => XS.aload X26.here hx rfl (hb hby at_64) rfl rfl k) ?_
          obtain ⟨cq38, kq38, q38a, q38b, q38c⟩ := isOf hZ rfl E26q
          obtain ⟨_, _, ⟨T38, L38, k38, n38⟩, -, X38, ⟨Lc38, hQ38, l38, y38, z38⟩, st38⟩ := X26.virtualBack hx (y := (⟨"com/example/slimheap/slimheap/hprof/IdMap", "ids", "()[J"⟩ : MethodName)) (z := (⟨"com/example/slimheap/slimheap/hprof/IdMap", "ids", "()[J"⟩ : MethodName)) hown (mvT hZ (hw _ (List.mem_of_getElem? (i := 36) rfl))) (mvT hZ (hw _ (List.mem_of_getElem? (i := 37) rfl))) (notFace_of_selects (args := #[]) (mvT hZ (hw _ (List.mem_of_getElem? (i := 39) rfl)))) (mvT hZ (hw _ (List.mem_of_getElem? (i := 39) rfl))) (mvT hZ (hw _ (List.mem_of_getElem? (i := 38) rfl))) (by decide) (backOf (W := 0) (rmD1 l Z a0 hw [] b21 ia22 va22 ki22 kv22 (own_u (own_u (fun _ => .null) j24 (.ref y_1)) j26 (.ref y_2)) (own_u (fun _ => (0 : Int64)) j24 q0) T26.heap n0 (Nat.le_trans (Nat.le_trans (Nat.le_trans (Nat.le_trans Z0 E21.1) K22q.1) K24q.1) K26q.1) Fi26q Fv26q AI26q AV26q Fs26q (own_perm I26).length_eq) hZ (hw _ (List.mem_of_getElem? (i := 40) rfl)) (hw _ (List.mem_of_getElem? (i := 2) rfl)) (by decide) (by decide)) q38a q38c (g := (mkF m 66 #[.val (.long q0), .second, .val (.long q1), .second, .val (.long q2), .second, .val (.int p3), .val (.int (2 : Int32)), .val (.ref b21), .unset, .unset] [(.ref b21)])) rfl (by rw [hml]; rfl) (Steps.refl _) (argsL := []) (rest := []) (lenOf pd_2 rfl) rfl (by show 2 * 0 + _ ≤ _; exact Nat.le_of_eq rfl) (hb hby at_66) (fun _ _ => ⟨rfl, rfl, (by decide : 3 + 1 ≤ _), (by decide : 131 + 1 ≤ _)⟩)
          dsimp only [Pt.U, Pt.locs, Pt.cells, Pt.slots] at X38 l38 y38 z38 st38 hQ38
          subst l38 y38 z38
          obtain ⟨r38, kr38, rr38, rfl, N38q, K38q, AR38, hP38, g_r38⟩ := hQ38
          have N38 := Fr.app N26 N38q
          have VR38 : Arv Z T38.heap r38 kr38 .long (1 : Int32) [(.long (rr38 (0 : Int32)))] (.long (0 : Int64)) := own_Av.arv (n := 1) AR38 (by decide)
          have pm38 : ([(rr38 (0 : Int32))] : List Int64).Perm [q0] := by have t := own_perm I26; have u := own_lits hP38 (own_perm I26).length_eq; rw [u] at t; exact t
          refine OEnds.tr (g' := (mkF m 69 #[.val (.long q0), .second, .val (.long q1), .second, .val (.long q2), .second, .val (.int p3), .val (.int (2 : Int32)), .val (.ref b21), .unset, .unset] [(.ref r38)])) st38 ?_
          refine OEnds.go (g' := (mkF m 71 #[.val (.long q0), .second, .val (.long q1), .second, .val (.long q2), .second, .val (.int p3), .val (.int (2 : Int32)), .val (.ref b21), .val (.ref r38), .unset] [])) (fun t k => XS.astore X38.here hx rfl (hb hby at_69) rfl rfl (l' := #[.val (.long q0), .second, .val (.long q1), .second, .val (.long q2), .second, .val (.int p3), .val (.int (2 : Int32)), .val (.ref b21), .val (.ref r38), .unset]) rfl k) ?_
          refine OEnds.go (g' := (mkF m 72 #[.val (.long q0), .second, .val (.long q1), .second, .val (.long q2), .second, .val (.int p3), .val (.int (2 : Int32)), .val (.ref b21), .val (.ref r38), .unset] [(.int (0 : Int32))])) (fun t k => XS.iconst X38.here hx rfl (hb hby at_71) k) ?_
          refine OEnds.go (g' := (mkF m 74 #[.val (.long q0), .second, .val (.long q1), .second, .val (.long q2), .second, .val (.int p3), .val (.int (2 : Int32)), .val (.ref b21), .val (.ref r38), .val (.int (0 : Int32))] [])) (fun t k => XS.istore X38.here hx rfl (hb hby at_72) rfl (l' := #[.val (.long q0), .second, .val (.long q1), .second, .val (.long q2), .second, .val (.int p3), .val (.int (2 : Int32)), .val (.ref b21), .val (.ref r38), .val (.int (0 : Int32))]) rfl k) ?_
          refine OEnds.go (g' := (mkF m 76 #[.val (.long q0), .second, .val (.long q1), .second, .val (.long q2), .second, .val (.int p3), .val (.int (2 : Int32)), .val (.ref b21), .val (.ref r38), .val (.int (0 : Int32))] [(.int (2 : Int32))])) (fun t k => XS.iload X38.here hx rfl (hb hby at_74) rfl k) ?_
          refine OEnds.go (g' := (mkF m 77 #[.val (.long q0), .second, .val (.long q1), .second, .val (.long q2), .second, .val (.int p3), .val (.int (2 : Int32)), .val (.ref b21), .val (.ref r38), .val (.int (0 : Int32))] [(.int (1 : Int32)), (.int (2 : Int32))])) (fun t k => XS.iconst X38.here hx rfl (hb hby at_76) k) ?_
          refine OEnds.go (g' := (mkF m 80 #[.val (.long q0), .second, .val (.long q1), .second, .val (.long q2), .second, .val (.int p3), .val (.int (2 : Int32)), .val (.ref b21), .val (.ref r38), .val (.int (0 : Int32))] [])) (fun t k => XS.icmpNo X38.here hx rfl (hb hby at_77) rfl (flt (by decide : ¬ ((2 : Int32) < (1 : Int32)))).1 k) ?_
          refine OEnds.go (g' := (mkF m 83 #[.val (.long q0), .second, .val (.long q1), .second, .val (.long q2), .second, .val (.int p3), .val (.int (2 : Int32)), .val (.ref b21), .val (.ref r38), .val (.int ((0 : Int32) + (1 : Int32)))] [])) (fun t k => XS.iinc X38.here hx rfl (hb hby at_80) rfl (l' := #[.val (.long q0), .second, .val (.long q1), .second, .val (.long q2), .second, .val (.int p3), .val (.int (2 : Int32)), .val (.ref b21), .val (.ref r38), .val (.int ((0 : Int32) + (1 : Int32)))]) rfl k) ?_
          rw [show ((0 : Int32) + (1 : Int32)) = (1 : Int32) from by decide]
          refine OEnds.go (g' := (mkF m 85 #[.val (.long q0), .second, .val (.long q1), .second, .val (.long q2), .second, .val (.int p3), .val (.int (2 : Int32)), .val (.ref b21), .val (.ref r38), .val (.int (1 : Int32))] [(.int (2 : Int32))])) (fun t k => XS.iload X38.here hx rfl (hb hby at_83) rfl k) ?_
          refine OEnds.go (g' := (mkF m 86 #[.val (.long q0), .second, .val (.long q1), .second, .val (.long q2), .second, .val (.int p3), .val (.int (2 : Int32)), .val (.ref b21), .val (.ref r38), .val (.int (1 : Int32))] [(.int (2 : Int32)), (.int (2 : Int32))])) (fun t k => XS.iconst X38.here hx rfl (hb hby at_85) k) ?_
          refine OEnds.go (g' := (mkF m 89 #[.val (.long q0), .second, .val (.long q1), .second, .val (.long q2), .second, .val (.int p3), .val (.int (2 : Int32)), .val (.ref b21), .val (.ref r38), .val (.int (1 : Int32))] [])) (fun t k => XS.icmpNo X38.here hx rfl (hb hby at_86) rfl (flt (by decide : ¬ ((2 : Int32) < (2 : Int32)))).1 k) ?_
          refine OEnds.go (g' := (mkF m 90 #[.val (.long q0), .second, .val (.long q1), .second, .val (.long q2), .second, .val (.int p3), .val (.int (2 : Int32)), .val (.ref b21), .val (.ref r38), .val (.int (1 : Int32))] [(.long q1)])) (fun t k => XS.lloadN X38.here hx rfl (hb hby at_89) rfl k) ?_
          refine OEnds.go (g' := (mkF m 91 #[.val (.long q0), .second, .val (.long q1), .second, .val (.long q2), .second, .val (.int p3), .val (.int (2 : Int32)), .val (.ref b21), .val (.ref r38), .val (.int (1 : Int32))] [(.long q0), (.long q1)])) (fun t k => XS.lloadN X38.here hx rfl (hb hby at_90) rfl k) ?_
          refine OEnds.go (g' := (mkF m 92 #[.val (.long q0), .second, .val (.long q1), .second, .val (.long q2), .second, .val (.int p3), .val (.int (2 : Int32)), .val (.ref b21), .val (.ref r38), .val (.int (1 : Int32))] [(.int (lcmpW q1 q0))])) (fun t k => XS.lcmp X38.here hx rfl (hb hby at_91) rfl k) ?_
          refine OEnds.go (g' := (mkF m 98 #[.val (.long q0), .second, .val (.long q1), .second, .val (.long q2), .second, .val (.int p3), .val (.int (2 : Int32)), .val (.ref b21), .val (.ref r38), .val (.int (1 : Int32))] [])) (fun t k => XS.ifYes X38.here hx rfl (pc0 := 92) (pc' := 98) rfl (hb hby at_92) rfl ((if0 _ _).trans (teq ((lw_eq _ _).mpr t26)).1) (by decide) (by decide) k) ?_
          refine OEnds.go (g' := (mkF m 100 #[.val (.long q0), .second, .val (.long q1), .second, .val (.long q2), .second, .val (.int p3), .val (.int (2 : Int32)), .val (.ref b21), .val (.ref r38), .val (.int (1 : Int32))] [(.int (2 : Int32))])) (fun t k => XS.iload X38.here hx rfl (hb hby at_98) rfl k) ?_
          refine OEnds.go (g' := (mkF m 101 #[.val (.long q0), .second, .val (.long q1), .second, .val (.long q2), .second, .val (.int p3), .val (.int (2 : Int32)), .val (.ref b21), .val (.ref r38), .val (.int (1 : Int32))] [(.int (3 : Int32)), (.int (2 : Int32))])) (fun t k => XS.iconst X38.here hx rfl (hb hby at_100) k) ?_
          refine OEnds.go (g' := (mkF m 121 #[.val (.long q0), .second, .val (.long q1), .second, .val (.long q2), .second, .val (.int p3), .val (.int (2 : Int32)), .val (.ref b21), .val (.ref r38), .val (.int (1 : Int32))] [])) (fun t k => XS.icmpYes X38.here hx rfl (pc0 := 101) (pc' := 121) rfl (hb hby at_101) rfl (tlt (by decide : ((2 : Int32) < (3 : Int32)))).1 (by decide) (by decide) k) ?_
          refine OEnds.go (g' := (mkF m 123 #[.val (.long q0), .second, .val (.long q1), .second, .val (.long q2), .second, .val (.int p3), .val (.int (2 : Int32)), .val (.ref b21), .val (.ref r38), .val (.int (1 : Int32))] [(.ref r38)])) (fun t k => XS.aload X38.here hx rfl (hb hby at_121) rfl rfl k) ?_
          refine OEnds.go (g' := (mkF m 126 #[.val (.long q0), .second, .val (.long q1), .second, .val (.long q2), .second, .val (.int p3), .val (.int (2 : Int32)), .val (.ref b21), .val (.ref r38), .val (.int (1 : Int32))] [])) (fun t k => XS.ifnullNo X38.here hx rfl (hb hby at_123) rfl k) ?_
          refine OEnds.go (g' := (mkF m 128 #[.val (.long q0), .second, .val (.long q1), .second, .val (.long q2), .second, .val (.int p3), .val (.int (2 : Int32)), .val (.ref b21), .val (.ref r38), .val (.int (1 : Int32))] [(.ref r38)])) (fun t k => XS.aload X38.here hx rfl (hb hby at_126) rfl rfl k) ?_
          obtain ⟨cl39, Ar39, qa39, Sa39, Na39, Ha39, Ga39⟩ := @id _ VR38
          refine OEnds.go (g' := (mkF m 129 #[.val (.long q0), .second, .val (.long q1), .second, .val (.long q2), .second, .val (.int p3), .val (.int (2 : Int32)), .val (.ref b21), .val (.ref r38), .val (.int (1 : Int32))] [(.int (1 : Int32))])) (fun t k => X38.arraylength hx Ar39.1 (State.isArrayOf_alike hZ.alike Ar39.2.1) (g := (mkF m 128 #[.val (.long q0), .second, .val (.long q1), .second, .val (.long q2), .second, .val (.int p3), .val (.int (2 : Int32)), .val (.ref b21), .val (.ref r38), .val (.int (1 : Int32))] [(.ref r38)])) rfl rfl (hb hby at_128) t (by rw [len_of Sa39 Na39]; exact k)) ?_
          refine OEnds.go (g' := (mkF m 131 #[.val (.long q0), .second, .val (.long q1), .second, .val (.long q2), .second, .val (.int p3), .val (.int (2 : Int32)), .val (.ref b21), .val (.ref r38), .val (.int (1 : Int32))] [(.int (1 : Int32)), (.int (1 : Int32))])) (fun t k => XS.iload X38.here hx rfl (hb hby at_129) rfl k) ?_
          refine OEnds.go (g' := (mkF m 136 #[.val (.long q0), .second, .val (.long q1), .second, .val (.long q2), .second, .val (.int p3), .val (.int (2 : Int32)), .val (.ref b21), .val (.ref r38), .val (.int (1 : Int32))] [])) (fun t k => XS.icmpYes X38.here hx rfl (pc0 := 131) (pc' := 136) rfl (hb hby at_131) rfl (teq (by decide : ((1 : Int32) = (1 : Int32)))).1 (by decide) (by decide) k) ?_
          refine OEnds.go (g' := (mkF m 138 #[.val (.long q0), .second, .val (.long q1), .second, .val (.long q2), .second, .val (.int p3), .val (.int (2 : Int32)), .val (.ref b21), .val (.ref r38), .val (.int (1 : Int32))] [(.int (2 : Int32))])) (fun t k => XS.iload X38.here hx rfl (hb hby at_136) rfl k) ?_
          refine OEnds.go (g' := (mkF m 139 #[.val (.long q0), .second, .val (.long q1), .second, .val (.long q2), .second, .val (.int p3), .val (.int (2 : Int32)), .val (.ref b21), .val (.ref r38), .val (.int (1 : Int32))] [(.int (1 : Int32)), (.int (2 : Int32))])) (fun t k => XS.iconst X38.here hx rfl (hb hby at_138) k) ?_
          refine OEnds.go (g' := (mkF m 142 #[.val (.long q0), .second, .val (.long q1), .second, .val (.long q2), .second, .val (.int p3), .val (.int (2 : Int32)), .val (.ref b21), .val (.ref r38), .val (.int (1 : Int32))] [])) (fun t k => XS.icmpNo X38.here hx rfl (hb hby at_139) rfl (flt (by decide : ¬ ((2 : Int32) < (1 : Int32)))).1 k) ?_
          refine OEnds.go (g' := (mkF m 144 #[.val (.long q0), .second, .val (.long q1), .second, .val (.long q2), .second, .val (.int p3), .val (.int (2 : Int32)), .val (.ref b21), .val (.ref r38), .val (.int (1 : Int32))] [(.ref r38)])) (fun t k => XS.aload X38.here hx rfl (hb hby at_142) rfl rfl k) ?_
          refine OEnds.go (g' := (mkF m 145 #[.val (.long q0), .second, .val (.long q1), .second, .val (.long q2), .second, .val (.int p3), .val (.int (2 : Int32)), .val (.ref b21), .val (.ref r38), .val (.int (1 : Int32))] [(.long q0), (.ref r38)])) (fun t k => XS.lloadN X38.here hx rfl (hb hby at_144) rfl k) ?_
          obtain ⟨_, _, ⟨T40, L40, k40, n40⟩, -, X40, ⟨Lc40, hQ40, l40, y40, z40⟩, st40⟩ := Jvm.LawKit.callS X38 hx (y := (⟨"com/example/slimheap/slimheap/hprof/IdMapIdsPinLaw", "has", "([JJ)Z"⟩ : MethodName)) hown (mvT hZ (hw _ (List.mem_of_getElem? (i := 41) rfl))) (mvT hZ (hw _ (List.mem_of_getElem? (i := 42) rfl))) (mvT hZ (hw _ (List.mem_of_getElem? (i := 43) rfl))) (mvT hZ (hw _ (List.mem_of_getElem? (i := 44) rfl))) (by decide) (backOf (W := 0) (rmH1 l Z a0 hw [] r38 q0 kr38 (rr38 (0 : Int32)) T38.heap n0 (Nat.le_trans (Nat.le_trans (Nat.le_trans (Nat.le_trans (Nat.le_trans Z0 E21.1) K22q.1) K24q.1) K26q.1) K38q.1) VR38) hZ (hw _ (List.mem_of_getElem? (i := 44) rfl)) (hw _ (List.mem_of_getElem? (i := 43) rfl)) (by decide) (by decide)) (g := (mkF m 145 #[.val (.long q0), .second, .val (.long q1), .second, .val (.long q2), .second, .val (.int p3), .val (.int (2 : Int32)), .val (.ref b21), .val (.ref r38), .val (.int (1 : Int32))] [(.long q0), (.ref r38)])) rfl (by rw [hml]; rfl) (argsL := [(.ref r38), (.long q0)]) (rest := []) (lenOf pd_5 rfl) rfl (by show 2 * 0 + _ ≤ _; exact Nat.le_of_eq rfl) (hb hby at_145) (fun _ _ => ⟨rfl, rfl, (by decide : 4 + 0 ≤ _), (by decide : 132 + 0 ≤ _)⟩)
          dsimp only [Pt.U, Pt.locs, Pt.cells, Pt.slots] at X40 l40 y40 z40 st40 hQ40
          subst l40 y40 z40
          obtain ⟨rfl, N40q, e40⟩ := hQ40
          have N40 := Fr.app N38 N40q
          refine OEnds.go (g' := (mkF m 148 #[.val (.long q0), .second, .val (.long q1), .second, .val (.long q2), .second, .val (.int p3), .val (.int (2 : Int32)), .val (.ref b21), .val (.ref r38), .val (.int (1 : Int32))] [(.int (fH1 q0 (rr38 (0 : Int32))))])) st40 ?_
          refine OEnds.go (g' := (mkF m 153 #[.val (.long q0), .second, .val (.long q1), .second, .val (.long q2), .second, .val (.int p3), .val (.int (2 : Int32)), .val (.ref b21), .val (.ref r38), .val (.int (1 : Int32))] [])) (fun t k => XS.ifYes X40.here hx rfl (pc0 := 148) (pc' := 153) rfl (hb hby at_148) rfl ((if0 _ _).trans (feq (own_has1 _ _ (pm38.mem_iff.mpr (by simp [t26])) : ¬ ((fH1 q0 (rr38 (0 : Int32))) = (0 : Int32)))).2) (by decide) (by decide) k) ?_
          refine OEnds.go (g' := (mkF m 155 #[.val (.long q0), .second, .val (.long q1), .second, .val (.long q2), .second, .val (.int p3), .val (.int (2 : Int32)), .val (.ref b21), .val (.ref r38), .val (.int (1 : Int32))] [(.int (2 : Int32))])) (fun t k => XS.iload X40.here hx rfl (hb hby at_153) rfl k) ?_
          refine OEnds.go (g' := (mkF m 156 #[.val (.long q0), .second, .val (.long q1), .second, .val (.long q2), .second, .val (.int p3), .val (.int (2 : Int32)), .val (.ref b21), .val (.ref r38), .val (.int (1 : Int32))] [(.int (2 : Int32)), (.int (2 : Int32))])) (fun t k => XS.iconst X40.here hx rfl (hb hby at_155) k) ?_
          refine OEnds.go (g' := (mkF m 159 #[.val (.long q0), .second, .val (.long q1), .second, .val (.long q2), .second, .val (.int p3), .val (.int (2 : Int32)), .val (.ref b21), .val (.ref r38), .val (.int (1 : Int32))] [])) (fun t k => XS.icmpNo X40.here hx rfl (hb hby at_156) rfl (flt (by decide : ¬ ((2 : Int32) < (2 : Int32)))).1 k) ?_
          refine OEnds.go (g' := (mkF m 161 #[.val (.long q0), .second, .val (.long q1), .second, .val (.long q2), .second, .val (.int p3), .val (.int (2 : Int32)), .val (.ref b21), .val (.ref r38), .val (.int (1 : Int32))] [(.ref r38)])) (fun t k => XS.aload X40.here hx rfl (hb hby at_159) rfl rfl k) ?_
          refine OEnds.go (g' := (mkF m 162 #[.val (.long q0), .second, .val (.long q1), .second, .val (.long q2), .second, .val (.int p3), .val (.int (2 : Int32)), .val (.ref b21), .val (.ref r38), .val (.int (1 : Int32))] [(.long q1), (.ref r38)])) (fun t k => XS.lloadN X40.here hx rfl (hb hby at_161) rfl k) ?_
          obtain ⟨_, _, ⟨T41, L41, k41, n41⟩, -, X41, ⟨Lc41, hQ41, l41, y41, z41⟩, st41⟩ := Jvm.LawKit.callS X40 hx (y := (⟨"com/example/slimheap/slimheap/hprof/IdMapIdsPinLaw", "has", "([JJ)Z"⟩ : MethodName)) hown (mvT hZ (hw _ (List.mem_of_getElem? (i := 41) rfl))) (mvT hZ (hw _ (List.mem_of_getElem? (i := 42) rfl))) (mvT hZ (hw _ (List.mem_of_getElem? (i := 43) rfl))) (mvT hZ (hw _ (List.mem_of_getElem? (i := 44) rfl))) (by decide) (backOf (W := 0) (rmH1 l Z a0 hw [] r38 q1 kr38 (rr38 (0 : Int32)) T38.heap n0 (Nat.le_trans (Nat.le_trans (Nat.le_trans (Nat.le_trans (Nat.le_trans Z0 E21.1) K22q.1) K24q.1) K26q.1) K38q.1) VR38) hZ (hw _ (List.mem_of_getElem? (i := 44) rfl)) (hw _ (List.mem_of_getElem? (i := 43) rfl)) (by decide) (by decide)) (g := (mkF m 162 #[.val (.long q0), .second, .val (.long q1), .second, .val (.long q2), .second, .val (.int p3), .val (.int (2 : Int32)), .val (.ref b21), .val (.ref r38), .val (.int (1 : Int32))] [(.long q1), (.ref r38)])) rfl (by rw [hml]; rfl) (argsL := [(.ref r38), (.long q1)]) (rest := []) (lenOf pd_5 rfl) rfl (by show 2 * 0 + _ ≤ _; exact Nat.le_of_eq rfl) (hb hby at_162) (fun _ _ => ⟨rfl, e40, (by decide : 4 + 0 ≤ _), (by decide : 132 + 0 ≤ _)⟩)
          dsimp only [Pt.U, Pt.locs, Pt.cells, Pt.slots] at X41 l41 y41 z41 st41 hQ41
          subst l41 y41 z41
          obtain ⟨rfl, N41q, e41⟩ := hQ41
          have N41 := Fr.app N40 N41q
          refine OEnds.go (g' := (mkF m 165 #[.val (.long q0), .second, .val (.long q1), .second, .val (.long q2), .second, .val (.int p3), .val (.int (2 : Int32)), .val (.ref b21), .val (.ref r38), .val (.int (1 : Int32))] [(.int (fH1 q1 (rr38 (0 : Int32))))])) st41 ?_
          refine OEnds.go (g' := (mkF m 170 #[.val (.long q0), .second, .val (.long q1), .second, .val (.long q2), .second, .val (.int p3), .val (.int (2 : Int32)), .val (.ref b21), .val (.ref r38), .val (.int (1 : Int32))] [])) (fun t k => XS.ifYes X41.here hx rfl (pc0 := 165) (pc' := 170) rfl (hb hby at_165) rfl ((if0 _ _).trans (feq (own_has1 _ _ (pm38.mem_iff.mpr (by simp [t26])) : ¬ ((fH1 q1 (rr38 (0 : Int32))) = (0 : Int32)))).2) (by decide) (by decide) k) ?_
          refine OEnds.go (g' := (mkF m 172 #[.val (.long q0), .second, .val (.long q1), .second, .val (.long q2), .second, .val (.int p3), .val (.int (2 : Int32)), .val (.ref b21), .val (.ref r38), .val (.int (1 : Int32))] [(.int (2 : Int32))])) (fun t k => XS.iload X41.here hx rfl (hb hby at_170) rfl k) ?_
          refine OEnds.go (g' := (mkF m 173 #[.val (.long q0), .second, .val (.long q1), .second, .val (.long q2), .second, .val (.int p3), .val (.int (2 : Int32)), .val (.ref b21), .val (.ref r38), .val (.int (1 : Int32))] [(.int (3 : Int32)), (.int (2 : Int32))])) (fun t k => XS.iconst X41.here hx rfl (hb hby at_172) k) ?_
          refine OEnds.go (g' := (mkF m 188 #[.val (.long q0), .second, .val (.long q1), .second, .val (.long q2), .second, .val (.int p3), .val (.int (2 : Int32)), .val (.ref b21), .val (.ref r38), .val (.int (1 : Int32))] [])) (fun t k => XS.icmpYes X41.here hx rfl (pc0 := 173) (pc' := 188) rfl (hb hby at_173) rfl (tlt (by decide : ((2 : Int32) < (3 : Int32)))).1 (by decide) (by decide) k) ?_
          refine OEnds.go (g' := (mkF m 190 #[.val (.long q0), .second, .val (.long q1), .second, .val (.long q2), .second, .val (.int p3), .val (.int (2 : Int32)), .val (.ref b21), .val (.ref r38), .val (.int (1 : Int32))] [(.ref r38)])) (fun t k => XS.aload X41.here hx rfl (hb hby at_188) rfl rfl k) ?_
          obtain ⟨cl42, Ar42, qa42, Sa42, Na42, Ha42, Ga42⟩ := @id _ VR38
          refine OEnds.go (g' := (mkF m 191 #[.val (.long q0), .second, .val (.long q1), .second, .val (.long q2), .second, .val (.int p3), .val (.int (2 : Int32)), .val (.ref b21), .val (.ref r38), .val (.int (1 : Int32))] [(.int (1 : Int32))])) (fun t k => X41.arraylength hx (by rw [e41]; exact Ar42.1) (State.isArrayOf_alike hZ.alike Ar42.2.1) (g := (mkF m 190 #[.val (.long q0), .second, .val (.long q1), .second, .val (.long q2), .second, .val (.int p3), .val (.int (2 : Int32)), .val (.ref b21), .val (.ref r38), .val (.int (1 : Int32))] [(.ref r38)])) rfl rfl (hb hby at_190) t (by rw [len_of Sa42 Na42]; exact k)) ?_
          refine OEnds.go (g' := (mkF m 194 #[.val (.long q0), .second, .val (.long q1), .second, .val (.long q2), .second, .val (.int p3), .val (.int (2 : Int32)), .val (.ref b21), .val (.ref r38), .val (.int (1 : Int32))] [])) (fun t k => XS.ifNo X41.here hx rfl (hb hby at_191) rfl ((if0 _ _).trans (tlt (by decide : ((0 : Int32) < (1 : Int32)))).2.2.2) k) ?_
          refine OEnds.go (g' := (mkF m 196 #[.val (.long q0), .second, .val (.long q1), .second, .val (.long q2), .second, .val (.int p3), .val (.int (2 : Int32)), .val (.ref b21), .val (.ref r38), .val (.int (1 : Int32))] [(.ref r38)])) (fun t k => XS.aload X41.here hx rfl (hb hby at_194) rfl rfl k) ?_
          refine OEnds.go (g' := (mkF m 197 #[.val (.long q0), .second, .val (.long q1), .second, .val (.long q2), .second, .val (.int p3), .val (.int (2 : Int32)), .val (.ref b21), .val (.ref r38), .val (.int (1 : Int32))] [(.int (0 : Int32)), (.ref r38)])) (fun t k => XS.iconst X41.here hx rfl (hb hby at_196) k) ?_
          obtain ⟨cl43, Ar43, qa43, Sa43, Na43, Ha43, Ga43⟩ := @id _ VR38
          have hin43 : ¬ ((0 : Int32) < 0 ∨ cl43.slots.size ≤ ((0 : Int32)).toNatClampNeg) := inb_of Sa43 ⟨by decide, by decide⟩
          have hat43 : cl43.slots[((0 : Int32)).toNatClampNeg]? = some (.long (rr38 (0 : Int32))) := Has.at Ha43 hin43 rfl
          refine OEnds.go (g' := (mkF m 198 #[.val (.long q0), .second, .val (.long q1), .second, .val (.long q2), .second, .val (.int p3), .val (.int (2 : Int32)), .val (.ref b21), .val (.ref r38), .val (.int (1 : Int32))] [(.long (rr38 (0 : Int32)))])) (X41.laload hx (j := (0 : Int32)) (v := (.long (rr38 (0 : Int32)))) (by rw [e41]; exact Ar43.1) (State.isArrayOf_alike hZ.alike Ar43.2.1) Ar43.2.2 hin43 hat43 (g := (mkF m 197 #[.val (.long q0), .second, .val (.long q1), .second, .val (.long q2), .second, .val (.int p3), .val (.int (2 : Int32)), .val (.ref b21), .val (.ref r38), .val (.int (1 : Int32))] [(.int (0 : Int32)), (.ref r38)])) rfl rfl (hb hby at_197)) ?_
          refine OEnds.go (g' := (mkF m 200 #[.val (.long q0), .second, .val (.long q1), .second, .val (.long q2), .second, .val (.int p3), .val (.int (2 : Int32)), .val (.ref b21), .val (.ref r38), .val (.int (1 : Int32))] [(.int (2 : Int32)), (.long (rr38 (0 : Int32)))])) (fun t k => XS.iload X41.here hx rfl (hb hby at_198) rfl k) ?_
          refine OEnds.go (g' := (mkF m 201 #[.val (.long q0), .second, .val (.long q1), .second, .val (.long q2), .second, .val (.int p3), .val (.int (2 : Int32)), .val (.ref b21), .val (.ref r38), .val (.int (1 : Int32))] [(.long q0), (.int (2 : Int32)), (.long (rr38 (0 : Int32)))])) (fun t k => XS.lloadN X41.here hx rfl (hb hby at_200) rfl k) ?_
          refine OEnds.go (g' := (mkF m 202 #[.val (.long q0), .second, .val (.long q1), .second, .val (.long q2), .second, .val (.int p3), .val (.int (2 : Int32)), .val (.ref b21), .val (.ref r38), .val (.int (1 : Int32))] [(.long q1), (.long q0), (.int (2 : Int32)), (.long (rr38 (0 : Int32)))])) (fun t k => XS.lloadN X41.here hx rfl (hb hby at_201) rfl k) ?_
          refine OEnds.go (g' := (mkF m 204 #[.val (.long q0), .second, .val (.long q1), .second, .val (.long q2), .second, .val (.int p3), .val (.int (2 : Int32)), .val (.ref b21), .val (.ref r38), .val (.int (1 : Int32))] [(.long q2), (.long q1), (.long q0), (.int (2 : Int32)), (.long (rr38 (0 : Int32)))])) (fun t k => XS.lload X41.here hx rfl (hb hby at_202) rfl k) ?_
          obtain ⟨_, _, ⟨T44, L44, k44, n44⟩, -, X44, ⟨Lc44, hQ44, l44, y44, z44⟩, st44⟩ := Jvm.LawKit.callS X41 hx (y := (⟨"com/example/slimheap/slimheap/hprof/IdMapIdsPinLaw", "inSet", "(JIJJJ)Z"⟩ : MethodName)) hown (mvT hZ (hw _ (List.mem_of_getElem? (i := 45) rfl))) (mvT hZ (hw _ (List.mem_of_getElem? (i := 46) rfl))) (mvT hZ (hw _ (List.mem_of_getElem? (i := 43) rfl))) (mvT hZ (hw _ (List.mem_of_getElem? (i := 47) rfl))) (by decide) (backOf (W := 0) (rm8 l Z a0 hw [] (rr38 (0 : Int32)) (2 : Int32) q0 q1 q2 T38.heap n0 (Nat.le_trans (Nat.le_trans (Nat.le_trans (Nat.le_trans (Nat.le_trans Z0 E21.1) K22q.1) K24q.1) K26q.1) K38q.1)) hZ (hw _ (List.mem_of_getElem? (i := 47) rfl)) (hw _ (List.mem_of_getElem? (i := 43) rfl)) (by decide) (by decide)) (g := (mkF m 204 #[.val (.long q0), .second, .val (.long q1), .second, .val (.long q2), .second, .val (.int p3), .val (.int (2 : Int32)), .val (.ref b21), .val (.ref r38), .val (.int (1 : Int32))] [(.long q2), (.long q1), (.long q0), (.int (2 : Int32)), (.long (rr38 (0 : Int32)))])) rfl (by rw [hml]; rfl) (argsL := [(.long (rr38 (0 : Int32))), (.int (2 : Int32)), (.long q0), (.long q1), (.long q2)]) (rest := []) (lenOf pd_6 rfl) rfl (by show 2 * 0 + _ ≤ _; exact Nat.le_of_eq rfl) (hb hby at_204) (fun _ _ => ⟨rfl, e41, (by decide : 4 + 0 ≤ _), (by decide : 132 + 0 ≤ _)⟩)
          dsimp only [Pt.U, Pt.locs, Pt.cells, Pt.slots] at X44 l44 y44 z44 st44 hQ44
          subst l44 y44 z44
          obtain ⟨rfl, N44q, e44⟩ := hQ44
          have N44 := Fr.app N41 N44q
          refine OEnds.go (g' := (mkF m 207 #[.val (.long q0), .second, .val (.long q1), .second, .val (.long q2), .second, .val (.int p3), .val (.int (2 : Int32)), .val (.ref b21), .val (.ref r38), .val (.int (1 : Int32))] [(.int (f8 (rr38 (0 : Int32)) (2 : Int32) q0 q1 q2))])) st44 ?_
          refine OEnds.go (g' := (mkF m 212 #[.val (.long q0), .second, .val (.long q1), .second, .val (.long q2), .second, .val (.int p3), .val (.int (2 : Int32)), .val (.ref b21), .val (.ref r38), .val (.int (1 : Int32))] [])) (fun t k => XS.ifYes X44.here hx rfl (pc0 := 207) (pc' := 212) rfl (hb hby at_207) rfl ((if0 _ _).trans (feq (own_set2 _ _ _ _ (by have t := pm38.mem_iff.mp (show (rr38 (0 : Int32)) ∈ ([(rr38 (0 : Int32))] : List Int64) from by simp); simp only [List.mem_cons, List.not_mem_nil, or_false] at t; first | (rcases t with t | t | t <;> simp [t]; done) | (rcases t with t | t <;> simp [t]; done) | (simp [t]; done)) : ¬ ((f8 (rr38 (0 : Int32)) (2 : Int32) q0 q1 q2) = (0 : Int32)))).2) (by decide) (by decide) k) ?_
          refine OEnds.go (g' := (mkF m 214 #[.val (.long q0), .second, .val (.long q1), .second, .val (.long q2), .second, .val (.int p3), .val (.int (2 : Int32)), .val (.ref b21), .val (.ref r38), .val (.int (1 : Int32))] [(.ref r38)])) (fun t k => XS.aload X44.here hx rfl (hb hby at_212) rfl rfl k) ?_
          obtain ⟨cl45, Ar45, qa45, Sa45, Na45, Ha45, Ga45⟩ := @id _ VR38
          refine OEnds.go (g' := (mkF m 215 #[.val (.long q0), .second, .val (.long q1), .second, .val (.long q2), .second, .val (.int p3), .val (.int (2 : Int32)), .val (.ref b21), .val (.ref r38), .val (.int (1 : Int32))] [(.int (1 : Int32))])) (fun t k => X44.arraylength hx (by rw [e44]; exact Ar45.1) (State.isArrayOf_alike hZ.alike Ar45.2.1) (g := (mkF m 214 #[.val (.long q0), .second, .val (.long q1), .second, .val (.long q2), .second, .val (.int p3), .val (.int (2 : Int32)), .val (.ref b21), .val (.ref r38), .val (.int (1 : Int32))] [(.ref r38)])) rfl rfl (hb hby at_214) t (by rw [len_of Sa45 Na45]; exact k)) ?_
          refine OEnds.go (g' := (mkF m 216 #[.val (.long q0), .second, .val (.long q1), .second, .val (.long q2), .second, .val (.int p3), .val (.int (2 : Int32)), .val (.ref b21), .val (.ref r38), .val (.int (1 : Int32))] [(.int (1 : Int32)), (.int (1 : Int32))])) (fun t k => XS.iconst X44.here hx rfl (hb hby at_215) k) ?_
          refine OEnds.go (g' := (mkF m 237 #[.val (.long q0), .second, .val (.long q1), .second, .val (.long q2), .second, .val (.int p3), .val (.int (2 : Int32)), .val (.ref b21), .val (.ref r38), .val (.int (1 : Int32))] [])) (fun t k => XS.icmpYes X44.here hx rfl (pc0 := 216) (pc' := 237) rfl (hb hby at_216) rfl (flt (by decide : ¬ ((1 : Int32) < (1 : Int32)))).2.2.2 (by decide) (by decide) k) ?_
          refine OEnds.go (g' := (mkF m 239 #[.val (.long q0), .second, .val (.long q1), .second, .val (.long q2), .second, .val (.int p3), .val (.int (2 : Int32)), .val (.ref b21), .val (.ref r38), .val (.int (1 : Int32))] [(.ref r38)])) (fun t k => XS.aload X44.here hx rfl (hb hby at_237) rfl rfl k) ?_
          obtain ⟨cl46, Ar46, qa46, Sa46, Na46, Ha46, Ga46⟩ := @id _ VR38
          refine OEnds.go (g' := (mkF m 240 #[.val (.long q0), .second, .val (.long q1), .second, .val (.long q2), .second, .val (.int p3), .val (.int (2 : Int32)), .val (.ref b21), .val (.ref r38), .val (.int (1 : Int32))] [(.int (1 : Int32))])) (fun t k => X44.arraylength hx (by rw [e44]; exact Ar46.1) (State.isArrayOf_alike hZ.alike Ar46.2.1) (g := (mkF m 239 #[.val (.long q0), .second, .val (.long q1), .second, .val (.long q2), .second, .val (.int p3), .val (.int (2 : Int32)), .val (.ref b21), .val (.ref r38), .val (.int (1 : Int32))] [(.ref r38)])) rfl rfl (hb hby at_239) t (by rw [len_of Sa46 Na46]; exact k)) ?_
          refine OEnds.go (g' := (mkF m 241 #[.val (.long q0), .second, .val (.long q1), .second, .val (.long q2), .second, .val (.int p3), .val (.int (2 : Int32)), .val (.ref b21), .val (.ref r38), .val (.int (1 : Int32))] [(.int (2 : Int32)), (.int (1 : Int32))])) (fun t k => XS.iconst X44.here hx rfl (hb hby at_240) k) ?_
          refine OEnds.go (g' := (mkF m 262 #[.val (.long q0), .second, .val (.long q1), .second, .val (.long q2), .second, .val (.int p3), .val (.int (2 : Int32)), .val (.ref b21), .val (.ref r38), .val (.int (1 : Int32))] [])) (fun t k => XS.icmpYes X44.here hx rfl (pc0 := 241) (pc' := 262) rfl (hb hby at_241) rfl (flt (by decide : ¬ ((2 : Int32) < (1 : Int32)))).2.2.2 (by decide) (by decide) k) ?_
          refine OEnds.go (g' := (mkF m 263 #[.val (.long q0), .second, .val (.long q1), .second, .val (.long q2), .second, .val (.int p3), .val (.int (2 : Int32)), .val (.ref b21), .val (.ref r38), .val (.int (1 : Int32))] [(.int (1 : Int32))])) (fun t k => XS.iconst X44.here hx rfl (hb hby at_262) k) ?_
          exact OEnds.outN X44 Bd.notSynchronized hx (t := .boolean) Bd.returns (by simp) (hb hby at_263) ⟨rfl, N44⟩ (by decide) (by decide)
    · -- again
      exact absurd rfl hn24
  · -- (3 : Int32)
    rw [k4_1]
    refine OEnds.go (g' := (mkF m 6 #[.val (.long q0), .second, .val (.long q1), .second, .val (.long q2), .second, .val (.int p3), .val (.int (3 : Int32)), .unset, .unset, .unset] [])) (fun t k => XS.istore X0.here hx rfl (hb hby at_4) rfl (l' := #[.val (.long q0), .second, .val (.long q1), .second, .val (.long q2), .second, .val (.int p3), .val (.int (3 : Int32)), .unset, .unset, .unset]) rfl k) ?_
    obtain ⟨T47, h47, X47, e47, E47, A47, D47, -, st47⟩ := newO X0 hx hZ hown (hw _ (List.mem_of_getElem? (i := 0) rfl)) (hw _ (List.mem_of_getElem? (i := 1) rfl)) (hw _ (List.mem_of_getElem? (i := 2) rfl)) e0 (g := (mkF m 6 #[.val (.long q0), .second, .val (.long q1), .second, .val (.long q2), .second, .val (.int p3), .val (.int (3 : Int32)), .unset, .unset, .unset] [])) rfl (hb hby at_6) (by decide) (by decide)
    obtain ⟨b47, g47⟩ : ∃ z, z = h0.size := ⟨_, rfl⟩
    rw [← g47] at A47 D47 st47
    have g_b47 : n0 ≤ b47 := Nat.le_trans Z0 (Nat.le_of_eq g47.symm)
    have F_ids_b47 : Fld Z h47 b47 "com/example/slimheap/slimheap/hprof/IdMap" "ids" "[J" .null := D47 (Or.inl (hw _ (List.mem_of_getElem? (i := 11) rfl))) (ty := (.array .long)) (by decide)
    have F_values_b47 : Fld Z h47 b47 "com/example/slimheap/slimheap/hprof/IdMap" "values" "[Ljava/lang/Object;" .null := D47 (Or.inl (hw _ (List.mem_of_getElem? (i := 15) rfl))) (ty := (.array (.object "java/lang/Object"))) (by decide)
    have F_size_b47 : Fld Z h47 b47 "com/example/slimheap/slimheap/hprof/IdMap" "size" "I" (.int (0 : Int32)) := D47 (Or.inl (hw _ (List.mem_of_getElem? (i := 34) rfl))) (ty := .int) (by decide)
    refine OEnds.go (g' := (mkF m 9 #[.val (.long q0), .second, .val (.long q1), .second, .val (.long q2), .second, .val (.int p3), .val (.int (3 : Int32)), .unset, .unset, .unset] [(.ref b47)])) st47 ?_
    refine OEnds.go (g' := (mkF m 10 #[.val (.long q0), .second, .val (.long q1), .second, .val (.long q2), .second, .val (.int p3), .val (.int (3 : Int32)), .unset, .unset, .unset] [(.ref b47), (.ref b47)])) (fun t k => XS.dup X47.here hx rfl (hb hby at_9) rfl rfl k) ?_
    obtain ⟨_, _, ⟨T48, L48, k48, n48⟩, -, X48, ⟨Lc48, hQ48, l48, y48, z48⟩, st48⟩ := X47.specialBack hx (y := (⟨"com/example/slimheap/slimheap/hprof/IdMap", "<init>", "()V"⟩ : MethodName)) rfl hown (mvT hZ (hw _ (List.mem_of_getElem? (i := 3) rfl))) (mvT hZ (hw _ (List.mem_of_getElem? (i := 4) rfl))) (mvT hZ (hw _ (List.mem_of_getElem? (i := 5) rfl))) (by decide) (backOf (W := 1) (rm1 l Z a0 hw [] b47 h47 n0 (Nat.le_trans Z0 E47.1) A47 F_ids_b47 F_values_b47 F_size_b47 g_b47) hZ (hw _ (List.mem_of_getElem? (i := 5) rfl)) (hw _ (List.mem_of_getElem? (i := 2) rfl)) (by decide) (by decide)) (g := (mkF m 10 #[.val (.long q0), .second, .val (.long q1), .second, .val (.long q2), .second, .val (.int p3), .val (.int (3 : Int32)), .unset, .unset, .unset] [(.ref b47), (.ref b47)])) rfl (by rw [hml]; rfl) (Steps.refl _) (a := b47) (argsL := []) (rest := [(.ref b47)]) (lenOf pd_1 rfl) rfl (by show 2 * 0 + _ ≤ _; exact Nat.le_of_eq rfl) (hb hby at_10) (fun _ _ => ⟨rfl, e47, (by decide : 1 + 2 ≤ _), (by decide : 3 + 128 ≤ _)⟩)
    dsimp only [Pt.U, Pt.locs, Pt.cells, Pt.slots] at X48 l48 y48 z48 st48 hQ48
    subst l48 y48 z48
    obtain ⟨ia48, va48, ki48, kv48, rfl, N48q, K48q, E48q, Fi48q, Fv48q, Fs48q, AI48q, AV48q, OV48q, g_ia48, sz_ia48, g_va48, sz_va48, ne48⟩ := hQ48
    have N48 := Fr.app N0 N48q
    refine OEnds.tr (g' := (mkF m 13 #[.val (.long q0), .second, .val (.long q1), .second, .val (.long q2), .second, .val (.int p3), .val (.int (3 : Int32)), .unset, .unset, .unset] [(.ref b47)])) st48 ?_
    refine OEnds.go (g' := (mkF m 15 #[.val (.long q0), .second, .val (.long q1), .second, .val (.long q2), .second, .val (.int p3), .val (.int (3 : Int32)), .val (.ref b47), .unset, .unset] [])) (fun t k => XS.astore X48.here hx rfl (hb hby at_13) rfl rfl (l' := #[.val (.long q0), .second, .val (.long q1), .second, .val (.long q2), .second, .val (.int p3), .val (.int (3 : Int32)), .val (.ref b47), .unset, .unset]) rfl k) ?_
    refine OEnds.go (g' := (mkF m 17 #[.val (.long q0), .second, .val (.long q1), .second, .val (.long q2), .second, .val (.int p3), .val (.int (3 : Int32)), .val (.ref b47), .unset, .unset] [(.int (3 : Int32))])) (fun t k => XS.iload X48.here hx rfl (hb hby at_15) rfl k) ?_
    refine OEnds.go (g' := (mkF m 18 #[.val (.long q0), .second, .val (.long q1), .second, .val (.long q2), .second, .val (.int p3), .val (.int (3 : Int32)), .val (.ref b47), .unset, .unset] [(.int (1 : Int32)), (.int (3 : Int32))])) (fun t k => XS.iconst X48.here hx rfl (hb hby at_17) k) ?_
    refine OEnds.go (g' := (mkF m 21 #[.val (.long q0), .second, .val (.long q1), .second, .val (.long q2), .second, .val (.int p3), .val (.int (3 : Int32)), .val (.ref b47), .unset, .unset] [])) (fun t k => XS.icmpNo X48.here hx rfl (hb hby at_18) rfl (flt (by decide : ¬ ((3 : Int32) < (1 : Int32)))).1 k) ?_
    refine OEnds.go (g' := (mkF m 23 #[.val (.long q0), .second, .val (.long q1), .second, .val (.long q2), .second, .val (.int p3), .val (.int (3 : Int32)), .val (.ref b47), .unset, .unset] [(.ref b47)])) (fun t k => XS.aload X48.here hx rfl (hb hby at_21) rfl rfl k) ?_
    refine OEnds.go (g' := (mkF m 24 #[.val (.long q0), .second, .val (.long q1), .second, .val (.long q2), .second, .val (.int p3), .val (.int (3 : Int32)), .val (.ref b47), .unset, .unset] [(.long q0), (.ref b47)])) (fun t k => XS.lloadN X48.here hx rfl (hb hby at_23) rfl k) ?_
    refine OEnds.go (g' := (mkF m 25 #[.val (.long q0), .second, .val (.long q1), .second, .val (.long q2), .second, .val (.int p3), .val (.int (3 : Int32)), .val (.ref b47), .unset, .unset] [(.int (1 : Int32)), (.long q0), (.ref b47)])) (fun t k => XS.iconst X48.here hx rfl (hb hby at_24) k) ?_
    obtain ⟨_, _, ⟨T49, L49, k49, n49⟩, -, X49, ⟨Lc49, hQ49, l49, y49, z49⟩, st49⟩ := Jvm.LawKit.callS X48 hx (y := (⟨"java/lang/Integer", "valueOf", "(I)Ljava/lang/Integer;"⟩ : MethodName)) hown (mvT hZ (hw _ (List.mem_of_getElem? (i := 16) rfl))) (mvT hZ (hw _ (List.mem_of_getElem? (i := 17) rfl))) (mvT hZ (hw _ (List.mem_of_getElem? (i := 18) rfl))) (mvT hZ (hw _ (List.mem_of_getElem? (i := 19) rfl))) (by decide) (backOf (W := 3) (rmV1 l Z a0 hw [] cc kc fc y_1 T48.heap n0 (Nat.le_trans (Nat.le_trans Z0 E47.1) K48q.1) (own_sta_keep (SH.ext E47) K48q (allS (own_plE A47) all0)) (own_sta_keep (SC.ext E47) K48q (allS (own_plE A47) all0)) ((AC.ext E47).keep K48q (ninS (Nat.ne_of_lt (Nat.lt_of_lt_of_le AC.lt (Nat.le_of_eq g47.symm))) nin0)) hy1) hZ (hw _ (List.mem_of_getElem? (i := 19) rfl)) (hw _ (List.mem_of_getElem? (i := 18) rfl)) (by decide) (by decide)) (g := (mkF m 25 #[.val (.long q0), .second, .val (.long q1), .second, .val (.long q2), .second, .val (.int p3), .val (.int (3 : Int32)), .val (.ref b47), .unset, .unset] [(.int (1 : Int32)), (.long q0), (.ref b47)])) rfl (by rw [hml]; rfl) (argsL := [(.int (1 : Int32))]) (rest := [(.long q0), (.ref b47)]) (lenOf pd_3 rfl) rfl (by show 2 * 0 + _ ≤ _; exact Nat.le_of_eq rfl) (hb hby at_25) (fun _ _ => ⟨rfl, rfl, (by decide : 3 + 0 ≤ _), (by decide : 131 + 0 ≤ _)⟩)
    dsimp only [Pt.U, Pt.locs, Pt.cells, Pt.slots] at X49 l49 y49 z49 st49 hQ49
    subst l49 y49 z49
    obtain ⟨rfl, N49q, e49⟩ := hQ49
    have N49 := Fr.app N48 N49q
    refine OEnds.go (g' := (mkF m 28 #[.val (.long q0), .second, .val (.long q1), .second, .val (.long q2), .second, .val (.int p3), .val (.int (3 : Int32)), .val (.ref b47), .unset, .unset] [(.ref y_1), (.long q0), (.ref b47)])) st49 ?_
    obtain ⟨cq50, kq50, q50a, q50b, q50c⟩ := isOf hZ e49 E48q
    obtain ⟨_, _, ⟨T50, L50, k50, n50⟩, -, X50, ⟨Lc50, hQ50, l50, y50, z50⟩, st50⟩ := X49.virtualBack hx (y := (⟨"com/example/slimheap/slimheap/hprof/IdMap", "put", "(JLjava/lang/Object;)V"⟩ : MethodName)) (z := (⟨"com/example/slimheap/slimheap/hprof/IdMap", "put", "(JLjava/lang/Object;)V"⟩ : MethodName)) hown (mvT hZ (hw _ (List.mem_of_getElem? (i := 23) rfl))) (mvT hZ (hw _ (List.mem_of_getElem? (i := 24) rfl))) (notFace_of_selects (args := #[]) (mvT hZ (hw _ (List.mem_of_getElem? (i := 26) rfl)))) (mvT hZ (hw _ (List.mem_of_getElem? (i := 26) rfl))) (mvT hZ (hw _ (List.mem_of_getElem? (i := 25) rfl))) (by decide) (backOf (W := 0) (rmP0 l Z a0 hw [] b47 q0 y_1 ia48 va48 ki48 kv48 (fun _ => .null) (fun _ => (0 : Int64)) T48.heap n0 (Nat.le_trans (Nat.le_trans Z0 E47.1) K48q.1) E48q Fi48q Fv48q AI48q AV48q (own_3 q0 own_Inv0 (Nat.le_of_ble_eq_true rfl)) Fs48q OV48q ((EY1.ext E47).keep K48q) g_b47 g_ia48 g_va48 (Nat.ne_of_lt (Nat.lt_of_lt_of_le A47.lt sz_ia48)) (Nat.ne_of_lt (Nat.lt_of_lt_of_le A47.lt sz_va48)) ne48) hZ (hw _ (List.mem_of_getElem? (i := 27) rfl)) (hw _ (List.mem_of_getElem? (i := 2) rfl)) (by decide) (by decide)) q50a q50c (g := (mkF m 28 #[.val (.long q0), .second, .val (.long q1), .second, .val (.long q2), .second, .val (.int p3), .val (.int (3 : Int32)), .val (.ref b47), .unset, .unset] [(.ref y_1), (.long q0), (.ref b47)])) rfl (by rw [hml]; rfl) (Steps.refl _) (argsL := [(.long q0), (.ref y_1)]) (rest := []) (lenOf pd_4 rfl) rfl (by show 2 * 0 + _ ≤ _; exact Nat.le_of_eq rfl) (hb hby at_28) (fun _ _ => ⟨rfl, e49, (by decide : 3 + 0 ≤ _), (by decide : 131 + 0 ≤ _)⟩)
    dsimp only [Pt.U, Pt.locs, Pt.cells, Pt.slots] at X50 l50 y50 z50 st50 hQ50
    subst l50 y50 z50
    obtain ⟨rfl, N50q, K50q, E50q, Fi50q, Fv50q, j50, Fd50, AV50q, hO50⟩ := hQ50
    have N50 := Fr.app N49 N50q
    refine OEnds.tr (g' := (mkF m 31 #[.val (.long q0), .second, .val (.long q1), .second, .val (.long q2), .second, .val (.int p3), .val (.int (3 : Int32)), .val (.ref b47), .unset, .unset] [])) st50 ?_
    rcases hO50 with ⟨hn50, Fs50q, AI50q⟩ | ⟨hn50, Fs50q, AI50q⟩
    · -- new
      obtain ⟨nx50, I50⟩ := own_ins (y := y_1) own_Inv0 Fd50 hn50
      refine OEnds.go (g' := (mkF m 33 #[.val (.long q0), .second, .val (.long q1), .second, .val (.long q2), .second, .val (.int p3), .val (.int (3 : Int32)), .val (.ref b47), .unset, .unset] [(.int (3 : Int32))])) (fun t k => XS.iload X50.here hx rfl (hb hby at_31) rfl k) ?_
      refine OEnds.go (g' := (mkF m 34 #[.val (.long q0), .second, .val (.long q1), .second, .val (.long q2), .second, .val (.int p3), .val (.int (3 : Int32)), .val (.ref b47), .unset, .unset] [(.int (2 : Int32)), (.int (3 : Int32))])) (fun t k => XS.iconst X50.here hx rfl (hb hby at_33) k) ?_
      refine OEnds.go (g' := (mkF m 37 #[.val (.long q0), .second, .val (.long q1), .second, .val (.long q2), .second, .val (.int p3), .val (.int (3 : Int32)), .val (.ref b47), .unset, .unset] [])) (fun t k => XS.icmpNo X50.here hx rfl (hb hby at_34) rfl (flt (by decide : ¬ ((3 : Int32) < (2 : Int32)))).1 k) ?_
      refine OEnds.go (g' := (mkF m 39 #[.val (.long q0), .second, .val (.long q1), .second, .val (.long q2), .second, .val (.int p3), .val (.int (3 : Int32)), .val (.ref b47), .unset, .unset] [(.ref b47)])) (fun t k => XS.aload X50.here hx rfl (hb hby at_37) rfl rfl k) ?_
      refine OEnds.go (g' := (mkF m 40 #[.val (.long q0), .second, .val (.long q1), .second, .val (.long q2), .second, .val (.int p3), .val (.int (3 : Int32)), .val (.ref b47), .unset, .unset] [(.long q1), (.ref b47)])) (fun t k => XS.lloadN X50.here hx rfl (hb hby at_39) rfl k) ?_
      refine OEnds.go (g' := (mkF m 41 #[.val (.long q0), .second, .val (.long q1), .second, .val (.long q2), .second, .val (.int p3), .val (.int (3 : Int32)), .val (.ref b47), .unset, .unset] [(.int (2 : Int32)), (.long q1), (.ref b47)])) (fun t k => XS.iconst X50.here hx rfl (hb hby at_40) k) ?_
      obtain ⟨_, _, ⟨T51, L51, k51, n51⟩, -, X51, ⟨Lc51, hQ51, l51, y51, z51⟩, st51⟩ := Jvm.LawKit.callS X50 hx (y := (⟨"java/lang/Integer", "valueOf", "(I)Ljava/lang/Integer;"⟩ : MethodName)) hown (mvT hZ (hw _ (List.mem_of_getElem? (i := 16) rfl))) (mvT hZ (hw _ (List.mem_of_getElem? (i := 17) rfl))) (mvT hZ (hw _ (List.mem_of_getElem? (i := 18) rfl))) (mvT hZ (hw _ (List.mem_of_getElem? (i := 19) rfl))) (by decide) (backOf (W := 3) (rmV2 l Z a0 hw [] cc kc fc y_2 T50.heap n0 (Nat.le_trans (Nat.le_trans (Nat.le_trans Z0 E47.1) K48q.1) K50q.1) (own_sta_keep (own_sta_keep (SH.ext E47) K48q (allS (own_plE A47) all0)) K50q (allS (own_plE E48q) (allS (own_plA AI48q) (allS (own_plA AV48q) all0)))) (own_sta_keep (own_sta_keep (SC.ext E47) K48q (allS (own_plE A47) all0)) K50q (allS (own_plE E48q) (allS (own_plA AI48q) (allS (own_plA AV48q) all0)))) (((AC.ext E47).keep K48q (ninS (Nat.ne_of_lt (Nat.lt_of_lt_of_le AC.lt (Nat.le_of_eq g47.symm))) nin0)).keep K50q (ninS (Nat.ne_of_lt (Nat.lt_of_lt_of_le AC.lt (Nat.le_of_eq g47.symm))) (ninS (Nat.ne_of_lt (Nat.lt_of_lt_of_le (AC.ext E47).lt sz_ia48)) (ninS (Nat.ne_of_lt (Nat.lt_of_lt_of_le (AC.ext E47).lt sz_va48)) nin0)))) hy2) hZ (hw _ (List.mem_of_getElem? (i := 19) rfl)) (hw _ (List.mem_of_getElem? (i := 18) rfl)) (by decide) (by decide)) (g := (mkF m 41 #[.val (.long q0), .second, .val (.long q1), .second, .val (.long q2), .second, .val (.int p3), .val (.int (3 : Int32)), .val (.ref b47), .unset, .unset] [(.int (2 : Int32)), (.long q1), (.ref b47)])) rfl (by rw [hml]; rfl) (argsL := [(.int (2 : Int32))]) (rest := [(.long q1), (.ref b47)]) (lenOf pd_3 rfl) rfl (by show 2 * 0 + _ ≤ _; exact Nat.le_of_eq rfl) (hb hby at_41) (fun _ _ => ⟨rfl, rfl, (by decide : 3 + 0 ≤ _), (by decide : 131 + 0 ≤ _)⟩)
      dsimp only [Pt.U, Pt.locs, Pt.cells, Pt.slots] at X51 l51 y51 z51 st51 hQ51
      subst l51 y51 z51
      obtain ⟨rfl, N51q, e51⟩ := hQ51
      have N51 := Fr.app N50 N51q
      refine OEnds.go (g' := (mkF m 44 #[.val (.long q0), .second, .val (.long q1), .second, .val (.long q2), .second, .val (.int p3), .val (.int (3 : Int32)), .val (.ref b47), .unset, .unset] [(.ref y_2), (.long q1), (.ref b47)])) st51 ?_
      obtain ⟨cq52, kq52, q52a, q52b, q52c⟩ := isOf hZ e51 E50q
      obtain ⟨_, _, ⟨T52, L52, k52, n52⟩, -, X52, ⟨Lc52, hQ52, l52, y52, z52⟩, st52⟩ := X51.virtualBack hx (y := (⟨"com/example/slimheap/slimheap/hprof/IdMap", "put", "(JLjava/lang/Object;)V"⟩ : MethodName)) (z := (⟨"com/example/slimheap/slimheap/hprof/IdMap", "put", "(JLjava/lang/Object;)V"⟩ : MethodName)) hown (mvT hZ (hw _ (List.mem_of_getElem? (i := 23) rfl))) (mvT hZ (hw _ (List.mem_of_getElem? (i := 24) rfl))) (notFace_of_selects (args := #[]) (mvT hZ (hw _ (List.mem_of_getElem? (i := 26) rfl)))) (mvT hZ (hw _ (List.mem_of_getElem? (i := 26) rfl))) (mvT hZ (hw _ (List.mem_of_getElem? (i := 25) rfl))) (by decide) (backOf (W := 0) (rmP1 l Z a0 hw [] b47 q1 y_2 ia48 va48 ki48 kv48 (own_u (fun _ => .null) j50 (.ref y_1)) (own_u (fun _ => (0 : Int64)) j50 q0) T50.heap n0 (Nat.le_trans (Nat.le_trans (Nat.le_trans Z0 E47.1) K48q.1) K50q.1) E50q Fi50q Fv50q AI50q AV50q (own_3 q1 I50 (Nat.le_of_ble_eq_true rfl)) Fs50q OV48q (((EY2.ext E47).keep K48q).keep K50q) g_b47 g_ia48 g_va48 (Nat.ne_of_lt (Nat.lt_of_lt_of_le A47.lt sz_ia48)) (Nat.ne_of_lt (Nat.lt_of_lt_of_le A47.lt sz_va48)) ne48) hZ (hw _ (List.mem_of_getElem? (i := 27) rfl)) (hw _ (List.mem_of_getElem? (i := 2) rfl)) (by decide) (by decide)) q52a q52c (g := (mkF m 44 #[.val (.long q0), .second, .val (.long q1), .second, .val (.long q2), .second, .val (.int p3), .val (.int (3 : Int32)), .val (.ref b47), .unset, .unset] [(.ref y_2), (.long q1), (.ref b47)])) rfl (by rw [hml]; rfl) (Steps.refl _) (argsL := [(.long q1), (.ref y_2)]) (rest := []) (lenOf pd_4 rfl) rfl (by show 2 * 0 + _ ≤ _; exact Nat.le_of_eq rfl) (hb hby at_44) (fun _ _ => ⟨rfl, e51, (by decide : 3 + 0 ≤ _), (by decide : 131 + 0 ≤ _)⟩)
      dsimp only [Pt.U, Pt.locs, Pt.cells, Pt.slots] at X52 l52 y52 z52 st52 hQ52
      subst l52 y52 z52
      obtain ⟨rfl, N52q, K52q, E52q, Fi52q, Fv52q, j52, Fd52, AV52q, hO52⟩ := hQ52
      have N52 := Fr.app N51 N52q
      refine OEnds.tr (g' := (mkF m 47 #[.val (.long q0), .second, .val (.long q1), .second, .val (.long q2), .second, .val (.int p3), .val (.int (3 : Int32)), .val (.ref b47), .unset, .unset] [])) st52 ?_
      rcases hO52 with ⟨hn52, Fs52q, AI52q⟩ | ⟨hn52, Fs52q, AI52q⟩
      · -- new
        obtain ⟨nx52, I52⟩ := own_ins (y := y_2) I50 Fd52 hn52
        refine OEnds.go (g' := (mkF m 49 #[.val (.long q0), .second, .val (.long q1), .second, .val (.long q2), .second, .val (.int p3), .val (.int (3 : Int32)), .val (.ref b47), .unset, .unset] [(.int (3 : Int32))])) (fun t k => XS.iload X52.here hx rfl (hb hby at_47) rfl k) ?_
        refine OEnds.go (g' := (mkF m 50 #[.val (.long q0), .second, .val (.long q1), .second, .val (.long q2), .second, .val (.int p3), .val (.int (3 : Int32)), .val (.ref b47), .unset, .unset] [(.int (3 : Int32)), (.int (3 : Int32))])) (fun t k => XS.iconst X52.here hx rfl (hb hby at_49) k) ?_
        refine OEnds.go (g' := (mkF m 53 #[.val (.long q0), .second, .val (.long q1), .second, .val (.long q2), .second, .val (.int p3), .val (.int (3 : Int32)), .val (.ref b47), .unset, .unset] [])) (fun t k => XS.icmpNo X52.here hx rfl (hb hby at_50) rfl (flt (by decide : ¬ ((3 : Int32) < (3 : Int32)))).1 k) ?_
        refine OEnds.go (g' := (mkF m 55 #[.val (.long q0), .second, .val (.long q1), .second, .val (.long q2), .second, .val (.int p3), .val (.int (3 : Int32)), .val (.ref b47), .unset, .unset] [(.ref b47)])) (fun t k => XS.aload X52.here hx rfl (hb hby at_53) rfl rfl k) ?_
        refine OEnds.go (g' := (mkF m 57 #[.val (.long q0), .second, .val (.long q1), .second, .val (.long q2), .second, .val (.int p3), .val (.int (3 : Int32)), .val (.ref b47), .unset, .unset] [(.long q2), (.ref b47)])) (fun t k => XS.lload X52.here hx rfl (hb hby at_55) rfl k) ?_
        refine OEnds.go (g' := (mkF m 58 #[.val (.long q0), .second, .val (.long q1), .second, .val (.long q2), .second, .val (.int p3), .val (.int (3 : Int32)), .val (.ref b47), .unset, .unset] [(.int (3 : Int32)), (.long q2), (.ref b47)])) (fun t k => XS.iconst X52.here hx rfl (hb hby at_57) k) ?_
        obtain ⟨_, _, ⟨T53, L53, k53, n53⟩, -, X53, ⟨Lc53, hQ53, l53, y53, z53⟩, st53⟩ := Jvm.LawKit.callS X52 hx (y := (⟨"java/lang/Integer", "valueOf", "(I)Ljava/lang/Integer;"⟩ : MethodName)) hown (mvT hZ (hw _ (List.mem_of_getElem? (i := 16) rfl))) (mvT hZ (hw _ (List.mem_of_getElem? (i := 17) rfl))) (mvT hZ (hw _ (List.mem_of_getElem? (i := 18) rfl))) (mvT hZ (hw _ (List.mem_of_getElem? (i := 19) rfl))) (by decide) (backOf (W := 3) (rmV3 l Z a0 hw [] cc kc fc y_3 T52.heap n0 (Nat.le_trans (Nat.le_trans (Nat.le_trans (Nat.le_trans Z0 E47.1) K48q.1) K50q.1) K52q.1) (own_sta_keep (own_sta_keep (own_sta_keep (SH.ext E47) K48q (allS (own_plE A47) all0)) K50q (allS (own_plE E48q) (allS (own_plA AI48q) (allS (own_plA AV48q) all0)))) K52q (allS (own_plE E50q) (allS (own_plA AI50q) (allS (own_plA AV50q) all0)))) (own_sta_keep (own_sta_keep (own_sta_keep (SC.ext E47) K48q (allS (own_plE A47) all0)) K50q (allS (own_plE E48q) (allS (own_plA AI48q) (allS (own_plA AV48q) all0)))) K52q (allS (own_plE E50q) (allS (own_plA AI50q) (allS (own_plA AV50q) all0)))) ((((AC.ext E47).keep K48q (ninS (Nat.ne_of_lt (Nat.lt_of_lt_of_le AC.lt (Nat.le_of_eq g47.symm))) nin0)).keep K50q (ninS (Nat.ne_of_lt (Nat.lt_of_lt_of_le AC.lt (Nat.le_of_eq g47.symm))) (ninS (Nat.ne_of_lt (Nat.lt_of_lt_of_le (AC.ext E47).lt sz_ia48)) (ninS (Nat.ne_of_lt (Nat.lt_of_lt_of_le (AC.ext E47).lt sz_va48)) nin0)))).keep K52q (ninS (Nat.ne_of_lt (Nat.lt_of_lt_of_le AC.lt (Nat.le_of_eq g47.symm))) (ninS (Nat.ne_of_lt (Nat.lt_of_lt_of_le (AC.ext E47).lt sz_ia48)) (ninS (Nat.ne_of_lt (Nat.lt_of_lt_of_le (AC.ext E47).lt sz_va48)) nin0)))) hy3) hZ (hw _ (List.mem_of_getElem? (i := 19) rfl)) (hw _ (List.mem_of_getElem? (i := 18) rfl)) (by decide) (by decide)) (g := (mkF m 58 #[.val (.long q0), .second, .val (.long q1), .second, .val (.long q2), .second, .val (.int p3), .val (.int (3 : Int32)), .val (.ref b47), .unset, .unset] [(.int (3 : Int32)), (.long q2), (.ref b47)])) rfl (by rw [hml]; rfl) (argsL := [(.int (3 : Int32))]) (rest := [(.long q2), (.ref b47)]) (lenOf pd_3 rfl) rfl (by show 2 * 0 + _ ≤ _; exact Nat.le_of_eq rfl) (hb hby at_58) (fun _ _ => ⟨rfl, rfl, (by decide : 3 + 0 ≤ _), (by decide : 131 + 0 ≤ _)⟩)
        dsimp only [Pt.U, Pt.locs, Pt.cells, Pt.slots] at X53 l53 y53 z53 st53 hQ53
        subst l53 y53 z53
        obtain ⟨rfl, N53q, e53⟩ := hQ53
        have N53 := Fr.app N52 N53q
        refine OEnds.go (g' := (mkF m 61 #[.val (.long q0), .second, .val (.long q1), .second, .val (.long q2), .second, .val (.int p3), .val (.int (3 : Int32)), .val (.ref b47), .unset, .unset] [(.ref y_3), (.long q2), (.ref b47)])) st53 ?_
        obtain ⟨cq54, kq54, q54a, q54b, q54c⟩ := isOf hZ e53 E52q
        obtain ⟨_, _, ⟨T54, L54, k54, n54⟩, -, X54, ⟨Lc54, hQ54, l54, y54, z54⟩, st54⟩ := X53.virtualBack hx (y := (⟨"com/example/slimheap/slimheap/hprof/IdMap", "put", "(JLjava/lang/Object;)V"⟩ : MethodName)) (z := (⟨"com/example/slimheap/slimheap/hprof/IdMap", "put", "(JLjava/lang/Object;)V"⟩ : MethodName)) hown (mvT hZ (hw _ (List.mem_of_getElem? (i := 23) rfl))) (mvT hZ (hw _ (List.mem_of_getElem? (i := 24) rfl))) (notFace_of_selects (args := #[]) (mvT hZ (hw _ (List.mem_of_getElem? (i := 26) rfl)))) (mvT hZ (hw _ (List.mem_of_getElem? (i := 26) rfl))) (mvT hZ (hw _ (List.mem_of_getElem? (i := 25) rfl))) (by decide) (backOf (W := 0) (rmP2 l Z a0 hw [] b47 q2 y_3 ia48 va48 ki48 kv48 (own_u (own_u (fun _ => .null) j50 (.ref y_1)) j52 (.ref y_2)) (own_u (own_u (fun _ => (0 : Int64)) j50 q0) j52 q1) T52.heap n0 (Nat.le_trans (Nat.le_trans (Nat.le_trans (Nat.le_trans Z0 E47.1) K48q.1) K50q.1) K52q.1) E52q Fi52q Fv52q AI52q AV52q (own_3 q2 I52 (Nat.le_of_ble_eq_true rfl)) Fs52q OV48q ((((EY3.ext E47).keep K48q).keep K50q).keep K52q) g_b47 g_ia48 g_va48 (Nat.ne_of_lt (Nat.lt_of_lt_of_le A47.lt sz_ia48)) (Nat.ne_of_lt (Nat.lt_of_lt_of_le A47.lt sz_va48)) ne48) hZ (hw _ (List.mem_of_getElem? (i := 27) rfl)) (hw _ (List.mem_of_getElem? (i := 2) rfl)) (by decide) (by decide)) q54a q54c (g := (mkF m 61 #[.val (.long q0), .second, .val (.long q1), .second, .val (.long q2), .second, .val (.int p3), .val (.int (3 : Int32)), .val (.ref b47), .unset, .unset] [(.ref y_3), (.long q2), (.ref b47)])) rfl (by rw [hml]; rfl) (Steps.refl _) (argsL := [(.long q2), (.ref y_3)]) (rest := []) (lenOf pd_4 rfl) rfl (by show 2 * 0 + _ ≤ _; exact Nat.le_of_eq rfl) (hb hby at_61) (fun _ _ => ⟨rfl, e53, (by decide : 3 + 0 ≤ _), (by decide : 131 + 0 ≤ _)⟩)
        dsimp only [Pt.U, Pt.locs, Pt.cells, Pt.slots] at X54 l54 y54 z54 st54 hQ54
        subst l54 y54 z54
        obtain ⟨rfl, N54q, K54q, E54q, Fi54q, Fv54q, j54, Fd54, AV54q, hO54⟩ := hQ54
        have N54 := Fr.app N53 N54q
        refine OEnds.tr (g' := (mkF m 64 #[.val (.long q0), .second, .val (.long q1), .second, .val (.long q2), .second, .val (.int p3), .val (.int (3 : Int32)), .val (.ref b47), .unset, .unset] [])) st54 ?_
        rcases hO54 with ⟨hn54, Fs54q, AI54q⟩ | ⟨hn54, Fs54q, AI54q⟩
        · -- new
          obtain ⟨nx54, I54⟩ := own_ins (y := y_3) I52 Fd54 hn54
          refine OEnds.go (g' := (mkF m 66 #[.val (.long q0), .second, .val (.long q1), .second, .val (.long q2), .second, .val (.int p3), .val (.int (3 : Int32)), .val (.ref b47), .unset, .unset] [(.ref b47)])) (fun t k => XS.aload X54.here hx rfl (hb hby at_64) rfl rfl k) ?_
          obtain ⟨cq55, kq55, q55a, q55b, q55c⟩ := isOf hZ rfl E54q
          obtain ⟨_, _, ⟨T55, L55, k55, n55⟩, -, X55, ⟨Lc55, hQ55, l55, y55, z55⟩, st55⟩ := X54.virtualBack hx (y := (⟨"com/example/slimheap/slimheap/hprof/IdMap", "ids", "()[J"⟩ : MethodName)) (z := (⟨"com/example/slimheap/slimheap/hprof/IdMap", "ids", "()[J"⟩ : MethodName)) hown (mvT hZ (hw _ (List.mem_of_getElem? (i := 36) rfl))) (mvT hZ (hw _ (List.mem_of_getElem? (i := 37) rfl))) (notFace_of_selects (args := #[]) (mvT hZ (hw _ (List.mem_of_getElem? (i := 39) rfl)))) (mvT hZ (hw _ (List.mem_of_getElem? (i := 39) rfl))) (mvT hZ (hw _ (List.mem_of_getElem? (i := 38) rfl))) (by decide) (backOf (W := 0) (rmD3 l Z a0 hw [] b47 ia48 va48 ki48 kv48 (own_u (own_u (own_u (fun _ => .null) j50 (.ref y_1)) j52 (.ref y_2)) j54 (.ref y_3)) (own_u (own_u (own_u (fun _ => (0 : Int64)) j50 q0) j52 q1) j54 q2) T54.heap n0 (Nat.le_trans (Nat.le_trans (Nat.le_trans (Nat.le_trans (Nat.le_trans Z0 E47.1) K48q.1) K50q.1) K52q.1) K54q.1) Fi54q Fv54q AI54q AV54q Fs54q (own_perm I54).length_eq) hZ (hw _ (List.mem_of_getElem? (i := 40) rfl)) (hw _ (List.mem_of_getElem? (i := 2) rfl)) (by decide) (by decide)) q55a q55c (g := (mkF m 66 #[.val (.long q0), .second, .val (.long q1), .second, .val (.long q2), .second, .val (.int p3), .val (.int (3 : Int32)), .val (.ref b47), .unset, .unset] [(.ref b47)])) rfl (by rw [hml]; rfl) (Steps.refl _) (argsL := []) (rest := []) (lenOf pd_2 rfl) rfl (by show 2 * 0 + _ ≤ _; exact Nat.le_of_eq rfl) (hb hby at_66) (fun _ _ => ⟨rfl, rfl, (by decide : 3 + 1 ≤ _), (by decide : 131 + 3 ≤ _)⟩)
          dsimp only [Pt.U, Pt.locs, Pt.cells, Pt.slots] at X55 l55 y55 z55 st55 hQ55
          subst l55 y55 z55
          obtain ⟨r55, kr55, rr55, rfl, N55q, K55q, AR55, hP55, g_r55⟩ := hQ55
          have N55 := Fr.app N54 N55q
          have VR55 : Arv Z T55.heap r55 kr55 .long (3 : Int32) [(.long (rr55 (0 : Int32))), (.long (rr55 (1 : Int32))), (.long (rr55 (2 : Int32)))] (.long (0 : Int64)) := own_Av.arv (n := 3) AR55 (by decide)
          have pm55 : ([(rr55 (0 : Int32)), (rr55 (1 : Int32)), (rr55 (2 : Int32))] : List Int64).Perm [q2, q1, q0] := by have t := own_perm I54; have u := own_lits hP55 (own_perm I54).length_eq; rw [u] at t; exact t
          refine OEnds.tr (g' := (mkF m 69 #[.val (.long q0), .second, .val (.long q1), .second, .val (.long q2), .second, .val (.int p3), .val (.int (3 : Int32)), .val (.ref b47), .unset, .unset] [(.ref r55)])) st55 ?_
          refine OEnds.go (g' := (mkF m 71 #[.val (.long q0), .second, .val (.long q1), .second, .val (.long q2), .second, .val (.int p3), .val (.int (3 : Int32)), .val (.ref b47), .val (.ref r55), .unset] [])) (fun t k => XS.astore X55.here hx rfl (hb hby at_69) rfl rfl (l' := #[.val (.long q0), .second, .val (.long q1), .second, .val (.long q2), .second, .val (.int p3), .val (.int (3 : Int32)), .val (.ref b47), .val (.ref r55), .unset]) rfl k) ?_
          refine OEnds.go (g' := (mkF m 72 #[.val (.long q0), .second, .val (.long q1), .second, .val (.long q2), .second, .val (.int p3), .val (.int (3 : Int32)), .val (.ref b47), .val (.ref r55), .unset] [(.int (0 : Int32))])) (fun t k => XS.iconst X55.here hx rfl (hb hby at_71) k) ?_
          refine OEnds.go (g' := (mkF m 74 #[.val (.long q0), .second, .val (.long q1), .second, .val (.long q2), .second, .val (.int p3), .val (.int (3 : Int32)), .val (.ref b47), .val (.ref r55), .val (.int (0 : Int32))] [])) (fun t k => XS.istore X55.here hx rfl (hb hby at_72) rfl (l' := #[.val (.long q0), .second, .val (.long q1), .second, .val (.long q2), .second, .val (.int p3), .val (.int (3 : Int32)), .val (.ref b47), .val (.ref r55), .val (.int (0 : Int32))]) rfl k) ?_
          refine OEnds.go (g' := (mkF m 76 #[.val (.long q0), .second, .val (.long q1), .second, .val (.long q2), .second, .val (.int p3), .val (.int (3 : Int32)), .val (.ref b47), .val (.ref r55), .val (.int (0 : Int32))] [(.int (3 : Int32))])) (fun t k => XS.iload X55.here hx rfl (hb hby at_74) rfl k) ?_
          refine OEnds.go (g' := (mkF m 77 #[.val (.long q0), .second, .val (.long q1), .second, .val (.long q2), .second, .val (.int p3), .val (.int (3 : Int32)), .val (.ref b47), .val (.ref r55), .val (.int (0 : Int32))] [(.int (1 : Int32)), (.int (3 : Int32))])) (fun t k => XS.iconst X55.here hx rfl (hb hby at_76) k) ?_
          refine OEnds.go (g' := (mkF m 80 #[.val (.long q0), .second, .val (.long q1), .second, .val (.long q2), .second, .val (.int p3), .val (.int (3 : Int32)), .val (.ref b47), .val (.ref r55), .val (.int (0 : Int32))] [])) (fun t k => XS.icmpNo X55.here hx rfl (hb hby at_77) rfl (flt (by decide : ¬ ((3 : Int32) < (1 : Int32)))).1 k) ?_
          refine OEnds.go (g' := (mkF m 83 #[.val (.long q0), .second, .val (.long q1), .second, .val (.long q2), .second, .val (.int p3), .val (.int (3 : Int32)), .val (.ref b47), .val (.ref r55), .val (.int ((0 : Int32) + (1 : Int32)))] [])) (fun t k => XS.iinc X55.here hx rfl (hb hby at_80) rfl (l' := #[.val (.long q0), .second, .val (.long q1), .second, .val (.long q2), .second, .val (.int p3), .val (.int (3 : Int32)), .val (.ref b47), .val (.ref r55), .val (.int ((0 : Int32) + (1 : Int32)))]) rfl k) ?_
          rw [show ((0 : Int32) + (1 : Int32)) = (1 : Int32) from by decide]
          refine OEnds.go (g' := (mkF m 85 #[.val (.long q0), .second, .val (.long q1), .second, .val (.long q2), .second, .val (.int p3), .val (.int (3 : Int32)), .val (.ref b47), .val (.ref r55), .val (.int (1 : Int32))] [(.int (3 : Int32))])) (fun t k => XS.iload X55.here hx rfl (hb hby at_83) rfl k) ?_
          refine OEnds.go (g' := (mkF m 86 #[.val (.long q0), .second, .val (.long q1), .second, .val (.long q2), .second, .val (.int p3), .val (.int (3 : Int32)), .val (.ref b47), .val (.ref r55), .val (.int (1 : Int32))] [(.int (2 : Int32)), (.int (3 : Int32))])) (fun t k => XS.iconst X55.here hx rfl (hb hby at_85) k) ?_
          refine OEnds.go (g' := (mkF m 89 #[.val (.long q0), .second, .val (.long q1), .second, .val (.long q2), .second, .val (.int p3), .val (.int (3 : Int32)), .val (.ref b47), .val (.ref r55), .val (.int (1 : Int32))] [])) (fun t k => XS.icmpNo X55.here hx rfl (hb hby at_86) rfl (flt (by decide : ¬ ((3 : Int32) < (2 : Int32)))).1 k) ?_
          refine OEnds.go (g' := (mkF m 90 #[.val (.long q0), .second, .val (.long q1), .second, .val (.long q2), .second, .val (.int p3), .val (.int (3 : Int32)), .val (.ref b47), .val (.ref r55), .val (.int (1 : Int32))] [(.long q1)])) (fun t k => XS.lloadN X55.here hx rfl (hb hby at_89) rfl k) ?_
          refine OEnds.go (g' := (mkF m 91 #[.val (.long q0), .second, .val (.long q1), .second, .val (.long q2), .second, .val (.int p3), .val (.int (3 : Int32)), .val (.ref b47), .val (.ref r55), .val (.int (1 : Int32))] [(.long q0), (.long q1)])) (fun t k => XS.lloadN X55.here hx rfl (hb hby at_90) rfl k) ?_
          refine OEnds.go (g' := (mkF m 92 #[.val (.long q0), .second, .val (.long q1), .second, .val (.long q2), .second, .val (.int p3), .val (.int (3 : Int32)), .val (.ref b47), .val (.ref r55), .val (.int (1 : Int32))] [(.int (lcmpW q1 q0))])) (fun t k => XS.lcmp X55.here hx rfl (hb hby at_91) rfl k) ?_
          refine OEnds.go (g' := (mkF m 95 #[.val (.long q0), .second, .val (.long q1), .second, .val (.long q2), .second, .val (.int p3), .val (.int (3 : Int32)), .val (.ref b47), .val (.ref r55), .val (.int (1 : Int32))] [])) (fun t k => XS.ifNo X55.here hx rfl (hb hby at_92) rfl ((if0 _ _).trans (feq (fun q => (fun q : q1 = q0 => nx52 (j50, q0) (by simp) q.symm) ((lw_eq _ _).mp q))).1) k) ?_
          refine OEnds.go (g' := (mkF m 98 #[.val (.long q0), .second, .val (.long q1), .second, .val (.long q2), .second, .val (.int p3), .val (.int (3 : Int32)), .val (.ref b47), .val (.ref r55), .val (.int ((1 : Int32) + (1 : Int32)))] [])) (fun t k => XS.iinc X55.here hx rfl (hb hby at_95) rfl (l' := #[.val (.long q0), .second, .val (.long q1), .second, .val (.long q2), .second, .val (.int p3), .val (.int (3 : Int32)), .val (.ref b47), .val (.ref r55), .val (.int ((1 : Int32) + (1 : Int32)))]) rfl k) ?_
          rw [show ((1 : Int32) + (1 : Int32)) = (2 : Int32) from by decide]
          refine OEnds.go (g' := (mkF m 100 #[.val (.long q0), .second, .val (.long q1), .second, .val (.long q2), .second, .val (.int p3), .val (.int (3 : Int32)), .val (.ref b47), .val (.ref r55), .val (.int (2 : Int32))] [(.int (3 : Int32))])) (fun t k => XS.iload X55.here hx rfl (hb hby at_98) rfl k) ?_
          refine OEnds.go (g' := (mkF m 101 #[.val (.long q0), .second, .val (.long q1), .second, .val (.long q2), .second, .val (.int p3), .val (.int (3 : Int32)), .val (.ref b47), .val (.ref r55), .val (.int (2 : Int32))] [(.int (3 : Int32)), (.int (3 : Int32))])) (fun t k => XS.iconst X55.here hx rfl (hb hby at_100) k) ?_
          refine OEnds.go (g' := (mkF m 104 #[.val (.long q0), .second, .val (.long q1), .second, .val (.long q2), .second, .val (.int p3), .val (.int (3 : Int32)), .val (.ref b47), .val (.ref r55), .val (.int (2 : Int32))] [])) (fun t k => XS.icmpNo X55.here hx rfl (hb hby at_101) rfl (flt (by decide : ¬ ((3 : Int32) < (3 : Int32)))).1 k) ?_
          refine OEnds.go (g' := (mkF m 106 #[.val (.long q0), .second, .val (.long q1), .second, .val (.long q2), .second, .val (.int p3), .val (.int (3 : Int32)), .val (.ref b47), .val (.ref r55), .val (.int (2 : Int32))] [(.long q2)])) (fun t k => XS.lload X55.here hx rfl (hb hby at_104) rfl k) ?_
          refine OEnds.go (g' := (mkF m 107 #[.val (.long q0), .second, .val (.long q1), .second, .val (.long q2), .second, .val (.int p3), .val (.int (3 : Int32)), .val (.ref b47), .val (.ref r55), .val (.int (2 : Int32))] [(.long q0), (.long q2)])) (fun t k => XS.lloadN X55.here hx rfl (hb hby at_106) rfl k) ?_
          refine OEnds.go (g' := (mkF m 108 #[.val (.long q0), .second, .val (.long q1), .second, .val (.long q2), .second, .val (.int p3), .val (.int (3 : Int32)), .val (.ref b47), .val (.ref r55), .val (.int (2 : Int32))] [(.int (lcmpW q2 q0))])) (fun t k => XS.lcmp X55.here hx rfl (hb hby at_107) rfl k) ?_
          refine OEnds.go (g' := (mkF m 111 #[.val (.long q0), .second, .val (.long q1), .second, .val (.long q2), .second, .val (.int p3), .val (.int (3 : Int32)), .val (.ref b47), .val (.ref r55), .val (.int (2 : Int32))] [])) (fun t k => XS.ifNo X55.here hx rfl (hb hby at_108) rfl ((if0 _ _).trans (feq (fun q => (fun q : q2 = q0 => nx54 (j50, q0) (by simp) q.symm) ((lw_eq _ _).mp q))).1) k) ?_
          refine OEnds.go (g' := (mkF m 113 #[.val (.long q0), .second, .val (.long q1), .second, .val (.long q2), .second, .val (.int p3), .val (.int (3 : Int32)), .val (.ref b47), .val (.ref r55), .val (.int (2 : Int32))] [(.long q2)])) (fun t k => XS.lload X55.here hx rfl (hb hby at_111) rfl k) ?_
          refine OEnds.go (g' := (mkF m 114 #[.val (.long q0), .second, .val (.long q1), .second, .val (.long q2), .second, .val (.int p3), .val (.int (3 : Int32)), .val (.ref b47), .val (.ref r55), .val (.int (2 : Int32))] [(.long q1), (.long q2)])) (fun t k => XS.lloadN X55.here hx rfl (hb hby at_113) rfl k) ?_
          refine OEnds.go (g' := (mkF m 115 #[.val (.long q0), .second, .val (.long q1), .second, .val (.long q2), .second, .val (.int p3), .val (.int (3 : Int32)), .val (.ref b47), .val (.ref r55), .val (.int (2 : Int32))] [(.int (lcmpW q2 q1))])) (fun t k => XS.lcmp X55.here hx rfl (hb hby at_114) rfl k) ?_
          refine OEnds.go (g' := (mkF m 118 #[.val (.long q0), .second, .val (.long q1), .second, .val (.long q2), .second, .val (.int p3), .val (.int (3 : Int32)), .val (.ref b47), .val (.ref r55), .val (.int (2 : Int32))] [])) (fun t k => XS.ifNo X55.here hx rfl (hb hby at_115) rfl ((if0 _ _).trans (feq (fun q => (fun q : q2 = q1 => nx54 (j52, q1) (by simp) q.symm) ((lw_eq _ _).mp q))).1) k) ?_
          refine OEnds.go (g' := (mkF m 121 #[.val (.long q0), .second, .val (.long q1), .second, .val (.long q2), .second, .val (.int p3), .val (.int (3 : Int32)), .val (.ref b47), .val (.ref r55), .val (.int ((2 : Int32) + (1 : Int32)))] [])) (fun t k => XS.iinc X55.here hx rfl (hb hby at_118) rfl (l' := #[.val (.long q0), .second, .val (.long q1), .second, .val (.long q2), .second, .val (.int p3), .val (.int (3 : Int32)), .val (.ref b47), .val (.ref r55), .val (.int ((2 : Int32) + (1 : Int32)))]) rfl k) ?_
          rw [show ((2 : Int32) + (1 : Int32)) = (3 : Int32) from by decide]
          refine OEnds.go (g' := (mkF m 123 #[.val (.long q0), .second, .val (.long q1), .second, .val (.long q2), .second, .val (.int p3), .val (.int (3 : Int32)), .val (.ref b47), .val (.ref r55), .val (.int (3 : Int32))] [(.ref r55)])) (fun t k => XS.aload X55.here hx rfl (hb hby at_121) rfl rfl k) ?_
          refine OEnds.go (g' := (mkF m 126 #[.val (.long q0), .second, .val (.long q1), .second, .val (.long q2), .second, .val (.int p3), .val (.int (3 : Int32)), .val (.ref b47), .val (.ref r55), .val (.int (3 : Int32))] [])) (fun t k => XS.ifnullNo X55.here hx rfl (hb hby at_123) rfl k) ?_
          refine OEnds.go (g' := (mkF m 128 #[.val (.long q0), .second, .val (.long q1), .second, .val (.long q2), .second, .val (.int p3), .val (.int (3 : Int32)), .val (.ref b47), .val (.ref r55), .val (.int (3 : Int32))] [(.ref r55)])) (fun t k => XS.aload X55.here hx rfl (hb hby at_126) rfl rfl k) ?_
          obtain ⟨cl56, Ar56, qa56, Sa56, Na56, Ha56, Ga56⟩ := @id _ VR55
          refine OEnds.go (g' := (mkF m 129 #[.val (.long q0), .second, .val (.long q1), .second, .val (.long q2), .second, .val (.int p3), .val (.int (3 : Int32)), .val (.ref b47), .val (.ref r55), .val (.int (3 : Int32))] [(.int (3 : Int32))])) (fun t k => X55.arraylength hx Ar56.1 (State.isArrayOf_alike hZ.alike Ar56.2.1) (g := (mkF m 128 #[.val (.long q0), .second, .val (.long q1), .second, .val (.long q2), .second, .val (.int p3), .val (.int (3 : Int32)), .val (.ref b47), .val (.ref r55), .val (.int (3 : Int32))] [(.ref r55)])) rfl rfl (hb hby at_128) t (by rw [len_of Sa56 Na56]; exact k)) ?_
          refine OEnds.go (g' := (mkF m 131 #[.val (.long q0), .second, .val (.long q1), .second, .val (.long q2), .second, .val (.int p3), .val (.int (3 : Int32)), .val (.ref b47), .val (.ref r55), .val (.int (3 : Int32))] [(.int (3 : Int32)), (.int (3 : Int32))])) (fun t k => XS.iload X55.here hx rfl (hb hby at_129) rfl k) ?_
          refine OEnds.go (g' := (mkF m 136 #[.val (.long q0), .second, .val (.long q1), .second, .val (.long q2), .second, .val (.int p3), .val (.int (3 : Int32)), .val (.ref b47), .val (.ref r55), .val (.int (3 : Int32))] [])) (fun t k => XS.icmpYes X55.here hx rfl (pc0 := 131) (pc' := 136) rfl (hb hby at_131) rfl (teq (by decide : ((3 : Int32) = (3 : Int32)))).1 (by decide) (by decide) k) ?_
          refine OEnds.go (g' := (mkF m 138 #[.val (.long q0), .second, .val (.long q1), .second, .val (.long q2), .second, .val (.int p3), .val (.int (3 : Int32)), .val (.ref b47), .val (.ref r55), .val (.int (3 : Int32))] [(.int (3 : Int32))])) (fun t k => XS.iload X55.here hx rfl (hb hby at_136) rfl k) ?_
          refine OEnds.go (g' := (mkF m 139 #[.val (.long q0), .second, .val (.long q1), .second, .val (.long q2), .second, .val (.int p3), .val (.int (3 : Int32)), .val (.ref b47), .val (.ref r55), .val (.int (3 : Int32))] [(.int (1 : Int32)), (.int (3 : Int32))])) (fun t k => XS.iconst X55.here hx rfl (hb hby at_138) k) ?_
          refine OEnds.go (g' := (mkF m 142 #[.val (.long q0), .second, .val (.long q1), .second, .val (.long q2), .second, .val (.int p3), .val (.int (3 : Int32)), .val (.ref b47), .val (.ref r55), .val (.int (3 : Int32))] [])) (fun t k => XS.icmpNo X55.here hx rfl (hb hby at_139) rfl (flt (by decide : ¬ ((3 : Int32) < (1 : Int32)))).1 k) ?_
          refine OEnds.go (g' := (mkF m 144 #[.val (.long q0), .second, .val (.long q1), .second, .val (.long q2), .second, .val (.int p3), .val (.int (3 : Int32)), .val (.ref b47), .val (.ref r55), .val (.int (3 : Int32))] [(.ref r55)])) (fun t k => XS.aload X55.here hx rfl (hb hby at_142) rfl rfl k) ?_
          refine OEnds.go (g' := (mkF m 145 #[.val (.long q0), .second, .val (.long q1), .second, .val (.long q2), .second, .val (.int p3), .val (.int (3 : Int32)), .val (.ref b47), .val (.ref r55), .val (.int (3 : Int32))] [(.long q0), (.ref r55)])) (fun t k => XS.lloadN X55.here hx rfl (hb hby at_144) rfl k) ?_
          obtain ⟨_, _, ⟨T57, L57, k57, n57⟩, -, X57, ⟨Lc57, hQ57, l57, y57, z57⟩, st57⟩ := Jvm.LawKit.callS X55 hx (y := (⟨"com/example/slimheap/slimheap/hprof/IdMapIdsPinLaw", "has", "([JJ)Z"⟩ : MethodName)) hown (mvT hZ (hw _ (List.mem_of_getElem? (i := 41) rfl))) (mvT hZ (hw _ (List.mem_of_getElem? (i := 42) rfl))) (mvT hZ (hw _ (List.mem_of_getElem? (i := 43) rfl))) (mvT hZ (hw _ (List.mem_of_getElem? (i := 44) rfl))) (by decide) (backOf (W := 0) (rmH3 l Z a0 hw [] r55 q0 kr55 (rr55 (0 : Int32)) (rr55 (1 : Int32)) (rr55 (2 : Int32)) T55.heap n0 (Nat.le_trans (Nat.le_trans (Nat.le_trans (Nat.le_trans (Nat.le_trans (Nat.le_trans Z0 E47.1) K48q.1) K50q.1) K52q.1) K54q.1) K55q.1) VR55) hZ (hw _ (List.mem_of_getElem? (i := 44) rfl)) (hw _ (List.mem_of_getElem? (i := 43) rfl)) (by decide) (by decide)) (g := (mkF m 145 #[.val (.long q0), .second, .val (.long q1), .second, .val (.long q2), .second, .val (.int p3), .val (.int (3 : Int32)), .val (.ref b47), .val (.ref r55), .val (.int (3 : Int32))] [(.long q0), (.ref r55)])) rfl (by rw [hml]; rfl) (argsL := [(.ref r55), (.long q0)]) (rest := []) (lenOf pd_5 rfl) rfl (by show 2 * 0 + _ ≤ _; exact Nat.le_of_eq rfl) (hb hby at_145) (fun _ _ => ⟨rfl, rfl, (by decide : 4 + 0 ≤ _), (by decide : 134 + 0 ≤ _)⟩)
          dsimp only [Pt.U, Pt.locs, Pt.cells, Pt.slots] at X57 l57 y57 z57 st57 hQ57
          subst l57 y57 z57
          obtain ⟨rfl, N57q, e57⟩ := hQ57
          have N57 := Fr.app N55 N57q
          refine OEnds.go (g' := (mkF m 148 #[.val (.long q0), .second, .val (.long q1), .second, .val (.long q2), .second, .val (.int p3), .val (.int (3 : Int32)), .val (.ref b47), .val (.ref r55), .val (.int (3 : Int32))] [(.int (fH3 q0 (rr55 (0 : Int32)) (rr55 (1 : Int32)) (rr55 (2 : Int32))))])) st57 ?_
          refine OEnds.go (g' := (mkF m 153 #[.val (.long q0), .second, .val (.long q1), .second, .val (.long q2), .second, .val (.int p3), .val (.int (3 : Int32)), .val (.ref b47), .val (.ref r55), .val (.int (3 : Int32))] [])) (fun t k => XS.ifYes X57.here hx rfl (pc0 := 148) (pc' := 153) rfl (hb hby at_148) rfl ((if0 _ _).trans (feq (own_has3 _ _ _ _ (pm55.mem_iff.mpr (by simp)) : ¬ ((fH3 q0 (rr55 (0 : Int32)) (rr55 (1 : Int32)) (rr55 (2 : Int32))) = (0 : Int32)))).2) (by decide) (by decide) k) ?_
          refine OEnds.go (g' := (mkF m 155 #[.val (.long q0), .second, .val (.long q1), .second, .val (.long q2), .second, .val (.int p3), .val (.int (3 : Int32)), .val (.ref b47), .val (.ref r55), .val (.int (3 : Int32))] [(.int (3 : Int32))])) (fun t k => XS.iload X57.here hx rfl (hb hby at_153) rfl k) ?_
          refine OEnds.go (g' := (mkF m 156 #[.val (.long q0), .second, .val (.long q1), .second, .val (.long q2), .second, .val (.int p3), .val (.int (3 : Int32)), .val (.ref b47), .val (.ref r55), .val (.int (3 : Int32))] [(.int (2 : Int32)), (.int (3 : Int32))])) (fun t k => XS.iconst X57.here hx rfl (hb hby at_155) k) ?_
          refine OEnds.go (g' := (mkF m 159 #[.val (.long q0), .second, .val (.long q1), .second, .val (.long q2), .second, .val (.int p3), .val (.int (3 : Int32)), .val (.ref b47), .val (.ref r55), .val (.int (3 : Int32))] [])) (fun t k => XS.icmpNo X57.here hx rfl (hb hby at_156) rfl (flt (by decide : ¬ ((3 : Int32) < (2 : Int32)))).1 k) ?_
          refine OEnds.go (g' := (mkF m 161 #[.val (.long q0), .second, .val (.long q1), .second, .val (.long q2), .second, .val (.int p3), .val (.int (3 : Int32)), .val (.ref b47), .val (.ref r55), .val (.int (3 : Int32))] [(.ref r55)])) (fun t k => XS.aload X57.here hx rfl (hb hby at_159) rfl rfl k) ?_
          refine OEnds.go (g' := (mkF m 162 #[.val (.long q0), .second, .val (.long q1), .second, .val (.long q2), .second, .val (.int p3), .val (.int (3 : Int32)), .val (.ref b47), .val (.ref r55), .val (.int (3 : Int32))] [(.long q1), (.ref r55)])) (fun t k => XS.lloadN X57.here hx rfl (hb hby at_161) rfl k) ?_
          obtain ⟨_, _, ⟨T58, L58, k58, n58⟩, -, X58, ⟨Lc58, hQ58, l58, y58, z58⟩, st58⟩ := Jvm.LawKit.callS X57 hx (y := (⟨"com/example/slimheap/slimheap/hprof/IdMapIdsPinLaw", "has", "([JJ)Z"⟩ : MethodName)) hown (mvT hZ (hw _ (List.mem_of_getElem? (i := 41) rfl))) (mvT hZ (hw _ (List.mem_of_getElem? (i := 42) rfl))) (mvT hZ (hw _ (List.mem_of_getElem? (i := 43) rfl))) (mvT hZ (hw _ (List.mem_of_getElem? (i := 44) rfl))) (by decide) (backOf (W := 0) (rmH3 l Z a0 hw [] r55 q1 kr55 (rr55 (0 : Int32)) (rr55 (1 : Int32)) (rr55 (2 : Int32)) T55.heap n0 (Nat.le_trans (Nat.le_trans (Nat.le_trans (Nat.le_trans (Nat.le_trans (Nat.le_trans Z0 E47.1) K48q.1) K50q.1) K52q.1) K54q.1) K55q.1) VR55) hZ (hw _ (List.mem_of_getElem? (i := 44) rfl)) (hw _ (List.mem_of_getElem? (i := 43) rfl)) (by decide) (by decide)) (g := (mkF m 162 #[.val (.long q0), .second, .val (.long q1), .second, .val (.long q2), .second, .val (.int p3), .val (.int (3 : Int32)), .val (.ref b47), .val (.ref r55), .val (.int (3 : Int32))] [(.long q1), (.ref r55)])) rfl (by rw [hml]; rfl) (argsL := [(.ref r55), (.long q1)]) (rest := []) (lenOf pd_5 rfl) rfl (by show 2 * 0 + _ ≤ _; exact Nat.le_of_eq rfl) (hb hby at_162) (fun _ _ => ⟨rfl, e57, (by decide : 4 + 0 ≤ _), (by decide : 134 + 0 ≤ _)⟩)
          dsimp only [Pt.U, Pt.locs, Pt.cells, Pt.slots] at X58 l58 y58 z58 st58 hQ58
          subst l58 y58 z58
          obtain ⟨rfl, N58q, e58⟩ := hQ58
          have N58 := Fr.app N57 N58q
          refine OEnds.go (g' := (mkF m 165 #[.val (.long q0), .second, .val (.long q1), .second, .val (.long q2), .second, .val (.int p3), .val (.int (3 : Int32)), .val (.ref b47), .val (.ref r55), .val (.int (3 : Int32))] [(.int (fH3 q1 (rr55 (0 : Int32)) (rr55 (1 : Int32)) (rr55 (2 : Int32))))])) st58 ?_
          refine OEnds.go (g' := (mkF m 170 #[.val (.long q0), .second, .val (.long q1), .second, .val (.long q2), .second, .val (.int p3), .val (.int (3 : Int32)), .val (.ref b47), .val (.ref r55), .val (.int (3 : Int32))] [])) (fun t k => XS.ifYes X58.here hx rfl (pc0 := 165) (pc' := 170) rfl (hb hby at_165) rfl ((if0 _ _).trans (feq (own_has3 _ _ _ _ (pm55.mem_iff.mpr (by simp)) : ¬ ((fH3 q1 (rr55 (0 : Int32)) (rr55 (1 : Int32)) (rr55 (2 : Int32))) = (0 : Int32)))).2) (by decide) (by decide) k) ?_
          refine OEnds.go (g' := (mkF m 172 #[.val (.long q0), .second, .val (.long q1), .second, .val (.long q2), .second, .val (.int p3), .val (.int (3 : Int32)), .val (.ref b47), .val (.ref r55), .val (.int (3 : Int32))] [(.int (3 : Int32))])) (fun t k => XS.iload X58.here hx rfl (hb hby at_170) rfl k) ?_
          refine OEnds.go (g' := (mkF m 173 #[.val (.long q0), .second, .val (.long q1), .second, .val (.long q2), .second, .val (.int p3), .val (.int (3 : Int32)), .val (.ref b47), .val (.ref r55), .val (.int (3 : Int32))] [(.int (3 : Int32)), (.int (3 : Int32))])) (fun t k => XS.iconst X58.here hx rfl (hb hby at_172) k) ?_
          refine OEnds.go (g' := (mkF m 176 #[.val (.long q0), .second, .val (.long q1), .second, .val (.long q2), .second, .val (.int p3), .val (.int (3 : Int32)), .val (.ref b47), .val (.ref r55), .val (.int (3 : Int32))] [])) (fun t k => XS.icmpNo X58.here hx rfl (hb hby at_173) rfl (flt (by decide : ¬ ((3 : Int32) < (3 : Int32)))).1 k) ?_
          refine OEnds.go (g' := (mkF m 178 #[.val (.long q0), .second, .val (.long q1), .second, .val (.long q2), .second, .val (.int p3), .val (.int (3 : Int32)), .val (.ref b47), .val (.ref r55), .val (.int (3 : Int32))] [(.ref r55)])) (fun t k => XS.aload X58.here hx rfl (hb hby at_176) rfl rfl k) ?_
          refine OEnds.go (g' := (mkF m 180 #[.val (.long q0), .second, .val (.long q1), .second, .val (.long q2), .second, .val (.int p3), .val (.int (3 : Int32)), .val (.ref b47), .val (.ref r55), .val (.int (3 : Int32))] [(.long q2), (.ref r55)])) (fun t k => XS.lload X58.here hx rfl (hb hby at_178) rfl k) ?_
          obtain ⟨_, _, ⟨T59, L59, k59, n59⟩, -, X59, ⟨Lc59, hQ59, l59, y59, z59⟩, st59⟩ := Jvm.LawKit.callS X58 hx (y := (⟨"com/example/slimheap/slimheap/hprof/IdMapIdsPinLaw", "has", "([JJ)Z"⟩ : MethodName)) hown (mvT hZ (hw _ (List.mem_of_getElem? (i := 41) rfl))) (mvT hZ (hw _ (List.mem_of_getElem? (i := 42) rfl))) (mvT hZ (hw _ (List.mem_of_getElem? (i := 43) rfl))) (mvT hZ (hw _ (List.mem_of_getElem? (i := 44) rfl))) (by decide) (backOf (W := 0) (rmH3 l Z a0 hw [] r55 q2 kr55 (rr55 (0 : Int32)) (rr55 (1 : Int32)) (rr55 (2 : Int32)) T55.heap n0 (Nat.le_trans (Nat.le_trans (Nat.le_trans (Nat.le_trans (Nat.le_trans (Nat.le_trans Z0 E47.1) K48q.1) K50q.1) K52q.1) K54q.1) K55q.1) VR55) hZ (hw _ (List.mem_of_getElem? (i := 44) rfl)) (hw _ (List.mem_of_getElem? (i := 43) rfl)) (by decide) (by decide)) (g := (mkF m 180 #[.val (.long q0), .second, .val (.long q1), .second, .val (.long q2), .second, .val (.int p3), .val (.int (3 : Int32)), .val (.ref b47), .val (.ref r55), .val (.int (3 : Int32))] [(.long q2), (.ref r55)])) rfl (by rw [hml]; rfl) (argsL := [(.ref r55), (.long q2)]) (rest := []) (lenOf pd_5 rfl) rfl (by show 2 * 0 + _ ≤ _; exact Nat.le_of_eq rfl) (hb hby at_180) (fun _ _ => ⟨rfl, e58, (by decide : 4 + 0 ≤ _), (by decide : 134 + 0 ≤ _)⟩)
          dsimp only [Pt.U, Pt.locs, Pt.cells, Pt.slots] at X59 l59 y59 z59 st59 hQ59
          subst l59 y59 z59
          obtain ⟨rfl, N59q, e59⟩ := hQ59
          have N59 := Fr.app N58 N59q
          refine OEnds.go (g' := (mkF m 183 #[.val (.long q0), .second, .val (.long q1), .second, .val (.long q2), .second, .val (.int p3), .val (.int (3 : Int32)), .val (.ref b47), .val (.ref r55), .val (.int (3 : Int32))] [(.int (fH3 q2 (rr55 (0 : Int32)) (rr55 (1 : Int32)) (rr55 (2 : Int32))))])) st59 ?_
          refine OEnds.go (g' := (mkF m 188 #[.val (.long q0), .second, .val (.long q1), .second, .val (.long q2), .second, .val (.int p3), .val (.int (3 : Int32)), .val (.ref b47), .val (.ref r55), .val (.int (3 : Int32))] [])) (fun t k => XS.ifYes X59.here hx rfl (pc0 := 183) (pc' := 188) rfl (hb hby at_183) rfl ((if0 _ _).trans (feq (own_has3 _ _ _ _ (pm55.mem_iff.mpr (by simp)) : ¬ ((fH3 q2 (rr55 (0 : Int32)) (rr55 (1 : Int32)) (rr55 (2 : Int32))) = (0 : Int32)))).2) (by decide) (by decide) k) ?_
          refine OEnds.go (g' := (mkF m 190 #[.val (.long q0), .second, .val (.long q1), .second, .val (.long q2), .second, .val (.int p3), .val (.int (3 : Int32)), .val (.ref b47), .val (.ref r55), .val (.int (3 : Int32))] [(.ref r55)])) (fun t k => XS.aload X59.here hx rfl (hb hby at_188) rfl rfl k) ?_
          obtain ⟨cl60, Ar60, qa60, Sa60, Na60, Ha60, Ga60⟩ := @id _ VR55
          refine OEnds.go (g' := (mkF m 191 #[.val (.long q0), .second, .val (.long q1), .second, .val (.long q2), .second, .val (.int p3), .val (.int (3 : Int32)), .val (.ref b47), .val (.ref r55), .val (.int (3 : Int32))] [(.int (3 : Int32))])) (fun t k => X59.arraylength hx (by rw [e59]; exact Ar60.1) (State.isArrayOf_alike hZ.alike Ar60.2.1) (g := (mkF m 190 #[.val (.long q0), .second, .val (.long q1), .second, .val (.long q2), .second, .val (.int p3), .val (.int (3 : Int32)), .val (.ref b47), .val (.ref r55), .val (.int (3 : Int32))] [(.ref r55)])) rfl rfl (hb hby at_190) t (by rw [len_of Sa60 Na60]; exact k)) ?_
          refine OEnds.go (g' := (mkF m 194 #[.val (.long q0), .second, .val (.long q1), .second, .val (.long q2), .second, .val (.int p3), .val (.int (3 : Int32)), .val (.ref b47), .val (.ref r55), .val (.int (3 : Int32))] [])) (fun t k => XS.ifNo X59.here hx rfl (hb hby at_191) rfl ((if0 _ _).trans (tlt (by decide : ((0 : Int32) < (3 : Int32)))).2.2.2) k) ?_
          refine OEnds.go (g' := (mkF m 196 #[.val (.long q0), .second, .val (.long q1), .second, .val (.long q2), .second, .val (.int p3), .val (.int (3 : Int32)), .val (.ref b47), .val (.ref r55), .val (.int (3 : Int32))] [(.ref r55)])) (fun t k => XS.aload X59.here hx rfl (hb hby at_194) rfl rfl k) ?_
          refine OEnds.go (g' := (mkF m 197 #[.val (.long q0), .second, .val (.long q1), .second, .val (.long q2), .second, .val (.int p3), .val (.int (3 : Int32)), .val (.ref b47), .val (.ref r55), .val (.int (3 : Int32))] [(.int (0 : Int32)), (.ref r55)])) (fun t k => XS.iconst X59.here hx rfl (hb hby at_196) k) ?_
          obtain ⟨cl61, Ar61, qa61, Sa61, Na61, Ha61, Ga61⟩ := @id _ VR55
          have hin61 : ¬ ((0 : Int32) < 0 ∨ cl61.slots.size ≤ ((0 : Int32)).toNatClampNeg) := inb_of Sa61 ⟨by decide, by decide⟩
          have hat61 : cl61.slots[((0 : Int32)).toNatClampNeg]? = some (.long (rr55 (0 : Int32))) := Has.at Ha61 hin61 rfl
          refine OEnds.go (g' := (mkF m 198 #[.val (.long q0), .second, .val (.long q1), .second, .val (.long q2), .second, .val (.int p3), .val (.int (3 : Int32)), .val (.ref b47), .val (.ref r55), .val (.int (3 : Int32))] [(.long (rr55 (0 : Int32)))])) (X59.laload hx (j := (0 : Int32)) (v := (.long (rr55 (0 : Int32)))) (by rw [e59]; exact Ar61.1) (State.isArrayOf_alike hZ.alike Ar61.2.1) Ar61.2.2 hin61 hat61 (g := (mkF m 197 #[.val (.long q0), .second, .val (.long q1), .second, .val (.long q2), .second, .val (.int p3), .val (.int (3 : Int32)), .val (.ref b47), .val (.ref r55), .val (.int (3 : Int32))] [(.int (0 : Int32)), (.ref r55)])) rfl rfl (hb hby at_197)) ?_
          refine OEnds.go (g' := (mkF m 200 #[.val (.long q0), .second, .val (.long q1), .second, .val (.long q2), .second, .val (.int p3), .val (.int (3 : Int32)), .val (.ref b47), .val (.ref r55), .val (.int (3 : Int32))] [(.int (3 : Int32)), (.long (rr55 (0 : Int32)))])) (fun t k => XS.iload X59.here hx rfl (hb hby at_198) rfl k) ?_
          refine OEnds.go (g' := (mkF m 201 #[.val (.long q0), .second, .val (.long q1), .second, .val (.long q2), .second, .val (.int p3), .val (.int (3 : Int32)), .val (.ref b47), .val (.ref r55), .val (.int (3 : Int32))] [(.long q0), (.int (3 : Int32)), (.long (rr55 (0 : Int32)))])) (fun t k => XS.lloadN X59.here hx rfl (hb hby at_200) rfl k) ?_
          refine OEnds.go (g' := (mkF m 202 #[.val (.long q0), .second, .val (.long q1), .second, .val (.long q2), .second, .val (.int p3), .val (.int (3 : Int32)), .val (.ref b47), .val (.ref r55), .val (.int (3 : Int32))] [(.long q1), (.long q0), (.int (3 : Int32)), (.long (rr55 (0 : Int32)))])) (fun t k => XS.lloadN X59.here hx rfl (hb hby at_201) rfl k) ?_
          refine OEnds.go (g' := (mkF m 204 #[.val (.long q0), .second, .val (.long q1), .second, .val (.long q2), .second, .val (.int p3), .val (.int (3 : Int32)), .val (.ref b47), .val (.ref r55), .val (.int (3 : Int32))] [(.long q2), (.long q1), (.long q0), (.int (3 : Int32)), (.long (rr55 (0 : Int32)))])) (fun t k => XS.lload X59.here hx rfl (hb hby at_202) rfl k) ?_
          obtain ⟨_, _, ⟨T62, L62, k62, n62⟩, -, X62, ⟨Lc62, hQ62, l62, y62, z62⟩, st62⟩ := Jvm.LawKit.callS X59 hx (y := (⟨"com/example/slimheap/slimheap/hprof/IdMapIdsPinLaw", "inSet", "(JIJJJ)Z"⟩ : MethodName)) hown (mvT hZ (hw _ (List.mem_of_getElem? (i := 45) rfl))) (mvT hZ (hw _ (List.mem_of_getElem? (i := 46) rfl))) (mvT hZ (hw _ (List.mem_of_getElem? (i := 43) rfl))) (mvT hZ (hw _ (List.mem_of_getElem? (i := 47) rfl))) (by decide) (backOf (W := 0) (rm8 l Z a0 hw [] (rr55 (0 : Int32)) (3 : Int32) q0 q1 q2 T55.heap n0 (Nat.le_trans (Nat.le_trans (Nat.le_trans (Nat.le_trans (Nat.le_trans (Nat.le_trans Z0 E47.1) K48q.1) K50q.1) K52q.1) K54q.1) K55q.1)) hZ (hw _ (List.mem_of_getElem? (i := 47) rfl)) (hw _ (List.mem_of_getElem? (i := 43) rfl)) (by decide) (by decide)) (g := (mkF m 204 #[.val (.long q0), .second, .val (.long q1), .second, .val (.long q2), .second, .val (.int p3), .val (.int (3 : Int32)), .val (.ref b47), .val (.ref r55), .val (.int (3 : Int32))] [(.long q2), (.long q1), (.long q0), (.int (3 : Int32)), (.long (rr55 (0 : Int32)))])) rfl (by rw [hml]; rfl) (argsL := [(.long (rr55 (0 : Int32))), (.int (3 : Int32)), (.long q0), (.long q1), (.long q2)]) (rest := []) (lenOf pd_6 rfl) rfl (by show 2 * 0 + _ ≤ _; exact Nat.le_of_eq rfl) (hb hby at_204) (fun _ _ => ⟨rfl, e59, (by decide : 4 + 0 ≤ _), (by decide : 134 + 0 ≤ _)⟩)
          dsimp only [Pt.U, Pt.locs, Pt.cells, Pt.slots] at X62 l62 y62 z62 st62 hQ62
          subst l62 y62 z62
          obtain ⟨rfl, N62q, e62⟩ := hQ62
          have N62 := Fr.app N59 N62q
          refine OEnds.go (g' := (mkF m 207 #[.val (.long q0), .second, .val (.long q1), .second, .val (.long q2), .second, .val (.int p3), .val (.int (3 : Int32)), .val (.ref b47), .val (.ref r55), .val (.int (3 : Int32))] [(.int (f8 (rr55 (0 : Int32)) (3 : Int32) q0 q1 q2))])) st62 ?_
          refine OEnds.go (g' := (mkF m 212 #[.val (.long q0), .second, .val (.long q1), .second, .val (.long q2), .second, .val (.int p3), .val (.int (3 : Int32)), .val (.ref b47), .val (.ref r55), .val (.int (3 : Int32))] [])) (fun t k => XS.ifYes X62.here hx rfl (pc0 := 207) (pc' := 212) rfl (hb hby at_207) rfl ((if0 _ _).trans (feq (own_set3 _ _ _ _ (by have t := pm55.mem_iff.mp (show (rr55 (0 : Int32)) ∈ ([(rr55 (0 : Int32)), (rr55 (1 : Int32)), (rr55 (2 : Int32))] : List Int64) from by simp); simp only [List.mem_cons, List.not_mem_nil, or_false] at t; first | (rcases t with t | t | t <;> simp [t]; done) | (rcases t with t | t <;> simp [t]; done) | (simp [t]; done)) : ¬ ((f8 (rr55 (0 : Int32)) (3 : Int32) q0 q1 q2) = (0 : Int32)))).2) (by decide) (by decide) k) ?_
          refine OEnds.go (g' := (mkF m 214 #[.val (.long q0), .second, .val (.long q1), .second, .val (.long q2), .second, .val (.int p3), .val (.int (3 : Int32)), .val (.ref b47), .val (.ref r55), .val (.int (3 : Int32))] [(.ref r55)])) (fun t k => XS.aload X62.here hx rfl (hb hby at_212) rfl rfl k) ?_
          obtain ⟨cl63, Ar63, qa63, Sa63, Na63, Ha63, Ga63⟩ := @id _ VR55
          refine OEnds.go (g' := (mkF m 215 #[.val (.long q0), .second, .val (.long q1), .second, .val (.long q2), .second, .val (.int p3), .val (.int (3 : Int32)), .val (.ref b47), .val (.ref r55), .val (.int (3 : Int32))] [(.int (3 : Int32))])) (fun t k => X62.arraylength hx (by rw [e62]; exact Ar63.1) (State.isArrayOf_alike hZ.alike Ar63.2.1) (g := (mkF m 214 #[.val (.long q0), .second, .val (.long q1), .second, .val (.long q2), .second, .val (.int p3), .val (.int (3 : Int32)), .val (.ref b47), .val (.ref r55), .val (.int (3 : Int32))] [(.ref r55)])) rfl rfl (hb hby at_214) t (by rw [len_of Sa63 Na63]; exact k)) ?_
          refine OEnds.go (g' := (mkF m 216 #[.val (.long q0), .second, .val (.long q1), .second, .val (.long q2), .second, .val (.int p3), .val (.int (3 : Int32)), .val (.ref b47), .val (.ref r55), .val (.int (3 : Int32))] [(.int (1 : Int32)), (.int (3 : Int32))])) (fun t k => XS.iconst X62.here hx rfl (hb hby at_215) k) ?_
          refine OEnds.go (g' := (mkF m 219 #[.val (.long q0), .second, .val (.long q1), .second, .val (.long q2), .second, .val (.int p3), .val (.int (3 : Int32)), .val (.ref b47), .val (.ref r55), .val (.int (3 : Int32))] [])) (fun t k => XS.icmpNo X62.here hx rfl (hb hby at_216) rfl (tlt (by decide : ((1 : Int32) < (3 : Int32)))).2.2.2 k) ?_
          refine OEnds.go (g' := (mkF m 221 #[.val (.long q0), .second, .val (.long q1), .second, .val (.long q2), .second, .val (.int p3), .val (.int (3 : Int32)), .val (.ref b47), .val (.ref r55), .val (.int (3 : Int32))] [(.ref r55)])) (fun t k => XS.aload X62.here hx rfl (hb hby at_219) rfl rfl k) ?_
          refine OEnds.go (g' := (mkF m 222 #[.val (.long q0), .second, .val (.long q1), .second, .val (.long q2), .second, .val (.int p3), .val (.int (3 : Int32)), .val (.ref b47), .val (.ref r55), .val (.int (3 : Int32))] [(.int (1 : Int32)), (.ref r55)])) (fun t k => XS.iconst X62.here hx rfl (hb hby at_221) k) ?_
          obtain ⟨cl64, Ar64, qa64, Sa64, Na64, Ha64, Ga64⟩ := @id _ VR55
          have hin64 : ¬ ((1 : Int32) < 0 ∨ cl64.slots.size ≤ ((1 : Int32)).toNatClampNeg) := inb_of Sa64 ⟨by decide, by decide⟩
          have hat64 : cl64.slots[((1 : Int32)).toNatClampNeg]? = some (.long (rr55 (1 : Int32))) := Has.at Ha64 hin64 rfl
          refine OEnds.go (g' := (mkF m 223 #[.val (.long q0), .second, .val (.long q1), .second, .val (.long q2), .second, .val (.int p3), .val (.int (3 : Int32)), .val (.ref b47), .val (.ref r55), .val (.int (3 : Int32))] [(.long (rr55 (1 : Int32)))])) (X62.laload hx (j := (1 : Int32)) (v := (.long (rr55 (1 : Int32)))) (by rw [e62]; exact Ar64.1) (State.isArrayOf_alike hZ.alike Ar64.2.1) Ar64.2.2 hin64 hat64 (g := (mkF m 222 #[.val (.long q0), .second, .val (.long q1), .second, .val (.long q2), .second, .val (.int p3), .val (.int (3 : Int32)), .val (.ref b47), .val (.ref r55), .val (.int (3 : Int32))] [(.int (1 : Int32)), (.ref r55)])) rfl rfl (hb hby at_222)) ?_
          refine OEnds.go (g' := (mkF m 225 #[.val (.long q0), .second, .val (.long q1), .second, .val (.long q2), .second, .val (.int p3), .val (.int (3 : Int32)), .val (.ref b47), .val (.ref r55), .val (.int (3 : Int32))] [(.int (3 : Int32)), (.long (rr55 (1 : Int32)))])) (fun t k => XS.iload X62.here hx rfl (hb hby at_223) rfl k) ?_
          refine OEnds.go (g' := (mkF m 226 #[.val (.long q0), .second, .val (.long q1), .second, .val (.long q2), .second, .val (.int p3), .val (.int (3 : Int32)), .val (.ref b47), .val (.ref r55), .val (.int (3 : Int32))] [(.long q0), (.int (3 : Int32)), (.long (rr55 (1 : Int32)))])) (fun t k => XS.lloadN X62.here hx rfl (hb hby at_225) rfl k) ?_
          refine OEnds.go (g' := (mkF m 227 #[.val (.long q0), .second, .val (.long q1), .second, .val (.long q2), .second, .val (.int p3), .val (.int (3 : Int32)), .val (.ref b47), .val (.ref r55), .val (.int (3 : Int32))] [(.long q1), (.long q0), (.int (3 : Int32)), (.long (rr55 (1 : Int32)))])) (fun t k => XS.lloadN X62.here hx rfl (hb hby at_226) rfl k) ?_
          refine OEnds.go (g' := (mkF m 229 #[.val (.long q0), .second, .val (.long q1), .second, .val (.long q2), .second, .val (.int p3), .val (.int (3 : Int32)), .val (.ref b47), .val (.ref r55), .val (.int (3 : Int32))] [(.long q2), (.long q1), (.long q0), (.int (3 : Int32)), (.long (rr55 (1 : Int32)))])) (fun t k => XS.lload X62.here hx rfl (hb hby at_227) rfl k) ?_
          obtain ⟨_, _, ⟨T65, L65, k65, n65⟩, -, X65, ⟨Lc65, hQ65, l65, y65, z65⟩, st65⟩ := Jvm.LawKit.callS X62 hx (y := (⟨"com/example/slimheap/slimheap/hprof/IdMapIdsPinLaw", "inSet", "(JIJJJ)Z"⟩ : MethodName)) hown (mvT hZ (hw _ (List.mem_of_getElem? (i := 45) rfl))) (mvT hZ (hw _ (List.mem_of_getElem? (i := 46) rfl))) (mvT hZ (hw _ (List.mem_of_getElem? (i := 43) rfl))) (mvT hZ (hw _ (List.mem_of_getElem? (i := 47) rfl))) (by decide) (backOf (W := 0) (rm8 l Z a0 hw [] (rr55 (1 : Int32)) (3 : Int32) q0 q1 q2 T55.heap n0 (Nat.le_trans (Nat.le_trans (Nat.le_trans (Nat.le_trans (Nat.le_trans (Nat.le_trans Z0 E47.1) K48q.1) K50q.1) K52q.1) K54q.1) K55q.1)) hZ (hw _ (List.mem_of_getElem? (i := 47) rfl)) (hw _ (List.mem_of_getElem? (i := 43) rfl)) (by decide) (by decide)) (g := (mkF m 229 #[.val (.long q0), .second, .val (.long q1), .second, .val (.long q2), .second, .val (.int p3), .val (.int (3 : Int32)), .val (.ref b47), .val (.ref r55), .val (.int (3 : Int32))] [(.long q2), (.long q1), (.long q0), (.int (3 : Int32)), (.long (rr55 (1 : Int32)))])) rfl (by rw [hml]; rfl) (argsL := [(.long (rr55 (1 : Int32))), (.int (3 : Int32)), (.long q0), (.long q1), (.long q2)]) (rest := []) (lenOf pd_6 rfl) rfl (by show 2 * 0 + _ ≤ _; exact Nat.le_of_eq rfl) (hb hby at_229) (fun _ _ => ⟨rfl, e62, (by decide : 4 + 0 ≤ _), (by decide : 134 + 0 ≤ _)⟩)
          dsimp only [Pt.U, Pt.locs, Pt.cells, Pt.slots] at X65 l65 y65 z65 st65 hQ65
          subst l65 y65 z65
          obtain ⟨rfl, N65q, e65⟩ := hQ65
          have N65 := Fr.app N62 N65q
          refine OEnds.go (g' := (mkF m 232 #[.val (.long q0), .second, .val (.long q1), .second, .val (.long q2), .second, .val (.int p3), .val (.int (3 : Int32)), .val (.ref b47), .val (.ref r55), .val (.int (3 : Int32))] [(.int (f8 (rr55 (1 : Int32)) (3 : Int32) q0 q1 q2))])) st65 ?_
          refine OEnds.go (g' := (mkF m 237 #[.val (.long q0), .second, .val (.long q1), .second, .val (.long q2), .second, .val (.int p3), .val (.int (3 : Int32)), .val (.ref b47), .val (.ref r55), .val (.int (3 : Int32))] [])) (fun t k => XS.ifYes X65.here hx rfl (pc0 := 232) (pc' := 237) rfl (hb hby at_232) rfl ((if0 _ _).trans (feq (own_set3 _ _ _ _ (by have t := pm55.mem_iff.mp (show (rr55 (1 : Int32)) ∈ ([(rr55 (0 : Int32)), (rr55 (1 : Int32)), (rr55 (2 : Int32))] : List Int64) from by simp); simp only [List.mem_cons, List.not_mem_nil, or_false] at t; first | (rcases t with t | t | t <;> simp [t]; done) | (rcases t with t | t <;> simp [t]; done) | (simp [t]; done)) : ¬ ((f8 (rr55 (1 : Int32)) (3 : Int32) q0 q1 q2) = (0 : Int32)))).2) (by decide) (by decide) k) ?_
          refine OEnds.go (g' := (mkF m 239 #[.val (.long q0), .second, .val (.long q1), .second, .val (.long q2), .second, .val (.int p3), .val (.int (3 : Int32)), .val (.ref b47), .val (.ref r55), .val (.int (3 : Int32))] [(.ref r55)])) (fun t k => XS.aload X65.here hx rfl (hb hby at_237) rfl rfl k) ?_
          obtain ⟨cl66, Ar66, qa66, Sa66, Na66, Ha66, Ga66⟩ := @id _ VR55
          refine OEnds.go (g' := (mkF m 240 #[.val (.long q0), .second, .val (.long q1), .second, .val (.long q2), .second, .val (.int p3), .val (.int (3 : Int32)), .val (.ref b47), .val (.ref r55), .val (.int (3 : Int32))] [(.int (3 : Int32))])) (fun t k => X65.arraylength hx (by rw [e65]; exact Ar66.1) (State.isArrayOf_alike hZ.alike Ar66.2.1) (g := (mkF m 239 #[.val (.long q0), .second, .val (.long q1), .second, .val (.long q2), .second, .val (.int p3), .val (.int (3 : Int32)), .val (.ref b47), .val (.ref r55), .val (.int (3 : Int32))] [(.ref r55)])) rfl rfl (hb hby at_239) t (by rw [len_of Sa66 Na66]; exact k)) ?_
          refine OEnds.go (g' := (mkF m 241 #[.val (.long q0), .second, .val (.long q1), .second, .val (.long q2), .second, .val (.int p3), .val (.int (3 : Int32)), .val (.ref b47), .val (.ref r55), .val (.int (3 : Int32))] [(.int (2 : Int32)), (.int (3 : Int32))])) (fun t k => XS.iconst X65.here hx rfl (hb hby at_240) k) ?_
          refine OEnds.go (g' := (mkF m 244 #[.val (.long q0), .second, .val (.long q1), .second, .val (.long q2), .second, .val (.int p3), .val (.int (3 : Int32)), .val (.ref b47), .val (.ref r55), .val (.int (3 : Int32))] [])) (fun t k => XS.icmpNo X65.here hx rfl (hb hby at_241) rfl (tlt (by decide : ((2 : Int32) < (3 : Int32)))).2.2.2 k) ?_
          refine OEnds.go (g' := (mkF m 246 #[.val (.long q0), .second, .val (.long q1), .second, .val (.long q2), .second, .val (.int p3), .val (.int (3 : Int32)), .val (.ref b47), .val (.ref r55), .val (.int (3 : Int32))] [(.ref r55)])) (fun t k => XS.aload X65.here hx rfl (hb hby at_244) rfl rfl k) ?_
          refine OEnds.go (g' := (mkF m 247 #[.val (.long q0), .second, .val (.long q1), .second, .val (.long q2), .second, .val (.int p3), .val (.int (3 : Int32)), .val (.ref b47), .val (.ref r55), .val (.int (3 : Int32))] [(.int (2 : Int32)), (.ref r55)])) (fun t k => XS.iconst X65.here hx rfl (hb hby at_246) k) ?_
          obtain ⟨cl67, Ar67, qa67, Sa67, Na67, Ha67, Ga67⟩ := @id _ VR55
          have hin67 : ¬ ((2 : Int32) < 0 ∨ cl67.slots.size ≤ ((2 : Int32)).toNatClampNeg) := inb_of Sa67 ⟨by decide, by decide⟩
          have hat67 : cl67.slots[((2 : Int32)).toNatClampNeg]? = some (.long (rr55 (2 : Int32))) := Has.at Ha67 hin67 rfl
          refine OEnds.go (g' := (mkF m 248 #[.val (.long q0), .second, .val (.long q1), .second, .val (.long q2), .second, .val (.int p3), .val (.int (3 : Int32)), .val (.ref b47), .val (.ref r55), .val (.int (3 : Int32))] [(.long (rr55 (2 : Int32)))])) (X65.laload hx (j := (2 : Int32)) (v := (.long (rr55 (2 : Int32)))) (by rw [e65]; exact Ar67.1) (State.isArrayOf_alike hZ.alike Ar67.2.1) Ar67.2.2 hin67 hat67 (g := (mkF m 247 #[.val (.long q0), .second, .val (.long q1), .second, .val (.long q2), .second, .val (.int p3), .val (.int (3 : Int32)), .val (.ref b47), .val (.ref r55), .val (.int (3 : Int32))] [(.int (2 : Int32)), (.ref r55)])) rfl rfl (hb hby at_247)) ?_
          refine OEnds.go (g' := (mkF m 250 #[.val (.long q0), .second, .val (.long q1), .second, .val (.long q2), .second, .val (.int p3), .val (.int (3 : Int32)), .val (.ref b47), .val (.ref r55), .val (.int (3 : Int32))] [(.int (3 : Int32)), (.long (rr55 (2 : Int32)))])) (fun t k => XS.iload X65.here hx rfl (hb hby at_248) rfl k) ?_
          refine OEnds.go (g' := (mkF m 251 #[.val (.long q0), .second, .val (.long q1), .second, .val (.long q2), .second, .val (.int p3), .val (.int (3 : Int32)), .val (.ref b47), .val (.ref r55), .val (.int (3 : Int32))] [(.long q0), (.int (3 : Int32)), (.long (rr55 (2 : Int32)))])) (fun t k => XS.lloadN X65.here hx rfl (hb hby at_250) rfl k) ?_
          refine OEnds.go (g' := (mkF m 252 #[.val (.long q0), .second, .val (.long q1), .second, .val (.long q2), .second, .val (.int p3), .val (.int (3 : Int32)), .val (.ref b47), .val (.ref r55), .val (.int (3 : Int32))] [(.long q1), (.long q0), (.int (3 : Int32)), (.long (rr55 (2 : Int32)))])) (fun t k => XS.lloadN X65.here hx rfl (hb hby at_251) rfl k) ?_
          refine OEnds.go (g' := (mkF m 254 #[.val (.long q0), .second, .val (.long q1), .second, .val (.long q2), .second, .val (.int p3), .val (.int (3 : Int32)), .val (.ref b47), .val (.ref r55), .val (.int (3 : Int32))] [(.long q2), (.long q1), (.long q0), (.int (3 : Int32)), (.long (rr55 (2 : Int32)))])) (fun t k => XS.lload X65.here hx rfl (hb hby at_252) rfl k) ?_
          obtain ⟨_, _, ⟨T68, L68, k68, n68⟩, -, X68, ⟨Lc68, hQ68, l68, y68, z68⟩, st68⟩ := Jvm.LawKit.callS X65 hx (y := (⟨"com/example/slimheap/slimheap/hprof/IdMapIdsPinLaw", "inSet", "(JIJJJ)Z"⟩ : MethodName)) hown (mvT hZ (hw _ (List.mem_of_getElem? (i := 45) rfl))) (mvT hZ (hw _ (List.mem_of_getElem? (i := 46) rfl))) (mvT hZ (hw _ (List.mem_of_getElem? (i := 43) rfl))) (mvT hZ (hw _ (List.mem_of_getElem? (i := 47) rfl))) (by decide) (backOf (W := 0) (rm8 l Z a0 hw [] (rr55 (2 : Int32)) (3 : Int32) q0 q1 q2 T55.heap n0 (Nat.le_trans (Nat.le_trans (Nat.le_trans (Nat.le_trans (Nat.le_trans (Nat.le_trans Z0 E47.1) K48q.1) K50q.1) K52q.1) K54q.1) K55q.1)) hZ (hw _ (List.mem_of_getElem? (i := 47) rfl)) (hw _ (List.mem_of_getElem? (i := 43) rfl)) (by decide) (by decide)) (g := (mkF m 254 #[.val (.long q0), .second, .val (.long q1), .second, .val (.long q2), .second, .val (.int p3), .val (.int (3 : Int32)), .val (.ref b47), .val (.ref r55), .val (.int (3 : Int32))] [(.long q2), (.long q1), (.long q0), (.int (3 : Int32)), (.long (rr55 (2 : Int32)))])) rfl (by rw [hml]; rfl) (argsL := [(.long (rr55 (2 : Int32))), (.int (3 : Int32)), (.long q0), (.long q1), (.long q2)]) (rest := []) (lenOf pd_6 rfl) rfl (by show 2 * 0 + _ ≤ _; exact Nat.le_of_eq rfl) (hb hby at_254) (fun _ _ => ⟨rfl, e65, (by decide : 4 + 0 ≤ _), (by decide : 134 + 0 ≤ _)⟩)
          dsimp only [Pt.U, Pt.locs, Pt.cells, Pt.slots] at X68 l68 y68 z68 st68 hQ68
          subst l68 y68 z68
          obtain ⟨rfl, N68q, e68⟩ := hQ68
          have N68 := Fr.app N65 N68q
          refine OEnds.go (g' := (mkF m 257 #[.val (.long q0), .second, .val (.long q1), .second, .val (.long q2), .second, .val (.int p3), .val (.int (3 : Int32)), .val (.ref b47), .val (.ref r55), .val (.int (3 : Int32))] [(.int (f8 (rr55 (2 : Int32)) (3 : Int32) q0 q1 q2))])) st68 ?_
          refine OEnds.go (g' := (mkF m 262 #[.val (.long q0), .second, .val (.long q1), .second, .val (.long q2), .second, .val (.int p3), .val (.int (3 : Int32)), .val (.ref b47), .val (.ref r55), .val (.int (3 : Int32))] [])) (fun t k => XS.ifYes X68.here hx rfl (pc0 := 257) (pc' := 262) rfl (hb hby at_257) rfl ((if0 _ _).trans (feq (own_set3 _ _ _ _ (by have t := pm55.mem_iff.mp (show (rr55 (2 : Int32)) ∈ ([(rr55 (0 : Int32)), (rr55 (1 : Int32)), (rr55 (2 : Int32))] : List Int64) from by simp); simp only [List.mem_cons, List.not_mem_nil, or_false] at t; first | (rcases t with t | t | t <;> simp [t]; done) | (rcases t with t | t <;> simp [t]; done) | (simp [t]; done)) : ¬ ((f8 (rr55 (2 : Int32)) (3 : Int32) q0 q1 q2) = (0 : Int32)))).2) (by decide) (by decide) k) ?_
          refine OEnds.go (g' := (mkF m 263 #[.val (.long q0), .second, .val (.long q1), .second, .val (.long q2), .second, .val (.int p3), .val (.int (3 : Int32)), .val (.ref b47), .val (.ref r55), .val (.int (3 : Int32))] [(.int (1 : Int32))])) (fun t k => XS.iconst X68.here hx rfl (hb hby at_262) k) ?_
          exact OEnds.outN X68 Bd.notSynchronized hx (t := .boolean) Bd.returns (by simp) (hb hby at_263) ⟨rfl, N68⟩ (by decide) (by decide)
        · -- again
          obtain ⟨nx54, I54⟩ := own_ovr (y := y_3) I52 Fd54 hn54
          rcases (by simpa using own_ids nx54 : q2 = q1 ∨ q2 = q0) with t54 | t54
          · -- q1
            refine OEnds.go (g' := (mkF m 66 #[.val (.long q0), .second, .val (.long q1), .second, .val (.long q2), .second, .val (.int p3), .val (.int (3 : Int32)), .val (.ref b47), .unset, .unset] [(.ref b47)])) (fun t k => XS.aload X54.here hx rfl (hb hby at_64) rfl rfl k) ?_
            obtain ⟨cq69, kq69, q69a, q69b, q69c⟩ := isOf hZ rfl E54q
            obtain ⟨_, _, ⟨T69, L69, k69, n69⟩, -, X69, ⟨Lc69, hQ69, l69, y69, z69⟩, st69⟩ := X54.virtualBack hx (y := (⟨"com/example/slimheap/slimheap/hprof/IdMap", "ids", "()[J"⟩ : MethodName)) (z := (⟨"com/example/slimheap/slimheap/hprof/IdMap", "ids", "()[J"⟩ : MethodName)) hown (mvT hZ (hw _ (List.mem_of_getElem? (i := 36) rfl))) (mvT hZ (hw _ (List.mem_of_getElem? (i := 37) rfl))) (notFace_of_selects (args := #[]) (mvT hZ (hw _ (List.mem_of_getElem? (i := 39) rfl)))) (mvT hZ (hw _ (List.mem_of_getElem? (i := 39) rfl))) (mvT hZ (hw _ (List.mem_of_getElem? (i := 38) rfl))) (by decide) (backOf (W := 0) (rmD2 l Z a0 hw [] b47 ia48 va48 ki48 kv48 (own_u (own_u (own_u (fun _ => .null) j50 (.ref y_1)) j52 (.ref y_2)) j54 (.ref y_3)) (own_u (own_u (fun _ => (0 : Int64)) j50 q0) j52 q1) T54.heap n0 (Nat.le_trans (Nat.le_trans (Nat.le_trans (Nat.le_trans (Nat.le_trans Z0 E47.1) K48q.1) K50q.1) K52q.1) K54q.1) Fi54q Fv54q AI54q AV54q Fs54q (own_perm I54).length_eq) hZ (hw _ (List.mem_of_getElem? (i := 40) rfl)) (hw _ (List.mem_of_getElem? (i := 2) rfl)) (by decide) (by decide)) q69a q69c (g := (mkF m 66 #[.val (.long q0), .second, .val (.long q1), .second, .val (.long q2), .second, .val (.int p3), .val (.int (3 : Int32)), .val (.ref b47), .unset, .unset] [(.ref b47)])) rfl (by rw [hml]; rfl) (Steps.refl _) (argsL := []) (rest := []) (lenOf pd_2 rfl) rfl (by show 2 * 0 + _ ≤ _; exact Nat.le_of_eq rfl) (hb hby at_66) (fun _ _ => ⟨rfl, rfl, (by decide : 3 + 1 ≤ _), (by decide : 131 + 2 ≤ _)⟩)
            dsimp only [Pt.U, Pt.locs, Pt.cells, Pt.slots] at X69 l69 y69 z69 st69 hQ69
            subst l69 y69 z69
            obtain ⟨r69, kr69, rr69, rfl, N69q, K69q, AR69, hP69, g_r69⟩ := hQ69
            have N69 := Fr.app N54 N69q
            have VR69 : Arv Z T69.heap r69 kr69 .long (2 : Int32) [(.long (rr69 (0 : Int32))), (.long (rr69 (1 : Int32)))] (.long (0 : Int64)) := own_Av.arv (n := 2) AR69 (by decide)
            have pm69 : ([(rr69 (0 : Int32)), (rr69 (1 : Int32))] : List Int64).Perm [q1, q0] := by have t := own_perm I54; have u := own_lits hP69 (own_perm I54).length_eq; rw [u] at t; exact t
            refine OEnds.tr (g' := (mkF m 69 #[.val (.long q0), .second, .val (.long q1), .second, .val (.long q2), .second, .val (.int p3), .val (.int (3 : Int32)), .val (.ref b47), .unset, .unset] [(.ref r69)])) st69 ?_
            refine OEnds.go (g' := (mkF m 71 #[.val (.long q0), .second, .val (.long q1), .second, .val (.long q2), .second, .val (.int p3), .val (.int (3 : Int32)), .val (.ref b47), .val (.ref r69), .unset] [])) (fun t k => XS.astore X69.here hx rfl (hb hby at_69) rfl rfl (l' := #[.val (.long q0), .second, .val (.long q1), .second, .val (.long q2), .second, .val (.int p3), .val (.int (3 : Int32)), .val (.ref b47), .val (.ref r69), .unset]) rfl k) ?_
            refine OEnds.go (g' := (mkF m 72 #[.val (.long q0), .second, .val (.long q1), .second, .val (.long q2), .second, .val (.int p3), .val (.int (3 : Int32)), .val (.ref b47), .val (.ref r69), .unset] [(.int (0 : Int32))])) (fun t k => XS.iconst X69.here hx rfl (hb hby at_71) k) ?_
            refine OEnds.go (g' := (mkF m 74 #[.val (.long q0), .second, .val (.long q1), .second, .val (.long q2), .second, .val (.int p3), .val (.int (3 : Int32)), .val (.ref b47), .val (.ref r69), .val (.int (0 : Int32))] [])) (fun t k => XS.istore X69.here hx rfl (hb hby at_72) rfl (l' := #[.val (.long q0), .second, .val (.long q1), .second, .val (.long q2), .second, .val (.int p3), .val (.int (3 : Int32)), .val (.ref b47), .val (.ref r69), .val (.int (0 : Int32))]) rfl k) ?_
            refine OEnds.go (g' := (mkF m 76 #[.val (.long q0), .second, .val (.long q1), .second, .val (.long q2), .second, .val (.int p3), .val (.int (3 : Int32)), .val (.ref b47), .val (.ref r69), .val (.int (0 : Int32))] [(.int (3 : Int32))])) (fun t k => XS.iload X69.here hx rfl (hb hby at_74) rfl k) ?_
            refine OEnds.go (g' := (mkF m 77 #[.val (.long q0), .second, .val (.long q1), .second, .val (.long q2), .second, .val (.int p3), .val (.int (3 : Int32)), .val (.ref b47), .val (.ref r69), .val (.int (0 : Int32))] [(.int (1 : Int32)), (.int (3 : Int32))])) (fun t k => XS.iconst X69.here hx rfl (hb hby at_76) k) ?_
            refine OEnds.go (g' := (mkF m 80 #[.val (.long q0), .second, .val (.long q1), .second, .val (.long q2), .second, .val (.int p3), .val (.int (3 : Int32)), .val (.ref b47), .val (.ref r69), .val (.int (0 : Int32))] [])) (fun t k => XS.icmpNo X69.here hx rfl (hb hby at_77) rfl (flt (by decide : ¬ ((3 : Int32) < (1 : Int32)))).1 k) ?_
            refine OEnds.go (g' := (mkF m 83 #[.val (.long q0), .second, .val (.long q1), .second, .val (.long q2), .second, .val (.int p3), .val (.int (3 : Int32)), .val (.ref b47), .val (.ref r69), .val (.int ((0 : Int32) + (1 : Int32)))] [])) (fun t k => XS.iinc X69.here hx rfl (hb hby at_80) rfl (l' := #[.val (.long q0), .second, .val (.long q1), .second, .val (.long q2), .second, .val (.int p3), .val (.int (3 : Int32)), .val (.ref b47), .val (.ref r69), .val (.int ((0 : Int32) + (1 : Int32)))]) rfl k) ?_
            rw [show ((0 : Int32) + (1 : Int32)) = (1 : Int32) from by decide]
            refine OEnds.go (g' := (mkF m 85 #[.val (.long q0), .second, .val (.long q1), .second, .val (.long q2), .second, .val (.int p3), .val (.int (3 : Int32)), .val (.ref b47), .val (.ref r69), .val (.int (1 : Int32))] [(.int (3 : Int32))])) (fun t k => XS.iload X69.here hx rfl (hb hby at_83) rfl k) ?_
            refine OEnds.go (g' := (mkF m 86 #[.val (.long q0), .second, .val (.long q1), .second, .val (.long q2), .second, .val (.int p3), .val (.int (3 : Int32)), .val (.ref b47), .val (.ref r69), .val (.int (1 : Int32))] [(.int (2 : Int32)), (.int (3 : Int32))])) (fun t k => XS.iconst X69.here hx rfl (hb hby at_85) k) ?_
            refine OEnds.go (g' := (mkF m 89 #[.val (.long q0), .second, .val (.long q1), .second, .val (.long q2), .second, .val (.int p3), .val (.int (3 : Int32)), .val (.ref b47), .val (.ref r69), .val (.int (1 : Int32))] [])) (fun t k => XS.icmpNo X69.here hx rfl (hb hby at_86) rfl (flt (by decide : ¬ ((3 : Int32) < (2 : Int32)))).1 k) ?_
            refine OEnds.go (g' := (mkF m 90 #[.val (.long q0), .second, .val (.long q1), .second, .val (.long q2), .second, .val (.int p3), .val (.int (3 : Int32)), .val (.ref b47), .val (.ref r69), .val (.int (1 : Int32))] [(.long q1)])) (fun t k => XS.lloadN X69.here hx rfl (hb hby at_89) rfl k) ?_
            refine OEnds.go (g' := (mkF m 91 #[.val (.long q0), .second, .val (.long q1), .second, .val (.long q2), .second, .val (.int p3), .val (.int (3 : Int32)), .val (.ref b47), .val (.ref r69), .val (.int (1 : Int32))] [(.long q0), (.long q1)])) (fun t k => XS.lloadN X69.here hx rfl (hb hby at_90) rfl k) ?_
            refine OEnds.go (g' := (mkF m 92 #[.val (.long q0), .second, .val (.long q1), .second, .val (.long q2), .second, .val (.int p3), .val (.int (3 : Int32)), .val (.ref b47), .val (.ref r69), .val (.int (1 : Int32))] [(.int (lcmpW q1 q0))])) (fun t k => XS.lcmp X69.here hx rfl (hb hby at_91) rfl k) ?_
            refine OEnds.go (g' := (mkF m 95 #[.val (.long q0), .second, .val (.long q1), .second, .val (.long q2), .second, .val (.int p3), .val (.int (3 : Int32)), .val (.ref b47), .val (.ref r69), .val (.int (1 : Int32))] [])) (fun t k => XS.ifNo X69.here hx rfl (hb hby at_92) rfl ((if0 _ _).trans (feq (fun q => (fun q : q1 = q0 => nx52 (j50, q0) (by simp) q.symm) ((lw_eq _ _).mp q))).1) k) ?_
            refine OEnds.go (g' := (mkF m 98 #[.val (.long q0), .second, .val (.long q1), .second, .val (.long q2), .second, .val (.int p3), .val (.int (3 : Int32)), .val (.ref b47), .val (.ref r69), .val (.int ((1 : Int32) + (1 : Int32)))] [])) (fun t k => XS.iinc X69.here hx rfl (hb hby at_95) rfl (l' := #[.val (.long q0), .second, .val (.long q1), .second, .val (.long q2), .second, .val (.int p3), .val (.int (3 : Int32)), .val (.ref b47), .val (.ref r69), .val (.int ((1 : Int32) + (1 : Int32)))]) rfl k) ?_
            rw [show ((1 : Int32) + (1 : Int32)) = (2 : Int32) from by decide]
            refine OEnds.go (g' := (mkF m 100 #[.val (.long q0), .second, .val (.long q1), .second, .val (.long q2), .second, .val (.int p3), .val (.int (3 : Int32)), .val (.ref b47), .val (.ref r69), .val (.int (2 : Int32))] [(.int (3 : Int32))])) (fun t k => XS.iload X69.here hx rfl (hb hby at_98) rfl k) ?_
            refine OEnds.go (g' := (mkF m 101 #[.val (.long q0), .second, .val (.long q1), .second, .val (.long q2), .second, .val (.int p3), .val (.int (3 : Int32)), .val (.ref b47), .val (.ref r69), .val (.int (2 : Int32))] [(.int (3 : Int32)), (.int (3 : Int32))])) (fun t k => XS.iconst X69.here hx rfl (hb hby at_100) k) ?_
            refine OEnds.go (g' := (mkF m 104 #[.val (.long q0), .second, .val (.long q1), .second, .val (.long q2), .second, .val (.int p3), .val (.int (3 : Int32)), .val (.ref b47), .val (.ref r69), .val (.int (2 : Int32))] [])) (fun t k => XS.icmpNo X69.here hx rfl (hb hby at_101) rfl (flt (by decide : ¬ ((3 : Int32) < (3 : Int32)))).1 k) ?_
            refine OEnds.go (g' := (mkF m 106 #[.val (.long q0), .second, .val (.long q1), .second, .val (.long q2), .second, .val (.int p3), .val (.int (3 : Int32)), .val (.ref b47), .val (.ref r69), .val (.int (2 : Int32))] [(.long q2)])) (fun t k => XS.lload X69.here hx rfl (hb hby at_104) rfl k) ?_
            refine OEnds.go (g' := (mkF m 107 #[.val (.long q0), .second, .val (.long q1), .second, .val (.long q2), .second, .val (.int p3), .val (.int (3 : Int32)), .val (.ref b47), .val (.ref r69), .val (.int (2 : Int32))] [(.long q0), (.long q2)])) (fun t k => XS.lloadN X69.here hx rfl (hb hby at_106) rfl k) ?_
            refine OEnds.go (g' := (mkF m 108 #[.val (.long q0), .second, .val (.long q1), .second, .val (.long q2), .second, .val (.int p3), .val (.int (3 : Int32)), .val (.ref b47), .val (.ref r69), .val (.int (2 : Int32))] [(.int (lcmpW q2 q0))])) (fun t k => XS.lcmp X69.here hx rfl (hb hby at_107) rfl k) ?_
            refine OEnds.go (g' := (mkF m 111 #[.val (.long q0), .second, .val (.long q1), .second, .val (.long q2), .second, .val (.int p3), .val (.int (3 : Int32)), .val (.ref b47), .val (.ref r69), .val (.int (2 : Int32))] [])) (fun t k => XS.ifNo X69.here hx rfl (hb hby at_108) rfl ((if0 _ _).trans (feq (fun q => (fun q : q2 = q0 => (fun q : q1 = q0 => nx52 (j50, q0) (by simp) q.symm) (t54.symm.trans q)) ((lw_eq _ _).mp q))).1) k) ?_
            refine OEnds.go (g' := (mkF m 113 #[.val (.long q0), .second, .val (.long q1), .second, .val (.long q2), .second, .val (.int p3), .val (.int (3 : Int32)), .val (.ref b47), .val (.ref r69), .val (.int (2 : Int32))] [(.long q2)])) (fun t k => XS.lload X69.here hx rfl (hb hby at_111) rfl k) ?_
            refine OEnds.go (g' := (mkF m 114 #[.val (.long q0), .second, .val (.long q1), .second, .val (.long q2), .second, .val (.int p3), .val (.int (3 : Int32)), .val (.ref b47), .val (.ref r69), .val (.int (2 : Int32))] [(.long q1), (.long q2)])) (fun t k => XS.lloadN X69.here hx rfl (hb hby at_113) rfl k) ?_
            refine OEnds.go (g' := (mkF m 115 #[.val (.long q0), .second, .val (.long q1), .second, .val (.long q2), .second, .val (.int p3), .val (.int (3 : Int32)), .val (.ref b47), .val (.ref r69), .val (.int (2 : Int32))] [(.int (lcmpW q2 q1))])) (fun t k => XS.lcmp X69.here hx rfl (hb hby at_114) rfl k) ?_
            refine OEnds.go (g' := (mkF m 121 #[.val (.long q0), .second, .val (.long q1), .second, .val (.long q2), .second, .val (.int p3), .val (.int (3 : Int32)), .val (.ref b47), .val (.ref r69), .val (.int (2 : Int32))] [])) (fun t k => XS.ifYes X69.here hx rfl (pc0 := 115) (pc' := 121) rfl (hb hby at_115) rfl ((if0 _ _).trans (teq ((lw_eq _ _).mpr t54)).1) (by decide) (by decide) k) ?_
            refine OEnds.go (g' := (mkF m 123 #[.val (.long q0), .second, .val (.long q1), .second, .val (.long q2), .second, .val (.int p3), .val (.int (3 : Int32)), .val (.ref b47), .val (.ref r69), .val (.int (2 : Int32))] [(.ref r69)])) (fun t k => XS.aload X69.here hx rfl (hb hby at_121) rfl rfl k) ?_
            refine OEnds.go (g' := (mkF m 126 #[.val (.long q0), .second, .val (.long q1), .second, .val (.long q2), .second, .val (.int p3), .val (.int (3 : Int32)), .val (.ref b47), .val (.ref r69), .val (.int (2 : Int32))] [])) (fun t k => XS.ifnullNo X69.here hx rfl (hb hby at_123) rfl k) ?_
            refine OEnds.go (g' := (mkF m 128 #[.val (.long q0), .second, .val (.long q1), .second, .val (.long q2), .second, .val (.int p3), .val (.int (3 : Int32)), .val (.ref b47), .val (.ref r69), .val (.int (2 : Int32))] [(.ref r69)])) (fun t k => XS.aload X69.here hx rfl (hb hby at_126) rfl rfl k) ?_
            obtain ⟨cl70, Ar70, qa70, Sa70, Na70, Ha70, Ga70⟩ := @id _ VR69
            refine OEnds.go (g' := (mkF m 129 #[.val (.long q0), .second, .val (.long q1), .second, .val (.long q2), .second, .val (.int p3), .val (.int (3 : Int32)), .val (.ref b47), .val (.ref r69), .val (.int (2 : Int32))] [(.int (2 : Int32))])) (fun t k => X69.arraylength hx Ar70.1 (State.isArrayOf_alike hZ.alike Ar70.2.1) (g := (mkF m 128 #[.val (.long q0), .second, .val (.long q1), .second, .val (.long q2), .second, .val (.int p3), .val (.int (3 : Int32)), .val (.ref b47), .val (.ref r69), .val (.int (2 : Int32))] [(.ref r69)])) rfl rfl (hb hby at_128) t (by rw [len_of Sa70 Na70]; exact k)) ?_
            refine OEnds.go (g' := (mkF m 131 #[.val (.long q0), .second, .val (.long q1), .second, .val (.long q2), .second, .val (.int p3), .val (.int (3 : Int32)), .val (.ref b47), .val (.ref r69), .val (.int (2 : Int32))] [(.int (2 : Int32)), (.int (2 : Int32))])) (fun t k => XS.iload X69.here hx rfl (hb hby at_129) rfl k) ?_
            refine OEnds.go (g' := (mkF m 136 #[.val (.long q0), .second, .val (.long q1), .second, .val (.long q2), .second, .val (.int p3), .val (.int (3 : Int32)), .val (.ref b47), .val (.ref r69), .val (.int (2 : Int32))] [])) (fun t k => XS.icmpYes X69.here hx rfl (pc0 := 131) (pc' := 136) rfl (hb hby at_131) rfl (teq (by decide : ((2 : Int32) = (2 : Int32)))).1 (by decide) (by decide) k) ?_
            refine OEnds.go (g' := (mkF m 138 #[.val (.long q0), .second, .val (.long q1), .second, .val (.long q2), .second, .val (.int p3), .val (.int (3 : Int32)), .val (.ref b47), .val (.ref r69), .val (.int (2 : Int32))] [(.int (3 : Int32))])) (fun t k => XS.iload X69.here hx rfl (hb hby at_136) rfl k) ?_
            refine OEnds.go (g' := (mkF m 139 #[.val (.long q0), .second, .val (.long q1), .second, .val (.long q2), .second, .val (.int p3), .val (.int (3 : Int32)), .val (.ref b47), .val (.ref r69), .val (.int (2 : Int32))] [(.int (1 : Int32)), (.int (3 : Int32))])) (fun t k => XS.iconst X69.here hx rfl (hb hby at_138) k) ?_
            refine OEnds.go (g' := (mkF m 142 #[.val (.long q0), .second, .val (.long q1), .second, .val (.long q2), .second, .val (.int p3), .val (.int (3 : Int32)), .val (.ref b47), .val (.ref r69), .val (.int (2 : Int32))] [])) (fun t k => XS.icmpNo X69.here hx rfl (hb hby at_139) rfl (flt (by decide : ¬ ((3 : Int32) < (1 : Int32)))).1 k) ?_
            refine OEnds.go (g' := (mkF m 144 #[.val (.long q0), .second, .val (.long q1), .second, .val (.long q2), .second, .val (.int p3), .val (.int (3 : Int32)), .val (.ref b47), .val (.ref r69), .val (.int (2 : Int32))] [(.ref r69)])) (fun t k => XS.aload X69.here hx rfl (hb hby at_142) rfl rfl k) ?_
            refine OEnds.go (g' := (mkF m 145 #[.val (.long q0), .second, .val (.long q1), .second, .val (.long q2), .second, .val (.int p3), .val (.int (3 : Int32)), .val (.ref b47), .val (.ref r69), .val (.int (2 : Int32))] [(.long q0), (.ref r69)])) (fun t k => XS.lloadN X69.here hx rfl (hb hby at_144) rfl k) ?_
            obtain ⟨_, _, ⟨T71, L71, k71, n71⟩, -, X71, ⟨Lc71, hQ71, l71, y71, z71⟩, st71⟩ := Jvm.LawKit.callS X69 hx (y := (⟨"com/example/slimheap/slimheap/hprof/IdMapIdsPinLaw", "has", "([JJ)Z"⟩ : MethodName)) hown (mvT hZ (hw _ (List.mem_of_getElem? (i := 41) rfl))) (mvT hZ (hw _ (List.mem_of_getElem? (i := 42) rfl))) (mvT hZ (hw _ (List.mem_of_getElem? (i := 43) rfl))) (mvT hZ (hw _ (List.mem_of_getElem? (i := 44) rfl))) (by decide) (backOf (W := 0) (rmH2 l Z a0 hw [] r69 q0 kr69 (rr69 (0 : Int32)) (rr69 (1 : Int32)) T69.heap n0 (Nat.le_trans (Nat.le_trans (Nat.le_trans (Nat.le_trans (Nat.le_trans (Nat.le_trans Z0 E47.1) K48q.1) K50q.1) K52q.1) K54q.1) K69q.1) VR69) hZ (hw _ (List.mem_of_getElem? (i := 44) rfl)) (hw _ (List.mem_of_getElem? (i := 43) rfl)) (by decide) (by decide)) (g := (mkF m 145 #[.val (.long q0), .second, .val (.long q1), .second, .val (.long q2), .second, .val (.int p3), .val (.int (3 : Int32)), .val (.ref b47), .val (.ref r69), .val (.int (2 : Int32))] [(.long q0), (.ref r69)])) rfl (by rw [hml]; rfl) (argsL := [(.ref r69), (.long q0)]) (rest := []) (lenOf pd_5 rfl) rfl (by show 2 * 0 + _ ≤ _; exact Nat.le_of_eq rfl) (hb hby at_145) (fun _ _ => ⟨rfl, rfl, (by decide : 4 + 0 ≤ _), (by decide : 133 + 0 ≤ _)⟩)
            dsimp only [Pt.U, Pt.locs, Pt.cells, Pt.slots] at X71 l71 y71 z71 st71 hQ71
            subst l71 y71 z71
            obtain ⟨rfl, N71q, e71⟩ := hQ71
            have N71 := Fr.app N69 N71q
            refine OEnds.go (g' := (mkF m 148 #[.val (.long q0), .second, .val (.long q1), .second, .val (.long q2), .second, .val (.int p3), .val (.int (3 : Int32)), .val (.ref b47), .val (.ref r69), .val (.int (2 : Int32))] [(.int (fH2 q0 (rr69 (0 : Int32)) (rr69 (1 : Int32))))])) st71 ?_
            refine OEnds.go (g' := (mkF m 153 #[.val (.long q0), .second, .val (.long q1), .second, .val (.long q2), .second, .val (.int p3), .val (.int (3 : Int32)), .val (.ref b47), .val (.ref r69), .val (.int (2 : Int32))] [])) (fun t k => XS.ifYes X71.here hx rfl (pc0 := 148) (pc' := 153) rfl (hb hby at_148) rfl ((if0 _ _).trans (feq (own_has2 _ _ _ (pm69.mem_iff.mpr (by simp [t54])) : ¬ ((fH2 q0 (rr69 (0 : Int32)) (rr69 (1 : Int32))) = (0 : Int32)))).2) (by decide) (by decide) k) ?_
            refine OEnds.go (g' := (mkF m 155 #[.val (.long q0), .second, .val (.long q1), .second, .val (.long q2), .second, .val (.int p3), .val (.int (3 : Int32)), .val (.ref b47), .val (.ref r69), .val (.int (2 : Int32))] [(.int (3 : Int32))])) (fun t k => XS.iload X71.here hx rfl (hb hby at_153) rfl k) ?_
            refine OEnds.go (g' := (mkF m 156 #[.val (.long q0), .second, .val (.long q1), .second, .val (.long q2), .second, .val (.int p3), .val (.int (3 : Int32)), .val (.ref b47), .val (.ref r69), .val (.int (2 : Int32))] [(.int (2 : Int32)), (.int (3 : Int32))])) (fun t k => XS.iconst X71.here hx rfl (hb hby at_155) k) ?_
            refine OEnds.go (g' := (mkF m 159 #[.val (.long q0), .second, .val (.long q1), .second, .val (.long q2), .second, .val (.int p3), .val (.int (3 : Int32)), .val (.ref b47), .val (.ref r69), .val (.int (2 : Int32))] [])) (fun t k => XS.icmpNo X71.here hx rfl (hb hby at_156) rfl (flt (by decide : ¬ ((3 : Int32) < (2 : Int32)))).1 k) ?_
            refine OEnds.go (g' := (mkF m 161 #[.val (.long q0), .second, .val (.long q1), .second, .val (.long q2), .second, .val (.int p3), .val (.int (3 : Int32)), .val (.ref b47), .val (.ref r69), .val (.int (2 : Int32))] [(.ref r69)])) (fun t k => XS.aload X71.here hx rfl (hb hby at_159) rfl rfl k) ?_
            refine OEnds.go (g' := (mkF m 162 #[.val (.long q0), .second, .val (.long q1), .second, .val (.long q2), .second, .val (.int p3), .val (.int (3 : Int32)), .val (.ref b47), .val (.ref r69), .val (.int (2 : Int32))] [(.long q1), (.ref r69)])) (fun t k => XS.lloadN X71.here hx rfl (hb hby at_161) rfl k) ?_
            obtain ⟨_, _, ⟨T72, L72, k72, n72⟩, -, X72, ⟨Lc72, hQ72, l72, y72, z72⟩, st72⟩ := Jvm.LawKit.callS X71 hx (y := (⟨"com/example/slimheap/slimheap/hprof/IdMapIdsPinLaw", "has", "([JJ)Z"⟩ : MethodName)) hown (mvT hZ (hw _ (List.mem_of_getElem? (i := 41) rfl))) (mvT hZ (hw _ (List.mem_of_getElem? (i := 42) rfl))) (mvT hZ (hw _ (List.mem_of_getElem? (i := 43) rfl))) (mvT hZ (hw _ (List.mem_of_getElem? (i := 44) rfl))) (by decide) (backOf (W := 0) (rmH2 l Z a0 hw [] r69 q1 kr69 (rr69 (0 : Int32)) (rr69 (1 : Int32)) T69.heap n0 (Nat.le_trans (Nat.le_trans (Nat.le_trans (Nat.le_trans (Nat.le_trans (Nat.le_trans Z0 E47.1) K48q.1) K50q.1) K52q.1) K54q.1) K69q.1) VR69) hZ (hw _ (List.mem_of_getElem? (i := 44) rfl)) (hw _ (List.mem_of_getElem? (i := 43) rfl)) (by decide) (by decide)) (g := (mkF m 162 #[.val (.long q0), .second, .val (.long q1), .second, .val (.long q2), .second, .val (.int p3), .val (.int (3 : Int32)), .val (.ref b47), .val (.ref r69), .val (.int (2 : Int32))] [(.long q1), (.ref r69)])) rfl (by rw [hml]; rfl) (argsL := [(.ref r69), (.long q1)]) (rest := []) (lenOf pd_5 rfl) rfl (by show 2 * 0 + _ ≤ _; exact Nat.le_of_eq rfl) (hb hby at_162) (fun _ _ => ⟨rfl, e71, (by decide : 4 + 0 ≤ _), (by decide : 133 + 0 ≤ _)⟩)
            dsimp only [Pt.U, Pt.locs, Pt.cells, Pt.slots] at X72 l72 y72 z72 st72 hQ72
            subst l72 y72 z72
            obtain ⟨rfl, N72q, e72⟩ := hQ72
            have N72 := Fr.app N71 N72q
            refine OEnds.go (g' := (mkF m 165 #[.val (.long q0), .second, .val (.long q1), .second, .val (.long q2), .second, .val (.int p3), .val (.int (3 : Int32)), .val (.ref b47), .val (.ref r69), .val (.int (2 : Int32))] [(.int (fH2 q1 (rr69 (0 : Int32)) (rr69 (1 : Int32))))])) st72 ?_
            refine OEnds.go (g' := (mkF m 170 #[.val (.long q0), .second, .val (.long q1), .second, .val (.long q2), .second, .val (.int p3), .val (.int (3 : Int32)), .val (.ref b47), .val (.ref r69), .val (.int (2 : Int32))] [])) (fun t k => XS.ifYes X72.here hx rfl (pc0 := 165) (pc' := 170) rfl (hb hby at_165) rfl ((if0 _ _).trans (feq (own_has2 _ _ _ (pm69.mem_iff.mpr (by simp [t54])) : ¬ ((fH2 q1 (rr69 (0 : Int32)) (rr69 (1 : Int32))) = (0 : Int32)))).2) (by decide) (by decide) k) ?_
            refine OEnds.go (g' := (mkF m 172 #[.val (.long q0), .second, .val (.long q1), .second, .val (.long q2), .second, .val (.int p3), .val (.int (3 : Int32)), .val (.ref b47), .val (.ref r69), .val (.int (2 : Int32))] [(.int (3 : Int32))])) (fun t k => XS.iload X72.here hx rfl (hb hby at_170) rfl k) ?_
            refine OEnds.go (g' := (mkF m 173 #[.val (.long q0), .second, .val (.long q1), .second, .val (.long q2), .second, .val (.int p3), .val (.int (3 : Int32)), .val (.ref b47), .val (.ref r69), .val (.int (2 : Int32))] [(.int (3 : Int32)), (.int (3 : Int32))])) (fun t k => XS.iconst X72.here hx rfl (hb hby at_172) k) ?_
            refine OEnds.go (g' := (mkF m 176 #[.val (.long q0), .second, .val (.long q1), .second, .val (.long q2), .second, .val (.int p3), .val (.int (3 : Int32)), .val (.ref b47), .val (.ref r69), .val (.int (2 : Int32))] [])) (fun t k => XS.icmpNo X72.here hx rfl (hb hby at_173) rfl (flt (by decide : ¬ ((3 : Int32) < (3 : Int32)))).1 k) ?_
            refine OEnds.go (g' := (mkF m 178 #[.val (.long q0), .second, .val (.long q1), .second, .val (.long q2), .second, .val (.int p3), .val (.int (3 : Int32)), .val (.ref b47), .val (.ref r69), .val (.int (2 : Int32))] [(.ref r69)])) (fun t k => XS.aload X72.here hx rfl (hb hby at_176) rfl rfl k) ?_
            refine OEnds.go (g' := (mkF m 180 #[.val (.long q0), .second, .val (.long q1), .second, .val (.long q2), .second, .val (.int p3), .val (.int (3 : Int32)), .val (.ref b47), .val (.ref r69), .val (.int (2 : Int32))] [(.long q2), (.ref r69)])) (fun t k => XS.lload X72.here hx rfl (hb hby at_178) rfl k) ?_
            obtain ⟨_, _, ⟨T73, L73, k73, n73⟩, -, X73, ⟨Lc73, hQ73, l73, y73, z73⟩, st73⟩ := Jvm.LawKit.callS X72 hx (y := (⟨"com/example/slimheap/slimheap/hprof/IdMapIdsPinLaw", "has", "([JJ)Z"⟩ : MethodName)) hown (mvT hZ (hw _ (List.mem_of_getElem? (i := 41) rfl))) (mvT hZ (hw _ (List.mem_of_getElem? (i := 42) rfl))) (mvT hZ (hw _ (List.mem_of_getElem? (i := 43) rfl))) (mvT hZ (hw _ (List.mem_of_getElem? (i := 44) rfl))) (by decide) (backOf (W := 0) (rmH2 l Z a0 hw [] r69 q2 kr69 (rr69 (0 : Int32)) (rr69 (1 : Int32)) T69.heap n0 (Nat.le_trans (Nat.le_trans (Nat.le_trans (Nat.le_trans (Nat.le_trans (Nat.le_trans Z0 E47.1) K48q.1) K50q.1) K52q.1) K54q.1) K69q.1) VR69) hZ (hw _ (List.mem_of_getElem? (i := 44) rfl)) (hw _ (List.mem_of_getElem? (i := 43) rfl)) (by decide) (by decide)) (g := (mkF m 180 #[.val (.long q0), .second, .val (.long q1), .second, .val (.long q2), .second, .val (.int p3), .val (.int (3 : Int32)), .val (.ref b47), .val (.ref r69), .val (.int (2 : Int32))] [(.long q2), (.ref r69)])) rfl (by rw [hml]; rfl) (argsL := [(.ref r69), (.long q2)]) (rest := []) (lenOf pd_5 rfl) rfl (by show 2 * 0 + _ ≤ _; exact Nat.le_of_eq rfl) (hb hby at_180) (fun _ _ => ⟨rfl, e72, (by decide : 4 + 0 ≤ _), (by decide : 133 + 0 ≤ _)⟩)
            dsimp only [Pt.U, Pt.locs, Pt.cells, Pt.slots] at X73 l73 y73 z73 st73 hQ73
            subst l73 y73 z73
            obtain ⟨rfl, N73q, e73⟩ := hQ73
            have N73 := Fr.app N72 N73q
            refine OEnds.go (g' := (mkF m 183 #[.val (.long q0), .second, .val (.long q1), .second, .val (.long q2), .second, .val (.int p3), .val (.int (3 : Int32)), .val (.ref b47), .val (.ref r69), .val (.int (2 : Int32))] [(.int (fH2 q2 (rr69 (0 : Int32)) (rr69 (1 : Int32))))])) st73 ?_
            refine OEnds.go (g' := (mkF m 188 #[.val (.long q0), .second, .val (.long q1), .second, .val (.long q2), .second, .val (.int p3), .val (.int (3 : Int32)), .val (.ref b47), .val (.ref r69), .val (.int (2 : Int32))] [])) (fun t k => XS.ifYes X73.here hx rfl (pc0 := 183) (pc' := 188) rfl (hb hby at_183) rfl ((if0 _ _).trans (feq (own_has2 _ _ _ (pm69.mem_iff.mpr (by simp [t54])) : ¬ ((fH2 q2 (rr69 (0 : Int32)) (rr69 (1 : Int32))) = (0 : Int32)))).2) (by decide) (by decide) k) ?_
            refine OEnds.go (g' := (mkF m 190 #[.val (.long q0), .second, .val (.long q1), .second, .val (.long q2), .second, .val (.int p3), .val (.int (3 : Int32)), .val (.ref b47), .val (.ref r69), .val (.int (2 : Int32))] [(.ref r69)])) (fun t k => XS.aload X73.here hx rfl (hb hby at_188) rfl rfl k) ?_
            obtain ⟨cl74, Ar74, qa74, Sa74, Na74, Ha74, Ga74⟩ := @id _ VR69
            refine OEnds.go (g' := (mkF m 191 #[.val (.long q0), .second, .val (.long q1), .second, .val (.long q2), .second, .val (.int p3), .val (.int (3 : Int32)), .val (.ref b47), .val (.ref r69), .val (.int (2 : Int32))] [(.int (2 : Int32))])) (fun t k => X73.arraylength hx (by rw [e73]; exact Ar74.1) (State.isArrayOf_alike hZ.alike Ar74.2.1) (g := (mkF m 190 #[.val (.long q0), .second, .val (.long q1), .second, .val (.long q2), .second, .val (.int p3), .val (.int (3 : Int32)), .val (.ref b47), .val (.ref r69), .val (.int (2 : Int32))] [(.ref r69)])) rfl rfl (hb hby at_190) t (by rw [len_of Sa74 Na74]; exact k)) ?_
            refine OEnds.go (g' := (mkF m 194 #[.val (.long q0), .second, .val (.long q1), .second, .val (.long q2), .second, .val (.int p3), .val (.int (3 : Int32)), .val (.ref b47), .val (.ref r69), .val (.int (2 : Int32))] [])) (fun t k => XS.ifNo X73.here hx rfl (hb hby at_191) rfl ((if0 _ _).trans (tlt (by decide : ((0 : Int32) < (2 : Int32)))).2.2.2) k) ?_
            refine OEnds.go (g' := (mkF m 196 #[.val (.long q0), .second, .val (.long q1), .second, .val (.long q2), .second, .val (.int p3), .val (.int (3 : Int32)), .val (.ref b47), .val (.ref r69), .val (.int (2 : Int32))] [(.ref r69)])) (fun t k => XS.aload X73.here hx rfl (hb hby at_194) rfl rfl k) ?_
            refine OEnds.go (g' := (mkF m 197 #[.val (.long q0), .second, .val (.long q1), .second, .val (.long q2), .second, .val (.int p3), .val (.int (3 : Int32)), .val (.ref b47), .val (.ref r69), .val (.int (2 : Int32))] [(.int (0 : Int32)), (.ref r69)])) (fun t k => XS.iconst X73.here hx rfl (hb hby at_196) k) ?_
            obtain ⟨cl75, Ar75, qa75, Sa75, Na75, Ha75, Ga75⟩ := @id _ VR69
            have hin75 : ¬ ((0 : Int32) < 0 ∨ cl75.slots.size ≤ ((0 : Int32)).toNatClampNeg) := inb_of Sa75 ⟨by decide, by decide⟩
            have hat75 : cl75.slots[((0 : Int32)).toNatClampNeg]? = some (.long (rr69 (0 : Int32))) := Has.at Ha75 hin75 rfl
            refine OEnds.go (g' := (mkF m 198 #[.val (.long q0), .second, .val (.long q1), .second, .val (.long q2), .second, .val (.int p3), .val (.int (3 : Int32)), .val (.ref b47), .val (.ref r69), .val (.int (2 : Int32))] [(.long (rr69 (0 : Int32)))])) (X73.laload hx (j := (0 : Int32)) (v := (.long (rr69 (0 : Int32)))) (by rw [e73]; exact Ar75.1) (State.isArrayOf_alike hZ.alike Ar75.2.1) Ar75.2.2 hin75 hat75 (g := (mkF m 197 #[.val (.long q0), .second, .val (.long q1), .second, .val (.long q2), .second, .val (.int p3), .val (.int (3 : Int32)), .val (.ref b47), .val (.ref r69), .val (.int (2 : Int32))] [(.int (0 : Int32)), (.ref r69)])) rfl rfl (hb hby at_197)) ?_
            refine OEnds.go (g' := (mkF m 200 #[.val (.long q0), .second, .val (.long q1), .second, .val (.long q2), .second, .val (.int p3), .val (.int (3 : Int32)), .val (.ref b47), .val (.ref r69), .val (.int (2 : Int32))] [(.int (3 : Int32)), (.long (rr69 (0 : Int32)))])) (fun t k => XS.iload X73.here hx rfl (hb hby at_198) rfl k) ?_
            refine OEnds.go (g' := (mkF m 201 #[.val (.long q0), .second, .val (.long q1), .second, .val (.long q2), .second, .val (.int p3), .val (.int (3 : Int32)), .val (.ref b47), .val (.ref r69), .val (.int (2 : Int32))] [(.long q0), (.int (3 : Int32)), (.long (rr69 (0 : Int32)))])) (fun t k => XS.lloadN X73.here hx rfl (hb hby at_200) rfl k) ?_
            refine OEnds.go (g' := (mkF m 202 #[.val (.long q0), .second, .val (.long q1), .second, .val (.long q2), .second, .val (.int p3), .val (.int (3 : Int32)), .val (.ref b47), .val (.ref r69), .val (.int (2 : Int32))] [(.long q1), (.long q0), (.int (3 : Int32)), (.long (rr69 (0 : Int32)))])) (fun t k => XS.lloadN X73.here hx rfl (hb hby at_201) rfl k) ?_
            refine OEnds.go (g' := (mkF m 204 #[.val (.long q0), .second, .val (.long q1), .second, .val (.long q2), .second, .val (.int p3), .val (.int (3 : Int32)), .val (.ref b47), .val (.ref r69), .val (.int (2 : Int32))] [(.long q2), (.long q1), (.long q0), (.int (3 : Int32)), (.long (rr69 (0 : Int32)))])) (fun t k => XS.lload X73.here hx rfl (hb hby at_202) rfl k) ?_
            obtain ⟨_, _, ⟨T76, L76, k76, n76⟩, -, X76, ⟨Lc76, hQ76, l76, y76, z76⟩, st76⟩ := Jvm.LawKit.callS X73 hx (y := (⟨"com/example/slimheap/slimheap/hprof/IdMapIdsPinLaw", "inSet", "(JIJJJ)Z"⟩ : MethodName)) hown (mvT hZ (hw _ (List.mem_of_getElem? (i := 45) rfl))) (mvT hZ (hw _ (List.mem_of_getElem? (i := 46) rfl))) (mvT hZ (hw _ (List.mem_of_getElem? (i := 43) rfl))) (mvT hZ (hw _ (List.mem_of_getElem? (i := 47) rfl))) (by decide) (backOf (W := 0) (rm8 l Z a0 hw [] (rr69 (0 : Int32)) (3 : Int32) q0 q1 q2 T69.heap n0 (Nat.le_trans (Nat.le_trans (Nat.le_trans (Nat.le_trans (Nat.le_trans (Nat.le_trans Z0 E47.1) K48q.1) K50q.1) K52q.1) K54q.1) K69q.1)) hZ (hw _ (List.mem_of_getElem? (i := 47) rfl)) (hw _ (List.mem_of_getElem? (i := 43) rfl)) (by decide) (by decide)) (g := (mkF m 204 #[.val (.long q0), .second, .val (.long q1), .second, .val (.long q2), .second, .val (.int p3), .val (.int (3 : Int32)), .val (.ref b47), .val (.ref r69), .val (.int (2 : Int32))] [(.long q2), (.long q1), (.long q0), (.int (3 : Int32)), (.long (rr69 (0 : Int32)))])) rfl (by rw [hml]; rfl) (argsL := [(.long (rr69 (0 : Int32))), (.int (3 : Int32)), (.long q0), (.long q1), (.long q2)]) (rest := []) (lenOf pd_6 rfl) rfl (by show 2 * 0 + _ ≤ _; exact Nat.le_of_eq rfl) (hb hby at_204) (fun _ _ => ⟨rfl, e73, (by decide : 4 + 0 ≤ _), (by decide : 133 + 0 ≤ _)⟩)
            dsimp only [Pt.U, Pt.locs, Pt.cells, Pt.slots] at X76 l76 y76 z76 st76 hQ76
            subst l76 y76 z76
            obtain ⟨rfl, N76q, e76⟩ := hQ76
            have N76 := Fr.app N73 N76q
            refine OEnds.go (g' := (mkF m 207 #[.val (.long q0), .second, .val (.long q1), .second, .val (.long q2), .second, .val (.int p3), .val (.int (3 : Int32)), .val (.ref b47), .val (.ref r69), .val (.int (2 : Int32))] [(.int (f8 (rr69 (0 : Int32)) (3 : Int32) q0 q1 q2))])) st76 ?_
            refine OEnds.go (g' := (mkF m 212 #[.val (.long q0), .second, .val (.long q1), .second, .val (.long q2), .second, .val (.int p3), .val (.int (3 : Int32)), .val (.ref b47), .val (.ref r69), .val (.int (2 : Int32))] [])) (fun t k => XS.ifYes X76.here hx rfl (pc0 := 207) (pc' := 212) rfl (hb hby at_207) rfl ((if0 _ _).trans (feq (own_set3 _ _ _ _ (by have t := pm69.mem_iff.mp (show (rr69 (0 : Int32)) ∈ ([(rr69 (0 : Int32)), (rr69 (1 : Int32))] : List Int64) from by simp); simp only [List.mem_cons, List.not_mem_nil, or_false] at t; first | (rcases t with t | t | t <;> simp [t]; done) | (rcases t with t | t <;> simp [t]; done) | (simp [t]; done)) : ¬ ((f8 (rr69 (0 : Int32)) (3 : Int32) q0 q1 q2) = (0 : Int32)))).2) (by decide) (by decide) k) ?_
            refine OEnds.go (g' := (mkF m 214 #[.val (.long q0), .second, .val (.long q1), .second, .val (.long q2), .second, .val (.int p3), .val (.int (3 : Int32)), .val (.ref b47), .val (.ref r69), .val (.int (2 : Int32))] [(.ref r69)])) (fun t k => XS.aload X76.here hx rfl (hb hby at_212) rfl rfl k) ?_
            obtain ⟨cl77, Ar77, qa77, Sa77, Na77, Ha77, Ga77⟩ := @id _ VR69
            refine OEnds.go (g' := (mkF m 215 #[.val (.long q0), .second, .val (.long q1), .second, .val (.long q2), .second, .val (.int p3), .val (.int (3 : Int32)), .val (.ref b47), .val (.ref r69), .val (.int (2 : Int32))] [(.int (2 : Int32))])) (fun t k => X76.arraylength hx (by rw [e76]; exact Ar77.1) (State.isArrayOf_alike hZ.alike Ar77.2.1) (g := (mkF m 214 #[.val (.long q0), .second, .val (.long q1), .second, .val (.long q2), .second, .val (.int p3), .val (.int (3 : Int32)), .val (.ref b47), .val (.ref r69), .val (.int (2 : Int32))] [(.ref r69)])) rfl rfl (hb hby at_214) t (by rw [len_of Sa77 Na77]; exact k)) ?_
            refine OEnds.go (g' := (mkF m 216 #[.val (.long q0), .second, .val (.long q1), .second, .val (.long q2), .second, .val (.int p3), .val (.int (3 : Int32)), .val (.ref b47), .val (.ref r69), .val (.int (2 : Int32))] [(.int (1 : Int32)), (.int (2 : Int32))])) (fun t k => XS.iconst X76.here hx rfl (hb hby at_215) k) ?_
            refine OEnds.go (g' := (mkF m 219 #[.val (.long q0), .second, .val (.long q1), .second, .val (.long q2), .second, .val (.int p3), .val (.int (3 : Int32)), .val (.ref b47), .val (.ref r69), .val (.int (2 : Int32))] [])) (fun t k => XS.icmpNo X76.here hx rfl (hb hby at_216) rfl (tlt (by decide : ((1 : Int32) < (2 : Int32)))).2.2.2 k) ?_
            refine OEnds.go (g' := (mkF m 221 #[.val (.long q0), .second, .val (.long q1), .second, .val (.long q2), .second, .val (.int p3), .val (.int (3 : Int32)), .val (.ref b47), .val (.ref r69), .val (.int (2 : Int32))] [(.ref r69)])) (fun t k => XS.aload X76.here hx rfl (hb hby at_219) rfl rfl k) ?_
            refine OEnds.go (g' := (mkF m 222 #[.val (.long q0), .second, .val (.long q1), .second, .val (.long q2), .second, .val (.int p3), .val (.int (3 : Int32)), .val (.ref b47), .val (.ref r69), .val (.int (2 : Int32))] [(.int (1 : Int32)), (.ref r69)])) (fun t k => XS.iconst X76.here hx rfl (hb hby at_221) k) ?_
            obtain ⟨cl78, Ar78, qa78, Sa78, Na78, Ha78, Ga78⟩ := @id _ VR69
            have hin78 : ¬ ((1 : Int32) < 0 ∨ cl78.slots.size ≤ ((1 : Int32)).toNatClampNeg) := inb_of Sa78 ⟨by decide, by decide⟩
            have hat78 : cl78.slots[((1 : Int32)).toNatClampNeg]? = some (.long (rr69 (1 : Int32))) := Has.at Ha78 hin78 rfl
            refine OEnds.go (g' := (mkF m 223 #[.val (.long q0), .second, .val (.long q1), .second, .val (.long q2), .second, .val (.int p3), .val (.int (3 : Int32)), .val (.ref b47), .val (.ref r69), .val (.int (2 : Int32))] [(.long (rr69 (1 : Int32)))])) (X76.laload hx (j := (1 : Int32)) (v := (.long (rr69 (1 : Int32)))) (by rw [e76]; exact Ar78.1) (State.isArrayOf_alike hZ.alike Ar78.2.1) Ar78.2.2 hin78 hat78 (g := (mkF m 222 #[.val (.long q0), .second, .val (.long q1), .second, .val (.long q2), .second, .val (.int p3), .val (.int (3 : Int32)), .val (.ref b47), .val (.ref r69), .val (.int (2 : Int32))] [(.int (1 : Int32)), (.ref r69)])) rfl rfl (hb hby at_222)) ?_
            refine OEnds.go (g' := (mkF m 225 #[.val (.long q0), .second, .val (.long q1), .second, .val (.long q2), .second, .val (.int p3), .val (.int (3 : Int32)), .val (.ref b47), .val (.ref r69), .val (.int (2 : Int32))] [(.int (3 : Int32)), (.long (rr69 (1 : Int32)))])) (fun t k => XS.iload X76.here hx rfl (hb hby at_223) rfl k) ?_
            refine OEnds.go (g' := (mkF m 226 #[.val (.long q0), .second, .val (.long q1), .second, .val (.long q2), .second, .val (.int p3), .val (.int (3 : Int32)), .val (.ref b47), .val (.ref r69), .val (.int (2 : Int32))] [(.long q0), (.int (3 : Int32)), (.long (rr69 (1 : Int32)))])) (fun t k => XS.lloadN X76.here hx rfl (hb hby at_225) rfl k) ?_
            refine OEnds.go (g' := (mkF m 227 #[.val (.long q0), .second, .val (.long q1), .second, .val (.long q2), .second, .val (.int p3), .val (.int (3 : Int32)), .val (.ref b47), .val (.ref r69), .val (.int (2 : Int32))] [(.long q1), (.long q0), (.int (3 : Int32)), (.long (rr69 (1 : Int32)))])) (fun t k => XS.lloadN X76.here hx rfl (hb hby at_226) rfl k) ?_
            refine OEnds.go (g' := (mkF m 229 #[.val (.long q0), .second, .val (.long q1), .second, .val (.long q2), .second, .val (.int p3), .val (.int (3 : Int32)), .val (.ref b47), .val (.ref r69), .val (.int (2 : Int32))] [(.long q2), (.long q1), (.long q0), (.int (3 : Int32)), (.long (rr69 (1 : Int32)))])) (fun t k => XS.lload X76.here hx rfl (hb hby at_227) rfl k) ?_
            obtain ⟨_, _, ⟨T79, L79, k79, n79⟩, -, X79, ⟨Lc79, hQ79, l79, y79, z79⟩, st79⟩ := Jvm.LawKit.callS X76 hx (y := (⟨"com/example/slimheap/slimheap/hprof/IdMapIdsPinLaw", "inSet", "(JIJJJ)Z"⟩ : MethodName)) hown (mvT hZ (hw _ (List.mem_of_getElem? (i := 45) rfl))) (mvT hZ (hw _ (List.mem_of_getElem? (i := 46) rfl))) (mvT hZ (hw _ (List.mem_of_getElem? (i := 43) rfl))) (mvT hZ (hw _ (List.mem_of_getElem? (i := 47) rfl))) (by decide) (backOf (W := 0) (rm8 l Z a0 hw [] (rr69 (1 : Int32)) (3 : Int32) q0 q1 q2 T69.heap n0 (Nat.le_trans (Nat.le_trans (Nat.le_trans (Nat.le_trans (Nat.le_trans (Nat.le_trans Z0 E47.1) K48q.1) K50q.1) K52q.1) K54q.1) K69q.1)) hZ (hw _ (List.mem_of_getElem? (i := 47) rfl)) (hw _ (List.mem_of_getElem? (i := 43) rfl)) (by decide) (by decide)) (g := (mkF m 229 #[.val (.long q0), .second, .val (.long q1), .second, .val (.long q2), .second, .val (.int p3), .val (.int (3 : Int32)), .val (.ref b47), .val (.ref r69), .val (.int (2 : Int32))] [(.long q2), (.long q1), (.long q0), (.int (3 : Int32)), (.long (rr69 (1 : Int32)))])) rfl (by rw [hml]; rfl) (argsL := [(.long (rr69 (1 : Int32))), (.int (3 : Int32)), (.long q0), (.long q1), (.long q2)]) (rest := []) (lenOf pd_6 rfl) rfl (by show 2 * 0 + _ ≤ _; exact Nat.le_of_eq rfl) (hb hby at_229) (fun _ _ => ⟨rfl, e76, (by decide : 4 + 0 ≤ _), (by decide : 133 + 0 ≤ _)⟩)
            dsimp only [Pt.U, Pt.locs, Pt.cells, Pt.slots] at X79 l79 y79 z79 st79 hQ79
            subst l79 y79 z79
            obtain ⟨rfl, N79q, e79⟩ := hQ79
            have N79 := Fr.app N76 N79q
            refine OEnds.go (g' := (mkF m 232 #[.val (.long q0), .second, .val (.long q1), .second, .val (.long q2), .second, .val (.int p3), .val (.int (3 : Int32)), .val (.ref b47), .val (.ref r69), .val (.int (2 : Int32))] [(.int (f8 (rr69 (1 : Int32)) (3 : Int32) q0 q1 q2))])) st79 ?_
            refine OEnds.go (g' := (mkF m 237 #[.val (.long q0), .second, .val (.long q1), .second, .val (.long q2), .second, .val (.int p3), .val (.int (3 : Int32)), .val (.ref b47), .val (.ref r69), .val (.int (2 : Int32))] [])) (fun t k => XS.ifYes X79.here hx rfl (pc0 := 232) (pc' := 237) rfl (hb hby at_232) rfl ((if0 _ _).trans (feq (own_set3 _ _ _ _ (by have t := pm69.mem_iff.mp (show (rr69 (1 : Int32)) ∈ ([(rr69 (0 : Int32)), (rr69 (1 : Int32))] : List Int64) from by simp); simp only [List.mem_cons, List.not_mem_nil, or_false] at t; first | (rcases t with t | t | t <;> simp [t]; done) | (rcases t with t | t <;> simp [t]; done) | (simp [t]; done)) : ¬ ((f8 (rr69 (1 : Int32)) (3 : Int32) q0 q1 q2) = (0 : Int32)))).2) (by decide) (by decide) k) ?_
            refine OEnds.go (g' := (mkF m 239 #[.val (.long q0), .second, .val (.long q1), .second, .val (.long q2), .second, .val (.int p3), .val (.int (3 : Int32)), .val (.ref b47), .val (.ref r69), .val (.int (2 : Int32))] [(.ref r69)])) (fun t k => XS.aload X79.here hx rfl (hb hby at_237) rfl rfl k) ?_
            obtain ⟨cl80, Ar80, qa80, Sa80, Na80, Ha80, Ga80⟩ := @id _ VR69
            refine OEnds.go (g' := (mkF m 240 #[.val (.long q0), .second, .val (.long q1), .second, .val (.long q2), .second, .val (.int p3), .val (.int (3 : Int32)), .val (.ref b47), .val (.ref r69), .val (.int (2 : Int32))] [(.int (2 : Int32))])) (fun t k => X79.arraylength hx (by rw [e79]; exact Ar80.1) (State.isArrayOf_alike hZ.alike Ar80.2.1) (g := (mkF m 239 #[.val (.long q0), .second, .val (.long q1), .second, .val (.long q2), .second, .val (.int p3), .val (.int (3 : Int32)), .val (.ref b47), .val (.ref r69), .val (.int (2 : Int32))] [(.ref r69)])) rfl rfl (hb hby at_239) t (by rw [len_of Sa80 Na80]; exact k)) ?_
            refine OEnds.go (g' := (mkF m 241 #[.val (.long q0), .second, .val (.long q1), .second, .val (.long q2), .second, .val (.int p3), .val (.int (3 : Int32)), .val (.ref b47), .val (.ref r69), .val (.int (2 : Int32))] [(.int (2 : Int32)), (.int (2 : Int32))])) (fun t k => XS.iconst X79.here hx rfl (hb hby at_240) k) ?_
            refine OEnds.go (g' := (mkF m 262 #[.val (.long q0), .second, .val (.long q1), .second, .val (.long q2), .second, .val (.int p3), .val (.int (3 : Int32)), .val (.ref b47), .val (.ref r69), .val (.int (2 : Int32))] [])) (fun t k => XS.icmpYes X79.here hx rfl (pc0 := 241) (pc' := 262) rfl (hb hby at_241) rfl (flt (by decide : ¬ ((2 : Int32) < (2 : Int32)))).2.2.2 (by decide) (by decide) k) ?_
            refine OEnds.go (g' := (mkF m 263 #[.val (.long q0), .second, .val (.long q1), .second, .val (.long q2), .second, .val (.int p3), .val (.int (3 : Int32)), .val (.ref b47), .val (.ref r69), .val (.int (2 : Int32))] [(.int (1 : Int32))])) (fun t k => XS.iconst X79.here hx rfl (hb hby at_262) k) ?_
            exact OEnds.outN X79 Bd.notSynchronized hx (t := .boolean) Bd.returns (by simp) (hb hby at_263) ⟨rfl, N79⟩ (by decide) (by decide)
          · -- q0
            refine OEnds.go (g' := (mkF m 66 #[.val (.long q0), .second, .val (.long q1), .second, .val (.long q2), .second, .val (.int p3), .val (.int (3 : Int32)), .val (.ref b47), .unset, .unset] [(.ref b47)])) (fun t k => XS.aload X54.here hx rfl (hb hby at_64) rfl rfl k) ?_
            obtain ⟨cq81, kq81, q81a, q81b, q81c⟩ := isOf hZ rfl E54q
            obtain ⟨_, _, ⟨T81, L81, k81, n81⟩, -, X81, ⟨Lc81, hQ81, l81, y81, z81⟩, st81⟩ := X54.virtualBack hx (y := (⟨"com/example/slimheap/slimheap/hprof/IdMap", "ids", "()[J"⟩ : MethodName)) (z := (⟨"com/example/slimheap/slimheap/hprof/IdMap", "ids", "()[J"⟩ : MethodName)) hown (mvT hZ (hw _ (List.mem_of_getElem? (i := 36) rfl))) (mvT hZ (hw _ (List.mem_of_getElem? (i := 37) rfl))) (notFace_of_selects (args := #[]) (mvT hZ (hw _ (List.mem_of_getElem? (i := 39) rfl)))) (mvT hZ (hw _ (List.mem_of_getElem? (i := 39) rfl))) (mvT hZ (hw _ (List.mem_of_getElem? (i := 38) rfl))) (by decide) (backOf (W := 0) (rmD2 l Z a0 hw [] b47 ia48 va48 ki48 kv48 (own_u (own_u (own_u (fun _ => .null) j50 (.ref y_1)) j52 (.ref y_2)) j54 (.ref y_3)) (own_u (own_u (fun _ => (0 : Int64)) j50 q0) j52 q1) T54.heap n0 (Nat.le_trans (Nat.le_trans (Nat.le_trans (Nat.le_trans (Nat.le_trans Z0 E47.1) K48q.1) K50q.1) K52q.1) K54q.1) Fi54q Fv54q AI54q AV54q Fs54q (own_perm I54).length_eq) hZ (hw _ (List.mem_of_getElem? (i := 40) rfl)) (hw _ (List.mem_of_getElem? (i := 2) rfl)) (by decide) (by decide)) q81a q81c (g := (mkF m 66 #[.val (.long q0), .second, .val (.long q1), .second, .val (.long q2), .second, .val (.int p3), .val (.int (3 : Int32)), .val (.ref b47), .unset, .unset] [(.ref b47)])) rfl (by rw [hml]; rfl) (Steps.refl _) (argsL := []) (rest := []) (lenOf pd_2 rfl) rfl (by show 2 * 0 + _ ≤ _; exact Nat.le_of_eq rfl) (hb hby at_66) (fun _ _ => ⟨rfl, rfl, (by decide : 3 + 1 ≤ _), (by decide : 131 + 2 ≤ _)⟩)
            dsimp only [Pt.U, Pt.locs, Pt.cells, Pt.slots] at X81 l81 y81 z81 st81 hQ81
            subst l81 y81 z81
            obtain ⟨r81, kr81, rr81, rfl, N81q, K81q, AR81, hP81, g_r81⟩ := hQ81
            have N81 := Fr.app N54 N81q
            have VR81 : Arv Z T81.heap r81 kr81 .long (2 : Int32) [(.long (rr81 (0 : Int32))), (.long (rr81 (1 : Int32)))] (.long (0 : Int64)) := own_Av.arv (n := 2) AR81 (by decide)
            have pm81 : ([(rr81 (0 : Int32)), (rr81 (1 : Int32))] : List Int64).Perm [q1, q0] := by have t := own_perm I54; have u := own_lits hP81 (own_perm I54).length_eq; rw [u] at t; exact t
            refine OEnds.tr (g' := (mkF m 69 #[.val (.long q0), .second, .val (.long q1), .second, .val (.long q2), .second, .val (.int p3), .val (.int (3 : Int32)), .val (.ref b47), .unset, .unset] [(.ref r81)])) st81 ?_
            refine OEnds.go (g' := (mkF m 71 #[.val (.long q0), .second, .val (.long q1), .second, .val (.long q2), .second, .val (.int p3), .val (.int (3 : Int32)), .val (.ref b47), .val (.ref r81), .unset] [])) (fun t k => XS.astore X81.here hx rfl (hb hby at_69) rfl rfl (l' := #[.val (.long q0), .second, .val (.long q1), .second, .val (.long q2), .second, .val (.int p3), .val (.int (3 : Int32)), .val (.ref b47), .val (.ref r81), .unset]) rfl k) ?_
            refine OEnds.go (g' := (mkF m 72 #[.val (.long q0), .second, .val (.long q1), .second, .val (.long q2), .second, .val (.int p3), .val (.int (3 : Int32)), .val (.ref b47), .val (.ref r81), .unset] [(.int (0 : Int32))])) (fun t k => XS.iconst X81.here hx rfl (hb hby at_71) k) ?_
            refine OEnds.go (g' := (mkF m 74 #[.val (.long q0), .second, .val (.long q1), .second, .val (.long q2), .second, .val (.int p3), .val (.int (3 : Int32)), .val (.ref b47), .val (.ref r81), .val (.int (0 : Int32))] [])) (fun t k => XS.istore X81.here hx rfl (hb hby at_72) rfl (l' := #[.val (.long q0), .second, .val (.long q1), .second, .val (.long q2), .second, .val (.int p3), .val (.int (3 : Int32)), .val (.ref b47), .val (.ref r81), .val (.int (0 : Int32))]) rfl k) ?_
            refine OEnds.go (g' := (mkF m 76 #[.val (.long q0), .second, .val (.long q1), .second, .val (.long q2), .second, .val (.int p3), .val (.int (3 : Int32)), .val (.ref b47), .val (.ref r81), .val (.int (0 : Int32))] [(.int (3 : Int32))])) (fun t k => XS.iload X81.here hx rfl (hb hby at_74) rfl k) ?_
            refine OEnds.go (g' := (mkF m 77 #[.val (.long q0), .second, .val (.long q1), .second, .val (.long q2), .second, .val (.int p3), .val (.int (3 : Int32)), .val (.ref b47), .val (.ref r81), .val (.int (0 : Int32))] [(.int (1 : Int32)), (.int (3 : Int32))])) (fun t k => XS.iconst X81.here hx rfl (hb hby at_76) k) ?_
            refine OEnds.go (g' := (mkF m 80 #[.val (.long q0), .second, .val (.long q1), .second, .val (.long q2), .second, .val (.int p3), .val (.int (3 : Int32)), .val (.ref b47), .val (.ref r81), .val (.int (0 : Int32))] [])) (fun t k => XS.icmpNo X81.here hx rfl (hb hby at_77) rfl (flt (by decide : ¬ ((3 : Int32) < (1 : Int32)))).1 k) ?_
            refine OEnds.go (g' := (mkF m 83 #[.val (.long q0), .second, .val (.long q1), .second, .val (.long q2), .second, .val (.int p3), .val (.int (3 : Int32)), .val (.ref b47), .val (.ref r81), .val (.int ((0 : Int32) + (1 : Int32)))] [])) (fun t k => XS.iinc X81.here hx rfl (hb hby at_80) rfl (l' := #[.val (.long q0), .second, .val (.long q1), .second, .val (.long q2), .second, .val (.int p3), .val (.int (3 : Int32)), .val (.ref b47), .val (.ref r81), .val (.int ((0 : Int32) + (1 : Int32)))]) rfl k) ?_
            rw [show ((0 : Int32) + (1 : Int32)) = (1 : Int32) from by decide]
            refine OEnds.go (g' := (mkF m 85 #[.val (.long q0), .second, .val (.long q1), .second, .val (.long q2), .second, .val (.int p3), .val (.int (3 : Int32)), .val (.ref b47), .val (.ref r81), .val (.int (1 : Int32))] [(.int (3 : Int32))])) (fun t k => XS.iload X81.here hx rfl (hb hby at_83) rfl k) ?_
            refine OEnds.go (g' := (mkF m 86 #[.val (.long q0), .second, .val (.long q1), .second, .val (.long q2), .second, .val (.int p3), .val (.int (3 : Int32)), .val (.ref b47), .val (.ref r81), .val (.int (1 : Int32))] [(.int (2 : Int32)), (.int (3 : Int32))])) (fun t k => XS.iconst X81.here hx rfl (hb hby at_85) k) ?_
            refine OEnds.go (g' := (mkF m 89 #[.val (.long q0), .second, .val (.long q1), .second, .val (.long q2), .second, .val (.int p3), .val (.int (3 : Int32)), .val (.ref b47), .val (.ref r81), .val (.int (1 : Int32))] [])) (fun t k => XS.icmpNo X81.here hx rfl (hb hby at_86) rfl (flt (by decide : ¬ ((3 : Int32) < (2 : Int32)))).1 k) ?_
            refine OEnds.go (g' := (mkF m 90 #[.val (.long q0), .second, .val (.long q1), .second, .val (.long q2), .second, .val (.int p3), .val (.int (3 : Int32)), .val (.ref b47), .val (.ref r81), .val (.int (1 : Int32))] [(.long q1)])) (fun t k => XS.lloadN X81.here hx rfl (hb hby at_89) rfl k) ?_
            refine OEnds.go (g' := (mkF m 91 #[.val (.long q0), .second, .val (.long q1), .second, .val (.long q2), .second, .val (.int p3), .val (.int (3 : Int32)), .val (.ref b47), .val (.ref r81), .val (.int (1 : Int32))] [(.long q0), (.long q1)])) (fun t k => XS.lloadN X81.here hx rfl (hb hby at_90) rfl k) ?_
            refine OEnds.go (g' := (mkF m 92 #[.val (.long q0), .second, .val (.long q1), .second, .val (.long q2), .second, .val (.int p3), .val (.int (3 : Int32)), .val (.ref b47), .val (.ref r81), .val (.int (1 : Int32))] [(.int (lcmpW q1 q0))])) (fun t k => XS.lcmp X81.here hx rfl (hb hby at_91) rfl k) ?_
            refine OEnds.go (g' := (mkF m 95 #[.val (.long q0), .second, .val (.long q1), .second, .val (.long q2), .second, .val (.int p3), .val (.int (3 : Int32)), .val (.ref b47), .val (.ref r81), .val (.int (1 : Int32))] [])) (fun t k => XS.ifNo X81.here hx rfl (hb hby at_92) rfl ((if0 _ _).trans (feq (fun q => (fun q : q1 = q0 => nx52 (j50, q0) (by simp) q.symm) ((lw_eq _ _).mp q))).1) k) ?_
            refine OEnds.go (g' := (mkF m 98 #[.val (.long q0), .second, .val (.long q1), .second, .val (.long q2), .second, .val (.int p3), .val (.int (3 : Int32)), .val (.ref b47), .val (.ref r81), .val (.int ((1 : Int32) + (1 : Int32)))] [])) (fun t k => XS.iinc X81.here hx rfl (hb hby at_95) rfl (l' := #[.val (.long q0), .second, .val (.long q1), .second, .val (.long q2), .second, .val (.int p3), .val (.int (3 : Int32)), .val (.ref b47), .val (.ref r81), .val (.int ((1 : Int32) + (1 : Int32)))]) rfl k) ?_
            rw [show ((1 : Int32) + (1 : Int32)) = (2 : Int32) from by decide]
            refine OEnds.go (g' := (mkF m 100 #[.val (.long q0), .second, .val (.long q1), .second, .val (.long q2), .second, .val (.int p3), .val (.int (3 : Int32)), .val (.ref b47), .val (.ref r81), .val (.int (2 : Int32))] [(.int (3 : Int32))])) (fun t k => XS.iload X81.here hx rfl (hb hby at_98) rfl k) ?_
            refine OEnds.go (g' := (mkF m 101 #[.val (.long q0), .second, .val (.long q1), .second, .val (.long q2), .second, .val (.int p3), .val (.int (3 : Int32)), .val (.ref b47), .val (.ref r81), .val (.int (2 : Int32))] [(.int (3 : Int32)), (.int (3 : Int32))])) (fun t k => XS.iconst X81.here hx rfl (hb hby at_100) k) ?_
            refine OEnds.go (g' := (mkF m 104 #[.val (.long q0), .second, .val (.long q1), .second, .val (.long q2), .second, .val (.int p3), .val (.int (3 : Int32)), .val (.ref b47), .val (.ref r81), .val (.int (2 : Int32))] [])) (fun t k => XS.icmpNo X81.here hx rfl (hb hby at_101) rfl (flt (by decide : ¬ ((3 : Int32) < (3 : Int32)))).1 k) ?_
            refine OEnds.go (g' := (mkF m 106 #[.val (.long q0), .second, .val (.long q1), .second, .val (.long q2), .second, .val (.int p3), .val (.int (3 : Int32)), .val (.ref b47), .val (.ref r81), .val (.int (2 : Int32))] [(.long q2)])) (fun t k => XS.lload X81.here hx rfl (hb hby at_104) rfl k) ?_
            refine OEnds.go (g' := (mkF m 107 #[.val (.long q0), .second, .val (.long q1), .second, .val (.long q2), .second, .val (.int p3), .val (.int (3 : Int32)), .val (.ref b47), .val (.ref r81), .val (.int (2 : Int32))] [(.long q0), (.long q2)])) (fun t k => XS.lloadN X81.here hx rfl (hb hby at_106) rfl k) ?_
            refine OEnds.go (g' := (mkF m 108 #[.val (.long q0), .second, .val (.long q1), .second, .val (.long q2), .second, .val (.int p3), .val (.int (3 : Int32)), .val (.ref b47), .val (.ref r81), .val (.int (2 : Int32))] [(.int (lcmpW q2 q0))])) (fun t k => XS.lcmp X81.here hx rfl (hb hby at_107) rfl k) ?_
            refine OEnds.go (g' := (mkF m 121 #[.val (.long q0), .second, .val (.long q1), .second, .val (.long q2), .second, .val (.int p3), .val (.int (3 : Int32)), .val (.ref b47), .val (.ref r81), .val (.int (2 : Int32))] [])) (fun t k => XS.ifYes X81.here hx rfl (pc0 := 108) (pc' := 121) rfl (hb hby at_108) rfl ((if0 _ _).trans (teq ((lw_eq _ _).mpr t54)).1) (by decide) (by decide) k) ?_
            refine OEnds.go (g' := (mkF m 123 #[.val (.long q0), .second, .val (.long q1), .second, .val (.long q2), .second, .val (.int p3), .val (.int (3 : Int32)), .val (.ref b47), .val (.ref r81), .val (.int (2 : Int32))] [(.ref r81)])) (fun t k => XS.aload X81.here hx rfl (hb hby at_121) rfl rfl k) ?_
            refine OEnds.go (g' := (mkF m 126 #[.val (.long q0), .second, .val (.long q1), .second, .val (.long q2), .second, .val (.int p3), .val (.int (3 : Int32)), .val (.ref b47), .val (.ref r81), .val (.int (2 : Int32))] [])) (fun t k => XS.ifnullNo X81.here hx rfl (hb hby at_123) rfl k) ?_
            refine OEnds.go (g' := (mkF m 128 #[.val (.long q0), .second, .val (.long q1), .second, .val (.long q2), .second, .val (.int p3), .val (.int (3 : Int32)), .val (.ref b47), .val (.ref r81), .val (.int (2 : Int32))] [(.ref r81)])) (fun t k => XS.aload X81.here hx rfl (hb hby at_126) rfl rfl k) ?_
            obtain ⟨cl82, Ar82, qa82, Sa82, Na82, Ha82, Ga82⟩ := @id _ VR81
            refine OEnds.go (g' := (mkF m 129 #[.val (.long q0), .second, .val (.long q1), .second, .val (.long q2), .second, .val (.int p3), .val (.int (3 : Int32)), .val (.ref b47), .val (.ref r81), .val (.int (2 : Int32))] [(.int (2 : Int32))])) (fun t k => X81.arraylength hx Ar82.1 (State.isArrayOf_alike hZ.alike Ar82.2.1) (g := (mkF m 128 #[.val (.long q0), .second, .val (.long q1), .second, .val (.long q2), .second, .val (.int p3), .val (.int (3 : Int32)), .val (.ref b47), .val (.ref r81), .val (.int (2 : Int32))] [(.ref r81)])) rfl rfl (hb hby at_128) t (by rw [len_of Sa82 Na82]; exact k)) ?_
            refine OEnds.go (g' := (mkF m 131 #[.val (.long q0), .second, .val (.long q1), .second, .val (.long q2), .second, .val (.int p3), .val (.int (3 : Int32)), .val (.ref b47), .val (.ref r81), .val (.int (2 : Int32))] [(.int (2 : Int32)), (.int (2 : Int32))])) (fun t k => XS.iload X81.here hx rfl (hb hby at_129) rfl k) ?_
            refine OEnds.go (g' := (mkF m 136 #[.val (.long q0), .second, .val (.long q1), .second, .val (.long q2), .second, .val (.int p3), .val (.int (3 : Int32)), .val (.ref b47), .val (.ref r81), .val (.int (2 : Int32))] [])) (fun t k => XS.icmpYes X81.here hx rfl (pc0 := 131) (pc' := 136) rfl (hb hby at_131) rfl (teq (by decide : ((2 : Int32) = (2 : Int32)))).1 (by decide) (by decide) k) ?_
            refine OEnds.go (g' := (mkF m 138 #[.val (.long q0), .second, .val (.long q1), .second, .val (.long q2), .second, .val (.int p3), .val (.int (3 : Int32)), .val (.ref b47), .val (.ref r81), .val (.int (2 : Int32))] [(.int (3 : Int32))])) (fun t k => XS.iload X81.here hx rfl (hb hby at_136) rfl k) ?_
            refine OEnds.go (g' := (mkF m 139 #[.val (.long q0), .second, .val (.long q1), .second, .val (.long q2), .second, .val (.int p3), .val (.int (3 : Int32)), .val (.ref b47), .val (.ref r81), .val (.int (2 : Int32))] [(.int (1 : Int32)), (.int (3 : Int32))])) (fun t k => XS.iconst X81.here hx rfl (hb hby at_138) k) ?_
            refine OEnds.go (g' := (mkF m 142 #[.val (.long q0), .second, .val (.long q1), .second, .val (.long q2), .second, .val (.int p3), .val (.int (3 : Int32)), .val (.ref b47), .val (.ref r81), .val (.int (2 : Int32))] [])) (fun t k => XS.icmpNo X81.here hx rfl (hb hby at_139) rfl (flt (by decide : ¬ ((3 : Int32) < (1 : Int32)))).1 k) ?_
            refine OEnds.go (g' := (mkF m 144 #[.val (.long q0), .second, .val (.long q1), .second, .val (.long q2), .second, .val (.int p3), .val (.int (3 : Int32)), .val (.ref b47), .val (.ref r81), .val (.int (2 : Int32))] [(.ref r81)])) (fun t k => XS.aload X81.here hx rfl (hb hby at_142) rfl rfl k) ?_
            refine OEnds.go (g' := (mkF m 145 #[.val (.long q0), .second, .val (.long q1), .second, .val (.long q2), .second, .val (.int p3), .val (.int (3 : Int32)), .val (.ref b47), .val (.ref r81), .val (.int (2 : Int32))] [(.long q0), (.ref r81)])) (fun t k => XS.lloadN X81.here hx rfl (hb hby at_144) rfl k) ?_
            obtain ⟨_, _, ⟨T83, L83, k83, n83⟩, -, X83, ⟨Lc83, hQ83, l83, y83, z83⟩, st83⟩ := Jvm.LawKit.callS X81 hx (y := (⟨"com/example/slimheap/slimheap/hprof/IdMapIdsPinLaw", "has", "([JJ)Z"⟩ : MethodName)) hown (mvT hZ (hw _ (List.mem_of_getElem? (i := 41) rfl))) (mvT hZ (hw _ (List.mem_of_getElem? (i := 42) rfl))) (mvT hZ (hw _ (List.mem_of_getElem? (i := 43) rfl))) (mvT hZ (hw _ (List.mem_of_getElem? (i := 44) rfl))) (by decide) (backOf (W := 0) (rmH2 l Z a0 hw [] r81 q0 kr81 (rr81 (0 : Int32)) (rr81 (1 : Int32)) T81.heap n0 (Nat.le_trans (Nat.le_trans (Nat.le_trans (Nat.le_trans (Nat.le_trans (Nat.le_trans Z0 E47.1) K48q.1) K50q.1) K52q.1) K54q.1) K81q.1) VR81) hZ (hw _ (List.mem_of_getElem? (i := 44) rfl)) (hw _ (List.mem_of_getElem? (i := 43) rfl)) (by decide) (by decide)) (g := (mkF m 145 #[.val (.long q0), .second, .val (.long q1), .second, .val (.long q2), .second, .val (.int p3), .val (.int (3 : Int32)), .val (.ref b47), .val (.ref r81), .val (.int (2 : Int32))] [(.long q0), (.ref r81)])) rfl (by rw [hml]; rfl) (argsL := [(.ref r81), (.long q0)]) (rest := []) (lenOf pd_5 rfl) rfl (by show 2 * 0 + _ ≤ _; exact Nat.le_of_eq rfl) (hb hby at_145) (fun _ _ => ⟨rfl, rfl, (by decide : 4 + 0 ≤ _), (by decide : 133 + 0 ≤ _)⟩)
            dsimp only [Pt.U, Pt.locs, Pt.cells, Pt.slots] at X83 l83 y83 z83 st83 hQ83
            subst l83 y83 z83
            obtain ⟨rfl, N83q, e83⟩ := hQ83
            have N83 := Fr.app N81 N83q
            refine OEnds.go (g' := (mkF m 148 #[.val (.long q0), .second, .val (.long q1), .second, .val (.long q2), .second, .val (.int p3), .val (.int (3 : Int32)), .val (.ref b47), .val (.ref r81), .val (.int (2 : Int32))] [(.int (fH2 q0 (rr81 (0 : Int32)) (rr81 (1 : Int32))))])) st83 ?_
            refine OEnds.go (g' := (mkF m 153 #[.val (.long q0), .second, .val (.long q1), .second, .val (.long q2), .second, .val (.int p3), .val (.int (3 : Int32)), .val (.ref b47), .val (.ref r81), .val (.int (2 : Int32))] [])) (fun t k => XS.ifYes X83.here hx rfl (pc0 := 148) (pc' := 153) rfl (hb hby at_148) rfl ((if0 _ _).trans (feq (own_has2 _ _ _ (pm81.mem_iff.mpr (by simp [t54])) : ¬ ((fH2 q0 (rr81 (0 : Int32)) (rr81 (1 : Int32))) = (0 : Int32)))).2) (by decide) (by decide) k) ?_
            refine OEnds.go (g' := (mkF m 155 #[.val (.long q0), .second, .val (.long q1), .second, .val (.long q2), .second, .val (.int p3), .val (.int (3 : Int32)), .val (.ref b47), .val (.ref r81), .val (.int (2 : Int32))] [(.int (3 : Int32))])) (fun t k => XS.iload X83.here hx rfl (hb hby at_153) rfl k) ?_
            refine OEnds.go (g' := (mkF m 156 #[.val (.long q0), .second, .val (.long q1), .second, .val (.long q2), .second, .val (.int p3), .val (.int (3 : Int32)), .val (.ref b47), .val (.ref r81), .val (.int (2 : Int32))] [(.int (2 : Int32)), (.int (3 : Int32))])) (fun t k => XS.iconst X83.here hx rfl (hb hby at_155) k) ?_
            refine OEnds.go (g' := (mkF m 159 #[.val (.long q0), .second, .val (.long q1), .second, .val (.long q2), .second, .val (.int p3), .val (.int (3 : Int32)), .val (.ref b47), .val (.ref r81), .val (.int (2 : Int32))] [])) (fun t k => XS.icmpNo X83.here hx rfl (hb hby at_156) rfl (flt (by decide : ¬ ((3 : Int32) < (2 : Int32)))).1 k) ?_
            refine OEnds.go (g' := (mkF m 161 #[.val (.long q0), .second, .val (.long q1), .second, .val (.long q2), .second, .val (.int p3), .val (.int (3 : Int32)), .val (.ref b47), .val (.ref r81), .val (.int (2 : Int32))] [(.ref r81)])) (fun t k => XS.aload X83.here hx rfl (hb hby at_159) rfl rfl k) ?_
            refine OEnds.go (g' := (mkF m 162 #[.val (.long q0), .second, .val (.long q1), .second, .val (.long q2), .second, .val (.int p3), .val (.int (3 : Int32)), .val (.ref b47), .val (.ref r81), .val (.int (2 : Int32))] [(.long q1), (.ref r81)])) (fun t k => XS.lloadN X83.here hx rfl (hb hby at_161) rfl k) ?_
            obtain ⟨_, _, ⟨T84, L84, k84, n84⟩, -, X84, ⟨Lc84, hQ84, l84, y84, z84⟩, st84⟩ := Jvm.LawKit.callS X83 hx (y := (⟨"com/example/slimheap/slimheap/hprof/IdMapIdsPinLaw", "has", "([JJ)Z"⟩ : MethodName)) hown (mvT hZ (hw _ (List.mem_of_getElem? (i := 41) rfl))) (mvT hZ (hw _ (List.mem_of_getElem? (i := 42) rfl))) (mvT hZ (hw _ (List.mem_of_getElem? (i := 43) rfl))) (mvT hZ (hw _ (List.mem_of_getElem? (i := 44) rfl))) (by decide) (backOf (W := 0) (rmH2 l Z a0 hw [] r81 q1 kr81 (rr81 (0 : Int32)) (rr81 (1 : Int32)) T81.heap n0 (Nat.le_trans (Nat.le_trans (Nat.le_trans (Nat.le_trans (Nat.le_trans (Nat.le_trans Z0 E47.1) K48q.1) K50q.1) K52q.1) K54q.1) K81q.1) VR81) hZ (hw _ (List.mem_of_getElem? (i := 44) rfl)) (hw _ (List.mem_of_getElem? (i := 43) rfl)) (by decide) (by decide)) (g := (mkF m 162 #[.val (.long q0), .second, .val (.long q1), .second, .val (.long q2), .second, .val (.int p3), .val (.int (3 : Int32)), .val (.ref b47), .val (.ref r81), .val (.int (2 : Int32))] [(.long q1), (.ref r81)])) rfl (by rw [hml]; rfl) (argsL := [(.ref r81), (.long q1)]) (rest := []) (lenOf pd_5 rfl) rfl (by show 2 * 0 + _ ≤ _; exact Nat.le_of_eq rfl) (hb hby at_162) (fun _ _ => ⟨rfl, e83, (by decide : 4 + 0 ≤ _), (by decide : 133 + 0 ≤ _)⟩)
            dsimp only [Pt.U, Pt.locs, Pt.cells, Pt.slots] at X84 l84 y84 z84 st84 hQ84
            subst l84 y84 z84
            obtain ⟨rfl, N84q, e84⟩ := hQ84
            have N84 := Fr.app N83 N84q
            refine OEnds.go (g' := (mkF m 165 #[.val (.long q0), .second, .val (.long q1), .second, .val (.long q2), .second, .val (.int p3), .val (.int (3 : Int32)), .val (.ref b47), .val (.ref r81), .val (.int (2 : Int32))] [(.int (fH2 q1 (rr81 (0 : Int32)) (rr81 (1 : Int32))))])) st84 ?_
            refine OEnds.go (g' := (mkF m 170 #[.val (.long q0), .second, .val (.long q1), .second, .val (.long q2), .second, .val (.int p3), .val (.int (3 : Int32)), .val (.ref b47), .val (.ref r81), .val (.int (2 : Int32))] [])) (fun t k => XS.ifYes X84.here hx rfl (pc0 := 165) (pc' := 170) rfl (hb hby at_165) rfl ((if0 _ _).trans (feq (own_has2 _ _ _ (pm81.mem_iff.mpr (by simp [t54])) : ¬ ((fH2 q1 (rr81 (0 : Int32)) (rr81 (1 : Int32))) = (0 : Int32)))).2) (by decide) (by decide) k) ?_
            refine OEnds.go (g' := (mkF m 172 #[.val (.long q0), .second, .val (.long q1), .second, .val (.long q2), .second, .val (.int p3), .val (.int (3 : Int32)), .val (.ref b47), .val (.ref r81), .val (.int (2 : Int32))] [(.int (3 : Int32))])) (fun t k => XS.iload X84.here hx rfl (hb hby at_170) rfl k) ?_
            refine OEnds.go (g' := (mkF m 173 #[.val (.long q0), .second, .val (.long q1), .second, .val (.long q2), .second, .val (.int p3), .val (.int (3 : Int32)), .val (.ref b47), .val (.ref r81), .val (.int (2 : Int32))] [(.int (3 : Int32)), (.int (3 : Int32))])) (fun t k => XS.iconst X84.here hx rfl (hb hby at_172) k) ?_
            refine OEnds.go (g' := (mkF m 176 #[.val (.long q0), .second, .val (.long q1), .second, .val (.long q2), .second, .val (.int p3), .val (.int (3 : Int32)), .val (.ref b47), .val (.ref r81), .val (.int (2 : Int32))] [])) (fun t k => XS.icmpNo X84.here hx rfl (hb hby at_173) rfl (flt (by decide : ¬ ((3 : Int32) < (3 : Int32)))).1 k) ?_
            refine OEnds.go (g' := (mkF m 178 #[.val (.long q0), .second, .val (.long q1), .second, .val (.long q2), .second, .val (.int p3), .val (.int (3 : Int32)), .val (.ref b47), .val (.ref r81), .val (.int (2 : Int32))] [(.ref r81)])) (fun t k => XS.aload X84.here hx rfl (hb hby at_176) rfl rfl k) ?_
            refine OEnds.go (g' := (mkF m 180 #[.val (.long q0), .second, .val (.long q1), .second, .val (.long q2), .second, .val (.int p3), .val (.int (3 : Int32)), .val (.ref b47), .val (.ref r81), .val (.int (2 : Int32))] [(.long q2), (.ref r81)])) (fun t k => XS.lload X84.here hx rfl (hb hby at_178) rfl k) ?_
            obtain ⟨_, _, ⟨T85, L85, k85, n85⟩, -, X85, ⟨Lc85, hQ85, l85, y85, z85⟩, st85⟩ := Jvm.LawKit.callS X84 hx (y := (⟨"com/example/slimheap/slimheap/hprof/IdMapIdsPinLaw", "has", "([JJ)Z"⟩ : MethodName)) hown (mvT hZ (hw _ (List.mem_of_getElem? (i := 41) rfl))) (mvT hZ (hw _ (List.mem_of_getElem? (i := 42) rfl))) (mvT hZ (hw _ (List.mem_of_getElem? (i := 43) rfl))) (mvT hZ (hw _ (List.mem_of_getElem? (i := 44) rfl))) (by decide) (backOf (W := 0) (rmH2 l Z a0 hw [] r81 q2 kr81 (rr81 (0 : Int32)) (rr81 (1 : Int32)) T81.heap n0 (Nat.le_trans (Nat.le_trans (Nat.le_trans (Nat.le_trans (Nat.le_trans (Nat.le_trans Z0 E47.1) K48q.1) K50q.1) K52q.1) K54q.1) K81q.1) VR81) hZ (hw _ (List.mem_of_getElem? (i := 44) rfl)) (hw _ (List.mem_of_getElem? (i := 43) rfl)) (by decide) (by decide)) (g := (mkF m 180 #[.val (.long q0), .second, .val (.long q1), .second, .val (.long q2), .second, .val (.int p3), .val (.int (3 : Int32)), .val (.ref b47), .val (.ref r81), .val (.int (2 : Int32))] [(.long q2), (.ref r81)])) rfl (by rw [hml]; rfl) (argsL := [(.ref r81), (.long q2)]) (rest := []) (lenOf pd_5 rfl) rfl (by show 2 * 0 + _ ≤ _; exact Nat.le_of_eq rfl) (hb hby at_180) (fun _ _ => ⟨rfl, e84, (by decide : 4 + 0 ≤ _), (by decide : 133 + 0 ≤ _)⟩)
            dsimp only [Pt.U, Pt.locs, Pt.cells, Pt.slots] at X85 l85 y85 z85 st85 hQ85
            subst l85 y85 z85
            obtain ⟨rfl, N85q, e85⟩ := hQ85
            have N85 := Fr.app N84 N85q
            refine OEnds.go (g' := (mkF m 183 #[.val (.long q0), .second, .val (.long q1), .second, .val (.long q2), .second, .val (.int p3), .val (.int (3 : Int32)), .val (.ref b47), .val (.ref r81), .val (.int (2 : Int32))] [(.int (fH2 q2 (rr81 (0 : Int32)) (rr81 (1 : Int32))))])) st85 ?_
            refine OEnds.go (g' := (mkF m 188 #[.val (.long q0), .second, .val (.long q1), .second, .val (.long q2), .second, .val (.int p3), .val (.int (3 : Int32)), .val (.ref b47), .val (.ref r81), .val (.int (2 : Int32))] [])) (fun t k => XS.ifYes X85.here hx rfl (pc0 := 183) (pc' := 188) rfl (hb hby at_183) rfl ((if0 _ _).trans (feq (own_has2 _ _ _ (pm81.mem_iff.mpr (by simp [t54])) : ¬ ((fH2 q2 (rr81 (0 : Int32)) (rr81 (1 : Int32))) = (0 : Int32)))).2) (by decide) (by decide) k) ?_
            refine OEnds.go (g' := (mkF m 190 #[.val (.long q0), .second, .val (.long q1), .second, .val (.long q2), .second, .val (.int p3), .val (.int (3 : Int32)), .val (.ref b47), .val (.ref r81), .val (.int (2 : Int32))] [(.ref r81)])) (fun t k => XS.aload X85.here hx rfl (hb hby at_188) rfl rfl k) ?_
            obtain ⟨cl86, Ar86, qa86, Sa86, Na86, Ha86, Ga86⟩ := @id _ VR81
            refine OEnds.go (g' := (mkF m 191 #[.val (.long q0), .second, .val (.long q1), .second, .val (.long q2), .second, .val (.int p3), .val (.int (3 : Int32)), .val (.ref b47), .val (.ref r81), .val (.int (2 : Int32))] [(.int (2 : Int32))])) (fun t k => X85.arraylength hx (by rw [e85]; exact Ar86.1) (State.isArrayOf_alike hZ.alike Ar86.2.1) (g := (mkF m 190 #[.val (.long q0), .second, .val (.long q1), .second, .val (.long q2), .second, .val (.int p3), .val (.int (3 : Int32)), .val (.ref b47), .val (.ref r81), .val (.int (2 : Int32))] [(.ref r81)])) rfl rfl (hb hby at_190) t (by rw [len_of Sa86 Na86]; exact k)) ?_
            refine OEnds.go (g' := (mkF m 194 #[.val (.long q0), .second, .val (.long q1), .second, .val (.long q2), .second, .val (.int p3), .val (.int (3 : Int32)), .val (.ref b47), .val (.ref r81), .val (.int (2 : Int32))] [])) (fun t k => XS.ifNo X85.here hx rfl (hb hby at_191) rfl ((if0 _ _).trans (tlt (by decide : ((0 : Int32) < (2 : Int32)))).2.2.2) k) ?_
            refine OEnds.go (g' := (mkF m 196 #[.val (.long q0), .second, .val (.long q1), .second, .val (.long q2), .second, .val (.int p3), .val (.int (3 : Int32)), .val (.ref b47), .val (.ref r81), .val (.int (2 : Int32))] [(.ref r81)])) (fun t k => XS.aload X85.here hx rfl (hb hby at_194) rfl rfl k) ?_
            refine OEnds.go (g' := (mkF m 197 #[.val (.long q0), .second, .val (.long q1), .second, .val (.long q2), .second, .val (.int p3), .val (.int (3 : Int32)), .val (.ref b47), .val (.ref r81), .val (.int (2 : Int32))] [(.int (0 : Int32)), (.ref r81)])) (fun t k => XS.iconst X85.here hx rfl (hb hby at_196) k) ?_
            obtain ⟨cl87, Ar87, qa87, Sa87, Na87, Ha87, Ga87⟩ := @id _ VR81
            have hin87 : ¬ ((0 : Int32) < 0 ∨ cl87.slots.size ≤ ((0 : Int32)).toNatClampNeg) := inb_of Sa87 ⟨by decide, by decide⟩
            have hat87 : cl87.slots[((0 : Int32)).toNatClampNeg]? = some (.long (rr81 (0 : Int32))) := Has.at Ha87 hin87 rfl
            refine OEnds.go (g' := (mkF m 198 #[.val (.long q0), .second, .val (.long q1), .second, .val (.long q2), .second, .val (.int p3), .val (.int (3 : Int32)), .val (.ref b47), .val (.ref r81), .val (.int (2 : Int32))] [(.long (rr81 (0 : Int32)))])) (X85.laload hx (j := (0 : Int32)) (v := (.long (rr81 (0 : Int32)))) (by rw [e85]; exact Ar87.1) (State.isArrayOf_alike hZ.alike Ar87.2.1) Ar87.2.2 hin87 hat87 (g := (mkF m 197 #[.val (.long q0), .second, .val (.long q1), .second, .val (.long q2), .second, .val (.int p3), .val (.int (3 : Int32)), .val (.ref b47), .val (.ref r81), .val (.int (2 : Int32))] [(.int (0 : Int32)), (.ref r81)])) rfl rfl (hb hby at_197)) ?_
            refine OEnds.go (g' := (mkF m 200 #[.val (.long q0), .second, .val (.long q1), .second, .val (.long q2), .second, .val (.int p3), .val (.int (3 : Int32)), .val (.ref b47), .val (.ref r81), .val (.int (2 : Int32))] [(.int (3 : Int32)), (.long (rr81 (0 : Int32)))])) (fun t k => XS.iload X85.here hx rfl (hb hby at_198) rfl k) ?_
            refine OEnds.go (g' := (mkF m 201 #[.val (.long q0), .second, .val (.long q1), .second, .val (.long q2), .second, .val (.int p3), .val (.int (3 : Int32)), .val (.ref b47), .val (.ref r81), .val (.int (2 : Int32))] [(.long q0), (.int (3 : Int32)), (.long (rr81 (0 : Int32)))])) (fun t k => XS.lloadN X85.here hx rfl (hb hby at_200) rfl k) ?_
            refine OEnds.go (g' := (mkF m 202 #[.val (.long q0), .second, .val (.long q1), .second, .val (.long q2), .second, .val (.int p3), .val (.int (3 : Int32)), .val (.ref b47), .val (.ref r81), .val (.int (2 : Int32))] [(.long q1), (.long q0), (.int (3 : Int32)), (.long (rr81 (0 : Int32)))])) (fun t k => XS.lloadN X85.here hx rfl (hb hby at_201) rfl k) ?_
            refine OEnds.go (g' := (mkF m 204 #[.val (.long q0), .second, .val (.long q1), .second, .val (.long q2), .second, .val (.int p3), .val (.int (3 : Int32)), .val (.ref b47), .val (.ref r81), .val (.int (2 : Int32))] [(.long q2), (.long q1), (.long q0), (.int (3 : Int32)), (.long (rr81 (0 : Int32)))])) (fun t k => XS.lload X85.here hx rfl (hb hby at_202) rfl k) ?_
            obtain ⟨_, _, ⟨T88, L88, k88, n88⟩, -, X88, ⟨Lc88, hQ88, l88, y88, z88⟩, st88⟩ := Jvm.LawKit.callS X85 hx (y := (⟨"com/example/slimheap/slimheap/hprof/IdMapIdsPinLaw", "inSet", "(JIJJJ)Z"⟩ : MethodName)) hown (mvT hZ (hw _ (List.mem_of_getElem? (i := 45) rfl))) (mvT hZ (hw _ (List.mem_of_getElem? (i := 46) rfl))) (mvT hZ (hw _ (List.mem_of_getElem? (i := 43) rfl))) (mvT hZ (hw _ (List.mem_of_getElem? (i := 47) rfl))) (by decide) (backOf (W := 0) (rm8 l Z a0 hw [] (rr81 (0 : Int32)) (3 : Int32) q0 q1 q2 T81.heap n0 (Nat.le_trans (Nat.le_trans (Nat.le_trans (Nat.le_trans (Nat.le_trans (Nat.le_trans Z0 E47.1) K48q.1) K50q.1) K52q.1) K54q.1) K81q.1)) hZ (hw _ (List.mem_of_getElem? (i := 47) rfl)) (hw _ (List.mem_of_getElem? (i := 43) rfl)) (by decide) (by decide)) (g := (mkF m 204 #[.val (.long q0), .second, .val (.long q1), .second, .val (.long q2), .second, .val (.int p3), .val (.int (3 : Int32)), .val (.ref b47), .val (.ref r81), .val (.int (2 : Int32))] [(.long q2), (.long q1), (.long q0), (.int (3 : Int32)), (.long (rr81 (0 : Int32)))])) rfl (by rw [hml]; rfl) (argsL := [(.long (rr81 (0 : Int32))), (.int (3 : Int32)), (.long q0), (.long q1), (.long q2)]) (rest := []) (lenOf pd_6 rfl) rfl (by show 2 * 0 + _ ≤ _; exact Nat.le_of_eq rfl) (hb hby at_204) (fun _ _ => ⟨rfl, e85, (by decide : 4 + 0 ≤ _), (by decide : 133 + 0 ≤ _)⟩)
            dsimp only [Pt.U, Pt.locs, Pt.cells, Pt.slots] at X88 l88 y88 z88 st88 hQ88
            subst l88 y88 z88
            obtain ⟨rfl, N88q, e88⟩ := hQ88
            have N88 := Fr.app N85 N88q
            refine OEnds.go (g' := (mkF m 207 #[.val (.long q0), .second, .val (.long q1), .second, .val (.long q2), .second, .val (.int p3), .val (.int (3 : Int32)), .val (.ref b47), .val (.ref r81), .val (.int (2 : Int32))] [(.int (f8 (rr81 (0 : Int32)) (3 : Int32) q0 q1 q2))])) st88 ?_
            refine OEnds.go (g' := (mkF m 212 #[.val (.long q0), .second, .val (.long q1), .second, .val (.long q2), .second, .val (.int p3), .val (.int (3 : Int32)), .val (.ref b47), .val (.ref r81), .val (.int (2 : Int32))] [])) (fun t k => XS.ifYes X88.here hx rfl (pc0 := 207) (pc' := 212) rfl (hb hby at_207) rfl ((if0 _ _).trans (feq (own_set3 _ _ _ _ (by have t := pm81.mem_iff.mp (show (rr81 (0 : Int32)) ∈ ([(rr81 (0 : Int32)), (rr81 (1 : Int32))] : List Int64) from by simp); simp only [List.mem_cons, List.not_mem_nil, or_false] at t; first | (rcases t with t | t | t <;> simp [t]; done) | (rcases t with t | t <;> simp [t]; done) | (simp [t]; done)) : ¬ ((f8 (rr81 (0 : Int32)) (3 : Int32) q0 q1 q2) = (0 : Int32)))).2) (by decide) (by decide) k) ?_
            refine OEnds.go (g' := (mkF m 214 #[.val (.long q0), .second, .val (.long q1), .second, .val (.long q2), .second, .val (.int p3), .val (.int (3 : Int32)), .val (.ref b47), .val (.ref r81), .val (.int (2 : Int32))] [(.ref r81)])) (fun t k => XS.aload X88.here hx rfl (hb hby at_212) rfl rfl k) ?_
            obtain ⟨cl89, Ar89, qa89, Sa89, Na89, Ha89, Ga89⟩ := @id _ VR81
            refine OEnds.go (g' := (mkF m 215 #[.val (.long q0), .second, .val (.long q1), .second, .val (.long q2), .second, .val (.int p3), .val (.int (3 : Int32)), .val (.ref b47), .val (.ref r81), .val (.int (2 : Int32))] [(.int (2 : Int32))])) (fun t k => X88.arraylength hx (by rw [e88]; exact Ar89.1) (State.isArrayOf_alike hZ.alike Ar89.2.1) (g := (mkF m 214 #[.val (.long q0), .second, .val (.long q1), .second, .val (.long q2), .second, .val (.int p3), .val (.int (3 : Int32)), .val (.ref b47), .val (.ref r81), .val (.int (2 : Int32))] [(.ref r81)])) rfl rfl (hb hby at_214) t (by rw [len_of Sa89 Na89]; exact k)) ?_
            refine OEnds.go (g' := (mkF m 216 #[.val (.long q0), .second, .val (.long q1), .second, .val (.long q2), .second, .val (.int p3), .val (.int (3 : Int32)), .val (.ref b47), .val (.ref r81), .val (.int (2 : Int32))] [(.int (1 : Int32)), (.int (2 : Int32))])) (fun t k => XS.iconst X88.here hx rfl (hb hby at_215) k) ?_
            refine OEnds.go (g' := (mkF m 219 #[.val (.long q0), .second, .val (.long q1), .second, .val (.long q2), .second, .val (.int p3), .val (.int (3 : Int32)), .val (.ref b47), .val (.ref r81), .val (.int (2 : Int32))] [])) (fun t k => XS.icmpNo X88.here hx rfl (hb hby at_216) rfl (tlt (by decide : ((1 : Int32) < (2 : Int32)))).2.2.2 k) ?_
            refine OEnds.go (g' := (mkF m 221 #[.val (.long q0), .second, .val (.long q1), .second, .val (.long q2), .second, .val (.int p3), .val (.int (3 : Int32)), .val (.ref b47), .val (.ref r81), .val (.int (2 : Int32))] [(.ref r81)])) (fun t k => XS.aload X88.here hx rfl (hb hby at_219) rfl rfl k) ?_
            refine OEnds.go (g' := (mkF m 222 #[.val (.long q0), .second, .val (.long q1), .second, .val (.long q2), .second, .val (.int p3), .val (.int (3 : Int32)), .val (.ref b47), .val (.ref r81), .val (.int (2 : Int32))] [(.int (1 : Int32)), (.ref r81)])) (fun t k => XS.iconst X88.here hx rfl (hb hby at_221) k) ?_
            obtain ⟨cl90, Ar90, qa90, Sa90, Na90, Ha90, Ga90⟩ := @id _ VR81
            have hin90 : ¬ ((1 : Int32) < 0 ∨ cl90.slots.size ≤ ((1 : Int32)).toNatClampNeg) := inb_of Sa90 ⟨by decide, by decide⟩
            have hat90 : cl90.slots[((1 : Int32)).toNatClampNeg]? = some (.long (rr81 (1 : Int32))) := Has.at Ha90 hin90 rfl
            refine OEnds.go (g' := (mkF m 223 #[.val (.long q0), .second, .val (.long q1), .second, .val (.long q2), .second, .val (.int p3), .val (.int (3 : Int32)), .val (.ref b47), .val (.ref r81), .val (.int (2 : Int32))] [(.long (rr81 (1 : Int32)))])) (X88.laload hx (j := (1 : Int32)) (v := (.long (rr81 (1 : Int32)))) (by rw [e88]; exact Ar90.1) (State.isArrayOf_alike hZ.alike Ar90.2.1) Ar90.2.2 hin90 hat90 (g := (mkF m 222 #[.val (.long q0), .second, .val (.long q1), .second, .val (.long q2), .second, .val (.int p3), .val (.int (3 : Int32)), .val (.ref b47), .val (.ref r81), .val (.int (2 : Int32))] [(.int (1 : Int32)), (.ref r81)])) rfl rfl (hb hby at_222)) ?_
            refine OEnds.go (g' := (mkF m 225 #[.val (.long q0), .second, .val (.long q1), .second, .val (.long q2), .second, .val (.int p3), .val (.int (3 : Int32)), .val (.ref b47), .val (.ref r81), .val (.int (2 : Int32))] [(.int (3 : Int32)), (.long (rr81 (1 : Int32)))])) (fun t k => XS.iload X88.here hx rfl (hb hby at_223) rfl k) ?_
            refine OEnds.go (g' := (mkF m 226 #[.val (.long q0), .second, .val (.long q1), .second, .val (.long q2), .second, .val (.int p3), .val (.int (3 : Int32)), .val (.ref b47), .val (.ref r81), .val (.int (2 : Int32))] [(.long q0), (.int (3 : Int32)), (.long (rr81 (1 : Int32)))])) (fun t k => XS.lloadN X88.here hx rfl (hb hby at_225) rfl k) ?_
            refine OEnds.go (g' := (mkF m 227 #[.val (.long q0), .second, .val (.long q1), .second, .val (.long q2), .second, .val (.int p3), .val (.int (3 : Int32)), .val (.ref b47), .val (.ref r81), .val (.int (2 : Int32))] [(.long q1), (.long q0), (.int (3 : Int32)), (.long (rr81 (1 : Int32)))])) (fun t k => XS.lloadN X88.here hx rfl (hb hby at_226) rfl k) ?_
            refine OEnds.go (g' := (mkF m 229 #[.val (.long q0), .second, .val (.long q1), .second, .val (.long q2), .second, .val (.int p3), .val (.int (3 : Int32)), .val (.ref b47), .val (.ref r81), .val (.int (2 : Int32))] [(.long q2), (.long q1), (.long q0), (.int (3 : Int32)), (.long (rr81 (1 : Int32)))])) (fun t k => XS.lload X88.here hx rfl (hb hby at_227) rfl k) ?_
            obtain ⟨_, _, ⟨T91, L91, k91, n91⟩, -, X91, ⟨Lc91, hQ91, l91, y91, z91⟩, st91⟩ := Jvm.LawKit.callS X88 hx (y := (⟨"com/example/slimheap/slimheap/hprof/IdMapIdsPinLaw", "inSet", "(JIJJJ)Z"⟩ : MethodName)) hown (mvT hZ (hw _ (List.mem_of_getElem? (i := 45) rfl))) (mvT hZ (hw _ (List.mem_of_getElem? (i := 46) rfl))) (mvT hZ (hw _ (List.mem_of_getElem? (i := 43) rfl))) (mvT hZ (hw _ (List.mem_of_getElem? (i := 47) rfl))) (by decide) (backOf (W := 0) (rm8 l Z a0 hw [] (rr81 (1 : Int32)) (3 : Int32) q0 q1 q2 T81.heap n0 (Nat.le_trans (Nat.le_trans (Nat.le_trans (Nat.le_trans (Nat.le_trans (Nat.le_trans Z0 E47.1) K48q.1) K50q.1) K52q.1) K54q.1) K81q.1)) hZ (hw _ (List.mem_of_getElem? (i := 47) rfl)) (hw _ (List.mem_of_getElem? (i := 43) rfl)) (by decide) (by decide)) (g := (mkF m 229 #[.val (.long q0), .second, .val (.long q1), .second, .val (.long q2), .second, .val (.int p3), .val (.int (3 : Int32)), .val (.ref b47), .val (.ref r81), .val (.int (2 : Int32))] [(.long q2), (.long q1), (.long q0), (.int (3 : Int32)), (.long (rr81 (1 : Int32)))])) rfl (by rw [hml]; rfl) (argsL := [(.long (rr81 (1 : Int32))), (.int (3 : Int32)), (.long q0), (.long q1), (.long q2)]) (rest := []) (lenOf pd_6 rfl) rfl (by show 2 * 0 + _ ≤ _; exact Nat.le_of_eq rfl) (hb hby at_229) (fun _ _ => ⟨rfl, e88, (by decide : 4 + 0 ≤ _), (by decide : 133 + 0 ≤ _)⟩)
            dsimp only [Pt.U, Pt.locs, Pt.cells, Pt.slots] at X91 l91 y91 z91 st91 hQ91
            subst l91 y91 z91
            obtain ⟨rfl, N91q, e91⟩ := hQ91
            have N91 := Fr.app N88 N91q
            refine OEnds.go (g' := (mkF m 232 #[.val (.long q0), .second, .val (.long q1), .second, .val (.long q2), .second, .val (.int p3), .val (.int (3 : Int32)), .val (.ref b47), .val (.ref r81), .val (.int (2 : Int32))] [(.int (f8 (rr81 (1 : Int32)) (3 : Int32) q0 q1 q2))])) st91 ?_
            refine OEnds.go (g' := (mkF m 237 #[.val (.long q0), .second, .val (.long q1), .second, .val (.long q2), .second, .val (.int p3), .val (.int (3 : Int32)), .val (.ref b47), .val (.ref r81), .val (.int (2 : Int32))] [])) (fun t k => XS.ifYes X91.here hx rfl (pc0 := 232) (pc' := 237) rfl (hb hby at_232) rfl ((if0 _ _).trans (feq (own_set3 _ _ _ _ (by have t := pm81.mem_iff.mp (show (rr81 (1 : Int32)) ∈ ([(rr81 (0 : Int32)), (rr81 (1 : Int32))] : List Int64) from by simp); simp only [List.mem_cons, List.not_mem_nil, or_false] at t; first | (rcases t with t | t | t <;> simp [t]; done) | (rcases t with t | t <;> simp [t]; done) | (simp [t]; done)) : ¬ ((f8 (rr81 (1 : Int32)) (3 : Int32) q0 q1 q2) = (0 : Int32)))).2) (by decide) (by decide) k) ?_
            refine OEnds.go (g' := (mkF m 239 #[.val (.long q0), .second, .val (.long q1), .second, .val (.long q2), .second, .val (.int p3), .val (.int (3 : Int32)), .val (.ref b47), .val (.ref r81), .val (.int (2 : Int32))] [(.ref r81)])) (fun t k => XS.aload X91.here hx rfl (hb hby at_237) rfl rfl k) ?_
            obtain ⟨cl92, Ar92, qa92, Sa92, Na92, Ha92, Ga92⟩ := @id _ VR81
            refine OEnds.go (g' := (mkF m 240 #[.val (.long q0), .second, .val (.long q1), .second, .val (.long q2), .second, .val (.int p3), .val (.int (3 : Int32)), .val (.ref b47), .val (.ref r81), .val (.int (2 : Int32))] [(.int (2 : Int32))])) (fun t k => X91.arraylength hx (by rw [e91]; exact Ar92.1) (State.isArrayOf_alike hZ.alike Ar92.2.1) (g := (mkF m 239 #[.val (.long q0), .second, .val (.long q1), .second, .val (.long q2), .second, .val (.int p3), .val (.int (3 : Int32)), .val (.ref b47), .val (.ref r81), .val (.int (2 : Int32))] [(.ref r81)])) rfl rfl (hb hby at_239) t (by rw [len_of Sa92 Na92]; exact k)) ?_
            refine OEnds.go (g' := (mkF m 241 #[.val (.long q0), .second, .val (.long q1), .second, .val (.long q2), .second, .val (.int p3), .val (.int (3 : Int32)), .val (.ref b47), .val (.ref r81), .val (.int (2 : Int32))] [(.int (2 : Int32)), (.int (2 : Int32))])) (fun t k => XS.iconst X91.here hx rfl (hb hby at_240) k) ?_
            refine OEnds.go (g' := (mkF m 262 #[.val (.long q0), .second, .val (.long q1), .second, .val (.long q2), .second, .val (.int p3), .val (.int (3 : Int32)), .val (.ref b47), .val (.ref r81), .val (.int (2 : Int32))] [])) (fun t k => XS.icmpYes X91.here hx rfl (pc0 := 241) (pc' := 262) rfl (hb hby at_241) rfl (flt (by decide : ¬ ((2 : Int32) < (2 : Int32)))).2.2.2 (by decide) (by decide) k) ?_
            refine OEnds.go (g' := (mkF m 263 #[.val (.long q0), .second, .val (.long q1), .second, .val (.long q2), .second, .val (.int p3), .val (.int (3 : Int32)), .val (.ref b47), .val (.ref r81), .val (.int (2 : Int32))] [(.int (1 : Int32))])) (fun t k => XS.iconst X91.here hx rfl (hb hby at_262) k) ?_
            exact OEnds.outN X91 Bd.notSynchronized hx (t := .boolean) Bd.returns (by simp) (hb hby at_263) ⟨rfl, N91⟩ (by decide) (by decide)
      · -- again
        obtain ⟨nx52, I52⟩ := own_ovr (y := y_2) I50 Fd52 hn52
        rcases (by simpa using own_ids nx52 : q1 = q0) with t52
        · -- q0
          refine OEnds.go (g' := (mkF m 49 #[.val (.long q0), .second, .val (.long q1), .second, .val (.long q2), .second, .val (.int p3), .val (.int (3 : Int32)), .val (.ref b47), .unset, .unset] [(.int (3 : Int32))])) (fun t k => XS.iload X52.here hx rfl (hb hby at_47) rfl k) ?_
          refine OEnds.go (g' := (mkF m 50 #[.val (.long q0), .second, .val (.long q1), .second, .val (.long q2), .second, .val (.int p3), .val (.int (3 : Int32)), .val (.ref b47), .unset, .unset] [(.int (3 : Int32)), (.int (3 : Int32))])) (fun t k => XS.iconst X52.here hx rfl (hb hby at_49) k) ?_
          refine OEnds.go (g' := (mkF m 53 #[.val (.long q0), .second, .val (.long q1), .second, .val (.long q2), .second, .val (.int p3), .val (.int (3 : Int32)), .val (.ref b47), .unset, .unset] [])) (fun t k => XS.icmpNo X52.here hx rfl (hb hby at_50) rfl (flt (by decide : ¬ ((3 : Int32) < (3 : Int32)))).1 k) ?_
          refine OEnds.go (g' := (mkF m 55 #[.val (.long q0), .second, .val (.long q1), .second, .val (.long q2), .second, .val (.int p3), .val (.int (3 : Int32)), .val (.ref b47), .unset, .unset] [(.ref b47)])) (fun t k => XS.aload X52.here hx rfl (hb hby at_53) rfl rfl k) ?_
          refine OEnds.go (g' := (mkF m 57 #[.val (.long q0), .second, .val (.long q1), .second, .val (.long q2), .second, .val (.int p3), .val (.int (3 : Int32)), .val (.ref b47), .unset, .unset] [(.long q2), (.ref b47)])) (fun t k => XS.lload X52.here hx rfl (hb hby at_55) rfl k) ?_
          refine OEnds.go (g' := (mkF m 58 #[.val (.long q0), .second, .val (.long q1), .second, .val (.long q2), .second, .val (.int p3), .val (.int (3 : Int32)), .val (.ref b47), .unset, .unset] [(.int (3 : Int32)), (.long q2), (.ref b47)])) (fun t k => XS.iconst X52.here hx rfl (hb hby at_57) k) ?_
          obtain ⟨_, _, ⟨T93, L93, k93, n93⟩, -, X93, ⟨Lc93, hQ93, l93, y93, z93⟩, st93⟩ := Jvm.LawKit.callS X52 hx (y := (⟨"java/lang/Integer", "valueOf", "(I)Ljava/lang/Integer;"⟩ : MethodName)) hown (mvT hZ (hw _ (List.mem_of_getElem? (i := 16) rfl))) (mvT hZ (hw _ (List.mem_of_getElem? (i := 17) rfl))) (mvT hZ (hw _ (List.mem_of_getElem? (i := 18) rfl))) (mvT hZ (hw _ (List.mem_of_getElem? (i := 19) rfl))) (by decide) (backOf (W := 3) (rmV3 l Z a0 hw [] cc kc fc y_3 T52.heap n0 (Nat.le_trans (Nat.le_trans (Nat.le_trans (Nat.le_trans Z0 E47.1) K48q.1) K50q.1) K52q.1) (own_sta_keep (own_sta_keep (own_sta_keep (SH.ext E47) K48q (allS (own_plE A47) all0)) K50q (allS (own_plE E48q) (allS (own_plA AI48q) (allS (own_plA AV48q) all0)))) K52q (allS (own_plE E50q) (allS (own_plA AI50q) (allS (own_plA AV50q) all0)))) (own_sta_keep (own_sta_keep (own_sta_keep (SC.ext E47) K48q (allS (own_plE A47) all0)) K50q (allS (own_plE E48q) (allS (own_plA AI48q) (allS (own_plA AV48q) all0)))) K52q (allS (own_plE E50q) (allS (own_plA AI50q) (allS (own_plA AV50q) all0)))) ((((AC.ext E47).keep K48q (ninS (Nat.ne_of_lt (Nat.lt_of_lt_of_le AC.lt (Nat.le_of_eq g47.symm))) nin0)).keep K50q (ninS (Nat.ne_of_lt (Nat.lt_of_lt_of_le AC.lt (Nat.le_of_eq g47.symm))) (ninS (Nat.ne_of_lt (Nat.lt_of_lt_of_le (AC.ext E47).lt sz_ia48)) (ninS (Nat.ne_of_lt (Nat.lt_of_lt_of_le (AC.ext E47).lt sz_va48)) nin0)))).keep K52q (ninS (Nat.ne_of_lt (Nat.lt_of_lt_of_le AC.lt (Nat.le_of_eq g47.symm))) (ninS (Nat.ne_of_lt (Nat.lt_of_lt_of_le (AC.ext E47).lt sz_ia48)) (ninS (Nat.ne_of_lt (Nat.lt_of_lt_of_le (AC.ext E47).lt sz_va48)) nin0)))) hy3) hZ (hw _ (List.mem_of_getElem? (i := 19) rfl)) (hw _ (List.mem_of_getElem? (i := 18) rfl)) (by decide) (by decide)) (g := (mkF m 58 #[.val (.long q0), .second, .val (.long q1), .second, .val (.long q2), .second, .val (.int p3), .val (.int (3 : Int32)), .val (.ref b47), .unset, .unset] [(.int (3 : Int32)), (.long q2), (.ref b47)])) rfl (by rw [hml]; rfl) (argsL := [(.int (3 : Int32))]) (rest := [(.long q2), (.ref b47)]) (lenOf pd_3 rfl) rfl (by show 2 * 0 + _ ≤ _; exact Nat.le_of_eq rfl) (hb hby at_58) (fun _ _ => ⟨rfl, rfl, (by decide : 3 + 0 ≤ _), (by decide : 131 + 0 ≤ _)⟩)
          dsimp only [Pt.U, Pt.locs, Pt.cells, Pt.slots] at X93 l93 y93 z93 st93 hQ93
          subst l93 y93 z93
          obtain ⟨rfl, N93q, e93⟩ := hQ93
          have N93 := Fr.app N52 N93q
          refine OEnds.go (g' := (mkF m 61 #[.val (.long q0), .second, .val (.long q1), .second, .val (.long q2), .second, .val (.int p3), .val (.int (3 : Int32)), .val (.ref b47), .unset, .unset] [(.ref y_3), (.long q2), (.ref b47)])) st93 ?_
          obtain ⟨cq94, kq94, q94a, q94b, q94c⟩ := isOf hZ e93 E52q
          obtain ⟨_, _, ⟨T94, L94, k94, n94⟩, -, X94, ⟨Lc94, hQ94, l94, y94, z94⟩, st94⟩ := X93.virtualBack hx (y := (⟨"com/example/slimheap/slimheap/hprof/IdMap", "put", "(JLjava/lang/Object;)V"⟩ : MethodName)) (z := (⟨"com/example/slimheap/slimheap/hprof/IdMap", "put", "(JLjava/lang/Object;)V"⟩ : MethodName)) hown (mvT hZ (hw _ (List.mem_of_getElem? (i := 23) rfl))) (mvT hZ (hw _ (List.mem_of_getElem? (i := 24) rfl))) (notFace_of_selects (args := #[]) (mvT hZ (hw _ (List.mem_of_getElem? (i := 26) rfl)))) (mvT hZ (hw _ (List.mem_of_getElem? (i := 26) rfl))) (mvT hZ (hw _ (List.mem_of_getElem? (i := 25) rfl))) (by decide) (backOf (W := 0) (rmP1 l Z a0 hw [] b47 q2 y_3 ia48 va48 ki48 kv48 (own_u (own_u (fun _ => .null) j50 (.ref y_1)) j52 (.ref y_2)) (own_u (fun _ => (0 : Int64)) j50 q0) T52.heap n0 (Nat.le_trans (Nat.le_trans (Nat.le_trans (Nat.le_trans Z0 E47.1) K48q.1) K50q.1) K52q.1) E52q Fi52q Fv52q AI52q AV52q (own_3 q2 I52 (Nat.le_of_ble_eq_true rfl)) Fs52q OV48q ((((EY3.ext E47).keep K48q).keep K50q).keep K52q) g_b47 g_ia48 g_va48 (Nat.ne_of_lt (Nat.lt_of_lt_of_le A47.lt sz_ia48)) (Nat.ne_of_lt (Nat.lt_of_lt_of_le A47.lt sz_va48)) ne48) hZ (hw _ (List.mem_of_getElem? (i := 27) rfl)) (hw _ (List.mem_of_getElem? (i := 2) rfl)) (by decide) (by decide)) q94a q94c (g := (mkF m 61 #[.val (.long q0), .second, .val (.long q1), .second, .val (.long q2), .second, .val (.int p3), .val (.int (3 : Int32)), .val (.ref b47), .unset, .unset] [(.ref y_3), (.long q2), (.ref b47)])) rfl (by rw [hml]; rfl) (Steps.refl _) (argsL := [(.long q2), (.ref y_3)]) (rest := []) (lenOf pd_4 rfl) rfl (by show 2 * 0 + _ ≤ _; exact Nat.le_of_eq rfl) (hb hby at_61) (fun _ _ => ⟨rfl, e93, (by decide : 3 + 0 ≤ _), (by decide : 131 + 0 ≤ _)⟩)
          dsimp only [Pt.U, Pt.locs, Pt.cells, Pt.slots] at X94 l94 y94 z94 st94 hQ94
          subst l94 y94 z94
          obtain ⟨rfl, N94q, K94q, E94q, Fi94q, Fv94q, j94, Fd94, AV94q, hO94⟩ := hQ94
          have N94 := Fr.app N93 N94q
          refine OEnds.tr (g' := (mkF m 64 #[.val (.long q0), .second, .val (.long q1), .second, .val (.long q2), .second, .val (.int p3), .val (.int (3 : Int32)), .val (.ref b47), .unset, .unset] [])) st94 ?_
          rcases hO94 with ⟨hn94, Fs94q, AI94q⟩ | ⟨hn94, Fs94q, AI94q⟩
          · -- new
            obtain ⟨nx94, I94⟩ := own_ins (y := y_3) I52 Fd94 hn94
            refine OEnds.go (g' := (mkF m 66 #[.val (.long q0), .second, .val (.long q1), .second, .val (.long q2), .second, .val (.int p3), .val (.int (3 : Int32)), .val (.ref b47), .unset, .unset] [(.ref b47)])) (fun t k => XS.aload X94.here hx rfl (hb hby at_64) rfl rfl k) ?_
            obtain ⟨cq95, kq95, q95a, q95b, q95c⟩ := isOf hZ rfl E94q
            obtain ⟨_, _, ⟨T95, L95, k95, n95⟩, -, X95, ⟨Lc95, hQ95, l95, y95, z95⟩, st95⟩ := X94.virtualBack hx (y := (⟨"com/example/slimheap/slimheap/hprof/IdMap", "ids", "()[J"⟩ : MethodName)) (z := (⟨"com/example/slimheap/slimheap/hprof/IdMap", "ids", "()[J"⟩ : MethodName)) hown (mvT hZ (hw _ (List.mem_of_getElem? (i := 36) rfl))) (mvT hZ (hw _ (List.mem_of_getElem? (i := 37) rfl))) (notFace_of_selects (args := #[]) (mvT hZ (hw _ (List.mem_of_getElem? (i := 39) rfl)))) (mvT hZ (hw _ (List.mem_of_getElem? (i := 39) rfl))) (mvT hZ (hw _ (List.mem_of_getElem? (i := 38) rfl))) (by decide) (backOf (W := 0) (rmD2 l Z a0 hw [] b47 ia48 va48 ki48 kv48 (own_u (own_u (own_u (fun _ => .null) j50 (.ref y_1)) j52 (.ref y_2)) j94 (.ref y_3)) (own_u (own_u (fun _ => (0 : Int64)) j50 q0) j94 q2) T94.heap n0 (Nat.le_trans (Nat.le_trans (Nat.le_trans (Nat.le_trans (Nat.le_trans Z0 E47.1) K48q.1) K50q.1) K52q.1) K94q.1) Fi94q Fv94q AI94q AV94q Fs94q (own_perm I94).length_eq) hZ (hw _ (List.mem_of_getElem? (i := 40) rfl)) (hw _ (List.mem_of_getElem? (i := 2) rfl)) (by decide) (by decide)) q95a q95c (g := (mkF m 66 #[.val (.long q0), .second, .val (.long q1), .second, .val (.long q2), .second, .val (.int p3), .val (.int (3 : Int32)), .val (.ref b47), .unset, .unset] [(.ref b47)])) rfl (by rw [hml]; rfl) (Steps.refl _) (argsL := []) (rest := []) (lenOf pd_2 rfl) rfl (by show 2 * 0 + _ ≤ _; exact Nat.le_of_eq rfl) (hb hby at_66) (fun _ _ => ⟨rfl, rfl, (by decide : 3 + 1 ≤ _), (by decide : 131 + 2 ≤ _)⟩)
            dsimp only [Pt.U, Pt.locs, Pt.cells, Pt.slots] at X95 l95 y95 z95 st95 hQ95
            subst l95 y95 z95
            obtain ⟨r95, kr95, rr95, rfl, N95q, K95q, AR95, hP95, g_r95⟩ := hQ95
            have N95 := Fr.app N94 N95q
            have VR95 : Arv Z T95.heap r95 kr95 .long (2 : Int32) [(.long (rr95 (0 : Int32))), (.long (rr95 (1 : Int32)))] (.long (0 : Int64)) := own_Av.arv (n := 2) AR95 (by decide)
            have pm95 : ([(rr95 (0 : Int32)), (rr95 (1 : Int32))] : List Int64).Perm [q2, q0] := by have t := own_perm I94; have u := own_lits hP95 (own_perm I94).length_eq; rw [u] at t; exact t
            refine OEnds.tr (g' := (mkF m 69 #[.val (.long q0), .second, .val (.long q1), .second, .val (.long q2), .second, .val (.int p3), .val (.int (3 : Int32)), .val (.ref b47), .unset, .unset] [(.ref r95)])) st95 ?_
            refine OEnds.go (g' := (mkF m 71 #[.val (.long q0), .second, .val (.long q1), .second, .val (.long q2), .second, .val (.int p3), .val (.int (3 : Int32)), .val (.ref b47), .val (.ref r95), .unset] [])) (fun t k => XS.astore X95.here hx rfl (hb hby at_69) rfl rfl (l' := #[.val (.long q0), .second, .val (.long q1), .second, .val (.long q2), .second, .val (.int p3), .val (.int (3 : Int32)), .val (.ref b47), .val (.ref r95), .unset]) rfl k) ?_
            refine OEnds.go (g' := (mkF m 72 #[.val (.long q0), .second, .val (.long q1), .second, .val (.long q2), .second, .val (.int p3), .val (.int (3 : Int32)), .val (.ref b47), .val (.ref r95), .unset] [(.int (0 : Int32))])) (fun t k => XS.iconst X95.here hx rfl (hb hby at_71) k) ?_
            refine OEnds.go (g' := (mkF m 74 #[.val (.long q0), .second, .val (.long q1), .second, .val (.long q2), .second, .val (.int p3), .val (.int (3 : Int32)), .val (.ref b47), .val (.ref r95), .val (.int (0 : Int32))] [])) (fun t k => XS.istore X95.here hx rfl (hb hby at_72) rfl (l' := #[.val (.long q0), .second, .val (.long q1), .second, .val (.long q2), .second, .val (.int p3), .val (.int (3 : Int32)), .val (.ref b47), .val (.ref r95), .val (.int (0 : Int32))]) rfl k) ?_
            refine OEnds.go (g' := (mkF m 76 #[.val (.long q0), .second, .val (.long q1), .second, .val (.long q2), .second, .val (.int p3), .val (.int (3 : Int32)), .val (.ref b47), .val (.ref r95), .val (.int (0 : Int32))] [(.int (3 : Int32))])) (fun t k => XS.iload X95.here hx rfl (hb hby at_74) rfl k) ?_
            refine OEnds.go (g' := (mkF m 77 #[.val (.long q0), .second, .val (.long q1), .second, .val (.long q2), .second, .val (.int p3), .val (.int (3 : Int32)), .val (.ref b47), .val (.ref r95), .val (.int (0 : Int32))] [(.int (1 : Int32)), (.int (3 : Int32))])) (fun t k => XS.iconst X95.here hx rfl (hb hby at_76) k) ?_
            refine OEnds.go (g' := (mkF m 80 #[.val (.long q0), .second, .val (.long q1), .second, .val (.long q2), .second, .val (.int p3), .val (.int (3 : Int32)), .val (.ref b47), .val (.ref r95), .val (.int (0 : Int32))] [])) (fun t k => XS.icmpNo X95.here hx rfl (hb hby at_77) rfl (flt (by decide : ¬ ((3 : Int32) < (1 : Int32)))).1 k) ?_
            refine OEnds.go (g' := (mkF m 83 #[.val (.long q0), .second, .val (.long q1), .second, .val (.long q2), .second, .val (.int p3), .val (.int (3 : Int32)), .val (.ref b47), .val (.ref r95), .val (.int ((0 : Int32) + (1 : Int32)))] [])) (fun t k => XS.iinc X95.here hx rfl (hb hby at_80) rfl (l' := #[.val (.long q0), .second, .val (.long q1), .second, .val (.long q2), .second, .val (.int p3), .val (.int (3 : Int32)), .val (.ref b47), .val (.ref r95), .val (.int ((0 : Int32) + (1 : Int32)))]) rfl k) ?_
            rw [show ((0 : Int32) + (1 : Int32)) = (1 : Int32) from by decide]
            refine OEnds.go (g' := (mkF m 85 #[.val (.long q0), .second, .val (.long q1), .second, .val (.long q2), .second, .val (.int p3), .val (.int (3 : Int32)), .val (.ref b47), .val (.ref r95), .val (.int (1 : Int32))] [(.int (3 : Int32))])) (fun t k => XS.iload X95.here hx rfl (hb hby at_83) rfl k) ?_
            refine OEnds.go (g' := (mkF m 86 #[.val (.long q0), .second, .val (.long q1), .second, .val (.long q2), .second, .val (.int p3), .val (.int (3 : Int32)), .val (.ref b47), .val (.ref r95), .val (.int (1 : Int32))] [(.int (2 : Int32)), (.int (3 : Int32))])) (fun t k => XS.iconst X95.here hx rfl (hb hby at_85) k) ?_
            refine OEnds.go (g' := (mkF m 89 #[.val (.long q0), .second, .val (.long q1), .second, .val (.long q2), .second, .val (.int p3), .val (.int (3 : Int32)), .val (.ref b47), .val (.ref r95), .val (.int (1 : Int32))] [])) (fun t k => XS.icmpNo X95.here hx rfl (hb hby at_86) rfl (flt (by decide : ¬ ((3 : Int32) < (2 : Int32)))).1 k) ?_
            refine OEnds.go (g' := (mkF m 90 #[.val (.long q0), .second, .val (.long q1), .second, .val (.long q2), .second, .val (.int p3), .val (.int (3 : Int32)), .val (.ref b47), .val (.ref r95), .val (.int (1 : Int32))] [(.long q1)])) (fun t k => XS.lloadN X95.here hx rfl (hb hby at_89) rfl k) ?_
            refine OEnds.go (g' := (mkF m 91 #[.val (.long q0), .second, .val (.long q1), .second, .val (.long q2), .second, .val (.int p3), .val (.int (3 : Int32)), .val (.ref b47), .val (.ref r95), .val (.int (1 : Int32))] [(.long q0), (.long q1)])) (fun t k => XS.lloadN X95.here hx rfl (hb hby at_90) rfl k) ?_
            refine OEnds.go (g' := (mkF m 92 #[.val (.long q0), .second, .val (.long q1), .second, .val (.long q2), .second, .val (.int p3), .val (.int (3 : Int32)), .val (.ref b47), .val (.ref r95), .val (.int (1 : Int32))] [(.int (lcmpW q1 q0))])) (fun t k => XS.lcmp X95.here hx rfl (hb hby at_91) rfl k) ?_
            refine OEnds.go (g' := (mkF m 98 #[.val (.long q0), .second, .val (.long q1), .second, .val (.long q2), .second, .val (.int p3), .val (.int (3 : Int32)), .val (.ref b47), .val (.ref r95), .val (.int (1 : Int32))] [])) (fun t k => XS.ifYes X95.here hx rfl (pc0 := 92) (pc' := 98) rfl (hb hby at_92) rfl ((if0 _ _).trans (teq ((lw_eq _ _).mpr t52)).1) (by decide) (by decide) k) ?_
            refine OEnds.go (g' := (mkF m 100 #[.val (.long q0), .second, .val (.long q1), .second, .val (.long q2), .second, .val (.int p3), .val (.int (3 : Int32)), .val (.ref b47), .val (.ref r95), .val (.int (1 : Int32))] [(.int (3 : Int32))])) (fun t k => XS.iload X95.here hx rfl (hb hby at_98) rfl k) ?_
            refine OEnds.go (g' := (mkF m 101 #[.val (.long q0), .second, .val (.long q1), .second, .val (.long q2), .second, .val (.int p3), .val (.int (3 : Int32)), .val (.ref b47), .val (.ref r95), .val (.int (1 : Int32))] [(.int (3 : Int32)), (.int (3 : Int32))])) (fun t k => XS.iconst X95.here hx rfl (hb hby at_100) k) ?_
            refine OEnds.go (g' := (mkF m 104 #[.val (.long q0), .second, .val (.long q1), .second, .val (.long q2), .second, .val (.int p3), .val (.int (3 : Int32)), .val (.ref b47), .val (.ref r95), .val (.int (1 : Int32))] [])) (fun t k => XS.icmpNo X95.here hx rfl (hb hby at_101) rfl (flt (by decide : ¬ ((3 : Int32) < (3 : Int32)))).1 k) ?_
            refine OEnds.go (g' := (mkF m 106 #[.val (.long q0), .second, .val (.long q1), .second, .val (.long q2), .second, .val (.int p3), .val (.int (3 : Int32)), .val (.ref b47), .val (.ref r95), .val (.int (1 : Int32))] [(.long q2)])) (fun t k => XS.lload X95.here hx rfl (hb hby at_104) rfl k) ?_
            refine OEnds.go (g' := (mkF m 107 #[.val (.long q0), .second, .val (.long q1), .second, .val (.long q2), .second, .val (.int p3), .val (.int (3 : Int32)), .val (.ref b47), .val (.ref r95), .val (.int (1 : Int32))] [(.long q0), (.long q2)])) (fun t k => XS.lloadN X95.here hx rfl (hb hby at_106) rfl k) ?_
            refine OEnds.go (g' := (mkF m 108 #[.val (.long q0), .second, .val (.long q1), .second, .val (.long q2), .second, .val (.int p3), .val (.int (3 : Int32)), .val (.ref b47), .val (.ref r95), .val (.int (1 : Int32))] [(.int (lcmpW q2 q0))])) (fun t k => XS.lcmp X95.here hx rfl (hb hby at_107) rfl k) ?_
            refine OEnds.go (g' := (mkF m 111 #[.val (.long q0), .second, .val (.long q1), .second, .val (.long q2), .second, .val (.int p3), .val (.int (3 : Int32)), .val (.ref b47), .val (.ref r95), .val (.int (1 : Int32))] [])) (fun t k => XS.ifNo X95.here hx rfl (hb hby at_108) rfl ((if0 _ _).trans (feq (fun q => (fun q : q2 = q0 => nx94 (j50, q0) (by simp) q.symm) ((lw_eq _ _).mp q))).1) k) ?_
            refine OEnds.go (g' := (mkF m 113 #[.val (.long q0), .second, .val (.long q1), .second, .val (.long q2), .second, .val (.int p3), .val (.int (3 : Int32)), .val (.ref b47), .val (.ref r95), .val (.int (1 : Int32))] [(.long q2)])) (fun t k => XS.lload X95.here hx rfl (hb hby at_111) rfl k) ?_
            refine OEnds.go (g' := (mkF m 114 #[.val (.long q0), .second, .val (.long q1), .second, .val (.long q2), .second, .val (.int p3), .val (.int (3 : Int32)), .val (.ref b47), .val (.ref r95), .val (.int (1 : Int32))] [(.long q1), (.long q2)])) (fun t k => XS.lloadN X95.here hx rfl (hb hby at_113) rfl k) ?_
            refine OEnds.go (g' := (mkF m 115 #[.val (.long q0), .second, .val (.long q1), .second, .val (.long q2), .second, .val (.int p3), .val (.int (3 : Int32)), .val (.ref b47), .val (.ref r95), .val (.int (1 : Int32))] [(.int (lcmpW q2 q1))])) (fun t k => XS.lcmp X95.here hx rfl (hb hby at_114) rfl k) ?_
            refine OEnds.go (g' := (mkF m 118 #[.val (.long q0), .second, .val (.long q1), .second, .val (.long q2), .second, .val (.int p3), .val (.int (3 : Int32)), .val (.ref b47), .val (.ref r95), .val (.int (1 : Int32))] [])) (fun t k => XS.ifNo X95.here hx rfl (hb hby at_115) rfl ((if0 _ _).trans (feq (fun q => (fun q : q2 = q1 => (fun q : q2 = q0 => nx94 (j50, q0) (by simp) q.symm) (q.trans t52)) ((lw_eq _ _).mp q))).1) k) ?_
            refine OEnds.go (g' := (mkF m 121 #[.val (.long q0), .second, .val (.long q1), .second, .val (.long q2), .second, .val (.int p3), .val (.int (3 : Int32)), .val (.ref b47), .val (.ref r95), .val (.int ((1 : Int32) + (1 : Int32)))] [])) (fun t k => XS.iinc X95.here hx rfl (hb hby at_118) rfl (l' := #[.val (.long q0), .second, .val (.long q1), .second, .val (.long q2), .second, .val (.int p3), .val (.int (3 : Int32)), .val (.ref b47), .val (.ref r95), .val (.int ((1 : Int32) + (1 : Int32)))]) rfl k) ?_
            rw [show ((1 : Int32) + (1 : Int32)) = (2 : Int32) from by decide]
            refine OEnds.go (g' := (mkF m 123 #[.val (.long q0), .second, .val (.long q1), .second, .val (.long q2), .second, .val (.int p3), .val (.int (3 : Int32)), .val (.ref b47), .val (.ref r95), .val (.int (2 : Int32))] [(.ref r95)])) (fun t k => XS.aload X95.here hx rfl (hb hby at_121) rfl rfl k) ?_
            refine OEnds.go (g' := (mkF m 126 #[.val (.long q0), .second, .val (.long q1), .second, .val (.long q2), .second, .val (.int p3), .val (.int (3 : Int32)), .val (.ref b47), .val (.ref r95), .val (.int (2 : Int32))] [])) (fun t k => XS.ifnullNo X95.here hx rfl (hb hby at_123) rfl k) ?_
            refine OEnds.go (g' := (mkF m 128 #[.val (.long q0), .second, .val (.long q1), .second, .val (.long q2), .second, .val (.int p3), .val (.int (3 : Int32)), .val (.ref b47), .val (.ref r95), .val (.int (2 : Int32))] [(.ref r95)])) (fun t k => XS.aload X95.here hx rfl (hb hby at_126) rfl rfl k) ?_
            obtain ⟨cl96, Ar96, qa96, Sa96, Na96, Ha96, Ga96⟩ := @id _ VR95
            refine OEnds.go (g' := (mkF m 129 #[.val (.long q0), .second, .val (.long q1), .second, .val (.long q2), .second, .val (.int p3), .val (.int (3 : Int32)), .val (.ref b47), .val (.ref r95), .val (.int (2 : Int32))] [(.int (2 : Int32))])) (fun t k => X95.arraylength hx Ar96.1 (State.isArrayOf_alike hZ.alike Ar96.2.1) (g := (mkF m 128 #[.val (.long q0), .second, .val (.long q1), .second, .val (.long q2), .second, .val (.int p3), .val (.int (3 : Int32)), .val (.ref b47), .val (.ref r95), .val (.int (2 : Int32))] [(.ref r95)])) rfl rfl (hb hby at_128) t (by rw [len_of Sa96 Na96]; exact k)) ?_
            refine OEnds.go (g' := (mkF m 131 #[.val (.long q0), .second, .val (.long q1), .second, .val (.long q2), .second, .val (.int p3), .val (.int (3 : Int32)), .val (.ref b47), .val (.ref r95), .val (.int (2 : Int32))] [(.int (2 : Int32)), (.int (2 : Int32))])) (fun t k => XS.iload X95.here hx rfl (hb hby at_129) rfl k) ?_
            refine OEnds.go (g' := (mkF m 136 #[.val (.long q0), .second, .val (.long q1), .second, .val (.long q2), .second, .val (.int p3), .val (.int (3 : Int32)), .val (.ref b47), .val (.ref r95), .val (.int (2 : Int32))] [])) (fun t k => XS.icmpYes X95.here hx rfl (pc0 := 131) (pc' := 136) rfl (hb hby at_131) rfl (teq (by decide : ((2 : Int32) = (2 : Int32)))).1 (by decide) (by decide) k) ?_
            refine OEnds.go (g' := (mkF m 138 #[.val (.long q0), .second, .val (.long q1), .second, .val (.long q2), .second, .val (.int p3), .val (.int (3 : Int32)), .val (.ref b47), .val (.ref r95), .val (.int (2 : Int32))] [(.int (3 : Int32))])) (fun t k => XS.iload X95.here hx rfl (hb hby at_136) rfl k) ?_
            refine OEnds.go (g' := (mkF m 139 #[.val (.long q0), .second, .val (.long q1), .second, .val (.long q2), .second, .val (.int p3), .val (.int (3 : Int32)), .val (.ref b47), .val (.ref r95), .val (.int (2 : Int32))] [(.int (1 : Int32)), (.int (3 : Int32))])) (fun t k => XS.iconst X95.here hx rfl (hb hby at_138) k) ?_
            refine OEnds.go (g' := (mkF m 142 #[.val (.long q0), .second, .val (.long q1), .second, .val (.long q2), .second, .val (.int p3), .val (.int (3 : Int32)), .val (.ref b47), .val (.ref r95), .val (.int (2 : Int32))] [])) (fun t k => XS.icmpNo X95.here hx rfl (hb hby at_139) rfl (flt (by decide : ¬ ((3 : Int32) < (1 : Int32)))).1 k) ?_
            refine OEnds.go (g' := (mkF m 144 #[.val (.long q0), .second, .val (.long q1), .second, .val (.long q2), .second, .val (.int p3), .val (.int (3 : Int32)), .val (.ref b47), .val (.ref r95), .val (.int (2 : Int32))] [(.ref r95)])) (fun t k => XS.aload X95.here hx rfl (hb hby at_142) rfl rfl k) ?_
            refine OEnds.go (g' := (mkF m 145 #[.val (.long q0), .second, .val (.long q1), .second, .val (.long q2), .second, .val (.int p3), .val (.int (3 : Int32)), .val (.ref b47), .val (.ref r95), .val (.int (2 : Int32))] [(.long q0), (.ref r95)])) (fun t k => XS.lloadN X95.here hx rfl (hb hby at_144) rfl k) ?_
            obtain ⟨_, _, ⟨T97, L97, k97, n97⟩, -, X97, ⟨Lc97, hQ97, l97, y97, z97⟩, st97⟩ := Jvm.LawKit.callS X95 hx (y := (⟨"com/example/slimheap/slimheap/hprof/IdMapIdsPinLaw", "has", "([JJ)Z"⟩ : MethodName)) hown (mvT hZ (hw _ (List.mem_of_getElem? (i := 41) rfl))) (mvT hZ (hw _ (List.mem_of_getElem? (i := 42) rfl))) (mvT hZ (hw _ (List.mem_of_getElem? (i := 43) rfl))) (mvT hZ (hw _ (List.mem_of_getElem? (i := 44) rfl))) (by decide) (backOf (W := 0) (rmH2 l Z a0 hw [] r95 q0 kr95 (rr95 (0 : Int32)) (rr95 (1 : Int32)) T95.heap n0 (Nat.le_trans (Nat.le_trans (Nat.le_trans (Nat.le_trans (Nat.le_trans (Nat.le_trans Z0 E47.1) K48q.1) K50q.1) K52q.1) K94q.1) K95q.1) VR95) hZ (hw _ (List.mem_of_getElem? (i := 44) rfl)) (hw _ (List.mem_of_getElem? (i := 43) rfl)) (by decide) (by decide)) (g := (mkF m 145 #[.val (.long q0), .second, .val (.long q1), .second, .val (.long q2), .second, .val (.int p3), .val (.int (3 : Int32)), .val (.ref b47), .val (.ref r95), .val (.int (2 : Int32))] [(.long q0), (.ref r95)])) rfl (by rw [hml]; rfl) (argsL := [(.ref r95), (.long q0)]) (rest := []) (lenOf pd_5 rfl) rfl (by show 2 * 0 + _ ≤ _; exact Nat.le_of_eq rfl) (hb hby at_145) (fun _ _ => ⟨rfl, rfl, (by decide : 4 + 0 ≤ _), (by decide : 133 + 0 ≤ _)⟩)
            dsimp only [Pt.U, Pt.locs, Pt.cells, Pt.slots] at X97 l97 y97 z97 st97 hQ97
            subst l97 y97 z97
            obtain ⟨rfl, N97q, e97⟩ := hQ97
            have N97 := Fr.app N95 N97q
            refine OEnds.go (g' := (mkF m 148 #[.val (.long q0), .second, .val (.long q1), .second, .val (.long q2), .second, .val (.int p3), .val (.int (3 : Int32)), .val (.ref b47), .val (.ref r95), .val (.int (2 : Int32))] [(.int (fH2 q0 (rr95 (0 : Int32)) (rr95 (1 : Int32))))])) st97 ?_
            refine OEnds.go (g' := (mkF m 153 #[.val (.long q0), .second, .val (.long q1), .second, .val (.long q2), .second, .val (.int p3), .val (.int (3 : Int32)), .val (.ref b47), .val (.ref r95), .val (.int (2 : Int32))] [])) (fun t k => XS.ifYes X97.here hx rfl (pc0 := 148) (pc' := 153) rfl (hb hby at_148) rfl ((if0 _ _).trans (feq (own_has2 _ _ _ (pm95.mem_iff.mpr (by simp [t52])) : ¬ ((fH2 q0 (rr95 (0 : Int32)) (rr95 (1 : Int32))) = (0 : Int32)))).2) (by decide) (by decide) k) ?_
            refine OEnds.go (g' := (mkF m 155 #[.val (.long q0), .second, .val (.long q1), .second, .val (.long q2), .second, .val (.int p3), .val (.int (3 : Int32)), .val (.ref b47), .val (.ref r95), .val (.int (2 : Int32))] [(.int (3 : Int32))])) (fun t k => XS.iload X97.here hx rfl (hb hby at_153) rfl k) ?_
            refine OEnds.go (g' := (mkF m 156 #[.val (.long q0), .second, .val (.long q1), .second, .val (.long q2), .second, .val (.int p3), .val (.int (3 : Int32)), .val (.ref b47), .val (.ref r95), .val (.int (2 : Int32))] [(.int (2 : Int32)), (.int (3 : Int32))])) (fun t k => XS.iconst X97.here hx rfl (hb hby at_155) k) ?_
            refine OEnds.go (g' := (mkF m 159 #[.val (.long q0), .second, .val (.long q1), .second, .val (.long q2), .second, .val (.int p3), .val (.int (3 : Int32)), .val (.ref b47), .val (.ref r95), .val (.int (2 : Int32))] [])) (fun t k => XS.icmpNo X97.here hx rfl (hb hby at_156) rfl (flt (by decide : ¬ ((3 : Int32) < (2 : Int32)))).1 k) ?_
            refine OEnds.go (g' := (mkF m 161 #[.val (.long q0), .second, .val (.long q1), .second, .val (.long q2), .second, .val (.int p3), .val (.int (3 : Int32)), .val (.ref b47), .val (.ref r95), .val (.int (2 : Int32))] [(.ref r95)])) (fun t k => XS.aload X97.here hx rfl (hb hby at_159) rfl rfl k) ?_
            refine OEnds.go (g' := (mkF m 162 #[.val (.long q0), .second, .val (.long q1), .second, .val (.long q2), .second, .val (.int p3), .val (.int (3 : Int32)), .val (.ref b47), .val (.ref r95), .val (.int (2 : Int32))] [(.long q1), (.ref r95)])) (fun t k => XS.lloadN X97.here hx rfl (hb hby at_161) rfl k) ?_
            obtain ⟨_, _, ⟨T98, L98, k98, n98⟩, -, X98, ⟨Lc98, hQ98, l98, y98, z98⟩, st98⟩ := Jvm.LawKit.callS X97 hx (y := (⟨"com/example/slimheap/slimheap/hprof/IdMapIdsPinLaw", "has", "([JJ)Z"⟩ : MethodName)) hown (mvT hZ (hw _ (List.mem_of_getElem? (i := 41) rfl))) (mvT hZ (hw _ (List.mem_of_getElem? (i := 42) rfl))) (mvT hZ (hw _ (List.mem_of_getElem? (i := 43) rfl))) (mvT hZ (hw _ (List.mem_of_getElem? (i := 44) rfl))) (by decide) (backOf (W := 0) (rmH2 l Z a0 hw [] r95 q1 kr95 (rr95 (0 : Int32)) (rr95 (1 : Int32)) T95.heap n0 (Nat.le_trans (Nat.le_trans (Nat.le_trans (Nat.le_trans (Nat.le_trans (Nat.le_trans Z0 E47.1) K48q.1) K50q.1) K52q.1) K94q.1) K95q.1) VR95) hZ (hw _ (List.mem_of_getElem? (i := 44) rfl)) (hw _ (List.mem_of_getElem? (i := 43) rfl)) (by decide) (by decide)) (g := (mkF m 162 #[.val (.long q0), .second, .val (.long q1), .second, .val (.long q2), .second, .val (.int p3), .val (.int (3 : Int32)), .val (.ref b47), .val (.ref r95), .val (.int (2 : Int32))] [(.long q1), (.ref r95)])) rfl (by rw [hml]; rfl) (argsL := [(.ref r95), (.long q1)]) (rest := []) (lenOf pd_5 rfl) rfl (by show 2 * 0 + _ ≤ _; exact Nat.le_of_eq rfl) (hb hby at_162) (fun _ _ => ⟨rfl, e97, (by decide : 4 + 0 ≤ _), (by decide : 133 + 0 ≤ _)⟩)
            dsimp only [Pt.U, Pt.locs, Pt.cells, Pt.slots] at X98 l98 y98 z98 st98 hQ98
            subst l98 y98 z98
            obtain ⟨rfl, N98q, e98⟩ := hQ98
            have N98 := Fr.app N97 N98q
            refine OEnds.go (g' := (mkF m 165 #[.val (.long q0), .second, .val (.long q1), .second, .val (.long q2), .second, .val (.int p3), .val (.int (3 : Int32)), .val (.ref b47), .val (.ref r95), .val (.int (2 : Int32))] [(.int (fH2 q1 (rr95 (0 : Int32)) (rr95 (1 : Int32))))])) st98 ?_
            refine OEnds.go (g' := (mkF m 170 #[.val (.long q0), .second, .val (.long q1), .second, .val (.long q2), .second, .val (.int p3), .val (.int (3 : Int32)), .val (.ref b47), .val (.ref r95), .val (.int (2 : Int32))] [])) (fun t k => XS.ifYes X98.here hx rfl (pc0 := 165) (pc' := 170) rfl (hb hby at_165) rfl ((if0 _ _).trans (feq (own_has2 _ _ _ (pm95.mem_iff.mpr (by simp [t52])) : ¬ ((fH2 q1 (rr95 (0 : Int32)) (rr95 (1 : Int32))) = (0 : Int32)))).2) (by decide) (by decide) k) ?_
            refine OEnds.go (g' := (mkF m 172 #[.val (.long q0), .second, .val (.long q1), .second, .val (.long q2), .second, .val (.int p3), .val (.int (3 : Int32)), .val (.ref b47), .val (.ref r95), .val (.int (2 : Int32))] [(.int (3 : Int32))])) (fun t k => XS.iload X98.here hx rfl (hb hby at_170) rfl k) ?_
            refine OEnds.go (g' := (mkF m 173 #[.val (.long q0), .second, .val (.long q1), .second, .val (.long q2), .second, .val (.int p3), .val (.int (3 : Int32)), .val (.ref b47), .val (.ref r95), .val (.int (2 : Int32))] [(.int (3 : Int32)), (.int (3 : Int32))])) (fun t k => XS.iconst X98.here hx rfl (hb hby at_172) k) ?_
            refine OEnds.go (g' := (mkF m 176 #[.val (.long q0), .second, .val (.long q1), .second, .val (.long q2), .second, .val (.int p3), .val (.int (3 : Int32)), .val (.ref b47), .val (.ref r95), .val (.int (2 : Int32))] [])) (fun t k => XS.icmpNo X98.here hx rfl (hb hby at_173) rfl (flt (by decide : ¬ ((3 : Int32) < (3 : Int32)))).1 k) ?_
            refine OEnds.go (g' := (mkF m 178 #[.val (.long q0), .second, .val (.long q1), .second, .val (.long q2), .second, .val (.int p3), .val (.int (3 : Int32)), .val (.ref b47), .val (.ref r95), .val (.int (2 : Int32))] [(.ref r95)])) (fun t k => XS.aload X98.here hx rfl (hb hby at_176) rfl rfl k) ?_
            refine OEnds.go (g' := (mkF m 180 #[.val (.long q0), .second, .val (.long q1), .second, .val (.long q2), .second, .val (.int p3), .val (.int (3 : Int32)), .val (.ref b47), .val (.ref r95), .val (.int (2 : Int32))] [(.long q2), (.ref r95)])) (fun t k => XS.lload X98.here hx rfl (hb hby at_178) rfl k) ?_
            obtain ⟨_, _, ⟨T99, L99, k99, n99⟩, -, X99, ⟨Lc99, hQ99, l99, y99, z99⟩, st99⟩ := Jvm.LawKit.callS X98 hx (y := (⟨"com/example/slimheap/slimheap/hprof/IdMapIdsPinLaw", "has", "([JJ)Z"⟩ : MethodName)) hown (mvT hZ (hw _ (List.mem_of_getElem? (i := 41) rfl))) (mvT hZ (hw _ (List.mem_of_getElem? (i := 42) rfl))) (mvT hZ (hw _ (List.mem_of_getElem? (i := 43) rfl))) (mvT hZ (hw _ (List.mem_of_getElem? (i := 44) rfl))) (by decide) (backOf (W := 0) (rmH2 l Z a0 hw [] r95 q2 kr95 (rr95 (0 : Int32)) (rr95 (1 : Int32)) T95.heap n0 (Nat.le_trans (Nat.le_trans (Nat.le_trans (Nat.le_trans (Nat.le_trans (Nat.le_trans Z0 E47.1) K48q.1) K50q.1) K52q.1) K94q.1) K95q.1) VR95) hZ (hw _ (List.mem_of_getElem? (i := 44) rfl)) (hw _ (List.mem_of_getElem? (i := 43) rfl)) (by decide) (by decide)) (g := (mkF m 180 #[.val (.long q0), .second, .val (.long q1), .second, .val (.long q2), .second, .val (.int p3), .val (.int (3 : Int32)), .val (.ref b47), .val (.ref r95), .val (.int (2 : Int32))] [(.long q2), (.ref r95)])) rfl (by rw [hml]; rfl) (argsL := [(.ref r95), (.long q2)]) (rest := []) (lenOf pd_5 rfl) rfl (by show 2 * 0 + _ ≤ _; exact Nat.le_of_eq rfl) (hb hby at_180) (fun _ _ => ⟨rfl, e98, (by decide : 4 + 0 ≤ _), (by decide : 133 + 0 ≤ _)⟩)
            dsimp only [Pt.U, Pt.locs, Pt.cells, Pt.slots] at X99 l99 y99 z99 st99 hQ99
            subst l99 y99 z99
            obtain ⟨rfl, N99q, e99⟩ := hQ99
            have N99 := Fr.app N98 N99q
            refine OEnds.go (g' := (mkF m 183 #[.val (.long q0), .second, .val (.long q1), .second, .val (.long q2), .second, .val (.int p3), .val (.int (3 : Int32)), .val (.ref b47), .val (.ref r95), .val (.int (2 : Int32))] [(.int (fH2 q2 (rr95 (0 : Int32)) (rr95 (1 : Int32))))])) st99 ?_
            refine OEnds.go (g' := (mkF m 188 #[.val (.long q0), .second, .val (.long q1), .second, .val (.long q2), .second, .val (.int p3), .val (.int (3 : Int32)), .val (.ref b47), .val (.ref r95), .val (.int (2 : Int32))] [])) (fun t k => XS.ifYes X99.here hx rfl (pc0 := 183) (pc' := 188) rfl (hb hby at_183) rfl ((if0 _ _).trans (feq (own_has2 _ _ _ (pm95.mem_iff.mpr (by simp [t52])) : ¬ ((fH2 q2 (rr95 (0 : Int32)) (rr95 (1 : Int32))) = (0 : Int32)))).2) (by decide) (by decide) k) ?_
            refine OEnds.go (g' := (mkF m 190 #[.val (.long q0), .second, .val (.long q1), .second, .val (.long q2), .second, .val (.int p3), .val (.int (3 : Int32)), .val (.ref b47), .val (.ref r95), .val (.int (2 : Int32))] [(.ref r95)])) (fun t k => XS.aload X99.here hx rfl (hb hby at_188) rfl rfl k) ?_
            obtain ⟨cl100, Ar100, qa100, Sa100, Na100, Ha100, Ga100⟩ := @id _ VR95
            refine OEnds.go (g' := (mkF m 191 #[.val (.long q0), .second, .val (.long q1), .second, .val (.long q2), .second, .val (.int p3), .val (.int (3 : Int32)), .val (.ref b47), .val (.ref r95), .val (.int (2 : Int32))] [(.int (2 : Int32))])) (fun t k => X99.arraylength hx (by rw [e99]; exact Ar100.1) (State.isArrayOf_alike hZ.alike Ar100.2.1) (g := (mkF m 190 #[.val (.long q0), .second, .val (.long q1), .second, .val (.long q2), .second, .val (.int p3), .val (.int (3 : Int32)), .val (.ref b47), .val (.ref r95), .val (.int (2 : Int32))] [(.ref r95)])) rfl rfl (hb hby at_190) t (by rw [len_of Sa100 Na100]; exact k)) ?_
            refine OEnds.go (g' := (mkF m 194 #[.val (.long q0), .second, .val (.long q1), .second, .val (.long q2), .second, .val (.int p3), .val (.int (3 : Int32)), .val (.ref b47), .val (.ref r95), .val (.int (2 : Int32))] [])) (fun t k => XS.ifNo X99.here hx rfl (hb hby at_191) rfl ((if0 _ _).trans (tlt (by decide : ((0 : Int32) < (2 : Int32)))).2.2.2) k) ?_
            refine OEnds.go (g' := (mkF m 196 #[.val (.long q0), .second, .val (.long q1), .second, .val (.long q2), .second, .val (.int p3), .val (.int (3 : Int32)), .val (.ref b47), .val (.ref r95), .val (.int (2 : Int32))] [(.ref r95)])) (fun t k => XS.aload X99.here hx rfl (hb hby at_194) rfl rfl k) ?_
            refine OEnds.go (g' := (mkF m 197 #[.val (.long q0), .second, .val (.long q1), .second, .val (.long q2), .second, .val (.int p3), .val (.int (3 : Int32)), .val (.ref b47), .val (.ref r95), .val (.int (2 : Int32))] [(.int (0 : Int32)), (.ref r95)])) (fun t k => XS.iconst X99.here hx rfl (hb hby at_196) k) ?_
            obtain ⟨cl101, Ar101, qa101, Sa101, Na101, Ha101, Ga101⟩ := @id _ VR95
            have hin101 : ¬ ((0 : Int32) < 0 ∨ cl101.slots.size ≤ ((0 : Int32)).toNatClampNeg) := inb_of Sa101 ⟨by decide, by decide⟩
            have hat101 : cl101.slots[((0 : Int32)).toNatClampNeg]? = some (.long (rr95 (0 : Int32))) := Has.at Ha101 hin101 rfl
            refine OEnds.go (g' := (mkF m 198 #[.val (.long q0), .second, .val (.long q1), .second, .val (.long q2), .second, .val (.int p3), .val (.int (3 : Int32)), .val (.ref b47), .val (.ref r95), .val (.int (2 : Int32))] [(.long (rr95 (0 : Int32)))])) (X99.laload hx (j := (0 : Int32)) (v := (.long (rr95 (0 : Int32)))) (by rw [e99]; exact Ar101.1) (State.isArrayOf_alike hZ.alike Ar101.2.1) Ar101.2.2 hin101 hat101 (g := (mkF m 197 #[.val (.long q0), .second, .val (.long q1), .second, .val (.long q2), .second, .val (.int p3), .val (.int (3 : Int32)), .val (.ref b47), .val (.ref r95), .val (.int (2 : Int32))] [(.int (0 : Int32)), (.ref r95)])) rfl rfl (hb hby at_197)) ?_
            refine OEnds.go (g' := (mkF m 200 #[.val (.long q0), .second, .val (.long q1), .second, .val (.long q2), .second, .val (.int p3), .val (.int (3 : Int32)), .val (.ref b47), .val (.ref r95), .val (.int (2 : Int32))] [(.int (3 : Int32)), (.long (rr95 (0 : Int32)))])) (fun t k => XS.iload X99.here hx rfl (hb hby at_198) rfl k) ?_
            refine OEnds.go (g' := (mkF m 201 #[.val (.long q0), .second, .val (.long q1), .second, .val (.long q2), .second, .val (.int p3), .val (.int (3 : Int32)), .val (.ref b47), .val (.ref r95), .val (.int (2 : Int32))] [(.long q0), (.int (3 : Int32)), (.long (rr95 (0 : Int32)))])) (fun t k => XS.lloadN X99.here hx rfl (hb hby at_200) rfl k) ?_
            refine OEnds.go (g' := (mkF m 202 #[.val (.long q0), .second, .val (.long q1), .second, .val (.long q2), .second, .val (.int p3), .val (.int (3 : Int32)), .val (.ref b47), .val (.ref r95), .val (.int (2 : Int32))] [(.long q1), (.long q0), (.int (3 : Int32)), (.long (rr95 (0 : Int32)))])) (fun t k => XS.lloadN X99.here hx rfl (hb hby at_201) rfl k) ?_
            refine OEnds.go (g' := (mkF m 204 #[.val (.long q0), .second, .val (.long q1), .second, .val (.long q2), .second, .val (.int p3), .val (.int (3 : Int32)), .val (.ref b47), .val (.ref r95), .val (.int (2 : Int32))] [(.long q2), (.long q1), (.long q0), (.int (3 : Int32)), (.long (rr95 (0 : Int32)))])) (fun t k => XS.lload X99.here hx rfl (hb hby at_202) rfl k) ?_
            obtain ⟨_, _, ⟨T102, L102, k102, n102⟩, -, X102, ⟨Lc102, hQ102, l102, y102, z102⟩, st102⟩ := Jvm.LawKit.callS X99 hx (y := (⟨"com/example/slimheap/slimheap/hprof/IdMapIdsPinLaw", "inSet", "(JIJJJ)Z"⟩ : MethodName)) hown (mvT hZ (hw _ (List.mem_of_getElem? (i := 45) rfl))) (mvT hZ (hw _ (List.mem_of_getElem? (i := 46) rfl))) (mvT hZ (hw _ (List.mem_of_getElem? (i := 43) rfl))) (mvT hZ (hw _ (List.mem_of_getElem? (i := 47) rfl))) (by decide) (backOf (W := 0) (rm8 l Z a0 hw [] (rr95 (0 : Int32)) (3 : Int32) q0 q1 q2 T95.heap n0 (Nat.le_trans (Nat.le_trans (Nat.le_trans (Nat.le_trans (Nat.le_trans (Nat.le_trans Z0 E47.1) K48q.1) K50q.1) K52q.1) K94q.1) K95q.1)) hZ (hw _ (List.mem_of_getElem? (i := 47) rfl)) (hw _ (List.mem_of_getElem? (i := 43) rfl)) (by decide) (by decide)) (g := (mkF m 204 #[.val (.long q0), .second, .val (.long q1), .second, .val (.long q2), .second, .val (.int p3), .val (.int (3 : Int32)), .val (.ref b47), .val (.ref r95), .val (.int (2 : Int32))] [(.long q2), (.long q1), (.long q0), (.int (3 : Int32)), (.long (rr95 (0 : Int32)))])) rfl (by rw [hml]; rfl) (argsL := [(.long (rr95 (0 : Int32))), (.int (3 : Int32)), (.long q0), (.long q1), (.long q2)]) (rest := []) (lenOf pd_6 rfl) rfl (by show 2 * 0 + _ ≤ _; exact Nat.le_of_eq rfl) (hb hby at_204) (fun _ _ => ⟨rfl, e99, (by decide : 4 + 0 ≤ _), (by decide : 133 + 0 ≤ _)⟩)
            dsimp only [Pt.U, Pt.locs, Pt.cells, Pt.slots] at X102 l102 y102 z102 st102 hQ102
            subst l102 y102 z102
            obtain ⟨rfl, N102q, e102⟩ := hQ102
            have N102 := Fr.app N99 N102q
            refine OEnds.go (g' := (mkF m 207 #[.val (.long q0), .second, .val (.long q1), .second, .val (.long q2), .second, .val (.int p3), .val (.int (3 : Int32)), .val (.ref b47), .val (.ref r95), .val (.int (2 : Int32))] [(.int (f8 (rr95 (0 : Int32)) (3 : Int32) q0 q1 q2))])) st102 ?_
            refine OEnds.go (g' := (mkF m 212 #[.val (.long q0), .second, .val (.long q1), .second, .val (.long q2), .second, .val (.int p3), .val (.int (3 : Int32)), .val (.ref b47), .val (.ref r95), .val (.int (2 : Int32))] [])) (fun t k => XS.ifYes X102.here hx rfl (pc0 := 207) (pc' := 212) rfl (hb hby at_207) rfl ((if0 _ _).trans (feq (own_set3 _ _ _ _ (by have t := pm95.mem_iff.mp (show (rr95 (0 : Int32)) ∈ ([(rr95 (0 : Int32)), (rr95 (1 : Int32))] : List Int64) from by simp); simp only [List.mem_cons, List.not_mem_nil, or_false] at t; first | (rcases t with t | t | t <;> simp [t]; done) | (rcases t with t | t <;> simp [t]; done) | (simp [t]; done)) : ¬ ((f8 (rr95 (0 : Int32)) (3 : Int32) q0 q1 q2) = (0 : Int32)))).2) (by decide) (by decide) k) ?_
            refine OEnds.go (g' := (mkF m 214 #[.val (.long q0), .second, .val (.long q1), .second, .val (.long q2), .second, .val (.int p3), .val (.int (3 : Int32)), .val (.ref b47), .val (.ref r95), .val (.int (2 : Int32))] [(.ref r95)])) (fun t k => XS.aload X102.here hx rfl (hb hby at_212) rfl rfl k) ?_
            obtain ⟨cl103, Ar103, qa103, Sa103, Na103, Ha103, Ga103⟩ := @id _ VR95
            refine OEnds.go (g' := (mkF m 215 #[.val (.long q0), .second, .val (.long q1), .second, .val (.long q2), .second, .val (.int p3), .val (.int (3 : Int32)), .val (.ref b47), .val (.ref r95), .val (.int (2 : Int32))] [(.int (2 : Int32))])) (fun t k => X102.arraylength hx (by rw [e102]; exact Ar103.1) (State.isArrayOf_alike hZ.alike Ar103.2.1) (g := (mkF m 214 #[.val (.long q0), .second, .val (.long q1), .second, .val (.long q2), .second, .val (.int p3), .val (.int (3 : Int32)), .val (.ref b47), .val (.ref r95), .val (.int (2 : Int32))] [(.ref r95)])) rfl rfl (hb hby at_214) t (by rw [len_of Sa103 Na103]; exact k)) ?_
            refine OEnds.go (g' := (mkF m 216 #[.val (.long q0), .second, .val (.long q1), .second, .val (.long q2), .second, .val (.int p3), .val (.int (3 : Int32)), .val (.ref b47), .val (.ref r95), .val (.int (2 : Int32))] [(.int (1 : Int32)), (.int (2 : Int32))])) (fun t k => XS.iconst X102.here hx rfl (hb hby at_215) k) ?_
            refine OEnds.go (g' := (mkF m 219 #[.val (.long q0), .second, .val (.long q1), .second, .val (.long q2), .second, .val (.int p3), .val (.int (3 : Int32)), .val (.ref b47), .val (.ref r95), .val (.int (2 : Int32))] [])) (fun t k => XS.icmpNo X102.here hx rfl (hb hby at_216) rfl (tlt (by decide : ((1 : Int32) < (2 : Int32)))).2.2.2 k) ?_
            refine OEnds.go (g' := (mkF m 221 #[.val (.long q0), .second, .val (.long q1), .second, .val (.long q2), .second, .val (.int p3), .val (.int (3 : Int32)), .val (.ref b47), .val (.ref r95), .val (.int (2 : Int32))] [(.ref r95)])) (fun t k => XS.aload X102.here hx rfl (hb hby at_219) rfl rfl k) ?_
            refine OEnds.go (g' := (mkF m 222 #[.val (.long q0), .second, .val (.long q1), .second, .val (.long q2), .second, .val (.int p3), .val (.int (3 : Int32)), .val (.ref b47), .val (.ref r95), .val (.int (2 : Int32))] [(.int (1 : Int32)), (.ref r95)])) (fun t k => XS.iconst X102.here hx rfl (hb hby at_221) k) ?_
            obtain ⟨cl104, Ar104, qa104, Sa104, Na104, Ha104, Ga104⟩ := @id _ VR95
            have hin104 : ¬ ((1 : Int32) < 0 ∨ cl104.slots.size ≤ ((1 : Int32)).toNatClampNeg) := inb_of Sa104 ⟨by decide, by decide⟩
            have hat104 : cl104.slots[((1 : Int32)).toNatClampNeg]? = some (.long (rr95 (1 : Int32))) := Has.at Ha104 hin104 rfl
            refine OEnds.go (g' := (mkF m 223 #[.val (.long q0), .second, .val (.long q1), .second, .val (.long q2), .second, .val (.int p3), .val (.int (3 : Int32)), .val (.ref b47), .val (.ref r95), .val (.int (2 : Int32))] [(.long (rr95 (1 : Int32)))])) (X102.laload hx (j := (1 : Int32)) (v := (.long (rr95 (1 : Int32)))) (by rw [e102]; exact Ar104.1) (State.isArrayOf_alike hZ.alike Ar104.2.1) Ar104.2.2 hin104 hat104 (g := (mkF m 222 #[.val (.long q0), .second, .val (.long q1), .second, .val (.long q2), .second, .val (.int p3), .val (.int (3 : Int32)), .val (.ref b47), .val (.ref r95), .val (.int (2 : Int32))] [(.int (1 : Int32)), (.ref r95)])) rfl rfl (hb hby at_222)) ?_
            refine OEnds.go (g' := (mkF m 225 #[.val (.long q0), .second, .val (.long q1), .second, .val (.long q2), .second, .val (.int p3), .val (.int (3 : Int32)), .val (.ref b47), .val (.ref r95), .val (.int (2 : Int32))] [(.int (3 : Int32)), (.long (rr95 (1 : Int32)))])) (fun t k => XS.iload X102.here hx rfl (hb hby at_223) rfl k) ?_
            refine OEnds.go (g' := (mkF m 226 #[.val (.long q0), .second, .val (.long q1), .second, .val (.long q2), .second, .val (.int p3), .val (.int (3 : Int32)), .val (.ref b47), .val (.ref r95), .val (.int (2 : Int32))] [(.long q0), (.int (3 : Int32)), (.long (rr95 (1 : Int32)))])) (fun t k => XS.lloadN X102.here hx rfl (hb hby at_225) rfl k) ?_
            refine OEnds.go (g' := (mkF m 227 #[.val (.long q0), .second, .val (.long q1), .second, .val (.long q2), .second, .val (.int p3), .val (.int (3 : Int32)), .val (.ref b47), .val (.ref r95), .val (.int (2 : Int32))] [(.long q1), (.long q0), (.int (3 : Int32)), (.long (rr95 (1 : Int32)))])) (fun t k => XS.lloadN X102.here hx rfl (hb hby at_226) rfl k) ?_
            refine OEnds.go (g' := (mkF m 229 #[.val (.long q0), .second, .val (.long q1), .second, .val (.long q2), .second, .val (.int p3), .val (.int (3 : Int32)), .val (.ref b47), .val (.ref r95), .val (.int (2 : Int32))] [(.long q2), (.long q1), (.long q0), (.int (3 : Int32)), (.long (rr95 (1 : Int32)))])) (fun t k => XS.lload X102.here hx rfl (hb hby at_227) rfl k) ?_
            obtain ⟨_, _, ⟨T105, L105, k105, n105⟩, -, X105, ⟨Lc105, hQ105, l105, y105, z105⟩, st105⟩ := Jvm.LawKit.callS X102 hx (y := (⟨"com/example/slimheap/slimheap/hprof/IdMapIdsPinLaw", "inSet", "(JIJJJ)Z"⟩ : MethodName)) hown (mvT hZ (hw _ (List.mem_of_getElem? (i := 45) rfl))) (mvT hZ (hw _ (List.mem_of_getElem? (i := 46) rfl))) (mvT hZ (hw _ (List.mem_of_getElem? (i := 43) rfl))) (mvT hZ (hw _ (List.mem_of_getElem? (i := 47) rfl))) (by decide) (backOf (W := 0) (rm8 l Z a0 hw [] (rr95 (1 : Int32)) (3 : Int32) q0 q1 q2 T95.heap n0 (Nat.le_trans (Nat.le_trans (Nat.le_trans (Nat.le_trans (Nat.le_trans (Nat.le_trans Z0 E47.1) K48q.1) K50q.1) K52q.1) K94q.1) K95q.1)) hZ (hw _ (List.mem_of_getElem? (i := 47) rfl)) (hw _ (List.mem_of_getElem? (i := 43) rfl)) (by decide) (by decide)) (g := (mkF m 229 #[.val (.long q0), .second, .val (.long q1), .second, .val (.long q2), .second, .val (.int p3), .val (.int (3 : Int32)), .val (.ref b47), .val (.ref r95), .val (.int (2 : Int32))] [(.long q2), (.long q1), (.long q0), (.int (3 : Int32)), (.long (rr95 (1 : Int32)))])) rfl (by rw [hml]; rfl) (argsL := [(.long (rr95 (1 : Int32))), (.int (3 : Int32)), (.long q0), (.long q1), (.long q2)]) (rest := []) (lenOf pd_6 rfl) rfl (by show 2 * 0 + _ ≤ _; exact Nat.le_of_eq rfl) (hb hby at_229) (fun _ _ => ⟨rfl, e102, (by decide : 4 + 0 ≤ _), (by decide : 133 + 0 ≤ _)⟩)
            dsimp only [Pt.U, Pt.locs, Pt.cells, Pt.slots] at X105 l105 y105 z105 st105 hQ105
            subst l105 y105 z105
            obtain ⟨rfl, N105q, e105⟩ := hQ105
            have N105 := Fr.app N102 N105q
            refine OEnds.go (g' := (mkF m 232 #[.val (.long q0), .second, .val (.long q1), .second, .val (.long q2), .second, .val (.int p3), .val (.int (3 : Int32)), .val (.ref b47), .val (.ref r95), .val (.int (2 : Int32))] [(.int (f8 (rr95 (1 : Int32)) (3 : Int32) q0 q1 q2))])) st105 ?_
            refine OEnds.go (g' := (mkF m 237 #[.val (.long q0), .second, .val (.long q1), .second, .val (.long q2), .second, .val (.int p3), .val (.int (3 : Int32)), .val (.ref b47), .val (.ref r95), .val (.int (2 : Int32))] [])) (fun t k => XS.ifYes X105.here hx rfl (pc0 := 232) (pc' := 237) rfl (hb hby at_232) rfl ((if0 _ _).trans (feq (own_set3 _ _ _ _ (by have t := pm95.mem_iff.mp (show (rr95 (1 : Int32)) ∈ ([(rr95 (0 : Int32)), (rr95 (1 : Int32))] : List Int64) from by simp); simp only [List.mem_cons, List.not_mem_nil, or_false] at t; first | (rcases t with t | t | t <;> simp [t]; done) | (rcases t with t | t <;> simp [t]; done) | (simp [t]; done)) : ¬ ((f8 (rr95 (1 : Int32)) (3 : Int32) q0 q1 q2) = (0 : Int32)))).2) (by decide) (by decide) k) ?_
            refine OEnds.go (g' := (mkF m 239 #[.val (.long q0), .second, .val (.long q1), .second, .val (.long q2), .second, .val (.int p3), .val (.int (3 : Int32)), .val (.ref b47), .val (.ref r95), .val (.int (2 : Int32))] [(.ref r95)])) (fun t k => XS.aload X105.here hx rfl (hb hby at_237) rfl rfl k) ?_
            obtain ⟨cl106, Ar106, qa106, Sa106, Na106, Ha106, Ga106⟩ := @id _ VR95
            refine OEnds.go (g' := (mkF m 240 #[.val (.long q0), .second, .val (.long q1), .second, .val (.long q2), .second, .val (.int p3), .val (.int (3 : Int32)), .val (.ref b47), .val (.ref r95), .val (.int (2 : Int32))] [(.int (2 : Int32))])) (fun t k => X105.arraylength hx (by rw [e105]; exact Ar106.1) (State.isArrayOf_alike hZ.alike Ar106.2.1) (g := (mkF m 239 #[.val (.long q0), .second, .val (.long q1), .second, .val (.long q2), .second, .val (.int p3), .val (.int (3 : Int32)), .val (.ref b47), .val (.ref r95), .val (.int (2 : Int32))] [(.ref r95)])) rfl rfl (hb hby at_239) t (by rw [len_of Sa106 Na106]; exact k)) ?_
            refine OEnds.go (g' := (mkF m 241 #[.val (.long q0), .second, .val (.long q1), .second, .val (.long q2), .second, .val (.int p3), .val (.int (3 : Int32)), .val (.ref b47), .val (.ref r95), .val (.int (2 : Int32))] [(.int (2 : Int32)), (.int (2 : Int32))])) (fun t k => XS.iconst X105.here hx rfl (hb hby at_240) k) ?_
            refine OEnds.go (g' := (mkF m 262 #[.val (.long q0), .second, .val (.long q1), .second, .val (.long q2), .second, .val (.int p3), .val (.int (3 : Int32)), .val (.ref b47), .val (.ref r95), .val (.int (2 : Int32))] [])) (fun t k => XS.icmpYes X105.here hx rfl (pc0 := 241) (pc' := 262) rfl (hb hby at_241) rfl (flt (by decide : ¬ ((2 : Int32) < (2 : Int32)))).2.2.2 (by decide) (by decide) k) ?_
            refine OEnds.go (g' := (mkF m 263 #[.val (.long q0), .second, .val (.long q1), .second, .val (.long q2), .second, .val (.int p3), .val (.int (3 : Int32)), .val (.ref b47), .val (.ref r95), .val (.int (2 : Int32))] [(.int (1 : Int32))])) (fun t k => XS.iconst X105.here hx rfl (hb hby at_262) k) ?_
            exact OEnds.outN X105 Bd.notSynchronized hx (t := .boolean) Bd.returns (by simp) (hb hby at_263) ⟨rfl, N105⟩ (by decide) (by decide)
          · -- again
            obtain ⟨nx94, I94⟩ := own_ovr (y := y_3) I52 Fd94 hn94
            rcases (by simpa using own_ids nx94 : q2 = q0) with t94
            · -- q0
              refine OEnds.go (g' := (mkF m 66 #[.val (.long q0), .second, .val (.long q1), .second, .val (.long q2), .second, .val (.int p3), .val (.int (3 : Int32)), .val (.ref b47), .unset, .unset] [(.ref b47)])) (fun t k => XS.aload X94.here hx rfl (hb hby at_64) rfl rfl k) ?_
              obtain ⟨cq107, kq107, q107a, q107b, q107c⟩ := isOf hZ rfl E94q
              obtain ⟨_, _, ⟨T107, L107, k107, n107⟩, -, X107, ⟨Lc107, hQ107, l107, y107, z107⟩, st107⟩ := X94.virtualBack hx (y := (⟨"com/example/slimheap/slimheap/hprof/IdMap", "ids", "()[J"⟩ : MethodName)) (z := (⟨"com/example/slimheap/slimheap/hprof/IdMap", "ids", "()[J"⟩ : MethodName)) hown (mvT hZ (hw _ (List.mem_of_getElem? (i := 36) rfl))) (mvT hZ (hw _ (List.mem_of_getElem? (i := 37) rfl))) (notFace_of_selects (args := #[]) (mvT hZ (hw _ (List.mem_of_getElem? (i := 39) rfl)))) (mvT hZ (hw _ (List.mem_of_getElem? (i := 39) rfl))) (mvT hZ (hw _ (List.mem_of_getElem? (i := 38) rfl))) (by decide) (backOf (W := 0) (rmD1 l Z a0 hw [] b47 ia48 va48 ki48 kv48 (own_u (own_u (own_u (fun _ => .null) j50 (.ref y_1)) j52 (.ref y_2)) j94 (.ref y_3)) (own_u (fun _ => (0 : Int64)) j50 q0) T94.heap n0 (Nat.le_trans (Nat.le_trans (Nat.le_trans (Nat.le_trans (Nat.le_trans Z0 E47.1) K48q.1) K50q.1) K52q.1) K94q.1) Fi94q Fv94q AI94q AV94q Fs94q (own_perm I94).length_eq) hZ (hw _ (List.mem_of_getElem? (i := 40) rfl)) (hw _ (List.mem_of_getElem? (i := 2) rfl)) (by decide) (by decide)) q107a q107c (g := (mkF m 66 #[.val (.long q0), .second, .val (.long q1), .second, .val (.long q2), .second, .val (.int p3), .val (.int (3 : Int32)), .val (.ref b47), .unset, .unset] [(.ref b47)])) rfl (by rw [hml]; rfl) (Steps.refl _) (argsL := []) (rest := []) (lenOf pd_2 rfl) rfl (by show 2 * 0 + _ ≤ _; exact Nat.le_of_eq rfl) (hb hby at_66) (fun _ _ => ⟨rfl, rfl, (by decide : 3 + 1 ≤ _), (by decide : 131 + 1 ≤ _)⟩)
              dsimp only [Pt.U, Pt.locs, Pt.cells, Pt.slots] at X107 l107 y107 z107 st107 hQ107
              subst l107 y107 z107
              obtain ⟨r107, kr107, rr107, rfl, N107q, K107q, AR107, hP107, g_r107⟩ := hQ107
              have N107 := Fr.app N94 N107q
              have VR107 : Arv Z T107.heap r107 kr107 .long (1 : Int32) [(.long (rr107 (0 : Int32)))] (.long (0 : Int64)) := own_Av.arv (n := 1) AR107 (by decide)
              have pm107 : ([(rr107 (0 : Int32))] : List Int64).Perm [q0] := by have t := own_perm I94; have u := own_lits hP107 (own_perm I94).length_eq; rw [u] at t; exact t
              refine OEnds.tr (g' := (mkF m 69 #[.val (.long q0), .second, .val (.long q1), .second, .val (.long q2), .second, .val (.int p3), .val (.int (3 : Int32)), .val (.ref b47), .unset, .unset] [(.ref r107)])) st107 ?_
              refine OEnds.go (g' := (mkF m 71 #[.val (.long q0), .second, .val (.long q1), .second, .val (.long q2), .second, .val (.int p3), .val (.int (3 : Int32)), .val (.ref b47), .val (.ref r107), .unset] [])) (fun t k => XS.astore X107.here hx rfl (hb hby at_69) rfl rfl (l' := #[.val (.long q0), .second, .val (.long q1), .second, .val (.long q2), .second, .val (.int p3), .val (.int (3 : Int32)), .val (.ref b47), .val (.ref r107), .unset]) rfl k) ?_
              refine OEnds.go (g' := (mkF m 72 #[.val (.long q0), .second, .val (.long q1), .second, .val (.long q2), .second, .val (.int p3), .val (.int (3 : Int32)), .val (.ref b47), .val (.ref r107), .unset] [(.int (0 : Int32))])) (fun t k => XS.iconst X107.here hx rfl (hb hby at_71) k) ?_
              refine OEnds.go (g' := (mkF m 74 #[.val (.long q0), .second, .val (.long q1), .second, .val (.long q2), .second, .val (.int p3), .val (.int (3 : Int32)), .val (.ref b47), .val (.ref r107), .val (.int (0 : Int32))] [])) (fun t k => XS.istore X107.here hx rfl (hb hby at_72) rfl (l' := #[.val (.long q0), .second, .val (.long q1), .second, .val (.long q2), .second, .val (.int p3), .val (.int (3 : Int32)), .val (.ref b47), .val (.ref r107), .val (.int (0 : Int32))]) rfl k) ?_
              refine OEnds.go (g' := (mkF m 76 #[.val (.long q0), .second, .val (.long q1), .second, .val (.long q2), .second, .val (.int p3), .val (.int (3 : Int32)), .val (.ref b47), .val (.ref r107), .val (.int (0 : Int32))] [(.int (3 : Int32))])) (fun t k => XS.iload X107.here hx rfl (hb hby at_74) rfl k) ?_
              refine OEnds.go (g' := (mkF m 77 #[.val (.long q0), .second, .val (.long q1), .second, .val (.long q2), .second, .val (.int p3), .val (.int (3 : Int32)), .val (.ref b47), .val (.ref r107), .val (.int (0 : Int32))] [(.int (1 : Int32)), (.int (3 : Int32))])) (fun t k => XS.iconst X107.here hx rfl (hb hby at_76) k) ?_
              refine OEnds.go (g' := (mkF m 80 #[.val (.long q0), .second, .val (.long q1), .second, .val (.long q2), .second, .val (.int p3), .val (.int (3 : Int32)), .val (.ref b47), .val (.ref r107), .val (.int (0 : Int32))] [])) (fun t k => XS.icmpNo X107.here hx rfl (hb hby at_77) rfl (flt (by decide : ¬ ((3 : Int32) < (1 : Int32)))).1 k) ?_
              refine OEnds.go (g' := (mkF m 83 #[.val (.long q0), .second, .val (.long q1), .second, .val (.long q2), .second, .val (.int p3), .val (.int (3 : Int32)), .val (.ref b47), .val (.ref r107), .val (.int ((0 : Int32) + (1 : Int32)))] [])) (fun t k => XS.iinc X107.here hx rfl (hb hby at_80) rfl (l' := #[.val (.long q0), .second, .val (.long q1), .second, .val (.long q2), .second, .val (.int p3), .val (.int (3 : Int32)), .val (.ref b47), .val (.ref r107), .val (.int ((0 : Int32) + (1 : Int32)))]) rfl k) ?_
              rw [show ((0 : Int32) + (1 : Int32)) = (1 : Int32) from by decide]
              refine OEnds.go (g' := (mkF m 85 #[.val (.long q0), .second, .val (.long q1), .second, .val (.long q2), .second, .val (.int p3), .val (.int (3 : Int32)), .val (.ref b47), .val (.ref r107), .val (.int (1 : Int32))] [(.int (3 : Int32))])) (fun t k => XS.iload X107.here hx rfl (hb hby at_83) rfl k) ?_
              refine OEnds.go (g' := (mkF m 86 #[.val (.long q0), .second, .val (.long q1), .second, .val (.long q2), .second, .val (.int p3), .val (.int (3 : Int32)), .val (.ref b47), .val (.ref r107), .val (.int (1 : Int32))] [(.int (2 : Int32)), (.int (3 : Int32))])) (fun t k => XS.iconst X107.here hx rfl (hb hby at_85) k) ?_
              refine OEnds.go (g' := (mkF m 89 #[.val (.long q0), .second, .val (.long q1), .second, .val (.long q2), .second, .val (.int p3), .val (.int (3 : Int32)), .val (.ref b47), .val (.ref r107), .val (.int (1 : Int32))] [])) (fun t k => XS.icmpNo X107.here hx rfl (hb hby at_86) rfl (flt (by decide : ¬ ((3 : Int32) < (2 : Int32)))).1 k) ?_
              refine OEnds.go (g' := (mkF m 90 #[.val (.long q0), .second, .val (.long q1), .second, .val (.long q2), .second, .val (.int p3), .val (.int (3 : Int32)), .val (.ref b47), .val (.ref r107), .val (.int (1 : Int32))] [(.long q1)])) (fun t k => XS.lloadN X107.here hx rfl (hb hby at_89) rfl k) ?_
              refine OEnds.go (g' := (mkF m 91 #[.val (.long q0), .second, .val (.long q1), .second, .val (.long q2), .second, .val (.int p3), .val (.int (3 : Int32)), .val (.ref b47), .val (.ref r107), .val (.int (1 : Int32))] [(.long q0), (.long q1)])) (fun t k => XS.lloadN X107.here hx rfl (hb hby at_90) rfl k) ?_
              refine OEnds.go (g' := (mkF m 92 #[.val (.long q0), .second, .val (.long q1), .second, .val (.long q2), .second, .val (.int p3), .val (.int (3 : Int32)), .val (.ref b47), .val (.ref r107), .val (.int (1 : Int32))] [(.int (lcmpW q1 q0))])) (fun t k => XS.lcmp X107.here hx rfl (hb hby at_91) rfl k) ?_
              refine OEnds.go (g' := (mkF m 98 #[.val (.long q0), .second, .val (.long q1), .second, .val (.long q2), .second, .val (.int p3), .val (.int (3 : Int32)), .val (.ref b47), .val (.ref r107), .val (.int (1 : Int32))] [])) (fun t k => XS.ifYes X107.here hx rfl (pc0 := 92) (pc' := 98) rfl (hb hby at_92) rfl ((if0 _ _).trans (teq ((lw_eq _ _).mpr t52)).1) (by decide) (by decide) k) ?_
              refine OEnds.go (g' := (mkF m 100 #[.val (.long q0), .second, .val (.long q1), .second, .val (.long q2), .second, .val (.int p3), .val (.int (3 : Int32)), .val (.ref b47), .val (.ref r107), .val (.int (1 : Int32))] [(.int (3 : Int32))])) (fun t k => XS.iload X107.here hx rfl (hb hby at_98) rfl k) ?_
              refine OEnds.go (g' := (mkF m 101 #[.val (.long q0), .second, .val (.long q1), .second, .val (.long q2), .second, .val (.int p3), .val (.int (3 : Int32)), .val (.ref b47), .val (.ref r107), .val (.int (1 : Int32))] [(.int (3 : Int32)), (.int (3 : Int32))])) (fun t k => XS.iconst X107.here hx rfl (hb hby at_100) k) ?_
              refine OEnds.go (g' := (mkF m 104 #[.val (.long q0), .second, .val (.long q1), .second, .val (.long q2), .second, .val (.int p3), .val (.int (3 : Int32)), .val (.ref b47), .val (.ref r107), .val (.int (1 : Int32))] [])) (fun t k => XS.icmpNo X107.here hx rfl (hb hby at_101) rfl (flt (by decide : ¬ ((3 : Int32) < (3 : Int32)))).1 k) ?_
              refine OEnds.go (g' := (mkF m 106 #[.val (.long q0), .second, .val (.long q1), .second, .val (.long q2), .second, .val (.int p3), .val (.int (3 : Int32)), .val (.ref b47), .val (.ref r107), .val (.int (1 : Int32))] [(.long q2)])) (fun t k => XS.lload X107.here hx rfl (hb hby at_104) rfl k) ?_
              refine OEnds.go (g' := (mkF m 107 #[.val (.long q0), .second, .val (.long q1), .second, .val (.long q2), .second, .val (.int p3), .val (.int (3 : Int32)), .val (.ref b47), .val (.ref r107), .val (.int (1 : Int32))] [(.long q0), (.long q2)])) (fun t k => XS.lloadN X107.here hx rfl (hb hby at_106) rfl k) ?_
              refine OEnds.go (g' := (mkF m 108 #[.val (.long q0), .second, .val (.long q1), .second, .val (.long q2), .second, .val (.int p3), .val (.int (3 : Int32)), .val (.ref b47), .val (.ref r107), .val (.int (1 : Int32))] [(.int (lcmpW q2 q0))])) (fun t k => XS.lcmp X107.here hx rfl (hb hby at_107) rfl k) ?_
              refine OEnds.go (g' := (mkF m 121 #[.val (.long q0), .second, .val (.long q1), .second, .val (.long q2), .second, .val (.int p3), .val (.int (3 : Int32)), .val (.ref b47), .val (.ref r107), .val (.int (1 : Int32))] [])) (fun t k => XS.ifYes X107.here hx rfl (pc0 := 108) (pc' := 121) rfl (hb hby at_108) rfl ((if0 _ _).trans (teq ((lw_eq _ _).mpr t94)).1) (by decide) (by decide) k) ?_
              refine OEnds.go (g' := (mkF m 123 #[.val (.long q0), .second, .val (.long q1), .second, .val (.long q2), .second, .val (.int p3), .val (.int (3 : Int32)), .val (.ref b47), .val (.ref r107), .val (.int (1 : Int32))] [(.ref r107)])) (fun t k => XS.aload X107.here hx rfl (hb hby at_121) rfl rfl k) ?_
              refine OEnds.go (g' := (mkF m 126 #[.val (.long q0), .second, .val (.long q1), .second, .val (.long q2), .second, .val (.int p3), .val (.int (3 : Int32)), .val (.ref b47), .val (.ref r107), .val (.int (1 : Int32))] [])) (fun t k => XS.ifnullNo X107.here hx rfl (hb hby at_123) rfl k) ?_
              refine OEnds.go (g' := (mkF m 128 #[.val (.long q0), .second, .val (.long q1), .second, .val (.long q2), .second, .val (.int p3), .val (.int (3 : Int32)), .val (.ref b47), .val (.ref r107), .val (.int (1 : Int32))] [(.ref r107)])) (fun t k => XS.aload X107.here hx rfl (hb hby at_126) rfl rfl k) ?_
              obtain ⟨cl108, Ar108, qa108, Sa108, Na108, Ha108, Ga108⟩ := @id _ VR107
              refine OEnds.go (g' := (mkF m 129 #[.val (.long q0), .second, .val (.long q1), .second, .val (.long q2), .second, .val (.int p3), .val (.int (3 : Int32)), .val (.ref b47), .val (.ref r107), .val (.int (1 : Int32))] [(.int (1 : Int32))])) (fun t k => X107.arraylength hx Ar108.1 (State.isArrayOf_alike hZ.alike Ar108.2.1) (g := (mkF m 128 #[.val (.long q0), .second, .val (.long q1), .second, .val (.long q2), .second, .val (.int p3), .val (.int (3 : Int32)), .val (.ref b47), .val (.ref r107), .val (.int (1 : Int32))] [(.ref r107)])) rfl rfl (hb hby at_128) t (by rw [len_of Sa108 Na108]; exact k)) ?_
              refine OEnds.go (g' := (mkF m 131 #[.val (.long q0), .second, .val (.long q1), .second, .val (.long q2), .second, .val (.int p3), .val (.int (3 : Int32)), .val (.ref b47), .val (.ref r107), .val (.int (1 : Int32))] [(.int (1 : Int32)), (.int (1 : Int32))])) (fun t k => XS.iload X107.here hx rfl (hb hby at_129) rfl k) ?_
              refine OEnds.go (g' := (mkF m 136 #[.val (.long q0), .second, .val (.long q1), .second, .val (.long q2), .second, .val (.int p3), .val (.int (3 : Int32)), .val (.ref b47), .val (.ref r107), .val (.int (1 : Int32))] [])) (fun t k => XS.icmpYes X107.here hx rfl (pc0 := 131) (pc' := 136) rfl (hb hby at_131) rfl (teq (by decide : ((1 : Int32) = (1 : Int32)))).1 (by decide) (by decide) k) ?_
              refine OEnds.go (g' := (mkF m 138 #[.val (.long q0), .second, .val (.long q1), .second, .val (.long q2), .second, .val (.int p3), .val (.int (3 : Int32)), .val (.ref b47), .val (.ref r107), .val (.int (1 : Int32))] [(.int (3 : Int32))])) (fun t k => XS.iload X107.here hx rfl (hb hby at_136) rfl k) ?_
              refine OEnds.go (g' := (mkF m 139 #[.val (.long q0), .second, .val (.long q1), .second, .val (.long q2), .second, .val (.int p3), .val (.int (3 : Int32)), .val (.ref b47), .val (.ref r107), .val (.int (1 : Int32))] [(.int (1 : Int32)), (.int (3 : Int32))])) (fun t k => XS.iconst X107.here hx rfl (hb hby at_138) k) ?_
              refine OEnds.go (g' := (mkF m 142 #[.val (.long q0), .second, .val (.long q1), .second, .val (.long q2), .second, .val (.int p3), .val (.int (3 : Int32)), .val (.ref b47), .val (.ref r107), .val (.int (1 : Int32))] [])) (fun t k => XS.icmpNo X107.here hx rfl (hb hby at_139) rfl (flt (by decide : ¬ ((3 : Int32) < (1 : Int32)))).1 k) ?_
              refine OEnds.go (g' := (mkF m 144 #[.val (.long q0), .second, .val (.long q1), .second, .val (.long q2), .second, .val (.int p3), .val (.int (3 : Int32)), .val (.ref b47), .val (.ref r107), .val (.int (1 : Int32))] [(.ref r107)])) (fun t k => XS.aload X107.here hx rfl (hb hby at_142) rfl rfl k) ?_
              refine OEnds.go (g' := (mkF m 145 #[.val (.long q0), .second, .val (.long q1), .second, .val (.long q2), .second, .val (.int p3), .val (.int (3 : Int32)), .val (.ref b47), .val (.ref r107), .val (.int (1 : Int32))] [(.long q0), (.ref r107)])) (fun t k => XS.lloadN X107.here hx rfl (hb hby at_144) rfl k) ?_
              obtain ⟨_, _, ⟨T109, L109, k109, n109⟩, -, X109, ⟨Lc109, hQ109, l109, y109, z109⟩, st109⟩ := Jvm.LawKit.callS X107 hx (y := (⟨"com/example/slimheap/slimheap/hprof/IdMapIdsPinLaw", "has", "([JJ)Z"⟩ : MethodName)) hown (mvT hZ (hw _ (List.mem_of_getElem? (i := 41) rfl))) (mvT hZ (hw _ (List.mem_of_getElem? (i := 42) rfl))) (mvT hZ (hw _ (List.mem_of_getElem? (i := 43) rfl))) (mvT hZ (hw _ (List.mem_of_getElem? (i := 44) rfl))) (by decide) (backOf (W := 0) (rmH1 l Z a0 hw [] r107 q0 kr107 (rr107 (0 : Int32)) T107.heap n0 (Nat.le_trans (Nat.le_trans (Nat.le_trans (Nat.le_trans (Nat.le_trans (Nat.le_trans Z0 E47.1) K48q.1) K50q.1) K52q.1) K94q.1) K107q.1) VR107) hZ (hw _ (List.mem_of_getElem? (i := 44) rfl)) (hw _ (List.mem_of_getElem? (i := 43) rfl)) (by decide) (by decide)) (g := (mkF m 145 #[.val (.long q0), .second, .val (.long q1), .second, .val (.long q2), .second, .val (.int p3), .val (.int (3 : Int32)), .val (.ref b47), .val (.ref r107), .val (.int (1 : Int32))] [(.long q0), (.ref r107)])) rfl (by rw [hml]; rfl) (argsL := [(.ref r107), (.long q0)]) (rest := []) (lenOf pd_5 rfl) rfl (by show 2 * 0 + _ ≤ _; exact Nat.le_of_eq rfl) (hb hby at_145) (fun _ _ => ⟨rfl, rfl, (by decide : 4 + 0 ≤ _), (by decide : 132 + 0 ≤ _)⟩)
              dsimp only [Pt.U, Pt.locs, Pt.cells, Pt.slots] at X109 l109 y109 z109 st109 hQ109
              subst l109 y109 z109
              obtain ⟨rfl, N109q, e109⟩ := hQ109
              have N109 := Fr.app N107 N109q
              refine OEnds.go (g' := (mkF m 148 #[.val (.long q0), .second, .val (.long q1), .second, .val (.long q2), .second, .val (.int p3), .val (.int (3 : Int32)), .val (.ref b47), .val (.ref r107), .val (.int (1 : Int32))] [(.int (fH1 q0 (rr107 (0 : Int32))))])) st109 ?_
              refine OEnds.go (g' := (mkF m 153 #[.val (.long q0), .second, .val (.long q1), .second, .val (.long q2), .second, .val (.int p3), .val (.int (3 : Int32)), .val (.ref b47), .val (.ref r107), .val (.int (1 : Int32))] [])) (fun t k => XS.ifYes X109.here hx rfl (pc0 := 148) (pc' := 153) rfl (hb hby at_148) rfl ((if0 _ _).trans (feq (own_has1 _ _ (pm107.mem_iff.mpr (by simp [t52, t94])) : ¬ ((fH1 q0 (rr107 (0 : Int32))) = (0 : Int32)))).2) (by decide) (by decide) k) ?_
              refine OEnds.go (g' := (mkF m 155 #[.val (.long q0), .second, .val (.long q1), .second, .val (.long q2), .second, .val (.int p3), .val (.int (3 : Int32)), .val (.ref b47), .val (.ref r107), .val (.int (1 : Int32))] [(.int (3 : Int32))])) (fun t k => XS.iload X109.here hx rfl (hb hby at_153) rfl k) ?_
              refine OEnds.go (g' := (mkF m 156 #[.val (.long q0), .second, .val (.long q1), .second, .val (.long q2), .second, .val (.int p3), .val (.int (3 : Int32)), .val (.ref b47), .val (.ref r107), .val (.int (1 : Int32))] [(.int (2 : Int32)), (.int (3 : Int32))])) (fun t k => XS.iconst X109.here hx rfl (hb hby at_155) k) ?_
              refine OEnds.go (g' := (mkF m 159 #[.val (.long q0), .second, .val (.long q1), .second, .val (.long q2), .second, .val (.int p3), .val (.int (3 : Int32)), .val (.ref b47), .val (.ref r107), .val (.int (1 : Int32))] [])) (fun t k => XS.icmpNo X109.here hx rfl (hb hby at_156) rfl (flt (by decide : ¬ ((3 : Int32) < (2 : Int32)))).1 k) ?_
              refine OEnds.go (g' := (mkF m 161 #[.val (.long q0), .second, .val (.long q1), .second, .val (.long q2), .second, .val (.int p3), .val (.int (3 : Int32)), .val (.ref b47), .val (.ref r107), .val (.int (1 : Int32))] [(.ref r107)])) (fun t k => XS.aload X109.here hx rfl (hb hby at_159) rfl rfl k) ?_
              refine OEnds.go (g' := (mkF m 162 #[.val (.long q0), .second, .val (.long q1), .second, .val (.long q2), .second, .val (.int p3), .val (.int (3 : Int32)), .val (.ref b47), .val (.ref r107), .val (.int (1 : Int32))] [(.long q1), (.ref r107)])) (fun t k => XS.lloadN X109.here hx rfl (hb hby at_161) rfl k) ?_
              obtain ⟨_, _, ⟨T110, L110, k110, n110⟩, -, X110, ⟨Lc110, hQ110, l110, y110, z110⟩, st110⟩ := Jvm.LawKit.callS X109 hx (y := (⟨"com/example/slimheap/slimheap/hprof/IdMapIdsPinLaw", "has", "([JJ)Z"⟩ : MethodName)) hown (mvT hZ (hw _ (List.mem_of_getElem? (i := 41) rfl))) (mvT hZ (hw _ (List.mem_of_getElem? (i := 42) rfl))) (mvT hZ (hw _ (List.mem_of_getElem? (i := 43) rfl))) (mvT hZ (hw _ (List.mem_of_getElem? (i := 44) rfl))) (by decide) (backOf (W := 0) (rmH1 l Z a0 hw [] r107 q1 kr107 (rr107 (0 : Int32)) T107.heap n0 (Nat.le_trans (Nat.le_trans (Nat.le_trans (Nat.le_trans (Nat.le_trans (Nat.le_trans Z0 E47.1) K48q.1) K50q.1) K52q.1) K94q.1) K107q.1) VR107) hZ (hw _ (List.mem_of_getElem? (i := 44) rfl)) (hw _ (List.mem_of_getElem? (i := 43) rfl)) (by decide) (by decide)) (g := (mkF m 162 #[.val (.long q0), .second, .val (.long q1), .second, .val (.long q2), .second, .val (.int p3), .val (.int (3 : Int32)), .val (.ref b47), .val (.ref r107), .val (.int (1 : Int32))] [(.long q1), (.ref r107)])) rfl (by rw [hml]; rfl) (argsL := [(.ref r107), (.long q1)]) (rest := []) (lenOf pd_5 rfl) rfl (by show 2 * 0 + _ ≤ _; exact Nat.le_of_eq rfl) (hb hby at_162) (fun _ _ => ⟨rfl, e109, (by decide : 4 + 0 ≤ _), (by decide : 132 + 0 ≤ _)⟩)
              dsimp only [Pt.U, Pt.locs, Pt.cells, Pt.slots] at X110 l110 y110 z110 st110 hQ110
              subst l110 y110 z110
              obtain ⟨rfl, N110q, e110⟩ := hQ110
              have N110 := Fr.app N109 N110q
              refine OEnds.go (g' := (mkF m 165 #[.val (.long q0), .second, .val (.long q1), .second, .val (.long q2), .second, .val (.int p3), .val (.int (3 : Int32)), .val (.ref b47), .val (.ref r107), .val (.int (1 : Int32))] [(.int (fH1 q1 (rr107 (0 : Int32))))])) st110 ?_
              refine OEnds.go (g' := (mkF m 170 #[.val (.long q0), .second, .val (.long q1), .second, .val (.long q2), .second, .val (.int p3), .val (.int (3 : Int32)), .val (.ref b47), .val (.ref r107), .val (.int (1 : Int32))] [])) (fun t k => XS.ifYes X110.here hx rfl (pc0 := 165) (pc' := 170) rfl (hb hby at_165) rfl ((if0 _ _).trans (feq (own_has1 _ _ (pm107.mem_iff.mpr (by simp [t52, t94])) : ¬ ((fH1 q1 (rr107 (0 : Int32))) = (0 : Int32)))).2) (by decide) (by decide) k) ?_
              refine OEnds.go (g' := (mkF m 172 #[.val (.long q0), .second, .val (.long q1), .second, .val (.long q2), .second, .val (.int p3), .val (.int (3 : Int32)), .val (.ref b47), .val (.ref r107), .val (.int (1 : Int32))] [(.int (3 : Int32))])) (fun t k => XS.iload X110.here hx rfl (hb hby at_170) rfl k) ?_
              refine OEnds.go (g' := (mkF m 173 #[.val (.long q0), .second, .val (.long q1), .second, .val (.long q2), .second, .val (.int p3), .val (.int (3 : Int32)), .val (.ref b47), .val (.ref r107), .val (.int (1 : Int32))] [(.int (3 : Int32)), (.int (3 : Int32))])) (fun t k => XS.iconst X110.here hx rfl (hb hby at_172) k) ?_
              refine OEnds.go (g' := (mkF m 176 #[.val (.long q0), .second, .val (.long q1), .second, .val (.long q2), .second, .val (.int p3), .val (.int (3 : Int32)), .val (.ref b47), .val (.ref r107), .val (.int (1 : Int32))] [])) (fun t k => XS.icmpNo X110.here hx rfl (hb hby at_173) rfl (flt (by decide : ¬ ((3 : Int32) < (3 : Int32)))).1 k) ?_
              refine OEnds.go (g' := (mkF m 178 #[.val (.long q0), .second, .val (.long q1), .second, .val (.long q2), .second, .val (.int p3), .val (.int (3 : Int32)), .val (.ref b47), .val (.ref r107), .val (.int (1 : Int32))] [(.ref r107)])) (fun t k => XS.aload X110.here hx rfl (hb hby at_176) rfl rfl k) ?_
              refine OEnds.go (g' := (mkF m 180 #[.val (.long q0), .second, .val (.long q1), .second, .val (.long q2), .second, .val (.int p3), .val (.int (3 : Int32)), .val (.ref b47), .val (.ref r107), .val (.int (1 : Int32))] [(.long q2), (.ref r107)])) (fun t k => XS.lload X110.here hx rfl (hb hby at_178) rfl k) ?_
              obtain ⟨_, _, ⟨T111, L111, k111, n111⟩, -, X111, ⟨Lc111, hQ111, l111, y111, z111⟩, st111⟩ := Jvm.LawKit.callS X110 hx (y := (⟨"com/example/slimheap/slimheap/hprof/IdMapIdsPinLaw", "has", "([JJ)Z"⟩ : MethodName)) hown (mvT hZ (hw _ (List.mem_of_getElem? (i := 41) rfl))) (mvT hZ (hw _ (List.mem_of_getElem? (i := 42) rfl))) (mvT hZ (hw _ (List.mem_of_getElem? (i := 43) rfl))) (mvT hZ (hw _ (List.mem_of_getElem? (i := 44) rfl))) (by decide) (backOf (W := 0) (rmH1 l Z a0 hw [] r107 q2 kr107 (rr107 (0 : Int32)) T107.heap n0 (Nat.le_trans (Nat.le_trans (Nat.le_trans (Nat.le_trans (Nat.le_trans (Nat.le_trans Z0 E47.1) K48q.1) K50q.1) K52q.1) K94q.1) K107q.1) VR107) hZ (hw _ (List.mem_of_getElem? (i := 44) rfl)) (hw _ (List.mem_of_getElem? (i := 43) rfl)) (by decide) (by decide)) (g := (mkF m 180 #[.val (.long q0), .second, .val (.long q1), .second, .val (.long q2), .second, .val (.int p3), .val (.int (3 : Int32)), .val (.ref b47), .val (.ref r107), .val (.int (1 : Int32))] [(.long q2), (.ref r107)])) rfl (by rw [hml]; rfl) (argsL := [(.ref r107), (.long q2)]) (rest := []) (lenOf pd_5 rfl) rfl (by show 2 * 0 + _ ≤ _; exact Nat.le_of_eq rfl) (hb hby at_180) (fun _ _ => ⟨rfl, e110, (by decide : 4 + 0 ≤ _), (by decide : 132 + 0 ≤ _)⟩)
              dsimp only [Pt.U, Pt.locs, Pt.cells, Pt.slots] at X111 l111 y111 z111 st111 hQ111
              subst l111 y111 z111
              obtain ⟨rfl, N111q, e111⟩ := hQ111
              have N111 := Fr.app N110 N111q
              refine OEnds.go (g' := (mkF m 183 #[.val (.long q0), .second, .val (.long q1), .second, .val (.long q2), .second, .val (.int p3), .val (.int (3 : Int32)), .val (.ref b47), .val (.ref r107), .val (.int (1 : Int32))] [(.int (fH1 q2 (rr107 (0 : Int32))))])) st111 ?_
              refine OEnds.go (g' := (mkF m 188 #[.val (.long q0), .second, .val (.long q1), .second, .val (.long q2), .second, .val (.int p3), .val (.int (3 : Int32)), .val (.ref b47), .val (.ref r107), .val (.int (1 : Int32))] [])) (fun t k => XS.ifYes X111.here hx rfl (pc0 := 183) (pc' := 188) rfl (hb hby at_183) rfl ((if0 _ _).trans (feq (own_has1 _ _ (pm107.mem_iff.mpr (by simp [t52, t94])) : ¬ ((fH1 q2 (rr107 (0 : Int32))) = (0 : Int32)))).2) (by decide) (by decide) k) ?_
              refine OEnds.go (g' := (mkF m 190 #[.val (.long q0), .second, .val (.long q1), .second, .val (.long q2), .second, .val (.int p3), .val (.int (3 : Int32)), .val (.ref b47), .val (.ref r107), .val (.int (1 : Int32))] [(.ref r107)])) (fun t k => XS.aload X111.here hx rfl (hb hby at_188) rfl rfl k) ?_
              obtain ⟨cl112, Ar112, qa112, Sa112, Na112, Ha112, Ga112⟩ := @id _ VR107
              refine OEnds.go (g' := (mkF m 191 #[.val (.long q0), .second, .val (.long q1), .second, .val (.long q2), .second, .val (.int p3), .val (.int (3 : Int32)), .val (.ref b47), .val (.ref r107), .val (.int (1 : Int32))] [(.int (1 : Int32))])) (fun t k => X111.arraylength hx (by rw [e111]; exact Ar112.1) (State.isArrayOf_alike hZ.alike Ar112.2.1) (g := (mkF m 190 #[.val (.long q0), .second, .val (.long q1), .second, .val (.long q2), .second, .val (.int p3), .val (.int (3 : Int32)), .val (.ref b47), .val (.ref r107), .val (.int (1 : Int32))] [(.ref r107)])) rfl rfl (hb hby at_190) t (by rw [len_of Sa112 Na112]; exact k)) ?_
              refine OEnds.go (g' := (mkF m 194 #[.val (.long q0), .second, .val (.long q1), .second, .val (.long q2), .second, .val (.int p3), .val (.int (3 : Int32)), .val (.ref b47), .val (.ref r107), .val (.int (1 : Int32))] [])) (fun t k => XS.ifNo X111.here hx rfl (hb hby at_191) rfl ((if0 _ _).trans (tlt (by decide : ((0 : Int32) < (1 : Int32)))).2.2.2) k) ?_
              refine OEnds.go (g' := (mkF m 196 #[.val (.long q0), .second, .val (.long q1), .second, .val (.long q2), .second, .val (.int p3), .val (.int (3 : Int32)), .val (.ref b47), .val (.ref r107), .val (.int (1 : Int32))] [(.ref r107)])) (fun t k => XS.aload X111.here hx rfl (hb hby at_194) rfl rfl k) ?_
              refine OEnds.go (g' := (mkF m 197 #[.val (.long q0), .second, .val (.long q1), .second, .val (.long q2), .second, .val (.int p3), .val (.int (3 : Int32)), .val (.ref b47), .val (.ref r107), .val (.int (1 : Int32))] [(.int (0 : Int32)), (.ref r107)])) (fun t k => XS.iconst X111.here hx rfl (hb hby at_196) k) ?_
              obtain ⟨cl113, Ar113, qa113, Sa113, Na113, Ha113, Ga113⟩ := @id _ VR107
              have hin113 : ¬ ((0 : Int32) < 0 ∨ cl113.slots.size ≤ ((0 : Int32)).toNatClampNeg) := inb_of Sa113 ⟨by decide, by decide⟩
              have hat113 : cl113.slots[((0 : Int32)).toNatClampNeg]? = some (.long (rr107 (0 : Int32))) := Has.at Ha113 hin113 rfl
              refine OEnds.go (g' := (mkF m 198 #[.val (.long q0), .second, .val (.long q1), .second, .val (.long q2), .second, .val (.int p3), .val (.int (3 : Int32)), .val (.ref b47), .val (.ref r107), .val (.int (1 : Int32))] [(.long (rr107 (0 : Int32)))])) (X111.laload hx (j := (0 : Int32)) (v := (.long (rr107 (0 : Int32)))) (by rw [e111]; exact Ar113.1) (State.isArrayOf_alike hZ.alike Ar113.2.1) Ar113.2.2 hin113 hat113 (g := (mkF m 197 #[.val (.long q0), .second, .val (.long q1), .second, .val (.long q2), .second, .val (.int p3), .val (.int (3 : Int32)), .val (.ref b47), .val (.ref r107), .val (.int (1 : Int32))] [(.int (0 : Int32)), (.ref r107)])) rfl rfl (hb hby at_197)) ?_
              refine OEnds.go (g' := (mkF m 200 #[.val (.long q0), .second, .val (.long q1), .second, .val (.long q2), .second, .val (.int p3), .val (.int (3 : Int32)), .val (.ref b47), .val (.ref r107), .val (.int (1 : Int32))] [(.int (3 : Int32)), (.long (rr107 (0 : Int32)))])) (fun t k => XS.iload X111.here hx rfl (hb hby at_198) rfl k) ?_
              refine OEnds.go (g' := (mkF m 201 #[.val (.long q0), .second, .val (.long q1), .second, .val (.long q2), .second, .val (.int p3), .val (.int (3 : Int32)), .val (.ref b47), .val (.ref r107), .val (.int (1 : Int32))] [(.long q0), (.int (3 : Int32)), (.long (rr107 (0 : Int32)))])) (fun t k => XS.lloadN X111.here hx rfl (hb hby at_200) rfl k) ?_
              refine OEnds.go (g' := (mkF m 202 #[.val (.long q0), .second, .val (.long q1), .second, .val (.long q2), .second, .val (.int p3), .val (.int (3 : Int32)), .val (.ref b47), .val (.ref r107), .val (.int (1 : Int32))] [(.long q1), (.long q0), (.int (3 : Int32)), (.long (rr107 (0 : Int32)))])) (fun t k => XS.lloadN X111.here hx rfl (hb hby at_201) rfl k) ?_
              refine OEnds.go (g' := (mkF m 204 #[.val (.long q0), .second, .val (.long q1), .second, .val (.long q2), .second, .val (.int p3), .val (.int (3 : Int32)), .val (.ref b47), .val (.ref r107), .val (.int (1 : Int32))] [(.long q2), (.long q1), (.long q0), (.int (3 : Int32)), (.long (rr107 (0 : Int32)))])) (fun t k => XS.lload X111.here hx rfl (hb hby at_202) rfl k) ?_
              obtain ⟨_, _, ⟨T114, L114, k114, n114⟩, -, X114, ⟨Lc114, hQ114, l114, y114, z114⟩, st114⟩ := Jvm.LawKit.callS X111 hx (y := (⟨"com/example/slimheap/slimheap/hprof/IdMapIdsPinLaw", "inSet", "(JIJJJ)Z"⟩ : MethodName)) hown (mvT hZ (hw _ (List.mem_of_getElem? (i := 45) rfl))) (mvT hZ (hw _ (List.mem_of_getElem? (i := 46) rfl))) (mvT hZ (hw _ (List.mem_of_getElem? (i := 43) rfl))) (mvT hZ (hw _ (List.mem_of_getElem? (i := 47) rfl))) (by decide) (backOf (W := 0) (rm8 l Z a0 hw [] (rr107 (0 : Int32)) (3 : Int32) q0 q1 q2 T107.heap n0 (Nat.le_trans (Nat.le_trans (Nat.le_trans (Nat.le_trans (Nat.le_trans (Nat.le_trans Z0 E47.1) K48q.1) K50q.1) K52q.1) K94q.1) K107q.1)) hZ (hw _ (List.mem_of_getElem? (i := 47) rfl)) (hw _ (List.mem_of_getElem? (i := 43) rfl)) (by decide) (by decide)) (g := (mkF m 204 #[.val (.long q0), .second, .val (.long q1), .second, .val (.long q2), .second, .val (.int p3), .val (.int (3 : Int32)), .val (.ref b47), .val (.ref r107), .val (.int (1 : Int32))] [(.long q2), (.long q1), (.long q0), (.int (3 : Int32)), (.long (rr107 (0 : Int32)))])) rfl (by rw [hml]; rfl) (argsL := [(.long (rr107 (0 : Int32))), (.int (3 : Int32)), (.long q0), (.long q1), (.long q2)]) (rest := []) (lenOf pd_6 rfl) rfl (by show 2 * 0 + _ ≤ _; exact Nat.le_of_eq rfl) (hb hby at_204) (fun _ _ => ⟨rfl, e111, (by decide : 4 + 0 ≤ _), (by decide : 132 + 0 ≤ _)⟩)
              dsimp only [Pt.U, Pt.locs, Pt.cells, Pt.slots] at X114 l114 y114 z114 st114 hQ114
              subst l114 y114 z114
              obtain ⟨rfl, N114q, e114⟩ := hQ114
              have N114 := Fr.app N111 N114q
              refine OEnds.go (g' := (mkF m 207 #[.val (.long q0), .second, .val (.long q1), .second, .val (.long q2), .second, .val (.int p3), .val (.int (3 : Int32)), .val (.ref b47), .val (.ref r107), .val (.int (1 : Int32))] [(.int (f8 (rr107 (0 : Int32)) (3 : Int32) q0 q1 q2))])) st114 ?_
              refine OEnds.go (g' := (mkF m 212 #[.val (.long q0), .second, .val (.long q1), .second, .val (.long q2), .second, .val (.int p3), .val (.int (3 : Int32)), .val (.ref b47), .val (.ref r107), .val (.int (1 : Int32))] [])) (fun t k => XS.ifYes X114.here hx rfl (pc0 := 207) (pc' := 212) rfl (hb hby at_207) rfl ((if0 _ _).trans (feq (own_set3 _ _ _ _ (by have t := pm107.mem_iff.mp (show (rr107 (0 : Int32)) ∈ ([(rr107 (0 : Int32))] : List Int64) from by simp); simp only [List.mem_cons, List.not_mem_nil, or_false] at t; first | (rcases t with t | t | t <;> simp [t]; done) | (rcases t with t | t <;> simp [t]; done) | (simp [t]; done)) : ¬ ((f8 (rr107 (0 : Int32)) (3 : Int32) q0 q1 q2) = (0 : Int32)))).2) (by decide) (by decide) k) ?_
              refine OEnds.go (g' := (mkF m 214 #[.val (.long q0), .second, .val (.long q1), .second, .val (.long q2), .second, .val (.int p3), .val (.int (3 : Int32)), .val (.ref b47), .val (.ref r107), .val (.int (1 : Int32))] [(.ref r107)])) (fun t k => XS.aload X114.here hx rfl (hb hby at_212) rfl rfl k) ?_
              obtain ⟨cl115, Ar115, qa115, Sa115, Na115, Ha115, Ga115⟩ := @id _ VR107
              refine OEnds.go (g' := (mkF m 215 #[.val (.long q0), .second, .val (.long q1), .second, .val (.long q2), .second, .val (.int p3), .val (.int (3 : Int32)), .val (.ref b47), .val (.ref r107), .val (.int (1 : Int32))] [(.int (1 : Int32))])) (fun t k => X114.arraylength hx (by rw [e114]; exact Ar115.1) (State.isArrayOf_alike hZ.alike Ar115.2.1) (g := (mkF m 214 #[.val (.long q0), .second, .val (.long q1), .second, .val (.long q2), .second, .val (.int p3), .val (.int (3 : Int32)), .val (.ref b47), .val (.ref r107), .val (.int (1 : Int32))] [(.ref r107)])) rfl rfl (hb hby at_214) t (by rw [len_of Sa115 Na115]; exact k)) ?_
              refine OEnds.go (g' := (mkF m 216 #[.val (.long q0), .second, .val (.long q1), .second, .val (.long q2), .second, .val (.int p3), .val (.int (3 : Int32)), .val (.ref b47), .val (.ref r107), .val (.int (1 : Int32))] [(.int (1 : Int32)), (.int (1 : Int32))])) (fun t k => XS.iconst X114.here hx rfl (hb hby at_215) k) ?_
              refine OEnds.go (g' := (mkF m 237 #[.val (.long q0), .second, .val (.long q1), .second, .val (.long q2), .second, .val (.int p3), .val (.int (3 : Int32)), .val (.ref b47), .val (.ref r107), .val (.int (1 : Int32))] [])) (fun t k => XS.icmpYes X114.here hx rfl (pc0 := 216) (pc' := 237) rfl (hb hby at_216) rfl (flt (by decide : ¬ ((1 : Int32) < (1 : Int32)))).2.2.2 (by decide) (by decide) k) ?_
              refine OEnds.go (g' := (mkF m 239 #[.val (.long q0), .second, .val (.long q1), .second, .val (.long q2), .second, .val (.int p3), .val (.int (3 : Int32)), .val (.ref b47), .val (.ref r107), .val (.int (1 : Int32))] [(.ref r107)])) (fun t k => XS.aload X114.here hx rfl (hb hby at_237) rfl rfl k) ?_
              obtain ⟨cl116, Ar116, qa116, Sa116, Na116, Ha116, Ga116⟩ := @id _ VR107
              refine OEnds.go (g' := (mkF m 240 #[.val (.long q0), .second, .val (.long q1), .second, .val (.long q2), .second, .val (.int p3), .val (.int (3 : Int32)), .val (.ref b47), .val (.ref r107), .val (.int (1 : Int32))] [(.int (1 : Int32))])) (fun t k => X114.arraylength hx (by rw [e114]; exact Ar116.1) (State.isArrayOf_alike hZ.alike Ar116.2.1) (g := (mkF m 239 #[.val (.long q0), .second, .val (.long q1), .second, .val (.long q2), .second, .val (.int p3), .val (.int (3 : Int32)), .val (.ref b47), .val (.ref r107), .val (.int (1 : Int32))] [(.ref r107)])) rfl rfl (hb hby at_239) t (by rw [len_of Sa116 Na116]; exact k)) ?_
              refine OEnds.go (g' := (mkF m 241 #[.val (.long q0), .second, .val (.long q1), .second, .val (.long q2), .second, .val (.int p3), .val (.int (3 : Int32)), .val (.ref b47), .val (.ref r107), .val (.int (1 : Int32))] [(.int (2 : Int32)), (.int (1 : Int32))])) (fun t k => XS.iconst X114.here hx rfl (hb hby at_240) k) ?_
              refine OEnds.go (g' := (mkF m 262 #[.val (.long q0), .second, .val (.long q1), .second, .val (.long q2), .second, .val (.int p3), .val (.int (3 : Int32)), .val (.ref b47), .val (.ref r107), .val (.int (1 : Int32))] [])) (fun t k => XS.icmpYes X114.here hx rfl (pc0 := 241) (pc' := 262) rfl (hb hby at_241) rfl (flt (by decide : ¬ ((2 : Int32) < (1 : Int32)))).2.2.2 (by decide) (by decide) k) ?_
              refine OEnds.go (g' := (mkF m 263 #[.val (.long q0), .second, .val (.long q1), .second, .val (.long q2), .second, .val (.int p3), .val (.int (3 : Int32)), .val (.ref b47), .val (.ref r107), .val (.int (1 : Int32))] [(.int (1 : Int32))])) (fun t k => XS.iconst X114.here hx rfl (hb hby at_262) k) ?_
              exact OEnds.outN X114 Bd.notSynchronized hx (t := .boolean) Bd.returns (by simp) (hb hby at_263) ⟨rfl, N114⟩ (by decide) (by decide)
    · -- again
      exact absurd rfl hn50
set_option maxRecDepth 65536 in
set_option maxHeartbeats 40000000 in
theorem comes_1 {Post : Tables → Env → Array Value → State → Outcome → State → Prop} (hpost : ∀ tb e args s v u, (limb_1_1.after args s (.returned v) u = true ∧ limb_1_2.after args s (.returned v) u = true ∧ True) → FrameEnd s (.returned v) u (Jvm.fieldLocs frame_1_writes args s ++ Jvm.arrayLocs frame_1_arrays args s ++ Jvm.staticLocs frame_1_statics s) 16 384 → Post tb e args s (.returned v) u) :
    ArmFor flags0 classFile x code maxLocals ret World_1 tables_1 room_1 Calls_1 rest_1 Pre_1 Post := by
  intro l hfl _ _ p e ha hc hk s m args below hf hA hF happ hP
  obtain ⟨hcalls, hrest, hpre⟩ := hP
  obtain ⟨-, -, -, hnamed, -, -, -, hat⟩ := (Spec.applies_iff hf).mp happ
  obtain ⟨hg, hn⟩ := and_e (Cond.before_iff.mp (show (Jvm.Cond.and given_1 narrow_1).before args s = true from hpre))
  obtain ⟨g1, g2⟩ := and_e hg
  obtain ⟨g3, g4⟩ := and_e g2
  obtain ⟨g5, g6⟩ := and_e g4
  obtain ⟨g7, g8⟩ := and_e g6
  obtain ⟨w0, w1, w2, w3, rfl⟩ : ∃ w0 w1 w2 w3 : Value, args = #[w0, w1, w2, w3] := by
    have hs : args.size = 4 := by simpa [Cond.value, given_1] using g1
    obtain ⟨L⟩ := args
    match L, hs with
    | [w0, w1, w2, w3], _ => exact ⟨w0, w1, w2, w3, rfl⟩
  have hw := fun d (hd : d ∈ tables_1) => atoms_spec (ws := Jvm.Cond.code x code maxLocals ret :: tables_1) hat d (List.mem_cons_of_mem _ hd)
  have hfit : Fit s := fun {y c} hc i hi => by
    obtain ⟨ha, rfl⟩ := Array.getElem?_eq_some_iff.mp hc
    have q := List.all_eq_true.mp ((Array.all_eq_true_iff_forall_mem.mp hF) _ (Array.getElem_mem ha)) i (List.mem_range.mpr hi)
    simpa [Array.getElem?_eq_getElem hi] using q
  obtain ⟨hsets, hown0⟩ := atoms_of _ (rest_1_c_eq ▸ (show rest_1_c.before _ s = true from hrest))
  have hr0 := Cond.before_iff.mp hown0
  obtain ⟨i0, ei0⟩ := isL_v g3
  obtain rfl : w0 = (.long i0) := Option.some.inj ei0
  obtain ⟨i1, ei1⟩ := isL_v g5
  obtain rfl : w1 = (.long i1) := Option.some.inj ei1
  obtain ⟨i2, ei2⟩ := isL_v g7
  obtain rfl : w2 = (.long i2) := Option.some.inj ei2
  obtain ⟨i3, ei3⟩ := is_v g8
  obtain rfl : w3 = (.int i3) := Option.some.inj ei3
  have SH0 := own_eqint (Cond.before_iff.mp (hsets _ (List.mem_of_getElem? (i := 3) rfl)))
  have SH := Sta.start SH0 (Or.inl (hsets _ (List.mem_of_getElem? (i := 1) rfl)))
  obtain ⟨cc, ev_c⟩ := arr_v (Cond.before_iff.mp (hsets _ (List.mem_of_getElem? (i := 4) rfl)))
  obtain ⟨cl, Ar⟩ := Arr.start ev_c (Cond.before_iff.mp (hsets _ (List.mem_of_getElem? (i := 4) rfl)))
  have hl := own_len ev_c Ar (Cond.before_iff.mp (hsets _ (List.mem_of_getElem? (i := 6) rfl)))
  have SC := Sta.start ev_c (Or.inr ⟨(hw _ (List.mem_of_getElem? (i := 21) rfl)), (hsets _ (List.mem_of_getElem? (i := 2) rfl))⟩)
  have AC := own_AvStart hfit Ar hl.1 hl.2 (by decide)
  obtain ⟨y_1, hy1, EY1⟩ := own_cache ev_c Ar hl.1 hl.2 (Cond.before_iff.mp (hsets _ (List.mem_of_getElem? (i := 7) rfl))) (129 : Int32) (by decide) ev_c
  obtain ⟨y_2, hy2, EY2⟩ := own_cache ev_c Ar hl.1 hl.2 (Cond.before_iff.mp (hsets _ (List.mem_of_getElem? (i := 7) rfl))) (130 : Int32) (by decide) ev_c
  obtain ⟨y_3, hy3, EY3⟩ := own_cache ev_c Ar hl.1 hl.2 (Cond.before_iff.mp (hsets _ (List.mem_of_getElem? (i := 7) rfl))) (131 : Int32) (by decide) ev_c
  obtain ⟨n, o, h1, h2, h3, _, L, rfl, ⟨rfl, N⟩, hq⟩ := rm0 l s _ hw tables_1 i0 i1 i2 i3 cc _ _ y_1 y_2 y_3 s.heap s.heap.size (Nat.le_refl _) SH SC AC hy1 hy2 hy3 EY1 EY2 EY3 p e ha hc hk s m _ below hf ((Spec.applies_iff_loose hf).mp happ).1 ⟨rfl, State.Warmed39.refl s, rfl⟩ trivial
  refine ⟨n, _, h1, h2, h3, hpost _ _ _ _ _ _ ⟨Cond.after_iff.mpr rfl, Cond.after_iff.mpr (eq_i res_at (Term.int_eval (1)) rfl), trivial⟩ ⟨hq.1, hq.2.1, (hq.2.2.sift fun y hy => Or.inr (N y hy)).mono (by decide) (by decide)⟩⟩
theorem main_1_1 : Claimed_1_1 := comes_1 fun _ _ _ _ _ _ h hF => ⟨h.1, hF⟩
theorem main_1_2 : Claimed_1_2 := comes_1 fun _ _ _ _ _ _ h hF => ⟨h.2.1, hF⟩
end Jvm.Pilot.@@N@@
namespace Jvm.Pilot.@@N@@
open Jvm Jvm.ClassFile Sem Op Lib Jvm.Free Jvm.Stand Jvm.Pilot.@@N@@.Jvm.D
/-! MADE BY PROGRAM (witnessworld.py) out of the Statement's table words and the real class files: 19 classes; the members and pool entries that the words name. The judged class is class 1, her method 1. -/
namespace start1
open Jvm.ClassFile
def u (s : String) : CpInfo := .utf8 (stringToUtf16 s)
/-- a pool by its gaps: so many unusable entries, then the entry; so many at the end -/
def gap : Nat → List CpInfo → List CpInfo
  | 0, r => r
  | n + 1, r => .unusable :: gap n r
def poolList (es : List (Nat × CpInfo)) (last : Nat) : List CpInfo := es.foldr (fun e r => gap e.1 (e.2 :: r)) (gap last [])
def pool (es : List (Nat × CpInfo)) (last : Nat) : Array CpInfo := ⟨poolList es last⟩
def fileOf (pool : Array CpInfo) (this : Nat) (attrs : Array Attribute := #[]) (ms : Array MethodInfo := #[]) (fl : Nat := 33) (sup : Nat := 0) (ifs : Array Nat := #[]) (fds : Array FieldInfo := #[]) : ClassFile where
  minorVersion := 0
  majorVersion := 65
  constantPool := pool
  accessFlags := fl
  thisClass := this
  superClass := sup
  interfaces := ifs
  fields := fds
  methods := ms
  attributes := attrs
def plain (name : String) (sup : Option ClassId) : Class where
  name := name
  kind := .ordinary
  loader := none
  accessFlags := 33
  super := sup
  interfaces := #[]
  cf := none
  fields := #[]
  methods := #[]
  instanceTypes := #[]
  staticTypes := #[]
  resolved := #[]
  callSites := []
  init := .initialized
  statics := none
  mirror := none

def pool0 : Array CpInfo := pool [(5, u "<init>"), (0, u "()V"), (1, .class_ 10), (1, u "java/lang/Object")] 113

def k0c0 : Code := { maxStack := 0, maxLocals := 1, code := object_method_1_code, exceptionTable := #[], attributes := #[] }
def k0m0 : Method := { name := "<init>", desc := "()V", sig := { parameters := [], returnType := none }, accessFlags := 1, code := some k0c0 }
/-- java/lang/Object -/
def k0 : Class := { plain "java/lang/Object" none with
  accessFlags := 33
  interfaces := #[]
  cf := some (fileOf pool0 8 #[] #[{ accessFlags := 1, nameIndex := 5, descriptorIndex := 6, attributes := #[] }] 33 0 #[] #[])
  fields := #[]
  methods := #[k0m0]
  instanceTypes := #[]
  staticTypes := #[]
  resolved := Array.replicate 124 none
  statics := none }

def pool1 : Array CpInfo := pool [(2, .class_ 4), (0, .nameAndType 5 6), (0, u "java/lang/Object"), (0, u "<init>"), (0, u "()V"), (0, .class_ 8), (0, u "com/example/slimheap/slimheap/hprof/IdMap"), (0, .methodref 7 3), (0, .methodref 11 12), (0, .class_ 13), (0, .nameAndType 14 15), (0, u "java/lang/Integer"), (0, u "valueOf"), (0, u "(I)Ljava/lang/Integer;"), (0, .methodref 7 17), (0, .nameAndType 18 19), (0, u "put"), (0, u "(JLjava/lang/Object;)V"), (0, .methodref 7 21), (0, .nameAndType 22 23), (0, u "ids"), (0, u "()[J"), (0, .methodref 25 26), (0, .class_ 27), (0, .nameAndType 28 29), (0, u "com/example/slimheap/slimheap/hprof/IdMapIdsPinLaw"), (0, u "has"), (0, u "([JJ)Z"), (0, .methodref 25 31), (0, .nameAndType 32 33), (0, u "inSet"), (0, u "(JIJJJ)Z"), (2, u "law"), (0, u "(JJJI)Z")] 5

def k1m0 : Method := { name := "<init>", desc := "()V", sig := { parameters := [], returnType := none }, accessFlags := 1, code := none }
def k1c1 : Code := { maxStack := 9, maxLocals := 11, code := code, exceptionTable := #[], attributes := #[] }
def k1m1 : Method := { name := "law", desc := "(JJJI)Z", sig := { parameters := [.long, .long, .long, .int], returnType := some .boolean }, accessFlags := 9, code := some k1c1 }
def k1c2 : Code := { maxStack := 4, maxLocals := 3, code := method_3_code, exceptionTable := #[], attributes := #[] }
def k1m2 : Method := { name := "has", desc := "([JJ)Z", sig := { parameters := [(.array .long), .long], returnType := some .boolean }, accessFlags := 10, code := some k1c2 }
def k1c3 : Code := { maxStack := 4, maxLocals := 9, code := method_4_code, exceptionTable := #[], attributes := #[] }
def k1m3 : Method := { name := "inSet", desc := "(JIJJJ)Z", sig := { parameters := [.long, .int, .long, .long, .long], returnType := some .boolean }, accessFlags := 10, code := some k1c3 }
/-- com/example/slimheap/slimheap/hprof/IdMapIdsPinLaw -/
def k1 : Class := { plain "com/example/slimheap/slimheap/hprof/IdMapIdsPinLaw" (some 0) with
  accessFlags := 49
  interfaces := #[]
  cf := some (fileOf pool1 25 #[] #[{ accessFlags := 1, nameIndex := 5, descriptorIndex := 6, attributes := #[] }, { accessFlags := 9, nameIndex := 36, descriptorIndex := 37, attributes := #[] }, { accessFlags := 10, nameIndex := 28, descriptorIndex := 29, attributes := #[] }, { accessFlags := 10, nameIndex := 32, descriptorIndex := 33, attributes := #[] }] 49 2 #[] #[])
  fields := #[]
  methods := #[k1m0, k1m1, k1m2, k1m3]
  instanceTypes := #[]
  staticTypes := #[]
  resolved := Array.replicate 43 none
  statics := none }

def pool2 : Array CpInfo := pool [(1, .methodref 2 3), (0, .class_ 4), (0, .nameAndType 5 6), (0, u "java/lang/Object"), (0, u "<init>"), (0, u "()V"), (0, .class_ 8), (0, u "com/example/slimheap/slimheap/hprof/IdMap"), (0, .fieldref 7 10), (0, .nameAndType 11 12), (0, u "ids"), (0, u "[J"), (0, .fieldref 7 14), (0, .nameAndType 15 16), (0, u "values"), (0, u "[Ljava/lang/Object;"), (0, .methodref 7 18), (0, .nameAndType 19 20), (0, u "slotOf"), (0, u "(J)I"), (11, .fieldref 7 33), (0, .nameAndType 34 35), (0, u "size"), (0, u "I"), (3, .long 11400714819323198485), (1, u "INITIAL_CAPACITY"), (8, u "put"), (0, u "(JLjava/lang/Object;)V"), (2, u "()[J")] 6

def k2c0 : Code := { maxStack := 2, maxLocals := 1, code := prog_31_method_1_code, exceptionTable := #[], attributes := #[] }
def k2m0 : Method := { name := "<init>", desc := "()V", sig := { parameters := [], returnType := none }, accessFlags := 1, code := some k2c0 }
def k2c1 : Code := { maxStack := 4, maxLocals := 5, code := prog_31_method_3_code, exceptionTable := #[], attributes := #[] }
def k2m1 : Method := { name := "put", desc := "(JLjava/lang/Object;)V", sig := { parameters := [.long, (.object "java/lang/Object")], returnType := none }, accessFlags := 1, code := some k2c1 }
def k2c2 : Code := { maxStack := 4, maxLocals := 4, code := prog_31_method_4_code, exceptionTable := #[], attributes := #[] }
def k2m2 : Method := { name := "ids", desc := "()[J", sig := { parameters := [], returnType := some (.array .long) }, accessFlags := 1, code := some k2c2 }
def k2c3 : Code := { maxStack := 5, maxLocals := 7, code := prog_31_method_6_code, exceptionTable := #[], attributes := #[] }
def k2m3 : Method := { name := "slotOf", desc := "(J)I", sig := { parameters := [.long], returnType := some .int }, accessFlags := 2, code := some k2c3 }
/-- com/example/slimheap/slimheap/hprof/IdMap -/
def k2 : Class := { plain "com/example/slimheap/slimheap/hprof/IdMap" (some 0) with
  accessFlags := 49
  interfaces := #[]
  cf := some (fileOf pool2 7 #[] #[{ accessFlags := 1, nameIndex := 5, descriptorIndex := 6, attributes := #[] }, { accessFlags := 1, nameIndex := 50, descriptorIndex := 51, attributes := #[] }, { accessFlags := 1, nameIndex := 11, descriptorIndex := 54, attributes := #[] }, { accessFlags := 2, nameIndex := 19, descriptorIndex := 20, attributes := #[] }] 49 2 #[] #[{ accessFlags := 26, nameIndex := 41, descriptorIndex := 35, attributes := #[] }, { accessFlags := 2, nameIndex := 11, descriptorIndex := 12, attributes := #[] }, { accessFlags := 2, nameIndex := 15, descriptorIndex := 16, attributes := #[] }, { accessFlags := 2, nameIndex := 34, descriptorIndex := 35, attributes := #[] }])
  fields := #[{ name := "INITIAL_CAPACITY", type := .int, accessFlags := 26, slot := 0, constantValue := 0 }, { name := "ids", type := (.array .long), accessFlags := 2, slot := 0, constantValue := 0 }, { name := "values", type := (.array (.object "java/lang/Object")), accessFlags := 2, slot := 1, constantValue := 0 }, { name := "size", type := .int, accessFlags := 2, slot := 2, constantValue := 0 }]
  methods := #[k2m0, k2m1, k2m2, k2m3]
  instanceTypes := #[(.array .long), (.array (.object "java/lang/Object")), .int]
  staticTypes := #[.int]
  resolved := Array.replicate 61 none
  statics := none }

def pool3 : Array CpInfo := pool [(1, .class_ 2), (0, u "java/io/Serializable"), (0, .class_ 4), (0, u "java/lang/Object")] 2

/-- java/io/Serializable -/
def k3 : Class := { plain "java/io/Serializable" (some 0) with
  accessFlags := 1537
  interfaces := #[]
  cf := some (fileOf pool3 1 #[] #[] 1537 3 #[] #[])
  fields := #[]
  methods := #[]
  instanceTypes := #[]
  staticTypes := #[]
  resolved := Array.replicate 7 none
  statics := none }

def pool4 : Array CpInfo := pool [(2, .class_ 4), (1, u "java/lang/Object"), (0, u "<init>"), (0, u "()V"), (1, .class_ 10), (1, u "java/lang/Number"), (2, .class_ 14), (0, u "java/io/Serializable"), (0, u "serialVersionUID"), (0, u "J")] 20

def k4m0 : Method := { name := "<init>", desc := "()V", sig := { parameters := [], returnType := none }, accessFlags := 1, code := none }
/-- java/lang/Number -/
def k4 : Class := { plain "java/lang/Number" (some 0) with
  accessFlags := 1057
  interfaces := #[3]
  cf := some (fileOf pool4 8 #[] #[{ accessFlags := 1, nameIndex := 5, descriptorIndex := 6, attributes := #[] }] 1057 2 #[13] #[{ accessFlags := 26, nameIndex := 15, descriptorIndex := 16, attributes := #[] }])
  fields := #[{ name := "serialVersionUID", type := .long, accessFlags := 26, slot := 0, constantValue := 0 }]
  methods := #[k4m0]
  instanceTypes := #[]
  staticTypes := #[.long]
  resolved := Array.replicate 37 none
  statics := none }

def pool5 : Array CpInfo := pool [(1, .class_ 2), (0, u "java/lang/Comparable"), (0, .class_ 4), (0, u "java/lang/Object")] 7

/-- java/lang/Comparable -/
def k5 : Class := { plain "java/lang/Comparable" (some 0) with
  accessFlags := 1537
  interfaces := #[]
  cf := some (fileOf pool5 1 #[] #[] 1537 3 #[] #[])
  fields := #[]
  methods := #[]
  instanceTypes := #[]
  staticTypes := #[]
  resolved := Array.replicate 12 none
  statics := none }

def pool6 : Array CpInfo := pool [(1, .class_ 2), (0, u "java/lang/constant/Constable"), (0, .class_ 4), (0, u "java/lang/Object")] 6

/-- java/lang/constant/Constable -/
def k6 : Class := { plain "java/lang/constant/Constable" (some 0) with
  accessFlags := 1537
  interfaces := #[]
  cf := some (fileOf pool6 1 #[] #[] 1537 3 #[] #[])
  fields := #[]
  methods := #[]
  instanceTypes := #[]
  staticTypes := #[]
  resolved := Array.replicate 11 none
  statics := none }

def pool7 : Array CpInfo := pool [(1, .class_ 2), (0, u "java/lang/constant/ConstantDesc"), (0, .class_ 4), (0, u "java/lang/Object")] 32

/-- java/lang/constant/ConstantDesc -/
def k7 : Class := { plain "java/lang/constant/ConstantDesc" (some 0) with
  accessFlags := 1537
  interfaces := #[]
  cf := some (fileOf pool7 1 #[] #[] 1537 3 #[] #[])
  fields := #[]
  methods := #[]
  instanceTypes := #[]
  staticTypes := #[]
  resolved := Array.replicate 37 none
  statics := none }

def pool8 : Array CpInfo := pool [(1, .class_ 2), (0, u "java/lang/Integer"), (16, u "digits"), (0, u "[C"), (64, u "DigitOnes"), (0, u "[B"), (2, u "DigitTens"), (97, u "valueOf"), (0, u "(I)Ljava/lang/Integer;"), (0, .class_ 190), (0, u "java/lang/Integer$IntegerCache"), (0, .fieldref 189 192), (0, .nameAndType 193 194), (0, u "high"), (0, u "I"), (0, .fieldref 189 196), (0, .nameAndType 197 198), (0, u "cache"), (0, u "[Ljava/lang/Integer;"), (4, .class_ 204), (0, u "java/lang/Number"), (2, u "value"), (94, u "TYPE"), (0, u "Ljava/lang/Class;"), (0, .class_ 305), (0, u "java/lang/Comparable"), (0, .class_ 307), (0, u "java/lang/constant/Constable"), (0, .class_ 309), (0, u "java/lang/constant/ConstantDesc"), (0, u "MIN_VALUE"), (1, u "MAX_VALUE"), (3, u "SIZE"), (1, u "BYTES"), (1, u "serialVersionUID"), (0, u "J")] 131

def k8c0 : Code := { maxStack := 3, maxLocals := 1, code := jdk_33_method_22_code, exceptionTable := #[], attributes := #[] }
def k8m0 : Method := { name := "valueOf", desc := "(I)Ljava/lang/Integer;", sig := { parameters := [.int], returnType := some (.object "java/lang/Integer") }, accessFlags := 9, code := some k8c0 }
/-- java/lang/Integer -/
def k8 : Class := { plain "java/lang/Integer" (some 4) with
  accessFlags := 49
  interfaces := #[5, 6, 7]
  cf := some (fileOf pool8 1 #[.nestMembers #[189]] #[{ accessFlags := 9, nameIndex := 187, descriptorIndex := 188, attributes := #[] }] 49 203 #[304, 306, 308] #[{ accessFlags := 25, nameIndex := 310, descriptorIndex := 194, attributes := #[] }, { accessFlags := 25, nameIndex := 312, descriptorIndex := 194, attributes := #[] }, { accessFlags := 25, nameIndex := 302, descriptorIndex := 303, attributes := #[] }, { accessFlags := 24, nameIndex := 19, descriptorIndex := 20, attributes := #[] }, { accessFlags := 24, nameIndex := 89, descriptorIndex := 86, attributes := #[] }, { accessFlags := 24, nameIndex := 85, descriptorIndex := 86, attributes := #[] }, { accessFlags := 18, nameIndex := 207, descriptorIndex := 194, attributes := #[] }, { accessFlags := 25, nameIndex := 316, descriptorIndex := 194, attributes := #[] }, { accessFlags := 25, nameIndex := 318, descriptorIndex := 194, attributes := #[] }, { accessFlags := 26, nameIndex := 320, descriptorIndex := 321, attributes := #[] }])
  fields := #[{ name := "MIN_VALUE", type := .int, accessFlags := 25, slot := 0, constantValue := 0 }, { name := "MAX_VALUE", type := .int, accessFlags := 25, slot := 1, constantValue := 0 }, { name := "TYPE", type := (.object "java/lang/Class"), accessFlags := 25, slot := 2, constantValue := 0 }, { name := "digits", type := (.array .char), accessFlags := 24, slot := 3, constantValue := 0 }, { name := "DigitTens", type := (.array .byte), accessFlags := 24, slot := 4, constantValue := 0 }, { name := "DigitOnes", type := (.array .byte), accessFlags := 24, slot := 5, constantValue := 0 }, { name := "value", type := .int, accessFlags := 18, slot := 0, constantValue := 0 }, { name := "SIZE", type := .int, accessFlags := 25, slot := 6, constantValue := 0 }, { name := "BYTES", type := .int, accessFlags := 25, slot := 7, constantValue := 0 }, { name := "serialVersionUID", type := .long, accessFlags := 26, slot := 8, constantValue := 0 }]
  methods := #[k8m0]
  instanceTypes := #[.int]
  staticTypes := #[.int, .int, (.object "java/lang/Class"), (.array .char), (.array .byte), (.array .byte), .int, .int, .long]
  resolved := Array.replicate 453 none
  statics := none }

def pool9 : Array CpInfo := pool [(2, .class_ 4), (1, u "java/lang/Object"), (0, u "<init>"), (0, u "()V"), (0, .class_ 8), (0, u "java/lang/Integer"), (7, .class_ 18), (1, u "java/lang/Integer$IntegerCache"), (0, u "$assertionsDisabled"), (0, u "Z"), (26, u "high"), (0, u "I"), (8, u "archivedCache"), (0, u "[Ljava/lang/Integer;"), (12, u "cache"), (0, u "low")] 27

def k9m0 : Method := { name := "<init>", desc := "()V", sig := { parameters := [], returnType := none }, accessFlags := 2, code := none }
/-- java/lang/Integer$IntegerCache -/
def k9 : Class := { plain "java/lang/Integer$IntegerCache" (some 0) with
  accessFlags := 48
  interfaces := #[]
  cf := some (fileOf pool9 16 #[.nestHost 7] #[{ accessFlags := 2, nameIndex := 5, descriptorIndex := 6, attributes := #[] }] 48 2 #[] #[{ accessFlags := 24, nameIndex := 72, descriptorIndex := 48, attributes := #[] }, { accessFlags := 24, nameIndex := 47, descriptorIndex := 48, attributes := #[] }, { accessFlags := 24, nameIndex := 71, descriptorIndex := 58, attributes := #[] }, { accessFlags := 8, nameIndex := 57, descriptorIndex := 58, attributes := #[] }, { accessFlags := 4120, nameIndex := 19, descriptorIndex := 20, attributes := #[] }])
  fields := #[{ name := "low", type := .int, accessFlags := 24, slot := 0, constantValue := 0 }, { name := "high", type := .int, accessFlags := 24, slot := 1, constantValue := 0 }, { name := "cache", type := (.array (.object "java/lang/Integer")), accessFlags := 24, slot := 2, constantValue := 0 }, { name := "archivedCache", type := (.array (.object "java/lang/Integer")), accessFlags := 8, slot := 3, constantValue := 0 }, { name := "$assertionsDisabled", type := .boolean, accessFlags := 4120, slot := 4, constantValue := 0 }]
  methods := #[k9m0]
  instanceTypes := #[]
  staticTypes := #[.int, .int, (.array (.object "java/lang/Integer")), (.array (.object "java/lang/Integer")), .boolean]
  resolved := Array.replicate 100 none
  statics := some 0 }

def pool10 : Array CpInfo := pool [(1, u "java/lang/Cloneable"), (0, .class_ 1), (0, u "java/lang/Object"), (0, .class_ 3)] 3

/-- java/lang/Cloneable -/
def k10 : Class := { plain "java/lang/Cloneable" (some 0) with
  accessFlags := 1537
  interfaces := #[]
  cf := some (fileOf pool10 2 #[] #[] 1537 4 #[] #[])
  fields := #[]
  methods := #[]
  instanceTypes := #[]
  staticTypes := #[]
  resolved := Array.replicate 8 none
  statics := none }

/-- the primitive byte -/
def k11 : Class := { plain "byte" none with kind := .primitive 'B', accessFlags := 0x411 }
/-- [B -/
def k12 : Class := { plain "[B" (some 0) with kind := .array 11 .byte, interfaces := #[10, 3], accessFlags := 1041 }

/-- the primitive int -/
def k13 : Class := { plain "int" none with kind := .primitive 'I', accessFlags := 0x411 }
/-- [I -/
def k14 : Class := { plain "[I" (some 0) with kind := .array 13 .int, interfaces := #[10, 3], accessFlags := 1041 }

/-- the primitive long -/
def k15 : Class := { plain "long" none with kind := .primitive 'J', accessFlags := 0x411 }
/-- [J -/
def k16 : Class := { plain "[J" (some 0) with kind := .array 15 .long, interfaces := #[10, 3], accessFlags := 1041 }

/-- [Ljava/lang/Integer; -/
def k17 : Class := { plain "[Ljava/lang/Integer;" (some 0) with kind := .array 8 (.object "java/lang/Integer"), interfaces := #[10, 3], accessFlags := 1041 }

/-- [Ljava/lang/Object; -/
def k18 : Class := { plain "[Ljava/lang/Object;" (some 0) with kind := .array 0 (.object "java/lang/Object"), interfaces := #[10, 3], accessFlags := 1041 }

def heap : Heap := #[{ cls := 9, slots := #[.int 0, .int 127, .ref 1, .null, .int 0], vm := .statics 9 },
  { cls := 17, slots := #[.ref 2, .ref 3, .ref 4, .ref 5, .ref 6, .ref 7, .ref 8, .ref 9, .ref 10, .ref 11, .ref 12, .ref 13, .ref 14, .ref 15, .ref 16, .ref 17, .ref 18, .ref 19, .ref 20, .ref 21, .ref 22, .ref 23, .ref 24, .ref 25, .ref 26, .ref 27, .ref 28, .ref 29, .ref 30, .ref 31, .ref 32, .ref 33, .ref 34, .ref 35, .ref 36, .ref 37, .ref 38, .ref 39, .ref 40, .ref 41, .ref 42, .ref 43, .ref 44, .ref 45, .ref 46, .ref 47, .ref 48, .ref 49, .ref 50, .ref 51, .ref 52, .ref 53, .ref 54, .ref 55, .ref 56, .ref 57, .ref 58, .ref 59, .ref 60, .ref 61, .ref 62, .ref 63, .ref 64, .ref 65, .ref 66, .ref 67, .ref 68, .ref 69, .ref 70, .ref 71, .ref 72, .ref 73, .ref 74, .ref 75, .ref 76, .ref 77, .ref 78, .ref 79, .ref 80, .ref 81, .ref 82, .ref 83, .ref 84, .ref 85, .ref 86, .ref 87, .ref 88, .ref 89, .ref 90, .ref 91, .ref 92, .ref 93, .ref 94, .ref 95, .ref 96, .ref 97, .ref 98, .ref 99, .ref 100, .ref 101, .ref 102, .ref 103, .ref 104, .ref 105, .ref 106, .ref 107, .ref 108, .ref 109, .ref 110, .ref 111, .ref 112, .ref 113, .ref 114, .ref 115, .ref 116, .ref 117, .ref 118, .ref 119, .ref 120, .ref 121, .ref 122, .ref 123, .ref 124, .ref 125, .ref 126, .ref 127, .ref 128, .ref 129, .ref 130, .ref 131, .ref 132, .ref 133, .ref 134, .ref 135, .ref 136, .ref 137, .ref 138, .ref 139, .ref 140, .ref 141, .ref 142, .ref 143, .ref 144, .ref 145, .ref 146, .ref 147, .ref 148, .ref 149, .ref 150, .ref 151, .ref 152, .ref 153, .ref 154, .ref 155, .ref 156, .ref 157, .ref 158, .ref 159, .ref 160, .ref 161, .ref 162, .ref 163, .ref 164, .ref 165, .ref 166, .ref 167, .ref 168, .ref 169, .ref 170, .ref 171, .ref 172, .ref 173, .ref 174, .ref 175, .ref 176, .ref 177, .ref 178, .ref 179, .ref 180, .ref 181, .ref 182, .ref 183, .ref 184, .ref 185, .ref 186, .ref 187, .ref 188, .ref 189, .ref 190, .ref 191, .ref 192, .ref 193, .ref 194, .ref 195, .ref 196, .ref 197, .ref 198, .ref 199, .ref 200, .ref 201, .ref 202, .ref 203, .ref 204, .ref 205, .ref 206, .ref 207, .ref 208, .ref 209, .ref 210, .ref 211, .ref 212, .ref 213, .ref 214, .ref 215, .ref 216, .ref 217, .ref 218, .ref 219, .ref 220, .ref 221, .ref 222, .ref 223, .ref 224, .ref 225, .ref 226, .ref 227, .ref 228, .ref 229, .ref 230, .ref 231, .ref 232, .ref 233, .ref 234, .ref 235, .ref 236, .ref 237, .ref 238, .ref 239, .ref 240, .ref 241, .ref 242, .ref 243, .ref 244, .ref 245, .ref 246, .ref 247, .ref 248, .ref 249, .ref 250, .ref 251, .ref 252, .ref 253, .ref 254, .ref 255, .ref 256, .ref 257], vm := .none },
  { cls := 8, slots := #[.int (-128)], vm := .none },
  { cls := 8, slots := #[.int (-127)], vm := .none },
  { cls := 8, slots := #[.int (-126)], vm := .none },
  { cls := 8, slots := #[.int (-125)], vm := .none },
  { cls := 8, slots := #[.int (-124)], vm := .none },
  { cls := 8, slots := #[.int (-123)], vm := .none },
  { cls := 8, slots := #[.int (-122)], vm := .none },
  { cls := 8, slots := #[.int (-121)], vm := .none },
  { cls := 8, slots := #[.int (-120)], vm := .none },
  { cls := 8, slots := #[.int (-119)], vm := .none },
  { cls := 8, slots := #[.int (-118)], vm := .none },
  { cls := 8, slots := #[.int (-117)], vm := .none },
  { cls := 8, slots := #[.int (-116)], vm := .none },
  { cls := 8, slots := #[.int (-115)], vm := .none },
  { cls := 8, slots := #[.int (-114)], vm := .none },
  { cls := 8, slots := #[.int (-113)], vm := .none },
  { cls := 8, slots := #[.int (-112)], vm := .none },
  { cls := 8, slots := #[.int (-111)], vm := .none },
  { cls := 8, slots := #[.int (-110)], vm := .none },
  { cls := 8, slots := #[.int (-109)], vm := .none },
  { cls := 8, slots := #[.int (-108)], vm := .none },
  { cls := 8, slots := #[.int (-107)], vm := .none },
  { cls := 8, slots := #[.int (-106)], vm := .none },
  { cls := 8, slots := #[.int (-105)], vm := .none },
  { cls := 8, slots := #[.int (-104)], vm := .none },
  { cls := 8, slots := #[.int (-103)], vm := .none },
  { cls := 8, slots := #[.int (-102)], vm := .none },
  { cls := 8, slots := #[.int (-101)], vm := .none },
  { cls := 8, slots := #[.int (-100)], vm := .none },
  { cls := 8, slots := #[.int (-99)], vm := .none },
  { cls := 8, slots := #[.int (-98)], vm := .none },
  { cls := 8, slots := #[.int (-97)], vm := .none },
  { cls := 8, slots := #[.int (-96)], vm := .none },
  { cls := 8, slots := #[.int (-95)], vm := .none },
  { cls := 8, slots := #[.int (-94)], vm := .none },
  { cls := 8, slots := #[.int (-93)], vm := .none },
  { cls := 8, slots := #[.int (-92)], vm := .none },
  { cls := 8, slots := #[.int (-91)], vm := .none },
  { cls := 8, slots := #[.int (-90)], vm := .none },
  { cls := 8, slots := #[.int (-89)], vm := .none },
  { cls := 8, slots := #[.int (-88)], vm := .none },
  { cls := 8, slots := #[.int (-87)], vm := .none },
  { cls := 8, slots := #[.int (-86)], vm := .none },
  { cls := 8, slots := #[.int (-85)], vm := .none },
  { cls := 8, slots := #[.int (-84)], vm := .none },
  { cls := 8, slots := #[.int (-83)], vm := .none },
  { cls := 8, slots := #[.int (-82)], vm := .none },
  { cls := 8, slots := #[.int (-81)], vm := .none },
  { cls := 8, slots := #[.int (-80)], vm := .none },
  { cls := 8, slots := #[.int (-79)], vm := .none },
  { cls := 8, slots := #[.int (-78)], vm := .none },
  { cls := 8, slots := #[.int (-77)], vm := .none },
  { cls := 8, slots := #[.int (-76)], vm := .none },
  { cls := 8, slots := #[.int (-75)], vm := .none },
  { cls := 8, slots := #[.int (-74)], vm := .none },
  { cls := 8, slots := #[.int (-73)], vm := .none },
  { cls := 8, slots := #[.int (-72)], vm := .none },
  { cls := 8, slots := #[.int (-71)], vm := .none },
  { cls := 8, slots := #[.int (-70)], vm := .none },
  { cls := 8, slots := #[.int (-69)], vm := .none },
  { cls := 8, slots := #[.int (-68)], vm := .none },
  { cls := 8, slots := #[.int (-67)], vm := .none },
  { cls := 8, slots := #[.int (-66)], vm := .none },
  { cls := 8, slots := #[.int (-65)], vm := .none },
  { cls := 8, slots := #[.int (-64)], vm := .none },
  { cls := 8, slots := #[.int (-63)], vm := .none },
  { cls := 8, slots := #[.int (-62)], vm := .none },
  { cls := 8, slots := #[.int (-61)], vm := .none },
  { cls := 8, slots := #[.int (-60)], vm := .none },
  { cls := 8, slots := #[.int (-59)], vm := .none },
  { cls := 8, slots := #[.int (-58)], vm := .none },
  { cls := 8, slots := #[.int (-57)], vm := .none },
  { cls := 8, slots := #[.int (-56)], vm := .none },
  { cls := 8, slots := #[.int (-55)], vm := .none },
  { cls := 8, slots := #[.int (-54)], vm := .none },
  { cls := 8, slots := #[.int (-53)], vm := .none },
  { cls := 8, slots := #[.int (-52)], vm := .none },
  { cls := 8, slots := #[.int (-51)], vm := .none },
  { cls := 8, slots := #[.int (-50)], vm := .none },
  { cls := 8, slots := #[.int (-49)], vm := .none },
  { cls := 8, slots := #[.int (-48)], vm := .none },
  { cls := 8, slots := #[.int (-47)], vm := .none },
  { cls := 8, slots := #[.int (-46)], vm := .none },
  { cls := 8, slots := #[.int (-45)], vm := .none },
  { cls := 8, slots := #[.int (-44)], vm := .none },
  { cls := 8, slots := #[.int (-43)], vm := .none },
  { cls := 8, slots := #[.int (-42)], vm := .none },
  { cls := 8, slots := #[.int (-41)], vm := .none },
  { cls := 8, slots := #[.int (-40)], vm := .none },
  { cls := 8, slots := #[.int (-39)], vm := .none },
  { cls := 8, slots := #[.int (-38)], vm := .none },
  { cls := 8, slots := #[.int (-37)], vm := .none },
  { cls := 8, slots := #[.int (-36)], vm := .none },
  { cls := 8, slots := #[.int (-35)], vm := .none },
  { cls := 8, slots := #[.int (-34)], vm := .none },
  { cls := 8, slots := #[.int (-33)], vm := .none },
  { cls := 8, slots := #[.int (-32)], vm := .none },
  { cls := 8, slots := #[.int (-31)], vm := .none },
  { cls := 8, slots := #[.int (-30)], vm := .none },
  { cls := 8, slots := #[.int (-29)], vm := .none },
  { cls := 8, slots := #[.int (-28)], vm := .none },
  { cls := 8, slots := #[.int (-27)], vm := .none },
  { cls := 8, slots := #[.int (-26)], vm := .none },
  { cls := 8, slots := #[.int (-25)], vm := .none },
  { cls := 8, slots := #[.int (-24)], vm := .none },
  { cls := 8, slots := #[.int (-23)], vm := .none },
  { cls := 8, slots := #[.int (-22)], vm := .none },
  { cls := 8, slots := #[.int (-21)], vm := .none },
  { cls := 8, slots := #[.int (-20)], vm := .none },
  { cls := 8, slots := #[.int (-19)], vm := .none },
  { cls := 8, slots := #[.int (-18)], vm := .none },
  { cls := 8, slots := #[.int (-17)], vm := .none },
  { cls := 8, slots := #[.int (-16)], vm := .none },
  { cls := 8, slots := #[.int (-15)], vm := .none },
  { cls := 8, slots := #[.int (-14)], vm := .none },
  { cls := 8, slots := #[.int (-13)], vm := .none },
  { cls := 8, slots := #[.int (-12)], vm := .none },
  { cls := 8, slots := #[.int (-11)], vm := .none },
  { cls := 8, slots := #[.int (-10)], vm := .none },
  { cls := 8, slots := #[.int (-9)], vm := .none },
  { cls := 8, slots := #[.int (-8)], vm := .none },
  { cls := 8, slots := #[.int (-7)], vm := .none },
  { cls := 8, slots := #[.int (-6)], vm := .none },
  { cls := 8, slots := #[.int (-5)], vm := .none },
  { cls := 8, slots := #[.int (-4)], vm := .none },
  { cls := 8, slots := #[.int (-3)], vm := .none },
  { cls := 8, slots := #[.int (-2)], vm := .none },
  { cls := 8, slots := #[.int (-1)], vm := .none },
  { cls := 8, slots := #[.int 0], vm := .none },
  { cls := 8, slots := #[.int 1], vm := .none },
  { cls := 8, slots := #[.int 2], vm := .none },
  { cls := 8, slots := #[.int 3], vm := .none },
  { cls := 8, slots := #[.int 4], vm := .none },
  { cls := 8, slots := #[.int 5], vm := .none },
  { cls := 8, slots := #[.int 6], vm := .none },
  { cls := 8, slots := #[.int 7], vm := .none },
  { cls := 8, slots := #[.int 8], vm := .none },
  { cls := 8, slots := #[.int 9], vm := .none },
  { cls := 8, slots := #[.int 10], vm := .none },
  { cls := 8, slots := #[.int 11], vm := .none },
  { cls := 8, slots := #[.int 12], vm := .none },
  { cls := 8, slots := #[.int 13], vm := .none },
  { cls := 8, slots := #[.int 14], vm := .none },
  { cls := 8, slots := #[.int 15], vm := .none },
  { cls := 8, slots := #[.int 16], vm := .none },
  { cls := 8, slots := #[.int 17], vm := .none },
  { cls := 8, slots := #[.int 18], vm := .none },
  { cls := 8, slots := #[.int 19], vm := .none },
  { cls := 8, slots := #[.int 20], vm := .none },
  { cls := 8, slots := #[.int 21], vm := .none },
  { cls := 8, slots := #[.int 22], vm := .none },
  { cls := 8, slots := #[.int 23], vm := .none },
  { cls := 8, slots := #[.int 24], vm := .none },
  { cls := 8, slots := #[.int 25], vm := .none },
  { cls := 8, slots := #[.int 26], vm := .none },
  { cls := 8, slots := #[.int 27], vm := .none },
  { cls := 8, slots := #[.int 28], vm := .none },
  { cls := 8, slots := #[.int 29], vm := .none },
  { cls := 8, slots := #[.int 30], vm := .none },
  { cls := 8, slots := #[.int 31], vm := .none },
  { cls := 8, slots := #[.int 32], vm := .none },
  { cls := 8, slots := #[.int 33], vm := .none },
  { cls := 8, slots := #[.int 34], vm := .none },
  { cls := 8, slots := #[.int 35], vm := .none },
  { cls := 8, slots := #[.int 36], vm := .none },
  { cls := 8, slots := #[.int 37], vm := .none },
  { cls := 8, slots := #[.int 38], vm := .none },
  { cls := 8, slots := #[.int 39], vm := .none },
  { cls := 8, slots := #[.int 40], vm := .none },
  { cls := 8, slots := #[.int 41], vm := .none },
  { cls := 8, slots := #[.int 42], vm := .none },
  { cls := 8, slots := #[.int 43], vm := .none },
  { cls := 8, slots := #[.int 44], vm := .none },
  { cls := 8, slots := #[.int 45], vm := .none },
  { cls := 8, slots := #[.int 46], vm := .none },
  { cls := 8, slots := #[.int 47], vm := .none },
  { cls := 8, slots := #[.int 48], vm := .none },
  { cls := 8, slots := #[.int 49], vm := .none },
  { cls := 8, slots := #[.int 50], vm := .none },
  { cls := 8, slots := #[.int 51], vm := .none },
  { cls := 8, slots := #[.int 52], vm := .none },
  { cls := 8, slots := #[.int 53], vm := .none },
  { cls := 8, slots := #[.int 54], vm := .none },
  { cls := 8, slots := #[.int 55], vm := .none },
  { cls := 8, slots := #[.int 56], vm := .none },
  { cls := 8, slots := #[.int 57], vm := .none },
  { cls := 8, slots := #[.int 58], vm := .none },
  { cls := 8, slots := #[.int 59], vm := .none },
  { cls := 8, slots := #[.int 60], vm := .none },
  { cls := 8, slots := #[.int 61], vm := .none },
  { cls := 8, slots := #[.int 62], vm := .none },
  { cls := 8, slots := #[.int 63], vm := .none },
  { cls := 8, slots := #[.int 64], vm := .none },
  { cls := 8, slots := #[.int 65], vm := .none },
  { cls := 8, slots := #[.int 66], vm := .none },
  { cls := 8, slots := #[.int 67], vm := .none },
  { cls := 8, slots := #[.int 68], vm := .none },
  { cls := 8, slots := #[.int 69], vm := .none },
  { cls := 8, slots := #[.int 70], vm := .none },
  { cls := 8, slots := #[.int 71], vm := .none },
  { cls := 8, slots := #[.int 72], vm := .none },
  { cls := 8, slots := #[.int 73], vm := .none },
  { cls := 8, slots := #[.int 74], vm := .none },
  { cls := 8, slots := #[.int 75], vm := .none },
  { cls := 8, slots := #[.int 76], vm := .none },
  { cls := 8, slots := #[.int 77], vm := .none },
  { cls := 8, slots := #[.int 78], vm := .none },
  { cls := 8, slots := #[.int 79], vm := .none },
  { cls := 8, slots := #[.int 80], vm := .none },
  { cls := 8, slots := #[.int 81], vm := .none },
  { cls := 8, slots := #[.int 82], vm := .none },
  { cls := 8, slots := #[.int 83], vm := .none },
  { cls := 8, slots := #[.int 84], vm := .none },
  { cls := 8, slots := #[.int 85], vm := .none },
  { cls := 8, slots := #[.int 86], vm := .none },
  { cls := 8, slots := #[.int 87], vm := .none },
  { cls := 8, slots := #[.int 88], vm := .none },
  { cls := 8, slots := #[.int 89], vm := .none },
  { cls := 8, slots := #[.int 90], vm := .none },
  { cls := 8, slots := #[.int 91], vm := .none },
  { cls := 8, slots := #[.int 92], vm := .none },
  { cls := 8, slots := #[.int 93], vm := .none },
  { cls := 8, slots := #[.int 94], vm := .none },
  { cls := 8, slots := #[.int 95], vm := .none },
  { cls := 8, slots := #[.int 96], vm := .none },
  { cls := 8, slots := #[.int 97], vm := .none },
  { cls := 8, slots := #[.int 98], vm := .none },
  { cls := 8, slots := #[.int 99], vm := .none },
  { cls := 8, slots := #[.int 100], vm := .none },
  { cls := 8, slots := #[.int 101], vm := .none },
  { cls := 8, slots := #[.int 102], vm := .none },
  { cls := 8, slots := #[.int 103], vm := .none },
  { cls := 8, slots := #[.int 104], vm := .none },
  { cls := 8, slots := #[.int 105], vm := .none },
  { cls := 8, slots := #[.int 106], vm := .none },
  { cls := 8, slots := #[.int 107], vm := .none },
  { cls := 8, slots := #[.int 108], vm := .none },
  { cls := 8, slots := #[.int 109], vm := .none },
  { cls := 8, slots := #[.int 110], vm := .none },
  { cls := 8, slots := #[.int 111], vm := .none },
  { cls := 8, slots := #[.int 112], vm := .none },
  { cls := 8, slots := #[.int 113], vm := .none },
  { cls := 8, slots := #[.int 114], vm := .none },
  { cls := 8, slots := #[.int 115], vm := .none },
  { cls := 8, slots := #[.int 116], vm := .none },
  { cls := 8, slots := #[.int 117], vm := .none },
  { cls := 8, slots := #[.int 118], vm := .none },
  { cls := 8, slots := #[.int 119], vm := .none },
  { cls := 8, slots := #[.int 120], vm := .none },
  { cls := 8, slots := #[.int 121], vm := .none },
  { cls := 8, slots := #[.int 122], vm := .none },
  { cls := 8, slots := #[.int 123], vm := .none },
  { cls := 8, slots := #[.int 124], vm := .none },
  { cls := 8, slots := #[.int 125], vm := .none },
  { cls := 8, slots := #[.int 126], vm := .none },
  { cls := 8, slots := #[.int 127], vm := .none }]
def classes : Array Class := #[k0, k1, k2, k3, k4, k5, k6, k7, k8, k9, k10, k11, k12, k13, k14, k15, k16, k17, k18]
def interned : List (Array UInt16 × Addr) := []
def slotsUsed : Nat := 517
def theMethod : MethodId := ⟨1, 1⟩
def args0 : Array Value := #[.long 5, .long 3, .long 5, .int 3]
def aboutOver (below : List Frame) : State where
  vm := { classes := classes, interned := interned.toArray }
  heap := heap
  slotsUsed := slotsUsed
  threads := #[{ frames := .invoking theMethod args0 :: below }]
def below0 : List Frame := [.native { method := ⟨0, 0⟩, args := #[] }]
def about1 : State := aboutOver below0
def p0 : Program := .bare "" "" ""
def e0 : Env := launch0.env 0 0 0
theorem w_frames : about1.frames = Frame.invoking theMethod args0 :: below0 := rfl
set_option maxRecDepth 65536 in
theorem w_args : argsFit about1.vm theMethod args0 = true := by decide +kernel
set_option maxRecDepth 65536 in
theorem w_heap : heapFits about1 = true := by decide +kernel
set_option maxRecDepth 65536 in
theorem w_runnable : about1.curStatus? = some .runnable := by decide +kernel
set_option maxRecDepth 65536 in
theorem w_alone : about1.alone = true := by decide +kernel
set_option maxRecDepth 65536 in
theorem w_named : about1.methodNamed? x = some theMethod := by decide +kernel
set_option maxRecDepth 65536 in
theorem w_hears : about1.hears theMethod below0 = true := by decide +kernel
set_option maxRecDepth 65536 in
theorem w_ripe : about1.ripe theMethod args0 below0 = true := by decide +kernel
theorem w_running : about1.status = .running := rfl
set_option maxRecDepth 65536 in
theorem w_room : about1.hasRoom e0.platform room_1 = true :=
  launch0.hasRoom_least _ room_1 (by decide +kernel) (by decide +kernel) (by decide +kernel) (by decide +kernel) (by decide +kernel) (by decide +kernel)
theorem allAtoms_all (ts : List Jvm.Cond) (a : Array Jvm.Value) (st : Jvm.State) : (allAtoms ts).before a st = ts.all (fun c => c.before a st) := by
  induction ts with
  | nil => rfl
  | cons c t ih =>
    show (Jvm.Cond.and c (allAtoms t)).before a st = _
    rw [Jvm.Cond.before_and, ih, List.all_cons]
def words1 : List Jvm.Cond := Jvm.Cond.code x code maxLocals ret :: tables_1
/-- a 'code' word, met by the world's own term for the bytes: nothing is compared byte by byte -/
theorem code_word {y : MethodName} {bytes : ByteArray} {mx : Nat} {rt : Option FieldType} {a : Array Value} {s : State} {m : MethodId} {meth : Method} {c : Code} (h1 : s.methodNamed? y = some m) (h2 : s.vm.method? m = some meth) (h3 : meth.code = some c) (h4 : c.code = bytes)
    (h5 : (c.maxLocals == mx && c.exceptionTable.isEmpty && decide (c.maxStack ≤ mostOperands) && decide (meth.sig.returnType = rt) && !meth.locks && decide (parseMethodDescriptor y.desc = some meth.sig)) = true) : (Jvm.Cond.code y bytes mx rt).before a s = true := by
  simp only [Bool.and_eq_true, beq_iff_eq, Bool.not_eq_true', decide_eq_true_eq] at h5
  obtain ⟨⟨⟨⟨⟨g1, g2⟩, g3⟩, g4⟩, g5⟩, g6⟩ := h5
  simp [Cond.before, Cond.holds, Cond.value, h1, h2, h3, h4, g1, g2, g3, g4, g5, g6]
def isCode : Jvm.Cond → Bool
  | .code _ _ _ _ => true
  | _ => false
theorem all_split {L : List Jvm.Cond} {P : Jvm.Cond → Bool} (h1 : L.all (fun c => isCode c || P c) = true) (h2 : ∀ c ∈ L.filter isCode, P c = true) : L.all P = true := by
  refine List.all_eq_true.mpr fun c hc => ?_
  have h := List.all_eq_true.mp h1 c hc
  rcases Bool.eq_false_or_eq_true (isCode c) with hi | hi
  · exact h2 c (List.mem_filter.mpr ⟨hc, hi⟩)
  · simpa [hi] using h
set_option maxRecDepth 65536 in
theorem w_c0 : (Jvm.Cond.code x code maxLocals ret).before args0 about1 = true := code_word (m := ⟨1, 1⟩) (meth := k1m1) (c := k1c1) (by decide +kernel) rfl rfl rfl (by decide +kernel)
set_option maxRecDepth 65536 in
theorem w_c1 : (Jvm.Cond.code ({ cls := "com/example/slimheap/slimheap/hprof/IdMap", name := "<init>", desc := "()V" } : Jvm.MethodName) prog_31_method_1_code (1 : Nat) (Option.none : Option Jvm.ClassFile.FieldType)).before args0 about1 = true := code_word (m := ⟨2, 0⟩) (meth := k2m0) (c := k2c0) (by decide +kernel) rfl rfl rfl (by decide +kernel)
set_option maxRecDepth 65536 in
theorem w_c2 : (Jvm.Cond.code ({ cls := "java/lang/Object", name := "<init>", desc := "()V" } : Jvm.MethodName) object_method_1_code (1 : Nat) (Option.none : Option Jvm.ClassFile.FieldType)).before args0 about1 = true := code_word (m := ⟨0, 0⟩) (meth := k0m0) (c := k0c0) (by decide +kernel) rfl rfl rfl (by decide +kernel)
set_option maxRecDepth 65536 in
theorem w_c3 : (Jvm.Cond.code ({ cls := "java/lang/Integer", name := "valueOf", desc := "(I)Ljava/lang/Integer;" } : Jvm.MethodName) jdk_33_method_22_code (1 : Nat) (Option.some (Jvm.ClassFile.FieldType.object "java/lang/Integer"))).before args0 about1 = true := code_word (m := ⟨8, 0⟩) (meth := k8m0) (c := k8c0) (by decide +kernel) rfl rfl rfl (by decide +kernel)
set_option maxRecDepth 65536 in
theorem w_c4 : (Jvm.Cond.code ({ cls := "com/example/slimheap/slimheap/hprof/IdMap", name := "put", desc := "(JLjava/lang/Object;)V" } : Jvm.MethodName) prog_31_method_3_code (5 : Nat) (Option.none : Option Jvm.ClassFile.FieldType)).before args0 about1 = true := code_word (m := ⟨2, 1⟩) (meth := k2m1) (c := k2c1) (by decide +kernel) rfl rfl rfl (by decide +kernel)
set_option maxRecDepth 65536 in
theorem w_c5 : (Jvm.Cond.code ({ cls := "com/example/slimheap/slimheap/hprof/IdMap", name := "slotOf", desc := "(J)I" } : Jvm.MethodName) prog_31_method_6_code (7 : Nat) (Option.some Jvm.ClassFile.FieldType.int)).before args0 about1 = true := code_word (m := ⟨2, 3⟩) (meth := k2m3) (c := k2c3) (by decide +kernel) rfl rfl rfl (by decide +kernel)
set_option maxRecDepth 65536 in
theorem w_c6 : (Jvm.Cond.code ({ cls := "com/example/slimheap/slimheap/hprof/IdMap", name := "ids", desc := "()[J" } : Jvm.MethodName) prog_31_method_4_code (4 : Nat) (Option.some (Jvm.ClassFile.FieldType.array Jvm.ClassFile.FieldType.long))).before args0 about1 = true := code_word (m := ⟨2, 2⟩) (meth := k2m2) (c := k2c2) (by decide +kernel) rfl rfl rfl (by decide +kernel)
set_option maxRecDepth 65536 in
theorem w_c7 : (Jvm.Cond.code ({ cls := "com/example/slimheap/slimheap/hprof/IdMapIdsPinLaw", name := "has", desc := "([JJ)Z" } : Jvm.MethodName) method_3_code (3 : Nat) (Option.some Jvm.ClassFile.FieldType.boolean)).before args0 about1 = true := code_word (m := ⟨1, 2⟩) (meth := k1m2) (c := k1c2) (by decide +kernel) rfl rfl rfl (by decide +kernel)
set_option maxRecDepth 65536 in
theorem w_c8 : (Jvm.Cond.code ({ cls := "com/example/slimheap/slimheap/hprof/IdMapIdsPinLaw", name := "inSet", desc := "(JIJJJ)Z" } : Jvm.MethodName) method_4_code (9 : Nat) (Option.some Jvm.ClassFile.FieldType.boolean)).before args0 about1 = true := code_word (m := ⟨1, 3⟩) (meth := k1m3) (c := k1c3) (by decide +kernel) rfl rfl rfl (by decide +kernel)
def codes1 : List Jvm.Cond := [Jvm.Cond.code x code maxLocals ret, Jvm.Cond.code ({ cls := "com/example/slimheap/slimheap/hprof/IdMap", name := "<init>", desc := "()V" } : Jvm.MethodName) prog_31_method_1_code (1 : Nat) (Option.none : Option Jvm.ClassFile.FieldType), Jvm.Cond.code ({ cls := "java/lang/Object", name := "<init>", desc := "()V" } : Jvm.MethodName) object_method_1_code (1 : Nat) (Option.none : Option Jvm.ClassFile.FieldType), Jvm.Cond.code ({ cls := "java/lang/Integer", name := "valueOf", desc := "(I)Ljava/lang/Integer;" } : Jvm.MethodName) jdk_33_method_22_code (1 : Nat) (Option.some (Jvm.ClassFile.FieldType.object "java/lang/Integer")), Jvm.Cond.code ({ cls := "com/example/slimheap/slimheap/hprof/IdMap", name := "put", desc := "(JLjava/lang/Object;)V" } : Jvm.MethodName) prog_31_method_3_code (5 : Nat) (Option.none : Option Jvm.ClassFile.FieldType), Jvm.Cond.code ({ cls := "com/example/slimheap/slimheap/hprof/IdMap", name := "slotOf", desc := "(J)I" } : Jvm.MethodName) prog_31_method_6_code (7 : Nat) (Option.some Jvm.ClassFile.FieldType.int), Jvm.Cond.code ({ cls := "com/example/slimheap/slimheap/hprof/IdMap", name := "ids", desc := "()[J" } : Jvm.MethodName) prog_31_method_4_code (4 : Nat) (Option.some (Jvm.ClassFile.FieldType.array Jvm.ClassFile.FieldType.long)), Jvm.Cond.code ({ cls := "com/example/slimheap/slimheap/hprof/IdMapIdsPinLaw", name := "has", desc := "([JJ)Z" } : Jvm.MethodName) method_3_code (3 : Nat) (Option.some Jvm.ClassFile.FieldType.boolean), Jvm.Cond.code ({ cls := "com/example/slimheap/slimheap/hprof/IdMapIdsPinLaw", name := "inSet", desc := "(JIJJJ)Z" } : Jvm.MethodName) method_4_code (9 : Nat) (Option.some Jvm.ClassFile.FieldType.boolean)]
set_option maxRecDepth 65536 in
theorem codes_eq : words1.filter isCode = codes1 := rfl
theorem w_codes : ∀ c ∈ words1.filter isCode, c.before args0 about1 = true := by
  rw [codes_eq]
  intro c hc
  simp only [codes1, List.mem_cons, List.not_mem_nil, or_false] at hc
  rcases hc with rfl | rfl | rfl | rfl | rfl | rfl | rfl | rfl | rfl
  · exact w_c0
  · exact w_c1
  · exact w_c2
  · exact w_c3
  · exact w_c4
  · exact w_c5
  · exact w_c6
  · exact w_c7
  · exact w_c8
set_option maxRecDepth 65536 in
theorem w_t1 : (words1.take 24).all (fun c => isCode c || c.before args0 about1) = true := by decide +kernel
set_option maxRecDepth 65536 in
theorem w_t2 : ((words1.drop 24).take 24).all (fun c => isCode c || c.before args0 about1) = true := by decide +kernel
set_option maxRecDepth 65536 in
theorem w_t3 : ((words1.drop 24).drop 24).all (fun c => isCode c || c.before args0 about1) = true := by decide +kernel
theorem w_tables : (allAtoms (Jvm.Cond.code x code maxLocals ret :: tables_1)).before args0 about1 = true := by
  rw [allAtoms_all]
  show words1.all (fun c => c.before args0 about1) = true
  refine all_split ?_ w_codes
  rw [← List.take_append_drop 24 words1, List.all_append, w_t1, ← List.take_append_drop 24 (words1.drop 24), List.all_append, w_t2, w_t3]
  rfl
set_option maxRecDepth 65536 in
theorem w_rest : rest_1_c.before args0 about1 = true := by decide +kernel
set_option maxRecDepth 65536 in
theorem w_case : (Jvm.Cond.and given_1 narrow_1).before args0 about1 = true := by decide +kernel
theorem w_applies : (headSpec (Jvm.Cond.code x code maxLocals ret :: tables_1) room_1).applies x e0.platform about1 = true :=
  (Spec.applies_iff w_frames).mpr ⟨w_running, w_runnable, w_alone, w_named, w_hears, w_ripe, w_room, w_tables⟩
theorem atStart : AtStart classFile x code maxLocals ret World_1 tables_1 room_1 Calls_1 rest_1 Pre_1 launch0 p0 e0 about1 theMethod args0 below0 :=
  ⟨lists_1, trivial, launch0.admits_env _ _ _, launch0.least_env, fairChoices_fair.cas, fairChoices_fair.clock, w_frames, w_args, w_heap, w_applies, trivial, w_rest, w_case⟩
end start1
theorem witness_1 : WitnessClaimed_1 := ⟨start1.p0, start1.e0, start1.about1, start1.theMethod, start1.args0, start1.below0, start1.atStart⟩
end Jvm.Pilot.@@N@@
