import JvmDerived
import JvmDerived.Pilot.@@N@@Statement
import JvmDerived.Pilot.@@N@@Code
set_option linter.unusedVariables false
set_option linter.unusedSimpArgs false
namespace Jvm.RoadKit
open Sem ClassFile Op Lib Jvm.Stand Jvm.Free Jvm.LawKit
section New
variable {p : Program} {l : Launch} {e : Env} {R : Room} {s : State} {m : MethodId} {args : Array Value} {below : List Frame} {meth : Method} {c : Code} {T T' : State} {locs : List Loc} {cells slots : Nat}
theorem retI (X : Stand p l e R s m args below meth c T locs cells slots) (hx : p.tables.exec = Jvm.exec) {pc : Nat} {Ls : Array Slot} {z : Int32} {rest : List Value} (hret : meth.sig.returnType = some .int) (hd : decode c.code pc = .ok (.ireturn, 1)) {fs : List Frame}
    (hl : ∀ (f : JFrame) (acts : List Action), f.method = m → f.locked = none → f.entered = [] → (doReturn e (T.setTop f) acts (some (.int z))).1 = T.setFrames fs) : Steps p.tables e below (T.setTop (mkF m pc Ls (.int z :: rest))) (T.setFrames fs) := by
  have hm' : T.vm.method? m = some meth := X.method'
  have hn : narrow .int (.int z) = .int z := rfl
  show Steps p.tables e below (T.setTop { method := m, pc := pc, locals := Ls, stack := _ :: rest, locked := none }) _
  jvm_step X.here [X.here.top, hx, hd, hm', hret, hn]
  first | (intro acts; rw [hl _ acts rfl rfl rfl]) | rw [hl _ _ rfl rfl rfl]
  exact Steps.refl _
/-- from this frame the run comes to an end of which P holds -/
def OEnds (p : Program) (e : Env) (below : List Frame) (P : Outcome → State → Prop) (T : State) (g : JFrame) : Prop :=
  ∃ s₂ o, Steps p.tables e below (T.setTop g) s₂ ∧ s₂.status = .running ∧ Ended s₂ below o ∧ P o s₂
theorem OEnds.go {P : Outcome → State → Prop} {g g' : JFrame} (h : ∀ t, Steps p.tables e below (T'.setTop g') t → Steps p.tables e below (T.setTop g) t) (k : OEnds p e below P T' g') : OEnds p e below P T g := by
  obtain ⟨s₂, o, h1, h2⟩ := k
  exact ⟨s₂, o, h _ h1, h2⟩
theorem OEnds.tr {P : Outcome → State → Prop} {g g' : JFrame} (h : Steps p.tables e below (T.setTop g) (T'.setTop g')) (k : OEnds p e below P T' g') : OEnds p e below P T g :=
  OEnds.go (fun _ q => h.trans q) k
/-- what a contract of this family says of the end -/
def OEndP (s : State) (Q : Option Value → Heap → List Loc → Prop) (C N : Nat) (o : Outcome) (U' : State) : Prop := ∃ v L, o = .returned v ∧ Q v U'.heap L ∧ FrameEnd s o U' L C N
theorem OEnds.out (X : Stand p l e R s m args below meth c T locs cells slots) (hlocks : meth.locks = false) {v : Option Value} (hv : meth.sig.returnType = none → v = none) {Q : Option Value → Heap → List Loc → Prop} {C N : Nat} {g : JFrame}
    (hs : ∀ fs, (∀ (f : JFrame) (acts : List Action), f.method = m → f.locked = none → f.entered = [] → (doReturn e (T.setTop f) acts v).1 = T.setFrames fs) → Steps p.tables e below (T.setTop g) (T.setFrames fs))
    (hq : Q v T.heap locs) (hc : cells ≤ C) (hn : slots ≤ N) : OEnds p e below (OEndP s Q C N) T g := by
  obtain ⟨fs, hr, hrun, hended, hW, hsame⟩ := X.leave (v := v) hv hlocks
  exact ⟨_, _, hs fs hr, hrun, hended, _, _, rfl, hq, ⟨_, rfl⟩, hW, hsame.mono hc hn⟩
theorem OEnds.outN (X : Stand p l e R s m args below meth c T locs cells slots) (hlocks : meth.locks = false) (hx : p.tables.exec = Jvm.exec) {pc : Nat} {Ls : Array Slot} {z : Int32} {t : FieldType} {rest : List Value} (hret : meth.sig.returnType = some t) (ht : t = .boolean ∨ t = .byte ∨ t = .char ∨ t = .short)
    (hd : decode c.code pc = .ok (.ireturn, 1)) {Q : Option Value → Heap → List Loc → Prop} {C N : Nat} (hq : Q (some (.int (nar t z))) T.heap locs) (hc : cells ≤ C) (hn : slots ≤ N) : OEnds p e below (OEndP s Q C N) T (mkF m pc Ls (.int z :: rest)) :=
  OEnds.out X hlocks (fun h => by rw [hret] at h; cases h) (fun fs hr => retN X hx hret ht hd hr) hq hc hn
theorem OEnds.outI (X : Stand p l e R s m args below meth c T locs cells slots) (hlocks : meth.locks = false) (hx : p.tables.exec = Jvm.exec) {pc : Nat} {Ls : Array Slot} {z : Int32} {rest : List Value} (hret : meth.sig.returnType = some .int)
    (hd : decode c.code pc = .ok (.ireturn, 1)) {Q : Option Value → Heap → List Loc → Prop} {C N : Nat} (hq : Q (some (.int z)) T.heap locs) (hc : cells ≤ C) (hn : slots ≤ N) : OEnds p e below (OEndP s Q C N) T (mkF m pc Ls (.int z :: rest)) :=
  OEnds.out X hlocks (fun h => by rw [hret] at h; cases h) (fun fs hr => retI X hx hret hd hr) hq hc hn
theorem OEnds.outJ (X : Stand p l e R s m args below meth c T locs cells slots) (hlocks : meth.locks = false) (hx : p.tables.exec = Jvm.exec) {pc : Nat} {Ls : Array Slot} {z : Int64} {rest : List Value} (hret : meth.sig.returnType = some .long)
    (hd : decode c.code pc = .ok (.lreturn, 1)) {Q : Option Value → Heap → List Loc → Prop} {C N : Nat} (hq : Q (some (.long z)) T.heap locs) (hc : cells ≤ C) (hn : slots ≤ N) : OEnds p e below (OEndP s Q C N) T (mkF m pc Ls (.long z :: rest)) :=
  OEnds.out X hlocks (fun h => by rw [hret] at h; cases h) (fun fs hr => retOut X hx hret rfl (Or.inr (Or.inl ⟨rfl, rfl, z, rfl⟩)) hd hr) hq hc hn
theorem OEnds.outA (X : Stand p l e R s m args below meth c T locs cells slots) (hlocks : meth.locks = false) (hx : p.tables.exec = Jvm.exec) {pc : Nat} {Ls : Array Slot} {w : Value} {t : FieldType} {rest : List Value} (hret : meth.sig.returnType = some t) (ht : t.isReference = true) (hw : w.isRef = true)
    (hd : decode c.code pc = .ok (.areturn, 1)) {Q : Option Value → Heap → List Loc → Prop} {C N : Nat} (hq : Q (some w) T.heap locs) (hc : cells ≤ C) (hn : slots ≤ N) : OEnds p e below (OEndP s Q C N) T (mkF m pc Ls (w :: rest)) :=
  OEnds.out X hlocks (fun h => by rw [hret] at h; cases h) (fun fs hr => retOut X hx hret (by rcases ref_cases hw with rfl | ⟨a, rfl⟩ <;> cases t <;> first | rfl | cases ht) (Or.inr (Or.inr (Or.inr (Or.inr ⟨rfl, ht, hw⟩)))) hd hr) hq hc hn
theorem OEnds.outV (X : Stand p l e R s m args below meth c T locs cells slots) (hlocks : meth.locks = false) (hx : p.tables.exec = Jvm.exec) {pc : Nat} {Ls : Array Slot} (hret : meth.sig.returnType = none)
    (hd : decode c.code pc = .ok (.return_, 1)) {Q : Option Value → Heap → List Loc → Prop} {C N : Nat} (hq : Q none T.heap locs) (hc : cells ≤ C) (hn : slots ≤ N) : OEnds p e below (OEndP s Q C N) T (mkF m pc Ls []) :=
  OEnds.out X hlocks (fun _ => rfl) (fun fs hr => X.returnOut hx hret hd hr) hq hc hn
end New
end Jvm.RoadKit
namespace Jvm.RoadKit
open Sem ClassFile Op Lib Jvm.Stand Jvm.Free Jvm.LawKit
section NewW
variable {p : Program} {l : Launch} {e : Env} {R : Room} {s : State} {m : MethodId} {args : Array Value} {below : List Frame} {meth : Method} {c : Code} {T T' : State} {locs : List Loc} {cells slots : Nat} {vm0 : Vm} {k0 : Nat}
/-- what a contract says of the end, where String constants may have been resolved -/
def OEndPW (s : State) (Q : Option Value → Heap → List Loc → Prop) (C N : Nat) (o : Outcome) (U' : State) : Prop := ∃ v L, o = .returned v ∧ Q v U'.heap L ∧ ReturnedEndW s o U' L C N
theorem sbnW {U : State} (h : (s.setVm vm0).sameButNew ({ U with vm := (s.setVm vm0).vm } : State) locs cells slots) : s.sameButNew ({ U with vm := s.vm } : State) locs cells slots := by
  obtain ⟨h1, h2⟩ := h
  refine ⟨?_, h2⟩
  have := congrArg (fun x : State => ({ x with vm := s.vm } : State)) h1
  exact this
theorem OEnds.outW (X : Stand p l e R (s.setVm vm0) m args below meth c T locs cells slots) (hlocks : meth.locks = false) (hS : s.Since vm0 k0) (hk : k0 ≤ T.heap.size) {v : Option Value} (hv : meth.sig.returnType = none → v = none) {Q : Option Value → Heap → List Loc → Prop} {C N : Nat} {g : JFrame}
    (hs : ∀ fs, (∀ (f : JFrame) (acts : List Action), f.method = m → f.locked = none → f.entered = [] → (doReturn e (T.setTop f) acts v).1 = T.setFrames fs) → Steps p.tables e below (T.setTop g) (T.setFrames fs))
    (hq : Q v T.heap locs) (hc : cells ≤ C) (hn : slots ≤ N) : OEnds p e below (OEndPW s Q C N) T g := by
  obtain ⟨fs, hr, hrun, hended, hW, hsame⟩ := X.leave (v := v) hv hlocks
  have hS2 := hS.trans (hW.since (T.setFrames fs).heap.size) hk
  exact ⟨_, _, hs fs hr, hrun, hended, _, _, rfl, hq, ⟨_, rfl⟩, hS2.1, hS2.2, (sbnW hsame).mono hc hn⟩
theorem OEnds.outNW (X : Stand p l e R (s.setVm vm0) m args below meth c T locs cells slots) (hlocks : meth.locks = false) (hS : s.Since vm0 k0) (hk : k0 ≤ T.heap.size) (hx : p.tables.exec = Jvm.exec) {pc : Nat} {Ls : Array Slot} {z : Int32} {t : FieldType} {rest : List Value} (hret : meth.sig.returnType = some t) (ht : t = .boolean ∨ t = .byte ∨ t = .char ∨ t = .short)
    (hd : decode c.code pc = .ok (.ireturn, 1)) {Q : Option Value → Heap → List Loc → Prop} {C N : Nat} (hq : Q (some (.int (nar t z))) T.heap locs) (hc : cells ≤ C) (hn : slots ≤ N) : OEnds p e below (OEndPW s Q C N) T (mkF m pc Ls (.int z :: rest)) :=
  OEnds.outW X hlocks hS hk (fun h => by rw [hret] at h; cases h) (fun fs hr => retN X hx hret ht hd hr) hq hc hn
theorem OEnds.outIW (X : Stand p l e R (s.setVm vm0) m args below meth c T locs cells slots) (hlocks : meth.locks = false) (hS : s.Since vm0 k0) (hk : k0 ≤ T.heap.size) (hx : p.tables.exec = Jvm.exec) {pc : Nat} {Ls : Array Slot} {z : Int32} {rest : List Value} (hret : meth.sig.returnType = some .int)
    (hd : decode c.code pc = .ok (.ireturn, 1)) {Q : Option Value → Heap → List Loc → Prop} {C N : Nat} (hq : Q (some (.int z)) T.heap locs) (hc : cells ≤ C) (hn : slots ≤ N) : OEnds p e below (OEndPW s Q C N) T (mkF m pc Ls (.int z :: rest)) :=
  OEnds.outW X hlocks hS hk (fun h => by rw [hret] at h; cases h) (fun fs hr => retI X hx hret hd hr) hq hc hn
theorem OEnds.outJW (X : Stand p l e R (s.setVm vm0) m args below meth c T locs cells slots) (hlocks : meth.locks = false) (hS : s.Since vm0 k0) (hk : k0 ≤ T.heap.size) (hx : p.tables.exec = Jvm.exec) {pc : Nat} {Ls : Array Slot} {z : Int64} {rest : List Value} (hret : meth.sig.returnType = some .long)
    (hd : decode c.code pc = .ok (.lreturn, 1)) {Q : Option Value → Heap → List Loc → Prop} {C N : Nat} (hq : Q (some (.long z)) T.heap locs) (hc : cells ≤ C) (hn : slots ≤ N) : OEnds p e below (OEndPW s Q C N) T (mkF m pc Ls (.long z :: rest)) :=
  OEnds.outW X hlocks hS hk (fun h => by rw [hret] at h; cases h) (fun fs hr => retOut X hx hret rfl (Or.inr (Or.inl ⟨rfl, rfl, z, rfl⟩)) hd hr) hq hc hn
theorem OEnds.outAW (X : Stand p l e R (s.setVm vm0) m args below meth c T locs cells slots) (hlocks : meth.locks = false) (hS : s.Since vm0 k0) (hk : k0 ≤ T.heap.size) (hx : p.tables.exec = Jvm.exec) {pc : Nat} {Ls : Array Slot} {w : Value} {t : FieldType} {rest : List Value} (hret : meth.sig.returnType = some t) (ht : t.isReference = true) (hw : w.isRef = true)
    (hd : decode c.code pc = .ok (.areturn, 1)) {Q : Option Value → Heap → List Loc → Prop} {C N : Nat} (hq : Q (some w) T.heap locs) (hc : cells ≤ C) (hn : slots ≤ N) : OEnds p e below (OEndPW s Q C N) T (mkF m pc Ls (w :: rest)) :=
  OEnds.outW X hlocks hS hk (fun h => by rw [hret] at h; cases h) (fun fs hr => retOut X hx hret (by rcases ref_cases hw with rfl | ⟨a, rfl⟩ <;> cases t <;> first | rfl | cases ht) (Or.inr (Or.inr (Or.inr (Or.inr ⟨rfl, ht, hw⟩)))) hd hr) hq hc hn
theorem OEnds.outVW (X : Stand p l e R (s.setVm vm0) m args below meth c T locs cells slots) (hlocks : meth.locks = false) (hS : s.Since vm0 k0) (hk : k0 ≤ T.heap.size) (hx : p.tables.exec = Jvm.exec) {pc : Nat} {Ls : Array Slot} (hret : meth.sig.returnType = none)
    (hd : decode c.code pc = .ok (.return_, 1)) {Q : Option Value → Heap → List Loc → Prop} {C N : Nat} (hq : Q none T.heap locs) (hc : cells ≤ C) (hn : slots ≤ N) : OEnds p e below (OEndPW s Q C N) T (mkF m pc Ls []) :=
  OEnds.outW X hlocks hS hk (fun _ => rfl) (fun fs hr => X.returnOut hx hret hd hr) hq hc hn
end NewW
end Jvm.RoadKit
namespace Jvm.Pilot.@@N@@
open Jvm Jvm.ClassFile Sem Op Lib Jvm.Free Jvm.Stand Jvm.LawKit Jvm.RoadKit Bundle Jvm.Pilot.@@N@@.Jvm.D
theorem d1_0 : decode jdk_42_method_3_code 0 = .ok (.aload_n 0, 1) := by decide +kernel
theorem d1_1 : decode jdk_42_method_3_code 1 = .ok (.aload_n 1, 1) := by decide +kernel
theorem d1_2 : decode jdk_42_method_3_code 2 = .ok (.iconst 0, 1) := by decide +kernel
theorem d1_3 : decode jdk_42_method_3_code 3 = .ok (.aload_n 1, 1) := by decide +kernel
theorem d1_4 : decode jdk_42_method_3_code 4 = .ok (.arraylength, 1) := by decide +kernel
theorem d1_5 : decode jdk_42_method_3_code 5 = .ok (.aconst_null, 1) := by decide +kernel
theorem d1_6 : decode jdk_42_method_3_code 6 = .ok (.invokespecial 27, 3) := by decide +kernel
theorem d1_9 : decode jdk_42_method_3_code 9 = .ok (.return_, 1) := by decide +kernel
theorem d2_0 : decode jdk_42_method_149_code 0 = .ok (.aload_n 0, 1) := by decide +kernel
theorem d2_1 : decode jdk_42_method_149_code 1 = .ok (.invokespecial 1, 3) := by decide +kernel
theorem d2_4 : decode jdk_42_method_149_code 4 = .ok (.iload_n 3, 1) := by decide +kernel
theorem d2_5 : decode jdk_42_method_149_code 5 = .ok (.ifCond .ne 22, 3) := by decide +kernel
theorem d2_27 : decode jdk_42_method_149_code 27 = .ok (.getstatic 38, 3) := by decide +kernel
theorem d2_30 : decode jdk_42_method_149_code 30 = .ok (.ifCond .eq 28, 3) := by decide +kernel
theorem d2_33 : decode jdk_42_method_149_code 33 = .ok (.aload_n 1, 1) := by decide +kernel
theorem d2_34 : decode jdk_42_method_149_code 34 = .ok (.iload_n 2, 1) := by decide +kernel
theorem d2_35 : decode jdk_42_method_149_code 35 = .ok (.iload_n 3, 1) := by decide +kernel
theorem d2_36 : decode jdk_42_method_149_code 36 = .ok (.invokestatic 177, 3) := by decide +kernel
theorem d2_39 : decode jdk_42_method_149_code 39 = .ok (.astore 5, 2) := by decide +kernel
theorem d2_41 : decode jdk_42_method_149_code 41 = .ok (.aload_n 0, 1) := by decide +kernel
theorem d2_42 : decode jdk_42_method_149_code 42 = .ok (.aload 5, 2) := by decide +kernel
theorem d2_44 : decode jdk_42_method_149_code 44 = .ok (.iload_n 3, 1) := by decide +kernel
theorem d2_45 : decode jdk_42_method_149_code 45 = .ok (.invokestatic 47, 3) := by decide +kernel
theorem d2_48 : decode jdk_42_method_149_code 48 = .ok (.putfield 15, 3) := by decide +kernel
theorem d2_51 : decode jdk_42_method_149_code 51 = .ok (.aload_n 0, 1) := by decide +kernel
theorem d2_52 : decode jdk_42_method_149_code 52 = .ok (.aload 5, 2) := by decide +kernel
theorem d2_54 : decode jdk_42_method_149_code 54 = .ok (.putfield 9, 3) := by decide +kernel
theorem d2_57 : decode jdk_42_method_149_code 57 = .ok (.return_, 1) := by decide +kernel
theorem d4_0 : decode jdk_52_method_16_code 0 = .ok (.iload_n 2, 1) := by decide +kernel
theorem d4_1 : decode jdk_52_method_16_code 1 = .ok (.newarray .byte, 2) := by decide +kernel
theorem d4_3 : decode jdk_52_method_16_code 3 = .ok (.astore_n 3, 1) := by decide +kernel
theorem d4_4 : decode jdk_52_method_16_code 4 = .ok (.aload_n 0, 1) := by decide +kernel
theorem d4_5 : decode jdk_52_method_16_code 5 = .ok (.iload_n 1, 1) := by decide +kernel
theorem d4_6 : decode jdk_52_method_16_code 6 = .ok (.aload_n 3, 1) := by decide +kernel
theorem d4_7 : decode jdk_52_method_16_code 7 = .ok (.iconst 0, 1) := by decide +kernel
theorem d4_8 : decode jdk_52_method_16_code 8 = .ok (.iload_n 2, 1) := by decide +kernel
theorem d4_9 : decode jdk_52_method_16_code 9 = .ok (.invokestatic 115, 3) := by decide +kernel
theorem d4_12 : decode jdk_52_method_16_code 12 = .ok (.istore 4, 2) := by decide +kernel
theorem d4_14 : decode jdk_52_method_16_code 14 = .ok (.iload 4, 2) := by decide +kernel
theorem d4_16 : decode jdk_52_method_16_code 16 = .ok (.iload_n 2, 1) := by decide +kernel
theorem d4_17 : decode jdk_52_method_16_code 17 = .ok (.if_icmp .eq 40, 3) := by decide +kernel
theorem d4_57 : decode jdk_52_method_16_code 57 = .ok (.aload_n 3, 1) := by decide +kernel
theorem d4_58 : decode jdk_52_method_16_code 58 = .ok (.areturn, 1) := by decide +kernel
theorem d5_0 : decode jdk_52_method_21_code 0 = .ok (.iconst 0, 1) := by decide +kernel
theorem d5_1 : decode jdk_52_method_21_code 1 = .ok (.istore 5, 2) := by decide +kernel
theorem d5_3 : decode jdk_52_method_21_code 3 = .ok (.iload 5, 2) := by decide +kernel
theorem d5_5 : decode jdk_52_method_21_code 5 = .ok (.iload 4, 2) := by decide +kernel
theorem d5_7 : decode jdk_52_method_21_code 7 = .ok (.if_icmp .ge 37, 3) := by decide +kernel
theorem d5_10 : decode jdk_52_method_21_code 10 = .ok (.aload_n 0, 1) := by decide +kernel
theorem d5_11 : decode jdk_52_method_21_code 11 = .ok (.iload_n 1, 1) := by decide +kernel
theorem d5_12 : decode jdk_52_method_21_code 12 = .ok (.caload, 1) := by decide +kernel
theorem d5_13 : decode jdk_52_method_21_code 13 = .ok (.istore 6, 2) := by decide +kernel
theorem d5_15 : decode jdk_52_method_21_code 15 = .ok (.iload 6, 2) := by decide +kernel
theorem d5_17 : decode jdk_52_method_21_code 17 = .ok (.sipush 255, 3) := by decide +kernel
theorem d5_20 : decode jdk_52_method_21_code 20 = .ok (.if_icmp .le 6, 3) := by decide +kernel
theorem d5_26 : decode jdk_52_method_21_code 26 = .ok (.aload_n 2, 1) := by decide +kernel
theorem d5_27 : decode jdk_52_method_21_code 27 = .ok (.iload_n 3, 1) := by decide +kernel
theorem d5_28 : decode jdk_52_method_21_code 28 = .ok (.iload 6, 2) := by decide +kernel
theorem d5_30 : decode jdk_52_method_21_code 30 = .ok (.i2b, 1) := by decide +kernel
theorem d5_31 : decode jdk_52_method_21_code 31 = .ok (.bastore, 1) := by decide +kernel
theorem d5_32 : decode jdk_52_method_21_code 32 = .ok (.iinc 1 1, 3) := by decide +kernel
theorem d5_35 : decode jdk_52_method_21_code 35 = .ok (.iinc 3 1, 3) := by decide +kernel
theorem d5_38 : decode jdk_52_method_21_code 38 = .ok (.iinc 5 1, 3) := by decide +kernel
theorem d5_41 : decode jdk_52_method_21_code 41 = .ok (.goto (-38), 3) := by decide +kernel
theorem d5_44 : decode jdk_52_method_21_code 44 = .ok (.iload 4, 2) := by decide +kernel
theorem d5_46 : decode jdk_52_method_21_code 46 = .ok (.ireturn, 1) := by decide +kernel
theorem d6_0 : decode jdk_52_method_15_code 0 = .ok (.iload_n 1, 1) := by decide +kernel
theorem d6_1 : decode jdk_52_method_15_code 1 = .ok (.aload_n 0, 1) := by decide +kernel
theorem d6_2 : decode jdk_52_method_15_code 2 = .ok (.arraylength, 1) := by decide +kernel
theorem d6_3 : decode jdk_52_method_15_code 3 = .ok (.isub, 1) := by decide +kernel
theorem d6_4 : decode jdk_52_method_15_code 4 = .ok (.bipush 31, 2) := by decide +kernel
theorem d6_6 : decode jdk_52_method_15_code 6 = .ok (.iushr, 1) := by decide +kernel
theorem d6_7 : decode jdk_52_method_15_code 7 = .ok (.i2b, 1) := by decide +kernel
theorem d6_8 : decode jdk_52_method_15_code 8 = .ok (.ireturn, 1) := by decide +kernel
theorem d7_0 : decode prog_20_method_1_code 0 = .ok (.aload_n 0, 1) := by decide +kernel
theorem d7_1 : decode prog_20_method_1_code 1 = .ok (.invokespecial 1, 3) := by decide +kernel
theorem d7_4 : decode prog_20_method_1_code 4 = .ok (.aload_n 0, 1) := by decide +kernel
theorem d7_5 : decode prog_20_method_1_code 5 = .ok (.iconst 1, 1) := by decide +kernel
theorem d7_6 : decode prog_20_method_1_code 6 = .ok (.putfield 7, 3) := by decide +kernel
theorem d7_9 : decode prog_20_method_1_code 9 = .ok (.aload_n 0, 1) := by decide +kernel
theorem d7_10 : decode prog_20_method_1_code 10 = .ok (.iconst 1, 1) := by decide +kernel
theorem d7_11 : decode prog_20_method_1_code 11 = .ok (.putfield 13, 3) := by decide +kernel
theorem d7_14 : decode prog_20_method_1_code 14 = .ok (.aload_n 0, 1) := by decide +kernel
theorem d7_15 : decode prog_20_method_1_code 15 = .ok (.iconst (-1), 1) := by decide +kernel
theorem d7_16 : decode prog_20_method_1_code 16 = .ok (.putfield 16, 3) := by decide +kernel
theorem d7_19 : decode prog_20_method_1_code 19 = .ok (.aload_n 0, 1) := by decide +kernel
theorem d7_20 : decode prog_20_method_1_code 20 = .ok (.aload_n 1, 1) := by decide +kernel
theorem d7_21 : decode prog_20_method_1_code 21 = .ok (.putfield 19, 3) := by decide +kernel
theorem d7_24 : decode prog_20_method_1_code 24 = .ok (.aload_n 0, 1) := by decide +kernel
theorem d7_25 : decode prog_20_method_1_code 25 = .ok (.aload_n 2, 1) := by decide +kernel
theorem d7_26 : decode prog_20_method_1_code 26 = .ok (.putfield 23, 3) := by decide +kernel
theorem d7_29 : decode prog_20_method_1_code 29 = .ok (.return_, 1) := by decide +kernel
theorem d8_0 : decode prog_22_method_1_code 0 = .ok (.aload_n 0, 1) := by decide +kernel
theorem d8_1 : decode prog_22_method_1_code 1 = .ok (.invokespecial 1, 3) := by decide +kernel
theorem d8_4 : decode prog_22_method_1_code 4 = .ok (.aload_n 0, 1) := by decide +kernel
theorem d8_5 : decode prog_22_method_1_code 5 = .ok (.iload_n 1, 1) := by decide +kernel
theorem d8_6 : decode prog_22_method_1_code 6 = .ok (.putfield 7, 3) := by decide +kernel
theorem d8_9 : decode prog_22_method_1_code 9 = .ok (.aload_n 0, 1) := by decide +kernel
theorem d8_10 : decode prog_22_method_1_code 10 = .ok (.iload_n 2, 1) := by decide +kernel
theorem d8_11 : decode prog_22_method_1_code 11 = .ok (.putfield 13, 3) := by decide +kernel
theorem d8_14 : decode prog_22_method_1_code 14 = .ok (.aload_n 0, 1) := by decide +kernel
theorem d8_15 : decode prog_22_method_1_code 15 = .ok (.iload_n 3, 1) := by decide +kernel
theorem d8_16 : decode prog_22_method_1_code 16 = .ok (.putfield 16, 3) := by decide +kernel
theorem d8_19 : decode prog_22_method_1_code 19 = .ok (.return_, 1) := by decide +kernel
theorem d9_0 : decode jdk_30_method_1_code 0 = .ok (.aload_n 0, 1) := by decide +kernel
theorem d9_1 : decode jdk_30_method_1_code 1 = .ok (.invokespecial 1, 3) := by decide +kernel
theorem d9_4 : decode jdk_30_method_1_code 4 = .ok (.return_, 1) := by decide +kernel
theorem d10_0 : decode prog_20_method_8_code 0 = .ok (.aload_n 0, 1) := by decide +kernel
theorem d10_1 : decode prog_20_method_8_code 1 = .ok (.aload_n 1, 1) := by decide +kernel
theorem d10_2 : decode prog_20_method_8_code 2 = .ok (.invokevirtual 69, 3) := by decide +kernel
theorem d10_5 : decode prog_20_method_8_code 5 = .ok (.putfield 26, 3) := by decide +kernel
theorem d10_8 : decode prog_20_method_8_code 8 = .ok (.aload_n 0, 1) := by decide +kernel
theorem d10_9 : decode prog_20_method_8_code 9 = .ok (.aload_n 1, 1) := by decide +kernel
theorem d10_10 : decode prog_20_method_8_code 10 = .ok (.invokevirtual 71, 3) := by decide +kernel
theorem d10_13 : decode prog_20_method_8_code 13 = .ok (.putfield 7, 3) := by decide +kernel
theorem d10_16 : decode prog_20_method_8_code 16 = .ok (.aload_n 0, 1) := by decide +kernel
theorem d10_17 : decode prog_20_method_8_code 17 = .ok (.aload_n 1, 1) := by decide +kernel
theorem d10_18 : decode prog_20_method_8_code 18 = .ok (.invokevirtual 73, 3) := by decide +kernel
theorem d10_21 : decode prog_20_method_8_code 21 = .ok (.putfield 13, 3) := by decide +kernel
theorem d10_24 : decode prog_20_method_8_code 24 = .ok (.return_, 1) := by decide +kernel
theorem d11_0 : decode prog_22_method_5_code 0 = .ok (.aload_n 0, 1) := by decide +kernel
theorem d11_1 : decode prog_22_method_5_code 1 = .ok (.getfield 7, 3) := by decide +kernel
theorem d11_4 : decode prog_22_method_5_code 4 = .ok (.ireturn, 1) := by decide +kernel
theorem d12_0 : decode prog_22_method_6_code 0 = .ok (.aload_n 0, 1) := by decide +kernel
theorem d12_1 : decode prog_22_method_6_code 1 = .ok (.getfield 13, 3) := by decide +kernel
theorem d12_4 : decode prog_22_method_6_code 4 = .ok (.ireturn, 1) := by decide +kernel
theorem d13_0 : decode prog_22_method_7_code 0 = .ok (.aload_n 0, 1) := by decide +kernel
theorem d13_1 : decode prog_22_method_7_code 1 = .ok (.getfield 16, 3) := by decide +kernel
theorem d13_4 : decode prog_22_method_7_code 4 = .ok (.ireturn, 1) := by decide +kernel
theorem d14_0 : decode prog_20_method_7_code 0 = .ok (.new 64, 3) := by decide +kernel
theorem d14_3 : decode prog_20_method_7_code 3 = .ok (.dup, 1) := by decide +kernel
theorem d14_4 : decode prog_20_method_7_code 4 = .ok (.aload_n 0, 1) := by decide +kernel
theorem d14_5 : decode prog_20_method_7_code 5 = .ok (.getfield 26, 3) := by decide +kernel
theorem d14_8 : decode prog_20_method_7_code 8 = .ok (.aload_n 0, 1) := by decide +kernel
theorem d14_9 : decode prog_20_method_7_code 9 = .ok (.getfield 7, 3) := by decide +kernel
theorem d14_12 : decode prog_20_method_7_code 12 = .ok (.aload_n 0, 1) := by decide +kernel
theorem d14_13 : decode prog_20_method_7_code 13 = .ok (.getfield 13, 3) := by decide +kernel
theorem d14_16 : decode prog_20_method_7_code 16 = .ok (.invokespecial 66, 3) := by decide +kernel
theorem d14_19 : decode prog_20_method_7_code 19 = .ok (.areturn, 1) := by decide +kernel
theorem d15_0 : decode prog_20_method_2_code 0 = .ok (.aload_n 0, 1) := by decide +kernel
theorem d15_1 : decode prog_20_method_2_code 1 = .ok (.getfield 26, 3) := by decide +kernel
theorem d15_4 : decode prog_20_method_2_code 4 = .ok (.aload_n 0, 1) := by decide +kernel
theorem d15_5 : decode prog_20_method_2_code 5 = .ok (.getfield 23, 3) := by decide +kernel
theorem d15_8 : decode prog_20_method_2_code 8 = .ok (.invokevirtual 29, 3) := by decide +kernel
theorem d15_11 : decode prog_20_method_2_code 11 = .ok (.if_icmp .lt 7, 3) := by decide +kernel
theorem d15_14 : decode prog_20_method_2_code 14 = .ok (.iconst 1, 1) := by decide +kernel
theorem d15_15 : decode prog_20_method_2_code 15 = .ok (.goto 4, 3) := by decide +kernel
theorem d15_18 : decode prog_20_method_2_code 18 = .ok (.iconst 0, 1) := by decide +kernel
theorem d15_19 : decode prog_20_method_2_code 19 = .ok (.ireturn, 1) := by decide +kernel
theorem d16_0 : decode jdk_42_method_54_code 0 = .ok (.aload_n 0, 1) := by decide +kernel
theorem d16_1 : decode jdk_42_method_54_code 1 = .ok (.getfield 9, 3) := by decide +kernel
theorem d16_4 : decode jdk_42_method_54_code 4 = .ok (.arraylength, 1) := by decide +kernel
theorem d16_5 : decode jdk_42_method_54_code 5 = .ok (.aload_n 0, 1) := by decide +kernel
theorem d16_6 : decode jdk_42_method_54_code 6 = .ok (.invokevirtual 335, 3) := by decide +kernel
theorem d16_9 : decode jdk_42_method_54_code 9 = .ok (.ishr, 1) := by decide +kernel
theorem d16_10 : decode jdk_42_method_54_code 10 = .ok (.ireturn, 1) := by decide +kernel
theorem d17_0 : decode jdk_42_method_152_code 0 = .ok (.getstatic 38, 3) := by decide +kernel
theorem d17_3 : decode jdk_42_method_152_code 3 = .ok (.ifCond .eq 10, 3) := by decide +kernel
theorem d17_6 : decode jdk_42_method_152_code 6 = .ok (.aload_n 0, 1) := by decide +kernel
theorem d17_7 : decode jdk_42_method_152_code 7 = .ok (.getfield 15, 3) := by decide +kernel
theorem d17_10 : decode jdk_42_method_152_code 10 = .ok (.goto 4, 3) := by decide +kernel
theorem d17_14 : decode jdk_42_method_152_code 14 = .ok (.ireturn, 1) := by decide +kernel
theorem d18_0 : decode prog_20_method_3_code 0 = .ok (.aload_n 0, 1) := by decide +kernel
theorem d18_1 : decode prog_20_method_3_code 1 = .ok (.getfield 26, 3) := by decide +kernel
theorem d18_4 : decode prog_20_method_3_code 4 = .ok (.aload_n 0, 1) := by decide +kernel
theorem d18_5 : decode prog_20_method_3_code 5 = .ok (.getfield 23, 3) := by decide +kernel
theorem d18_8 : decode prog_20_method_3_code 8 = .ok (.invokevirtual 29, 3) := by decide +kernel
theorem d18_11 : decode prog_20_method_3_code 11 = .ok (.if_icmp .ge 22, 3) := by decide +kernel
theorem d18_14 : decode prog_20_method_3_code 14 = .ok (.aload_n 0, 1) := by decide +kernel
theorem d18_15 : decode prog_20_method_3_code 15 = .ok (.getfield 23, 3) := by decide +kernel
theorem d18_18 : decode prog_20_method_3_code 18 = .ok (.aload_n 0, 1) := by decide +kernel
theorem d18_19 : decode prog_20_method_3_code 19 = .ok (.getfield 26, 3) := by decide +kernel
theorem d18_22 : decode prog_20_method_3_code 22 = .ok (.invokevirtual 35, 3) := by decide +kernel
theorem d18_25 : decode prog_20_method_3_code 25 = .ok (.iload_n 1, 1) := by decide +kernel
theorem d18_26 : decode prog_20_method_3_code 26 = .ok (.if_icmp .ne 7, 3) := by decide +kernel
theorem d18_29 : decode prog_20_method_3_code 29 = .ok (.iconst 1, 1) := by decide +kernel
theorem d18_30 : decode prog_20_method_3_code 30 = .ok (.goto 4, 3) := by decide +kernel
theorem d18_33 : decode prog_20_method_3_code 33 = .ok (.iconst 0, 1) := by decide +kernel
theorem d18_34 : decode prog_20_method_3_code 34 = .ok (.ireturn, 1) := by decide +kernel
theorem d19_0 : decode jdk_42_method_56_code 0 = .ok (.aload_n 0, 1) := by decide +kernel
theorem d19_1 : decode jdk_42_method_56_code 1 = .ok (.invokevirtual 492, 3) := by decide +kernel
theorem d19_4 : decode jdk_42_method_56_code 4 = .ok (.ifCond .eq 12, 3) := by decide +kernel
theorem d19_7 : decode jdk_42_method_56_code 7 = .ok (.aload_n 0, 1) := by decide +kernel
theorem d19_8 : decode jdk_42_method_56_code 8 = .ok (.getfield 9, 3) := by decide +kernel
theorem d19_11 : decode jdk_42_method_56_code 11 = .ok (.iload_n 1, 1) := by decide +kernel
theorem d19_12 : decode jdk_42_method_56_code 12 = .ok (.invokestatic 495, 3) := by decide +kernel
theorem d19_15 : decode jdk_42_method_56_code 15 = .ok (.ireturn, 1) := by decide +kernel
theorem d20_0 : decode jdk_42_method_154_code 0 = .ok (.getstatic 38, 3) := by decide +kernel
theorem d20_3 : decode jdk_42_method_154_code 3 = .ok (.ifCond .eq 14, 3) := by decide +kernel
theorem d20_6 : decode jdk_42_method_154_code 6 = .ok (.aload_n 0, 1) := by decide +kernel
theorem d20_7 : decode jdk_42_method_154_code 7 = .ok (.getfield 15, 3) := by decide +kernel
theorem d20_10 : decode jdk_42_method_154_code 10 = .ok (.ifCond .ne 7, 3) := by decide +kernel
theorem d20_13 : decode jdk_42_method_154_code 13 = .ok (.iconst 1, 1) := by decide +kernel
theorem d20_14 : decode jdk_42_method_154_code 14 = .ok (.goto 4, 3) := by decide +kernel
theorem d20_18 : decode jdk_42_method_154_code 18 = .ok (.ireturn, 1) := by decide +kernel
theorem d21_0 : decode jdk_43_method_2_code 0 = .ok (.iload_n 1, 1) := by decide +kernel
theorem d21_1 : decode jdk_43_method_2_code 1 = .ok (.aload_n 0, 1) := by decide +kernel
theorem d21_2 : decode jdk_43_method_2_code 2 = .ok (.arraylength, 1) := by decide +kernel
theorem d21_3 : decode jdk_43_method_2_code 3 = .ok (.invokestatic 9, 3) := by decide +kernel
theorem d21_6 : decode jdk_43_method_2_code 6 = .ok (.aload_n 0, 1) := by decide +kernel
theorem d21_7 : decode jdk_43_method_2_code 7 = .ok (.iload_n 1, 1) := by decide +kernel
theorem d21_8 : decode jdk_43_method_2_code 8 = .ok (.baload, 1) := by decide +kernel
theorem d21_9 : decode jdk_43_method_2_code 9 = .ok (.sipush 255, 3) := by decide +kernel
theorem d21_12 : decode jdk_43_method_2_code 12 = .ok (.iand, 1) := by decide +kernel
theorem d21_13 : decode jdk_43_method_2_code 13 = .ok (.i2c, 1) := by decide +kernel
theorem d21_14 : decode jdk_43_method_2_code 14 = .ok (.ireturn, 1) := by decide +kernel
theorem d22_0 : decode jdk_42_method_155_code 0 = .ok (.iload_n 0, 1) := by decide +kernel
theorem d22_1 : decode jdk_42_method_155_code 1 = .ok (.iload_n 1, 1) := by decide +kernel
theorem d22_2 : decode jdk_42_method_155_code 2 = .ok (.getstatic 1053, 3) := by decide +kernel
theorem d22_5 : decode jdk_42_method_155_code 5 = .ok (.invokestatic 1059, 3) := by decide +kernel
theorem d22_8 : decode jdk_42_method_155_code 8 = .ok (.pop, 1) := by decide +kernel
theorem d22_9 : decode jdk_42_method_155_code 9 = .ok (.return_, 1) := by decide +kernel
theorem d23_0 : decode jdk_41_method_11_code 0 = .ok (.iload_n 0, 1) := by decide +kernel
theorem d23_1 : decode jdk_41_method_11_code 1 = .ok (.ifCond .lt 8, 3) := by decide +kernel
theorem d23_4 : decode jdk_41_method_11_code 4 = .ok (.iload_n 0, 1) := by decide +kernel
theorem d23_5 : decode jdk_41_method_11_code 5 = .ok (.iload_n 1, 1) := by decide +kernel
theorem d23_6 : decode jdk_41_method_11_code 6 = .ok (.if_icmp .lt 10, 3) := by decide +kernel
theorem d23_16 : decode jdk_41_method_11_code 16 = .ok (.iload_n 0, 1) := by decide +kernel
theorem d23_17 : decode jdk_41_method_11_code 17 = .ok (.ireturn, 1) := by decide +kernel
theorem pn_0 : plainName "java/lang/StringUTF16" = true := by first | (simp [plainName, overriddenIn]; done) | decide +kernel
theorem pn_1 : plainName "java/lang/String" = true := by first | (simp [plainName, overriddenIn]; done) | decide +kernel
theorem pn_2 : plainName "java/lang/Record" = true := by first | (simp [plainName, overriddenIn]; done) | decide +kernel
theorem pn_3 : plainName "com/example/shapewright/shapewright/reader/IdlScanner$Mark" = true := by first | (simp [plainName, overriddenIn]; done) | decide +kernel
theorem pn_4 : plainName "com/example/shapewright/shapewright/reader/IdlScanner" = true := by first | (simp [plainName, overriddenIn]; done) | decide +kernel
theorem pn_5 : plainName "jdk/internal/util/Preconditions" = true := by first | (simp [plainName, overriddenIn]; done) | decide +kernel
theorem pn_6 : plainName "java/lang/StringLatin1" = true := by first | (simp [plainName, overriddenIn]; done) | decide +kernel
theorem pn_7 : plainName "com/example/shapewright/shapewright/reader/IdlScannerResetPinLaw" = true := by first | (simp [plainName, overriddenIn]; done) | decide +kernel
theorem pd_0 : parseMethodDescriptor "([CI[BII)I" = some ⟨[(.array .char), .int, (.array .byte), .int, .int], some .int⟩ := by decide +kernel
theorem pd_1 : parseMethodDescriptor "([CII)[B" = some ⟨[(.array .char), .int, .int], some (.array .byte)⟩ := by decide +kernel
theorem pd_2 : parseMethodDescriptor "([BI)B" = some ⟨[(.array .byte), .int], some .byte⟩ := by decide +kernel
theorem pd_3 : parseMethodDescriptor "([CIILjava/lang/Void;)V" = some ⟨[(.array .char), .int, .int, (.object "java/lang/Void")], none⟩ := by decide +kernel
theorem pd_4 : parseMethodDescriptor "()B" = some ⟨[], some .byte⟩ := by decide +kernel
theorem pd_5 : parseMethodDescriptor "()V" = some ⟨[], none⟩ := by decide +kernel
theorem pd_6 : parseMethodDescriptor "()I" = some ⟨[], some .int⟩ := by decide +kernel
theorem pd_7 : parseMethodDescriptor "(III)V" = some ⟨[.int, .int, .int], none⟩ := by decide +kernel
theorem pd_8 : parseMethodDescriptor "(IILjava/util/function/BiFunction;)I" = some ⟨[.int, .int, (.object "java/util/function/BiFunction")], some .int⟩ := by decide +kernel
theorem pd_9 : parseMethodDescriptor "(II)V" = some ⟨[.int, .int], none⟩ := by decide +kernel
theorem pd_10 : parseMethodDescriptor "()Z" = some ⟨[], some .boolean⟩ := by decide +kernel
theorem pd_11 : parseMethodDescriptor "([BI)C" = some ⟨[(.array .byte), .int], some .char⟩ := by decide +kernel
theorem pd_12 : parseMethodDescriptor "(I)C" = some ⟨[.int], some .char⟩ := by decide +kernel
theorem pd_13 : parseMethodDescriptor "([C)V" = some ⟨[(.array .char)], none⟩ := by decide +kernel
theorem pd_14 : parseMethodDescriptor "(Ljava/lang/String;Ljava/lang/String;)V" = some ⟨[(.object "java/lang/String"), (.object "java/lang/String")], none⟩ := by decide +kernel
theorem pd_15 : parseMethodDescriptor "(Lcom/example/shapewright/shapewright/reader/IdlScanner$Mark;)V" = some ⟨[(.object "com/example/shapewright/shapewright/reader/IdlScanner$Mark")], none⟩ := by decide +kernel
theorem pd_16 : parseMethodDescriptor "()Lcom/example/shapewright/shapewright/reader/IdlScanner$Mark;" = some ⟨[], some (.object "com/example/shapewright/shapewright/reader/IdlScanner$Mark")⟩ := by decide +kernel
theorem pd_17 : parseMethodDescriptor "(C)Z" = some ⟨[.char], some .boolean⟩ := by decide +kernel
theorem own_nat (c : Int32) (h0 : 0 ≤ c.toInt) : c = Int32.ofNat c.toInt.toNat := by
  apply Int32.toInt_inj.mp
  have h1 := c.toInt_lt
  rw [Int32.toInt_ofNat_of_lt (by omega)]
  omega
theorem own_fin {P : Int32 → Prop} (K : Nat) (h : ∀ n : Fin K, P (Int32.ofNat n.1)) (c : Int32) (h0 : 0 ≤ c.toInt) (h1 : c.toInt < K) : P c := by
  rw [own_nat c h0]; exact h ⟨c.toInt.toNat, by omega⟩
theorem own_fin' {P : Int32 → Prop} (K : Nat) (c : Int32) (h0 : 0 ≤ c.toInt) (h1 : c.toInt < K) (h : ∀ n : Fin K, P (Int32.ofNat n.1)) : P c := own_fin K h c h0 h1
theorem own_no {G : Prop} {x : Int32} (h : x = 1) (h' : x = 0) : G := absurd (h.symm.trans h') (by decide)
theorem own_eqint {args : Array Value} {Z : State} {t : Term} {n : Int32} (h : (Jvm.Cond.eq t (.int n)).value args Z none Z [] = some true) : t.eval args Z none [] Z = some (.int n) := by
  simp only [Cond.value, Term.eval] at h
  cases ht : t.eval args Z none [] Z with
  | none => simp [ht] at h
  | some x => cases x <;> simp [ht] at h ⊢; exact h
theorem own_len {args : Array Value} {Z : State} {t : Term} {x : Addr} {cl : Cell} {ty : FieldType} {n : Int32} (ht : t.eval args Z none [] Z = some (.ref x)) (A : Arr Z Z.heap x cl ty) (h : (Jvm.Cond.eq (.length t) (.int n)).value args Z none Z [] = some true) : cl.slots.size < 2 ^ 31 ∧ cl.slots.size.toInt32 = n := by
  have e := own_eqint h
  have ha : Z.arrayAt? x = some cl := A.fin (Vm.Alike.refl _)
  by_cases hl : cl.slots.size < 2 ^ 31
  · rw [len_f ht ha hl] at e
    exact ⟨hl, Value.int.inj (Option.some.inj e)⟩
  · simp [Term.eval, ht, ha, hl] at e
theorem own_elem {args : Array Value} {Z : State} {t u : Term} {x y : Addr} {cl : Cell} {j : Int32} (ht : t.eval args Z none [] Z = some (.ref x)) (hc : Z.heap[x]? = some cl) (hu : u.eval args Z none [] Z = some (.ref y)) (h : (Jvm.Cond.eq (.elem t (.int j)) u).value args Z none Z [] = some true) : cl.slots[j.toNatClampNeg]? = some (.ref y) := by
  obtain ⟨v, w, e1, e2, -⟩ := cmp_v (Or.inl h)
  cases hu.symm.trans e2
  obtain ⟨h1, h2⟩ := elem_in e1 ht (Term.int_eval j) hc
  have hr : v.isRef = true := by
    have := h
    cases v <;> simp [Cond.value, e1, e2, Value.isRef] at this ⊢
  have q := gotT (eq_R e1 e2 hr rfl) h
  rw [h2, q]
theorem own_fldI {args : Array Value} {Z : State} {t : Term} {x : Addr} {C n d : String} {v : Int32} (ht : t.eval args Z none [] Z = some (.ref x)) (h : (Jvm.Cond.eq (.field t C n d) (.int v)).value args Z none Z [] = some true) : Fld Z Z.heap x C n d (.int v) := by
  have e := own_eqint h
  rw [fld_at ht] at e
  exact Fld.start e
theorem own_catI (x : Int32) : (Value.int x).category = 1 := rfl
theorem own_catJ (x : Int64) : (Value.long x).category = 2 := rfl
theorem own_catR (x : Addr) : (Value.ref x).category = 1 := rfl
theorem own_catN : (Value.null).category = 1 := rfl
theorem own_cat {v : Value} (h : v.isRef = true) : v.category = 1 := by rcases ref_cases h with rfl | ⟨_, rfl⟩ <;> rfl
def own_by (c : Int32) : Int32 := (c.toInt8.toInt32).toInt8.toInt32
theorem own_cc {c : Int32} (h : 0 ≤ c.toInt ∧ c.toInt ≤ 255) : (c.toUInt32.toUInt16.toUInt32.toInt32) = c := by
  have q := c_i2c c
  exact Int32.toInt_inj.mp (by omega)
theorem own_le {c : Int32} (h : 0 ≤ c.toInt ∧ c.toInt ≤ 255) : ¬ (255 : Int32) < c := by
  have e : (255 : Int32).toInt = 255 := by decide
  rw [Int32.lt_iff_toInt_lt]; omega
theorem own_ch (x : Int32) : 0 ≤ ((x &&& (255 : Int32)).toUInt32.toUInt16.toUInt32.toInt32).toInt ∧ ((x &&& (255 : Int32)).toUInt32.toUInt16.toUInt32.toInt32).toInt ≤ 255 := by
  have q := c_i2c (x &&& (255 : Int32))
  have h := c_mask x 255 8 (by decide) (by decide)
  omega
theorem own_sta_keep {Z : State} {h h' : Heap} {C n d : String} {v : Value} {ws : List Addr} (F : Sta Z h C n d v) (K : Keep h h' ws) (q : ∀ x ∈ ws, ∃ c : Cell, h[x]? = some c ∧ c.vm.isStatics = false) : Sta Z h' C n d v := by
  obtain ⟨cf, i, k, f, st, cell, h1, h2, h3, h4, h5, h6, h7⟩ := F
  refine ⟨cf, i, k, f, st, cell, h1, h2, h3, h4, K.2.1 st cell h5 ?_, h6, h7⟩
  intro hm
  obtain ⟨c, e1, e2⟩ := q st hm
  cases h5.symm.trans e1
  rw [h6] at e2; cases e2
theorem own_plE {Z : State} {h : Heap} {a : Addr} {C : String} (F : Exa Z h a C) : ∃ c : Cell, h[a]? = some c ∧ c.vm.isStatics = false := by
  obtain ⟨c, _, h1, -, -, h4, -⟩ := F; exact ⟨c, h1, h4⟩
theorem own_plV {Z : State} {h : Heap} {a : Addr} {k : ClassId} {ty : FieldType} {n : Int32} {vs : List Value} {d : Value} (F : Arv Z h a k ty n vs d) : ∃ c : Cell, h[a]? = some c ∧ c.vm.isStatics = false := by
  obtain ⟨c, A, -⟩ := F; exact ⟨c, A.1, A.plain⟩
theorem ef_rmC4_3 (m : MethodId) (x0 : Addr) (x1 : Int32) (x2 : Addr) (x3 : Int32) (x4 : Int32) : entryFrame m #[(.ref x0), (.int x1), (.ref x2), (.int x3), (.int x4)] 7 = mkF m 0 #[.val (.ref x0), .val (.int x1), .val (.ref x2), .val (.int x3), .val (.int x4), .unset, .unset] [] := by first | (simp [entryFrame, mkF, argsToLocals, Value.category]; done) | rfl
def Q_rmC4_3 (Z : State) (arr : Addr) (dst : Addr) (ka : ClassId) (c0 : Int32) (c1 : Int32) (c2 : Int32) (kd : ClassId) (h0 : Heap) (n0 : Nat) (v : Option Value) (h : Heap) (L : List Loc) : Prop := v = some (.int (3 : Int32)) ∧ Fr n0 L ∧ Keep h0 h [dst] ∧ Arv Z h dst kd .byte (3 : Int32) [(.int (own_by c0)), (.int (own_by c1)), (.int (own_by c2))] (.int (0 : Int32))
set_option maxRecDepth 65536 in
set_option maxHeartbeats 40000000 in
theorem rmC4_3 (l : Launch) (Z : State) (a0 : Array Value) (hw : ∀ d ∈ tables_1, d.before a0 Z = true) (ws : List Jvm.Cond) (arr : Addr) (dst : Addr) (ka : ClassId) (c0 : Int32) (c1 : Int32) (c2 : Int32) (kd : ClassId) (h0 : Heap) (n0 : Nat) (Z0 : n0 ≤ h0.size) (Vc : Arv Z h0 arr ka .char (3 : Int32) [(.int c0), (.int c1), (.int c2)] (.int (0 : Int32))) (Vd : Arv Z h0 dst kd .byte (3 : Int32) [(.int (0 : Int32)), (.int (0 : Int32)), (.int (0 : Int32))] (.int (0 : Int32))) (g_dst : n0 ≤ dst) (hne : arr ≠ dst) (hc0 : 0 ≤ c0.toInt ∧ c0.toInt ≤ 255) (hc1 : 0 ≤ c1.toInt ∧ c1.toInt ≤ 255) (hc2 : 0 ≤ c2.toInt ∧ c2.toInt ≤ 255) :
    MetFree l (⟨"java/lang/StringUTF16", "compress", "([CI[BII)I"⟩ : MethodName) (head1 (Jvm.Cond.code (⟨"java/lang/StringUTF16", "compress", "([CI[BII)I"⟩ : MethodName) jdk_52_method_21_code 7 (some .int) :: ws) ({ frames := 0, cells := 0, slots := 0, locals := 0 } : Room)) (fun aa_ U => aa_ = #[(.ref arr), (.int (0 : Int32)), (.ref dst), (.int (0 : Int32)), (.int (3 : Int32))] ∧ Z.Warmed39 U.vm ∧ U.heap = h0) (fun _ _ _ _ _ => True) (fun _ U o U' => ∃ v L, o = .returned v ∧ Q_rmC4_3 Z arr dst ka c0 c1 c2 kd h0 n0 v U'.heap L ∧ FrameEnd U o U' L ({ frames := 0, cells := 0, slots := 0, locals := 0 } : Room).cells ({ frames := 0, cells := 0, slots := 0, locals := 0 } : Room).slots) := by
  refine MetFree.of_bodySF (plainFor_of_name pn_0) hisR ?_
  intro p e s m args below meth c s₁ Bd hml0 hP hK
  obtain ⟨rfl, hZ, hh⟩ := hP
  have hx := Bd.exec
  have hby := Bd.bytes
  have hml : c.maxLocals = 7 := hml0
  have hown : s.vm.findClass "java/lang/StringUTF16" = some m.cls := findClass_of_methodNamed Bd.named
  have hnm := (name_of_methodNamed Bd.named Bd.method).1
  have X0 : Stand p l e ({ frames := 0, cells := 0, slots := 0, locals := 0 } : Room) s m #[(.ref arr), (.int (0 : Int32)), (.ref dst), (.int (0 : Int32)), (.int (3 : Int32))] below meth c s₁ [] 0 0 := Stand.of_body Bd
  have e0 : s₁.heap = h0 := by rw [← hh, Bd.state]; rfl
  have N0 := Fr.nil n0
  show OEnds p e below (OEndP s (Q_rmC4_3 Z arr dst ka c0 c1 c2 kd h0 n0) ({ frames := 0, cells := 0, slots := 0, locals := 0 } : Room).cells ({ frames := 0, cells := 0, slots := 0, locals := 0 } : Room).slots) s₁ (entryFrame m #[(.ref arr), (.int (0 : Int32)), (.ref dst), (.int (0 : Int32)), (.int (3 : Int32))] 7)
  rw [ef_rmC4_3 m arr (0 : Int32) dst (0 : Int32) (3 : Int32)]
  refine OEnds.go (g' := (mkF m 1 #[.val (.ref arr), .val (.int (0 : Int32)), .val (.ref dst), .val (.int (0 : Int32)), .val (.int (3 : Int32)), .unset, .unset] [(.int (0 : Int32))])) (fun t k => XS.iconst X0.here hx rfl (hb hby d5_0) k) ?_
  refine OEnds.go (g' := (mkF m 3 #[.val (.ref arr), .val (.int (0 : Int32)), .val (.ref dst), .val (.int (0 : Int32)), .val (.int (3 : Int32)), .val (.int (0 : Int32)), .unset] [])) (fun t k => XS.istore X0.here hx rfl (hb hby d5_1) rfl (l' := #[.val (.ref arr), .val (.int (0 : Int32)), .val (.ref dst), .val (.int (0 : Int32)), .val (.int (3 : Int32)), .val (.int (0 : Int32)), .unset]) rfl k) ?_
  refine OEnds.go (g' := (mkF m 5 #[.val (.ref arr), .val (.int (0 : Int32)), .val (.ref dst), .val (.int (0 : Int32)), .val (.int (3 : Int32)), .val (.int (0 : Int32)), .unset] [(.int (0 : Int32))])) (fun t k => XS.iload X0.here hx rfl (hb hby d5_3) rfl k) ?_
  refine OEnds.go (g' := (mkF m 7 #[.val (.ref arr), .val (.int (0 : Int32)), .val (.ref dst), .val (.int (0 : Int32)), .val (.int (3 : Int32)), .val (.int (0 : Int32)), .unset] [(.int (3 : Int32)), (.int (0 : Int32))])) (fun t k => XS.iload X0.here hx rfl (hb hby d5_5) rfl k) ?_
  refine OEnds.go (g' := (mkF m 10 #[.val (.ref arr), .val (.int (0 : Int32)), .val (.ref dst), .val (.int (0 : Int32)), .val (.int (3 : Int32)), .val (.int (0 : Int32)), .unset] [])) (fun t k => XS.icmpNo X0.here hx rfl (hb hby d5_7) rfl (tlt (by decide : ((0 : Int32) < (3 : Int32)))).2.1 k) ?_
  refine OEnds.go (g' := (mkF m 11 #[.val (.ref arr), .val (.int (0 : Int32)), .val (.ref dst), .val (.int (0 : Int32)), .val (.int (3 : Int32)), .val (.int (0 : Int32)), .unset] [(.ref arr)])) (fun t k => XS.aloadN X0.here hx rfl (hb hby d5_10) rfl rfl k) ?_
  refine OEnds.go (g' := (mkF m 12 #[.val (.ref arr), .val (.int (0 : Int32)), .val (.ref dst), .val (.int (0 : Int32)), .val (.int (3 : Int32)), .val (.int (0 : Int32)), .unset] [(.int (0 : Int32)), (.ref arr)])) (fun t k => XS.iloadN X0.here hx rfl (hb hby d5_11) rfl k) ?_
  obtain ⟨cl1, Ar1, qa1, Sa1, Na1, Ha1, Ga1⟩ := @id _ Vc
  have hin1 : ¬ ((0 : Int32) < 0 ∨ cl1.slots.size ≤ ((0 : Int32)).toNatClampNeg) := inb_of Sa1 ⟨by decide, by decide⟩
  have hat1 : cl1.slots[((0 : Int32)).toNatClampNeg]? = some (.int c0) := Has.at Ha1 hin1 rfl
  refine OEnds.go (g' := (mkF m 13 #[.val (.ref arr), .val (.int (0 : Int32)), .val (.ref dst), .val (.int (0 : Int32)), .val (.int (3 : Int32)), .val (.int (0 : Int32)), .unset] [(.int c0)])) (X0.caload hx (j := (0 : Int32)) (v := (.int c0)) (by rw [e0]; exact Ar1.1) (State.isArrayOf_alike hZ.alike Ar1.2.1) Ar1.2.2 hin1 hat1 (g := (mkF m 12 #[.val (.ref arr), .val (.int (0 : Int32)), .val (.ref dst), .val (.int (0 : Int32)), .val (.int (3 : Int32)), .val (.int (0 : Int32)), .unset] [(.int (0 : Int32)), (.ref arr)])) rfl rfl (hb hby d5_12)) ?_
  refine OEnds.go (g' := (mkF m 15 #[.val (.ref arr), .val (.int (0 : Int32)), .val (.ref dst), .val (.int (0 : Int32)), .val (.int (3 : Int32)), .val (.int (0 : Int32)), .val (.int c0)] [])) (fun t k => XS.istore X0.here hx rfl (hb hby d5_13) rfl (l' := #[.val (.ref arr), .val (.int (0 : Int32)), .val (.ref dst), .val (.int (0 : Int32)), .val (.int (3 : Int32)), .val (.int (0 : Int32)), .val (.int c0)]) rfl k) ?_
  refine OEnds.go (g' := (mkF m 17 #[.val (.ref arr), .val (.int (0 : Int32)), .val (.ref dst), .val (.int (0 : Int32)), .val (.int (3 : Int32)), .val (.int (0 : Int32)), .val (.int c0)] [(.int c0)])) (fun t k => XS.iload X0.here hx rfl (hb hby d5_15) rfl k) ?_
  refine OEnds.go (g' := (mkF m 20 #[.val (.ref arr), .val (.int (0 : Int32)), .val (.ref dst), .val (.int (0 : Int32)), .val (.int (3 : Int32)), .val (.int (0 : Int32)), .val (.int c0)] [(.int (255 : Int32)), (.int c0)])) (fun t k => XS.sipush X0.here hx rfl (hb hby d5_17) k) ?_
  refine OEnds.go (g' := (mkF m 26 #[.val (.ref arr), .val (.int (0 : Int32)), .val (.ref dst), .val (.int (0 : Int32)), .val (.int (3 : Int32)), .val (.int (0 : Int32)), .val (.int c0)] [])) (fun t k => XS.icmpYes X0.here hx rfl (pc0 := 20) (pc' := 26) rfl (hb hby d5_20) rfl (flt (own_le hc0 : ¬ ((255 : Int32) < c0))).2.2.2 (by decide) (by decide) k) ?_
  refine OEnds.go (g' := (mkF m 27 #[.val (.ref arr), .val (.int (0 : Int32)), .val (.ref dst), .val (.int (0 : Int32)), .val (.int (3 : Int32)), .val (.int (0 : Int32)), .val (.int c0)] [(.ref dst)])) (fun t k => XS.aloadN X0.here hx rfl (hb hby d5_26) rfl rfl k) ?_
  refine OEnds.go (g' := (mkF m 28 #[.val (.ref arr), .val (.int (0 : Int32)), .val (.ref dst), .val (.int (0 : Int32)), .val (.int (3 : Int32)), .val (.int (0 : Int32)), .val (.int c0)] [(.int (0 : Int32)), (.ref dst)])) (fun t k => XS.iloadN X0.here hx rfl (hb hby d5_27) rfl k) ?_
  refine OEnds.go (g' := (mkF m 30 #[.val (.ref arr), .val (.int (0 : Int32)), .val (.ref dst), .val (.int (0 : Int32)), .val (.int (3 : Int32)), .val (.int (0 : Int32)), .val (.int c0)] [(.int c0), (.int (0 : Int32)), (.ref dst)])) (fun t k => XS.iload X0.here hx rfl (hb hby d5_28) rfl k) ?_
  refine OEnds.go (g' := (mkF m 31 #[.val (.ref arr), .val (.int (0 : Int32)), .val (.ref dst), .val (.int (0 : Int32)), .val (.int (3 : Int32)), .val (.int (0 : Int32)), .val (.int c0)] [(.int (c0.toInt8.toInt32)), (.int (0 : Int32)), (.ref dst)])) (fun t k => XS.i2b X0.here hx rfl (hb hby d5_30) rfl k) ?_
  obtain ⟨cl2, Ar2, qa2, Sa2, Na2, Ha2, Ga2⟩ := @id _ Vd
  have hin2 : ¬ ((0 : Int32) < 0 ∨ cl2.slots.size ≤ ((0 : Int32)).toNatClampNeg) := inb_of Sa2 ⟨by decide, by decide⟩
  obtain ⟨T3, h3, X3, e3, W3, st3⟩ := stB X0 hx hZ e0 Ar2 (j := (0 : Int32)) hin2 (g := (mkF m 31 #[.val (.ref arr), .val (.int (0 : Int32)), .val (.ref dst), .val (.int (0 : Int32)), .val (.int (3 : Int32)), .val (.int (0 : Int32)), .val (.int c0)] [(.int (c0.toInt8.toInt32)), (.int (0 : Int32)), (.ref dst)])) rfl rfl (hb hby d5_31)
  have N3 := Fr.snoc X3 N0 g_dst
  have K3 : Keep h0 h3 [dst] := (Keep.refl h0 [dst]).wr W3 (Or.inl (by simp))
  have V3_dst : Arv Z h3 dst kd .byte (3 : Int32) [(.int ((c0.toInt8.toInt32).toInt8.toInt32)), (.int (0 : Int32)), (.int (0 : Int32))] (.int (0 : Int32)) := Arv.set Ar2 qa2 Sa2 Na2 Ha2 Ga2 (fits_nar_byte _) W3 0 rfl (Nat.le_of_ble_eq_true rfl)
  refine OEnds.go (g' := (mkF m 32 #[.val (.ref arr), .val (.int (0 : Int32)), .val (.ref dst), .val (.int (0 : Int32)), .val (.int (3 : Int32)), .val (.int (0 : Int32)), .val (.int c0)] [])) st3 ?_
  refine OEnds.go (g' := (mkF m 35 #[.val (.ref arr), .val (.int ((0 : Int32) + (1 : Int32))), .val (.ref dst), .val (.int (0 : Int32)), .val (.int (3 : Int32)), .val (.int (0 : Int32)), .val (.int c0)] [])) (fun t k => XS.iinc X3.here hx rfl (hb hby d5_32) rfl (l' := #[.val (.ref arr), .val (.int ((0 : Int32) + (1 : Int32))), .val (.ref dst), .val (.int (0 : Int32)), .val (.int (3 : Int32)), .val (.int (0 : Int32)), .val (.int c0)]) rfl k) ?_
  rw [show ((0 : Int32) + (1 : Int32)) = (1 : Int32) from by decide]
  refine OEnds.go (g' := (mkF m 38 #[.val (.ref arr), .val (.int (1 : Int32)), .val (.ref dst), .val (.int ((0 : Int32) + (1 : Int32))), .val (.int (3 : Int32)), .val (.int (0 : Int32)), .val (.int c0)] [])) (fun t k => XS.iinc X3.here hx rfl (hb hby d5_35) rfl (l' := #[.val (.ref arr), .val (.int (1 : Int32)), .val (.ref dst), .val (.int ((0 : Int32) + (1 : Int32))), .val (.int (3 : Int32)), .val (.int (0 : Int32)), .val (.int c0)]) rfl k) ?_
  rw [show ((0 : Int32) + (1 : Int32)) = (1 : Int32) from by decide]
  refine OEnds.go (g' := (mkF m 41 #[.val (.ref arr), .val (.int (1 : Int32)), .val (.ref dst), .val (.int (1 : Int32)), .val (.int (3 : Int32)), .val (.int ((0 : Int32) + (1 : Int32))), .val (.int c0)] [])) (fun t k => XS.iinc X3.here hx rfl (hb hby d5_38) rfl (l' := #[.val (.ref arr), .val (.int (1 : Int32)), .val (.ref dst), .val (.int (1 : Int32)), .val (.int (3 : Int32)), .val (.int ((0 : Int32) + (1 : Int32))), .val (.int c0)]) rfl k) ?_
  rw [show ((0 : Int32) + (1 : Int32)) = (1 : Int32) from by decide]
  refine OEnds.go (g' := (mkF m 3 #[.val (.ref arr), .val (.int (1 : Int32)), .val (.ref dst), .val (.int (1 : Int32)), .val (.int (3 : Int32)), .val (.int (1 : Int32)), .val (.int c0)] [])) (fun t k => XS.goto X3.here hx rfl (pc0 := 41) (pc' := 3) rfl (hb hby d5_41) (by decide) (by decide) k) ?_
  refine OEnds.go (g' := (mkF m 5 #[.val (.ref arr), .val (.int (1 : Int32)), .val (.ref dst), .val (.int (1 : Int32)), .val (.int (3 : Int32)), .val (.int (1 : Int32)), .val (.int c0)] [(.int (1 : Int32))])) (fun t k => XS.iload X3.here hx rfl (hb hby d5_3) rfl k) ?_
  refine OEnds.go (g' := (mkF m 7 #[.val (.ref arr), .val (.int (1 : Int32)), .val (.ref dst), .val (.int (1 : Int32)), .val (.int (3 : Int32)), .val (.int (1 : Int32)), .val (.int c0)] [(.int (3 : Int32)), (.int (1 : Int32))])) (fun t k => XS.iload X3.here hx rfl (hb hby d5_5) rfl k) ?_
  refine OEnds.go (g' := (mkF m 10 #[.val (.ref arr), .val (.int (1 : Int32)), .val (.ref dst), .val (.int (1 : Int32)), .val (.int (3 : Int32)), .val (.int (1 : Int32)), .val (.int c0)] [])) (fun t k => XS.icmpNo X3.here hx rfl (hb hby d5_7) rfl (tlt (by decide : ((1 : Int32) < (3 : Int32)))).2.1 k) ?_
  refine OEnds.go (g' := (mkF m 11 #[.val (.ref arr), .val (.int (1 : Int32)), .val (.ref dst), .val (.int (1 : Int32)), .val (.int (3 : Int32)), .val (.int (1 : Int32)), .val (.int c0)] [(.ref arr)])) (fun t k => XS.aloadN X3.here hx rfl (hb hby d5_10) rfl rfl k) ?_
  refine OEnds.go (g' := (mkF m 12 #[.val (.ref arr), .val (.int (1 : Int32)), .val (.ref dst), .val (.int (1 : Int32)), .val (.int (3 : Int32)), .val (.int (1 : Int32)), .val (.int c0)] [(.int (1 : Int32)), (.ref arr)])) (fun t k => XS.iloadN X3.here hx rfl (hb hby d5_11) rfl k) ?_
  obtain ⟨cl4, Ar4, qa4, Sa4, Na4, Ha4, Ga4⟩ := @id _ (Vc.other W3 hne)
  have hin4 : ¬ ((1 : Int32) < 0 ∨ cl4.slots.size ≤ ((1 : Int32)).toNatClampNeg) := inb_of Sa4 ⟨by decide, by decide⟩
  have hat4 : cl4.slots[((1 : Int32)).toNatClampNeg]? = some (.int c1) := Has.at Ha4 hin4 rfl
  refine OEnds.go (g' := (mkF m 13 #[.val (.ref arr), .val (.int (1 : Int32)), .val (.ref dst), .val (.int (1 : Int32)), .val (.int (3 : Int32)), .val (.int (1 : Int32)), .val (.int c0)] [(.int c1)])) (X3.caload hx (j := (1 : Int32)) (v := (.int c1)) (by rw [e3]; exact Ar4.1) (State.isArrayOf_alike hZ.alike Ar4.2.1) Ar4.2.2 hin4 hat4 (g := (mkF m 12 #[.val (.ref arr), .val (.int (1 : Int32)), .val (.ref dst), .val (.int (1 : Int32)), .val (.int (3 : Int32)), .val (.int (1 : Int32)), .val (.int c0)] [(.int (1 : Int32)), (.ref arr)])) rfl rfl (hb hby d5_12)) ?_
  refine OEnds.go (g' := (mkF m 15 #[.val (.ref arr), .val (.int (1 : Int32)), .val (.ref dst), .val (.int (1 : Int32)), .val (.int (3 : Int32)), .val (.int (1 : Int32)), .val (.int c1)] [])) (fun t k => XS.istore X3.here hx rfl (hb hby d5_13) rfl (l' := #[.val (.ref arr), .val (.int (1 : Int32)), .val (.ref dst), .val (.int (1 : Int32)), .val (.int (3 : Int32)), .val (.int (1 : Int32)), .val (.int c1)]) rfl k) ?_
  refine OEnds.go (g' := (mkF m 17 #[.val (.ref arr), .val (.int (1 : Int32)), .val (.ref dst), .val (.int (1 : Int32)), .val (.int (3 : Int32)), .val (.int (1 : Int32)), .val (.int c1)] [(.int c1)])) (fun t k => XS.iload X3.here hx rfl (hb hby d5_15) rfl k) ?_
  refine OEnds.go (g' := (mkF m 20 #[.val (.ref arr), .val (.int (1 : Int32)), .val (.ref dst), .val (.int (1 : Int32)), .val (.int (3 : Int32)), .val (.int (1 : Int32)), .val (.int c1)] [(.int (255 : Int32)), (.int c1)])) (fun t k => XS.sipush X3.here hx rfl (hb hby d5_17) k) ?_
  refine OEnds.go (g' := (mkF m 26 #[.val (.ref arr), .val (.int (1 : Int32)), .val (.ref dst), .val (.int (1 : Int32)), .val (.int (3 : Int32)), .val (.int (1 : Int32)), .val (.int c1)] [])) (fun t k => XS.icmpYes X3.here hx rfl (pc0 := 20) (pc' := 26) rfl (hb hby d5_20) rfl (flt (own_le hc1 : ¬ ((255 : Int32) < c1))).2.2.2 (by decide) (by decide) k) ?_
  refine OEnds.go (g' := (mkF m 27 #[.val (.ref arr), .val (.int (1 : Int32)), .val (.ref dst), .val (.int (1 : Int32)), .val (.int (3 : Int32)), .val (.int (1 : Int32)), .val (.int c1)] [(.ref dst)])) (fun t k => XS.aloadN X3.here hx rfl (hb hby d5_26) rfl rfl k) ?_
  refine OEnds.go (g' := (mkF m 28 #[.val (.ref arr), .val (.int (1 : Int32)), .val (.ref dst), .val (.int (1 : Int32)), .val (.int (3 : Int32)), .val (.int (1 : Int32)), .val (.int c1)] [(.int (1 : Int32)), (.ref dst)])) (fun t k => XS.iloadN X3.here hx rfl (hb hby d5_27) rfl k) ?_
  refine OEnds.go (g' := (mkF m 30 #[.val (.ref arr), .val (.int (1 : Int32)), .val (.ref dst), .val (.int (1 : Int32)), .val (.int (3 : Int32)), .val (.int (1 : Int32)), .val (.int c1)] [(.int c1), (.int (1 : Int32)), (.ref dst)])) (fun t k => XS.iload X3.here hx rfl (hb hby d5_28) rfl k) ?_
  refine OEnds.go (g' := (mkF m 31 #[.val (.ref arr), .val (.int (1 : Int32)), .val (.ref dst), .val (.int (1 : Int32)), .val (.int (3 : Int32)), .val (.int (1 : Int32)), .val (.int c1)] [(.int (c1.toInt8.toInt32)), (.int (1 : Int32)), (.ref dst)])) (fun t k => XS.i2b X3.here hx rfl (hb hby d5_30) rfl k) ?_
  obtain ⟨cl5, Ar5, qa5, Sa5, Na5, Ha5, Ga5⟩ := @id _ V3_dst
  have hin5 : ¬ ((1 : Int32) < 0 ∨ cl5.slots.size ≤ ((1 : Int32)).toNatClampNeg) := inb_of Sa5 ⟨by decide, by decide⟩
  obtain ⟨T6, h6, X6, e6, W6, st6⟩ := stB X3 hx hZ e3 Ar5 (j := (1 : Int32)) hin5 (g := (mkF m 31 #[.val (.ref arr), .val (.int (1 : Int32)), .val (.ref dst), .val (.int (1 : Int32)), .val (.int (3 : Int32)), .val (.int (1 : Int32)), .val (.int c1)] [(.int (c1.toInt8.toInt32)), (.int (1 : Int32)), (.ref dst)])) rfl rfl (hb hby d5_31)
  have N6 := Fr.snoc X6 N3 g_dst
  have K6 : Keep h0 h6 [dst] := K3.wr W6 (Or.inl (by simp))
  have V6_dst : Arv Z h6 dst kd .byte (3 : Int32) [(.int ((c0.toInt8.toInt32).toInt8.toInt32)), (.int ((c1.toInt8.toInt32).toInt8.toInt32)), (.int (0 : Int32))] (.int (0 : Int32)) := Arv.set Ar5 qa5 Sa5 Na5 Ha5 Ga5 (fits_nar_byte _) W6 1 rfl (Nat.le_of_ble_eq_true rfl)
  refine OEnds.go (g' := (mkF m 32 #[.val (.ref arr), .val (.int (1 : Int32)), .val (.ref dst), .val (.int (1 : Int32)), .val (.int (3 : Int32)), .val (.int (1 : Int32)), .val (.int c1)] [])) st6 ?_
  refine OEnds.go (g' := (mkF m 35 #[.val (.ref arr), .val (.int ((1 : Int32) + (1 : Int32))), .val (.ref dst), .val (.int (1 : Int32)), .val (.int (3 : Int32)), .val (.int (1 : Int32)), .val (.int c1)] [])) (fun t k => XS.iinc X6.here hx rfl (hb hby d5_32) rfl (l' := #[.val (.ref arr), .val (.int ((1 : Int32) + (1 : Int32))), .val (.ref dst), .val (.int (1 : Int32)), .val (.int (3 : Int32)), .val (.int (1 : Int32)), .val (.int c1)]) rfl k) ?_
  rw [show ((1 : Int32) + (1 : Int32)) = (2 : Int32) from by decide]
  refine OEnds.go (g' := (mkF m 38 #[.val (.ref arr), .val (.int (2 : Int32)), .val (.ref dst), .val (.int ((1 : Int32) + (1 : Int32))), .val (.int (3 : Int32)), .val (.int (1 : Int32)), .val (.int c1)] [])) (fun t k => XS.iinc X6.here hx rfl (hb hby d5_35) rfl (l' := #[.val (.ref arr), .val (.int (2 : Int32)), .val (.ref dst), .val (.int ((1 : Int32) + (1 : Int32))), .val (.int (3 : Int32)), .val (.int (1 : Int32)), .val (.int c1)]) rfl k) ?_
  rw [show ((1 : Int32) + (1 : Int32)) = (2 : Int32) from by decide]
  refine OEnds.go (g' := (mkF m 41 #[.val (.ref arr), .val (.int (2 : Int32)), .val (.ref dst), .val (.int (2 : Int32)), .val (.int (3 : Int32)), .val (.int ((1 : Int32) + (1 : Int32))), .val (.int c1)] [])) (fun t k => XS.iinc X6.here hx rfl (hb hby d5_38) rfl (l' := #[.val (.ref arr), .val (.int (2 : Int32)), .val (.ref dst), .val (.int (2 : Int32)), .val (.int (3 : Int32)), .val (.int ((1 : Int32) + (1 : Int32))), .val (.int c1)]) rfl k) ?_
  rw [show ((1 : Int32) + (1 : Int32)) = (2 : Int32) from by decide]
  refine OEnds.go (g' := (mkF m 3 #[.val (.ref arr), .val (.int (2 : Int32)), .val (.ref dst), .val (.int (2 : Int32)), .val (.int (3 : Int32)), .val (.int (2 : Int32)), .val (.int c1)] [])) (fun t k => XS.goto X6.here hx rfl (pc0 := 41) (pc' := 3) rfl (hb hby d5_41) (by decide) (by decide) k) ?_
  refine OEnds.go (g' := (mkF m 5 #[.val (.ref arr), .val (.int (2 : Int32)), .val (.ref dst), .val (.int (2 : Int32)), .val (.int (3 : Int32)), .val (.int (2 : Int32)), .val (.int c1)] [(.int (2 : Int32))])) (fun t k => XS.iload X6.here hx rfl (hb hby d5_3) rfl k) ?_
  refine OEnds.go (g' := (mkF m 7 #[.val (.ref arr), .val (.int (2 : Int32)), .val (.ref dst), .val (.int (2 : Int32)), .val (.int (3 : Int32)), .val (.int (2 : Int32)), .val (.int c1)] [(.int (3 : Int32)), (.int (2 : Int32))])) (fun t k => XS.iload X6.here hx rfl (hb hby d5_5) rfl k) ?_
  refine OEnds.go (g' := (mkF m 10 #[.val (.ref arr), .val (.int (2 : Int32)), .val (.ref dst), .val (.int (2 : Int32)), .val (.int (3 : Int32)), .val (.int (2 : Int32)), .val (.int c1)] [])) (fun t k => XS.icmpNo X6.here hx rfl (hb hby d5_7) rfl (tlt (by decide : ((2 : Int32) < (3 : Int32)))).2.1 k) ?_
  refine OEnds.go (g' := (mkF m 11 #[.val (.ref arr), .val (.int (2 : Int32)), .val (.ref dst), .val (.int (2 : Int32)), .val (.int (3 : Int32)), .val (.int (2 : Int32)), .val (.int c1)] [(.ref arr)])) (fun t k => XS.aloadN X6.here hx rfl (hb hby d5_10) rfl rfl k) ?_
  refine OEnds.go (g' := (mkF m 12 #[.val (.ref arr), .val (.int (2 : Int32)), .val (.ref dst), .val (.int (2 : Int32)), .val (.int (3 : Int32)), .val (.int (2 : Int32)), .val (.int c1)] [(.int (2 : Int32)), (.ref arr)])) (fun t k => XS.iloadN X6.here hx rfl (hb hby d5_11) rfl k) ?_
  obtain ⟨cl7, Ar7, qa7, Sa7, Na7, Ha7, Ga7⟩ := @id _ ((Vc.other W3 hne).other W6 hne)
  have hin7 : ¬ ((2 : Int32) < 0 ∨ cl7.slots.size ≤ ((2 : Int32)).toNatClampNeg) := inb_of Sa7 ⟨by decide, by decide⟩
  have hat7 : cl7.slots[((2 : Int32)).toNatClampNeg]? = some (.int c2) := Has.at Ha7 hin7 rfl
  refine OEnds.go (g' := (mkF m 13 #[.val (.ref arr), .val (.int (2 : Int32)), .val (.ref dst), .val (.int (2 : Int32)), .val (.int (3 : Int32)), .val (.int (2 : Int32)), .val (.int c1)] [(.int c2)])) (X6.caload hx (j := (2 : Int32)) (v := (.int c2)) (by rw [e6]; exact Ar7.1) (State.isArrayOf_alike hZ.alike Ar7.2.1) Ar7.2.2 hin7 hat7 (g := (mkF m 12 #[.val (.ref arr), .val (.int (2 : Int32)), .val (.ref dst), .val (.int (2 : Int32)), .val (.int (3 : Int32)), .val (.int (2 : Int32)), .val (.int c1)] [(.int (2 : Int32)), (.ref arr)])) rfl rfl (hb hby d5_12)) ?_
  refine OEnds.go (g' := (mkF m 15 #[.val (.ref arr), .val (.int (2 : Int32)), .val (.ref dst), .val (.int (2 : Int32)), .val (.int (3 : Int32)), .val (.int (2 : Int32)), .val (.int c2)] [])) (fun t k => XS.istore X6.here hx rfl (hb hby d5_13) rfl (l' := #[.val (.ref arr), .val (.int (2 : Int32)), .val (.ref dst), .val (.int (2 : Int32)), .val (.int (3 : Int32)), .val (.int (2 : Int32)), .val (.int c2)]) rfl k) ?_
  refine OEnds.go (g' := (mkF m 17 #[.val (.ref arr), .val (.int (2 : Int32)), .val (.ref dst), .val (.int (2 : Int32)), .val (.int (3 : Int32)), .val (.int (2 : Int32)), .val (.int c2)] [(.int c2)])) (fun t k => XS.iload X6.here hx rfl (hb hby d5_15) rfl k) ?_
  refine OEnds.go (g' := (mkF m 20 #[.val (.ref arr), .val (.int (2 : Int32)), .val (.ref dst), .val (.int (2 : Int32)), .val (.int (3 : Int32)), .val (.int (2 : Int32)), .val (.int c2)] [(.int (255 : Int32)), (.int c2)])) (fun t k => XS.sipush X6.here hx rfl (hb hby d5_17) k) ?_
  refine OEnds.go (g' := (mkF m 26 #[.val (.ref arr), .val (.int (2 : Int32)), .val (.ref dst), .val (.int (2 : Int32)), .val (.int (3 : Int32)), .val (.int (2 : Int32)), .val (.int c2)] [])) (fun t k => XS.icmpYes X6.here hx rfl (pc0 := 20) (pc' := 26) rfl (hb hby d5_20) rfl (flt (own_le hc2 : ¬ ((255 : Int32) < c2))).2.2.2 (by decide) (by decide) k) ?_
  refine OEnds.go (g' := (mkF m 27 #[.val (.ref arr), .val (.int (2 : Int32)), .val (.ref dst), .val (.int (2 : Int32)), .val (.int (3 : Int32)), .val (.int (2 : Int32)), .val (.int c2)] [(.ref dst)])) (fun t k => XS.aloadN X6.here hx rfl (hb hby d5_26) rfl rfl k) ?_
  refine OEnds.go (g' := (mkF m 28 #[.val (.ref arr), .val (.int (2 : Int32)), .val (.ref dst), .val (.int (2 : Int32)), .val (.int (3 : Int32)), .val (.int (2 : Int32)), .val (.int c2)] [(.int (2 : Int32)), (.ref dst)])) (fun t k => XS.iloadN X6.here hx rfl (hb hby d5_27) rfl k) ?_
  refine OEnds.go (g' := (mkF m 30 #[.val (.ref arr), .val (.int (2 : Int32)), .val (.ref dst), .val (.int (2 : Int32)), .val (.int (3 : Int32)), .val (.int (2 : Int32)), .val (.int c2)] [(.int c2), (.int (2 : Int32)), (.ref dst)])) (fun t k => XS.iload X6.here hx rfl (hb hby d5_28) rfl k) ?_
  refine OEnds.go (g' := (mkF m 31 #[.val (.ref arr), .val (.int (2 : Int32)), .val (.ref dst), .val (.int (2 : Int32)), .val (.int (3 : Int32)), .val (.int (2 : Int32)), .val (.int c2)] [(.int (c2.toInt8.toInt32)), (.int (2 : Int32)), (.ref dst)])) (fun t k => XS.i2b X6.here hx rfl (hb hby d5_30) rfl k) ?_
  obtain ⟨cl8, Ar8, qa8, Sa8, Na8, Ha8, Ga8⟩ := @id _ V6_dst
  have hin8 : ¬ ((2 : Int32) < 0 ∨ cl8.slots.size ≤ ((2 : Int32)).toNatClampNeg) := inb_of Sa8 ⟨by decide, by decide⟩
  obtain ⟨T9, h9, X9, e9, W9, st9⟩ := stB X6 hx hZ e6 Ar8 (j := (2 : Int32)) hin8 (g := (mkF m 31 #[.val (.ref arr), .val (.int (2 : Int32)), .val (.ref dst), .val (.int (2 : Int32)), .val (.int (3 : Int32)), .val (.int (2 : Int32)), .val (.int c2)] [(.int (c2.toInt8.toInt32)), (.int (2 : Int32)), (.ref dst)])) rfl rfl (hb hby d5_31)
  have N9 := Fr.snoc X9 N6 g_dst
  have K9 : Keep h0 h9 [dst] := K6.wr W9 (Or.inl (by simp))
  have V9_dst : Arv Z h9 dst kd .byte (3 : Int32) [(.int ((c0.toInt8.toInt32).toInt8.toInt32)), (.int ((c1.toInt8.toInt32).toInt8.toInt32)), (.int ((c2.toInt8.toInt32).toInt8.toInt32))] (.int (0 : Int32)) := Arv.set Ar8 qa8 Sa8 Na8 Ha8 Ga8 (fits_nar_byte _) W9 2 rfl (Nat.le_of_ble_eq_true rfl)
  refine OEnds.go (g' := (mkF m 32 #[.val (.ref arr), .val (.int (2 : Int32)), .val (.ref dst), .val (.int (2 : Int32)), .val (.int (3 : Int32)), .val (.int (2 : Int32)), .val (.int c2)] [])) st9 ?_
  refine OEnds.go (g' := (mkF m 35 #[.val (.ref arr), .val (.int ((2 : Int32) + (1 : Int32))), .val (.ref dst), .val (.int (2 : Int32)), .val (.int (3 : Int32)), .val (.int (2 : Int32)), .val (.int c2)] [])) (fun t k => XS.iinc X9.here hx rfl (hb hby d5_32) rfl (l' := #[.val (.ref arr), .val (.int ((2 : Int32) + (1 : Int32))), .val (.ref dst), .val (.int (2 : Int32)), .val (.int (3 : Int32)), .val (.int (2 : Int32)), .val (.int c2)]) rfl k) ?_
  rw [show ((2 : Int32) + (1 : Int32)) = (3 : Int32) from by decide]
  refine OEnds.go (g' := (mkF m 38 #[.val (.ref arr), .val (.int (3 : Int32)), .val (.ref dst), .val (.int ((2 : Int32) + (1 : Int32))), .val (.int (3 : Int32)), .val (.int (2 : Int32)), .val (.int c2)] [])) (fun t k => XS.iinc X9.here hx rfl (hb hby d5_35) rfl (l' := #[.val (.ref arr), .val (.int (3 : Int32)), .val (.ref dst), .val (.int ((2 : Int32) + (1 : Int32))), .val (.int (3 : Int32)), .val (.int (2 : Int32)), .val (.int c2)]) rfl k) ?_
  rw [show ((2 : Int32) + (1 : Int32)) = (3 : Int32) from by decide]
  refine OEnds.go (g' := (mkF m 41 #[.val (.ref arr), .val (.int (3 : Int32)), .val (.ref dst), .val (.int (3 : Int32)), .val (.int (3 : Int32)), .val (.int ((2 : Int32) + (1 : Int32))), .val (.int c2)] [])) (fun t k => XS.iinc X9.here hx rfl (hb hby d5_38) rfl (l' := #[.val (.ref arr), .val (.int (3 : Int32)), .val (.ref dst), .val (.int (3 : Int32)), .val (.int (3 : Int32)), .val (.int ((2 : Int32) + (1 : Int32))), .val (.int c2)]) rfl k) ?_
  rw [show ((2 : Int32) + (1 : Int32)) = (3 : Int32) from by decide]
  refine OEnds.go (g' := (mkF m 3 #[.val (.ref arr), .val (.int (3 : Int32)), .val (.ref dst), .val (.int (3 : Int32)), .val (.int (3 : Int32)), .val (.int (3 : Int32)), .val (.int c2)] [])) (fun t k => XS.goto X9.here hx rfl (pc0 := 41) (pc' := 3) rfl (hb hby d5_41) (by decide) (by decide) k) ?_
  refine OEnds.go (g' := (mkF m 5 #[.val (.ref arr), .val (.int (3 : Int32)), .val (.ref dst), .val (.int (3 : Int32)), .val (.int (3 : Int32)), .val (.int (3 : Int32)), .val (.int c2)] [(.int (3 : Int32))])) (fun t k => XS.iload X9.here hx rfl (hb hby d5_3) rfl k) ?_
  refine OEnds.go (g' := (mkF m 7 #[.val (.ref arr), .val (.int (3 : Int32)), .val (.ref dst), .val (.int (3 : Int32)), .val (.int (3 : Int32)), .val (.int (3 : Int32)), .val (.int c2)] [(.int (3 : Int32)), (.int (3 : Int32))])) (fun t k => XS.iload X9.here hx rfl (hb hby d5_5) rfl k) ?_
  refine OEnds.go (g' := (mkF m 44 #[.val (.ref arr), .val (.int (3 : Int32)), .val (.ref dst), .val (.int (3 : Int32)), .val (.int (3 : Int32)), .val (.int (3 : Int32)), .val (.int c2)] [])) (fun t k => XS.icmpYes X9.here hx rfl (pc0 := 7) (pc' := 44) rfl (hb hby d5_7) rfl (flt (by decide : ¬ ((3 : Int32) < (3 : Int32)))).2.1 (by decide) (by decide) k) ?_
  refine OEnds.go (g' := (mkF m 46 #[.val (.ref arr), .val (.int (3 : Int32)), .val (.ref dst), .val (.int (3 : Int32)), .val (.int (3 : Int32)), .val (.int (3 : Int32)), .val (.int c2)] [(.int (3 : Int32))])) (fun t k => XS.iload X9.here hx rfl (hb hby d5_44) rfl k) ?_
  exact OEnds.outI X9 Bd.notSynchronized hx Bd.returns (hb hby d5_46) (by rw [e9]; exact ⟨rfl, N9, K9, V9_dst⟩) (by decide) (by decide)
theorem ef_rmC3_3 (m : MethodId) (x0 : Addr) (x1 : Int32) (x2 : Int32) : entryFrame m #[(.ref x0), (.int x1), (.int x2)] 6 = mkF m 0 #[.val (.ref x0), .val (.int x1), .val (.int x2), .unset, .unset, .unset] [] := by first | (simp [entryFrame, mkF, argsToLocals, Value.category]; done) | rfl
def Q_rmC3_3 (Z : State) (arr : Addr) (ka : ClassId) (c0 : Int32) (c1 : Int32) (c2 : Int32) (h0 : Heap) (n0 : Nat) (v : Option Value) (h : Heap) (L : List Loc) : Prop := ∃ (b : Addr) (kb : ClassId), v = some (.ref b) ∧ Fr n0 L ∧ Keep h0 h [] ∧ n0 ≤ b ∧ h0.size ≤ b ∧ Arv Z h b kb .byte (3 : Int32) [(.int (own_by c0)), (.int (own_by c1)), (.int (own_by c2))] (.int (0 : Int32))
set_option maxRecDepth 65536 in
set_option maxHeartbeats 40000000 in
theorem rmC3_3 (l : Launch) (Z : State) (a0 : Array Value) (hw : ∀ d ∈ tables_1, d.before a0 Z = true) (ws : List Jvm.Cond) (arr : Addr) (ka : ClassId) (c0 : Int32) (c1 : Int32) (c2 : Int32) (h0 : Heap) (n0 : Nat) (Z0 : n0 ≤ h0.size) (Vc : Arv Z h0 arr ka .char (3 : Int32) [(.int c0), (.int c1), (.int c2)] (.int (0 : Int32))) (hc0 : 0 ≤ c0.toInt ∧ c0.toInt ≤ 255) (hc1 : 0 ≤ c1.toInt ∧ c1.toInt ≤ 255) (hc2 : 0 ≤ c2.toInt ∧ c2.toInt ≤ 255) :
    MetFree l (⟨"java/lang/StringUTF16", "compress", "([CII)[B"⟩ : MethodName) (head1 (Jvm.Cond.code (⟨"java/lang/StringUTF16", "compress", "([CII)[B"⟩ : MethodName) jdk_52_method_16_code 6 (some (.array .byte)) :: ws) ({ frames := 1, cells := 1, slots := 3, locals := 30 } : Room)) (fun aa_ U => aa_ = #[(.ref arr), (.int (0 : Int32)), (.int (3 : Int32))] ∧ Z.Warmed39 U.vm ∧ U.heap = h0) (fun _ _ _ _ _ => True) (fun _ U o U' => ∃ v L, o = .returned v ∧ Q_rmC3_3 Z arr ka c0 c1 c2 h0 n0 v U'.heap L ∧ FrameEnd U o U' L ({ frames := 1, cells := 1, slots := 3, locals := 30 } : Room).cells ({ frames := 1, cells := 1, slots := 3, locals := 30 } : Room).slots) := by
  refine MetFree.of_bodySF (plainFor_of_name pn_0) hisR ?_
  intro p e s m args below meth c s₁ Bd hml0 hP hK
  obtain ⟨rfl, hZ, hh⟩ := hP
  have hx := Bd.exec
  have hby := Bd.bytes
  have hml : c.maxLocals = 6 := hml0
  have hown : s.vm.findClass "java/lang/StringUTF16" = some m.cls := findClass_of_methodNamed Bd.named
  have hnm := (name_of_methodNamed Bd.named Bd.method).1
  have X0 : Stand p l e ({ frames := 1, cells := 1, slots := 3, locals := 30 } : Room) s m #[(.ref arr), (.int (0 : Int32)), (.int (3 : Int32))] below meth c s₁ [] 0 0 := Stand.of_body Bd
  have e0 : s₁.heap = h0 := by rw [← hh, Bd.state]; rfl
  have N0 := Fr.nil n0
  show OEnds p e below (OEndP s (Q_rmC3_3 Z arr ka c0 c1 c2 h0 n0) ({ frames := 1, cells := 1, slots := 3, locals := 30 } : Room).cells ({ frames := 1, cells := 1, slots := 3, locals := 30 } : Room).slots) s₁ (entryFrame m #[(.ref arr), (.int (0 : Int32)), (.int (3 : Int32))] 6)
  rw [ef_rmC3_3 m arr (0 : Int32) (3 : Int32)]
  refine OEnds.go (g' := (mkF m 1 #[.val (.ref arr), .val (.int (0 : Int32)), .val (.int (3 : Int32)), .unset, .unset, .unset] [(.int (3 : Int32))])) (fun t k => XS.iloadN X0.here hx rfl (hb hby d4_0) rfl k) ?_
  obtain ⟨T1, h1, k1, X1, e1, E1, A1, st1⟩ := newP X0 hx hZ (hw _ (List.mem_of_getElem? (i := 7) rfl)) e0 (g := (mkF m 1 #[.val (.ref arr), .val (.int (0 : Int32)), .val (.int (3 : Int32)), .unset, .unset, .unset] [(.int (3 : Int32))])) rfl (hb hby d4_1) rfl (by decide) (cap := 3) (by decide) (by decide) (by decide) (by decide)
  obtain ⟨b1, g1⟩ : ∃ z, z = h0.size := ⟨_, rfl⟩
  rw [← g1] at A1 st1
  have g_b1 : n0 ≤ b1 := Nat.le_trans Z0 (Nat.le_of_eq g1.symm)
  have sz_b1 : h0.size ≤ b1 := Nat.le_trans (Keep.refl h0 []).1 (Nat.le_of_eq g1.symm)
  have K1 : Keep h0 h1 [] := (Keep.refl h0 []).ext E1
  have V_b1 : Arv Z h1 b1 k1 .byte (3 : Int32) [(.int (0 : Int32)), (.int (0 : Int32)), (.int (0 : Int32))] (.int (0 : Int32)) := (Arv.new A1 (by decide)).pad (pad_rep [] (.int (0 : Int32)) 3)
  refine OEnds.go (g' := (mkF m 3 #[.val (.ref arr), .val (.int (0 : Int32)), .val (.int (3 : Int32)), .unset, .unset, .unset] [(.ref b1)])) st1 ?_
  refine OEnds.go (g' := (mkF m 4 #[.val (.ref arr), .val (.int (0 : Int32)), .val (.int (3 : Int32)), .val (.ref b1), .unset, .unset] [])) (fun t k => XS.astoreN X1.here hx rfl (hb hby d4_3) rfl rfl (l' := #[.val (.ref arr), .val (.int (0 : Int32)), .val (.int (3 : Int32)), .val (.ref b1), .unset, .unset]) rfl k) ?_
  refine OEnds.go (g' := (mkF m 5 #[.val (.ref arr), .val (.int (0 : Int32)), .val (.int (3 : Int32)), .val (.ref b1), .unset, .unset] [(.ref arr)])) (fun t k => XS.aloadN X1.here hx rfl (hb hby d4_4) rfl rfl k) ?_
  refine OEnds.go (g' := (mkF m 6 #[.val (.ref arr), .val (.int (0 : Int32)), .val (.int (3 : Int32)), .val (.ref b1), .unset, .unset] [(.int (0 : Int32)), (.ref arr)])) (fun t k => XS.iloadN X1.here hx rfl (hb hby d4_5) rfl k) ?_
  refine OEnds.go (g' := (mkF m 7 #[.val (.ref arr), .val (.int (0 : Int32)), .val (.int (3 : Int32)), .val (.ref b1), .unset, .unset] [(.ref b1), (.int (0 : Int32)), (.ref arr)])) (fun t k => XS.aloadN X1.here hx rfl (hb hby d4_6) rfl rfl k) ?_
  refine OEnds.go (g' := (mkF m 8 #[.val (.ref arr), .val (.int (0 : Int32)), .val (.int (3 : Int32)), .val (.ref b1), .unset, .unset] [(.int (0 : Int32)), (.ref b1), (.int (0 : Int32)), (.ref arr)])) (fun t k => XS.iconst X1.here hx rfl (hb hby d4_7) k) ?_
  refine OEnds.go (g' := (mkF m 9 #[.val (.ref arr), .val (.int (0 : Int32)), .val (.int (3 : Int32)), .val (.ref b1), .unset, .unset] [(.int (3 : Int32)), (.int (0 : Int32)), (.ref b1), (.int (0 : Int32)), (.ref arr)])) (fun t k => XS.iloadN X1.here hx rfl (hb hby d4_8) rfl k) ?_
  obtain ⟨_, _, ⟨T2, L2, k2, n2⟩, -, X2, ⟨Lc2, hQ2, l2, y2, z2⟩, st2⟩ := Jvm.LawKit.callS X1 hx (y := (⟨"java/lang/StringUTF16", "compress", "([CI[BII)I"⟩ : MethodName)) hown (mvT hZ (hw _ (List.mem_of_getElem? (i := 28) rfl))) (mvT hZ (hw _ (List.mem_of_getElem? (i := 29) rfl))) (mvT hZ (hw _ (List.mem_of_getElem? (i := 26) rfl))) (mvT hZ (hw _ (List.mem_of_getElem? (i := 30) rfl))) (by decide) (backOf (W := 0) (rmC4_3 l Z a0 hw [] arr b1 ka c0 c1 c2 k1 h1 n0 (Nat.le_trans Z0 E1.1) (Vc.ext E1) V_b1 g_b1 (Nat.ne_of_lt (Nat.lt_of_lt_of_le Vc.lt (Nat.le_of_eq g1.symm))) hc0 hc1 hc2) hZ (hw _ (List.mem_of_getElem? (i := 30) rfl)) (hw _ (List.mem_of_getElem? (i := 26) rfl)) (by decide) (by decide)) (g := (mkF m 9 #[.val (.ref arr), .val (.int (0 : Int32)), .val (.int (3 : Int32)), .val (.ref b1), .unset, .unset] [(.int (3 : Int32)), (.int (0 : Int32)), (.ref b1), (.int (0 : Int32)), (.ref arr)])) rfl (by rw [hml]; rfl) (argsL := [(.ref arr), (.int (0 : Int32)), (.ref b1), (.int (0 : Int32)), (.int (3 : Int32))]) (rest := []) (lenOf pd_0 rfl) rfl (by show 2 * 0 + _ ≤ _; exact Nat.le_of_eq rfl) (hb hby d4_9) (fun _ _ => ⟨rfl, e1, (by decide : 1 + 0 ≤ _), (by decide : 3 + 0 ≤ _)⟩)
  dsimp only [Pt.U, Pt.locs, Pt.cells, Pt.slots] at X2 l2 y2 z2 st2 hQ2
  subst l2 y2 z2
  obtain ⟨rfl, N2q, K2q, V2q⟩ := hQ2
  have N2 := Fr.app N0 N2q
  have K2 : Keep h0 T2.heap [] := K1.trans K2q (allS (Or.inr sz_b1) all0)
  refine OEnds.go (g' := (mkF m 12 #[.val (.ref arr), .val (.int (0 : Int32)), .val (.int (3 : Int32)), .val (.ref b1), .unset, .unset] [(.int (3 : Int32))])) st2 ?_
  refine OEnds.go (g' := (mkF m 14 #[.val (.ref arr), .val (.int (0 : Int32)), .val (.int (3 : Int32)), .val (.ref b1), .val (.int (3 : Int32)), .unset] [])) (fun t k => XS.istore X2.here hx rfl (hb hby d4_12) rfl (l' := #[.val (.ref arr), .val (.int (0 : Int32)), .val (.int (3 : Int32)), .val (.ref b1), .val (.int (3 : Int32)), .unset]) rfl k) ?_
  refine OEnds.go (g' := (mkF m 16 #[.val (.ref arr), .val (.int (0 : Int32)), .val (.int (3 : Int32)), .val (.ref b1), .val (.int (3 : Int32)), .unset] [(.int (3 : Int32))])) (fun t k => XS.iload X2.here hx rfl (hb hby d4_14) rfl k) ?_
  refine OEnds.go (g' := (mkF m 17 #[.val (.ref arr), .val (.int (0 : Int32)), .val (.int (3 : Int32)), .val (.ref b1), .val (.int (3 : Int32)), .unset] [(.int (3 : Int32)), (.int (3 : Int32))])) (fun t k => XS.iloadN X2.here hx rfl (hb hby d4_16) rfl k) ?_
  refine OEnds.go (g' := (mkF m 57 #[.val (.ref arr), .val (.int (0 : Int32)), .val (.int (3 : Int32)), .val (.ref b1), .val (.int (3 : Int32)), .unset] [])) (fun t k => XS.icmpYes X2.here hx rfl (pc0 := 17) (pc' := 57) rfl (hb hby d4_17) rfl (teq (by decide : ((3 : Int32) = (3 : Int32)))).1 (by decide) (by decide) k) ?_
  refine OEnds.go (g' := (mkF m 58 #[.val (.ref arr), .val (.int (0 : Int32)), .val (.int (3 : Int32)), .val (.ref b1), .val (.int (3 : Int32)), .unset] [(.ref b1)])) (fun t k => XS.aloadN X2.here hx rfl (hb hby d4_57) rfl rfl k) ?_
  exact OEnds.outA X2 Bd.notSynchronized hx Bd.returns rfl rfl (hb hby d4_58) ⟨b1, k1, rfl, N2, K2, g_b1, sz_b1, V2q⟩ (by decide) (by decide)
theorem ef_rmCo_3 (m : MethodId) (x0 : Addr) (x1 : Int32) : entryFrame m #[(.ref x0), (.int x1)] 2 = mkF m 0 #[.val (.ref x0), .val (.int x1)] [] := by first | (simp [entryFrame, mkF, argsToLocals, Value.category]; done) | rfl
def fCo_3  : Int32 := (0 : Int32)
def Q_rmCo_3 (Z : State) (bb : Addr) (kb : ClassId) (y0_ : Int32) (y1_ : Int32) (y2_ : Int32) (h0 : Heap) (n0 : Nat) (v : Option Value) (h : Heap) (L : List Loc) : Prop := v = some (.int fCo_3) ∧ Fr n0 L ∧ h = h0
set_option maxRecDepth 65536 in
set_option maxHeartbeats 40000000 in
theorem rmCo_3 (l : Launch) (Z : State) (a0 : Array Value) (hw : ∀ d ∈ tables_1, d.before a0 Z = true) (ws : List Jvm.Cond) (bb : Addr) (kb : ClassId) (y0_ : Int32) (y1_ : Int32) (y2_ : Int32) (h0 : Heap) (n0 : Nat) (Z0 : n0 ≤ h0.size) (Vb : Arv Z h0 bb kb .byte (3 : Int32) [(.int y0_), (.int y1_), (.int y2_)] (.int (0 : Int32))) :
    MetFree l (⟨"java/lang/StringUTF16", "coderFromArrayLen", "([BI)B"⟩ : MethodName) (head1 (Jvm.Cond.code (⟨"java/lang/StringUTF16", "coderFromArrayLen", "([BI)B"⟩ : MethodName) jdk_52_method_15_code 2 (some .byte) :: ws) ({ frames := 0, cells := 0, slots := 0, locals := 0 } : Room)) (fun aa_ U => aa_ = #[(.ref bb), (.int (3 : Int32))] ∧ Z.Warmed39 U.vm ∧ U.heap = h0) (fun _ _ _ _ _ => True) (fun _ U o U' => ∃ v L, o = .returned v ∧ Q_rmCo_3 Z bb kb y0_ y1_ y2_ h0 n0 v U'.heap L ∧ FrameEnd U o U' L ({ frames := 0, cells := 0, slots := 0, locals := 0 } : Room).cells ({ frames := 0, cells := 0, slots := 0, locals := 0 } : Room).slots) := by
  refine MetFree.of_bodySF (plainFor_of_name pn_0) hisR ?_
  intro p e s m args below meth c s₁ Bd hml0 hP hK
  obtain ⟨rfl, hZ, hh⟩ := hP
  have hx := Bd.exec
  have hby := Bd.bytes
  have hml : c.maxLocals = 2 := hml0
  have hown : s.vm.findClass "java/lang/StringUTF16" = some m.cls := findClass_of_methodNamed Bd.named
  have hnm := (name_of_methodNamed Bd.named Bd.method).1
  have X0 : Stand p l e ({ frames := 0, cells := 0, slots := 0, locals := 0 } : Room) s m #[(.ref bb), (.int (3 : Int32))] below meth c s₁ [] 0 0 := Stand.of_body Bd
  have e0 : s₁.heap = h0 := by rw [← hh, Bd.state]; rfl
  have N0 := Fr.nil n0
  show OEnds p e below (OEndP s (Q_rmCo_3 Z bb kb y0_ y1_ y2_ h0 n0) ({ frames := 0, cells := 0, slots := 0, locals := 0 } : Room).cells ({ frames := 0, cells := 0, slots := 0, locals := 0 } : Room).slots) s₁ (entryFrame m #[(.ref bb), (.int (3 : Int32))] 2)
  rw [ef_rmCo_3 m bb (3 : Int32)]
  refine OEnds.go (g' := (mkF m 1 #[.val (.ref bb), .val (.int (3 : Int32))] [(.int (3 : Int32))])) (fun t k => XS.iloadN X0.here hx rfl (hb hby d6_0) rfl k) ?_
  refine OEnds.go (g' := (mkF m 2 #[.val (.ref bb), .val (.int (3 : Int32))] [(.ref bb), (.int (3 : Int32))])) (fun t k => XS.aloadN X0.here hx rfl (hb hby d6_1) rfl rfl k) ?_
  obtain ⟨cl1, Ar1, qa1, Sa1, Na1, Ha1, Ga1⟩ := @id _ Vb
  refine OEnds.go (g' := (mkF m 3 #[.val (.ref bb), .val (.int (3 : Int32))] [(.int (3 : Int32)), (.int (3 : Int32))])) (fun t k => X0.arraylength hx (by rw [e0]; exact Ar1.1) (State.isArrayOf_alike hZ.alike Ar1.2.1) (g := (mkF m 2 #[.val (.ref bb), .val (.int (3 : Int32))] [(.ref bb), (.int (3 : Int32))])) rfl rfl (hb hby d6_2) t (by rw [len_of Sa1 Na1]; exact k)) ?_
  refine OEnds.go (g' := (mkF m 4 #[.val (.ref bb), .val (.int (3 : Int32))] [(.int ((3 : Int32) - (3 : Int32)))])) (fun t k => XS.isub X0.here hx rfl (hb hby d6_3) rfl k) ?_
  rw [show ((3 : Int32) - (3 : Int32)) = (0 : Int32) from by decide]
  refine OEnds.go (g' := (mkF m 6 #[.val (.ref bb), .val (.int (3 : Int32))] [(.int (31 : Int32)), (.int (0 : Int32))])) (fun t k => XS.bipush X0.here hx rfl (hb hby d6_4) k) ?_
  refine OEnds.go (g' := (mkF m 7 #[.val (.ref bb), .val (.int (3 : Int32))] [(.int (((0 : Int32).toUInt32 >>> ((31 : Int32) &&& 31).toUInt32).toInt32))])) (fun t k => XS.iushr X0.here hx rfl (hb hby d6_6) rfl k) ?_
  rw [show (((0 : Int32).toUInt32 >>> ((31 : Int32) &&& 31).toUInt32).toInt32) = (0 : Int32) from by decide]
  refine OEnds.go (g' := (mkF m 8 #[.val (.ref bb), .val (.int (3 : Int32))] [(.int ((0 : Int32).toInt8.toInt32))])) (fun t k => XS.i2b X0.here hx rfl (hb hby d6_7) rfl k) ?_
  rw [show ((0 : Int32).toInt8.toInt32) = (0 : Int32) from by decide]
  exact OEnds.outN X0 Bd.notSynchronized hx (t := .byte) Bd.returns (by simp) (hb hby d6_8) ⟨by show (some (.int (0 : Int32)) : Option Value) = some (.int fCo_3); rw [fCo_3], N0, e0⟩ (by decide) (by decide)
theorem ef_rmI4_3 (m : MethodId) (x0 : Addr) (x1 : Addr) (x2 : Int32) (x3 : Int32) : entryFrame m #[(.ref x0), (.ref x1), (.int x2), (.int x3), .null] 6 = mkF m 0 #[.val (.ref x0), .val (.ref x1), .val (.int x2), .val (.int x3), .val .null, .unset] [] := by first | (simp [entryFrame, mkF, argsToLocals, Value.category]; done) | rfl
def Q_rmI4_3 (Z : State) (a : Addr) (arr : Addr) (ka : ClassId) (c0 : Int32) (c1 : Int32) (c2 : Int32) (csv : Int32) (h0 : Heap) (n0 : Nat) (v : Option Value) (h : Heap) (L : List Loc) : Prop := v = none ∧ Fr n0 L ∧ Keep h0 h [a] ∧ Exa Z h a "java/lang/String" ∧ Fld Z h a "java/lang/String" "coder" "B" (.int (0 : Int32)) ∧ ∃ (b : Addr) (kb : ClassId), Fld Z h a "java/lang/String" "value" "[B" (.ref b) ∧ n0 ≤ b ∧ h0.size ≤ b ∧ Arv Z h b kb .byte (3 : Int32) [(.int (own_by c0)), (.int (own_by c1)), (.int (own_by c2))] (.int (0 : Int32))
set_option maxRecDepth 65536 in
set_option maxHeartbeats 40000000 in
theorem rmI4_3 (l : Launch) (Z : State) (a0 : Array Value) (hw : ∀ d ∈ tables_1, d.before a0 Z = true) (ws : List Jvm.Cond) (a : Addr) (arr : Addr) (ka : ClassId) (c0 : Int32) (c1 : Int32) (c2 : Int32) (csv : Int32) (h0 : Heap) (n0 : Nat) (Z0 : n0 ≤ h0.size) (E0 : Exa Z h0 a "java/lang/String") (Fc0 : Fld Z h0 a "java/lang/String" "coder" "B" (.int (0 : Int32))) (Fv0 : Fld Z h0 a "java/lang/String" "value" "[B" .null) (g_a : n0 ≤ a) (Vc : Arv Z h0 arr ka .char (3 : Int32) [(.int c0), (.int c1), (.int c2)] (.int (0 : Int32))) (SC : Sta Z h0 "java/lang/String" "COMPACT_STRINGS" "Z" (.int csv)) (hcs : ¬ csv = (0 : Int32)) (hne : arr ≠ a) (hc0 : 0 ≤ c0.toInt ∧ c0.toInt ≤ 255) (hc1 : 0 ≤ c1.toInt ∧ c1.toInt ≤ 255) (hc2 : 0 ≤ c2.toInt ∧ c2.toInt ≤ 255) :
    MetFree l (⟨"java/lang/String", "<init>", "([CIILjava/lang/Void;)V"⟩ : MethodName) (head1 (Jvm.Cond.code (⟨"java/lang/String", "<init>", "([CIILjava/lang/Void;)V"⟩ : MethodName) jdk_42_method_149_code 6 none :: ws) ({ frames := 2, cells := 1, slots := 3, locals := 70 } : Room)) (fun aa_ U => aa_ = #[(.ref a), (.ref arr), (.int (0 : Int32)), (.int (3 : Int32)), .null] ∧ Z.Warmed39 U.vm ∧ U.heap = h0) (fun _ _ _ _ _ => True) (fun _ U o U' => ∃ v L, o = .returned v ∧ Q_rmI4_3 Z a arr ka c0 c1 c2 csv h0 n0 v U'.heap L ∧ FrameEnd U o U' L ({ frames := 2, cells := 1, slots := 3, locals := 70 } : Room).cells ({ frames := 2, cells := 1, slots := 3, locals := 70 } : Room).slots) := by
  refine MetFree.of_bodySF (plainFor_of_name pn_1) hisR ?_
  intro p e s m args below meth c s₁ Bd hml0 hP hK
  obtain ⟨rfl, hZ, hh⟩ := hP
  have hx := Bd.exec
  have hby := Bd.bytes
  have hml : c.maxLocals = 6 := hml0
  have hown : s.vm.findClass "java/lang/String" = some m.cls := findClass_of_methodNamed Bd.named
  have hnm := (name_of_methodNamed Bd.named Bd.method).1
  have X0 : Stand p l e ({ frames := 2, cells := 1, slots := 3, locals := 70 } : Room) s m #[(.ref a), (.ref arr), (.int (0 : Int32)), (.int (3 : Int32)), .null] below meth c s₁ [] 0 0 := Stand.of_body Bd
  have e0 : s₁.heap = h0 := by rw [← hh, Bd.state]; rfl
  have N0 := Fr.nil n0
  show OEnds p e below (OEndP s (Q_rmI4_3 Z a arr ka c0 c1 c2 csv h0 n0) ({ frames := 2, cells := 1, slots := 3, locals := 70 } : Room).cells ({ frames := 2, cells := 1, slots := 3, locals := 70 } : Room).slots) s₁ (entryFrame m #[(.ref a), (.ref arr), (.int (0 : Int32)), (.int (3 : Int32)), .null] 6)
  rw [ef_rmI4_3 m a arr (0 : Int32) (3 : Int32)]
  refine OEnds.go (g' := (mkF m 1 #[.val (.ref a), .val (.ref arr), .val (.int (0 : Int32)), .val (.int (3 : Int32)), .val .null, .unset] [(.ref a)])) (fun t k => XS.aloadN X0.here hx rfl (hb hby d2_0) rfl rfl k) ?_
  obtain ⟨T1, X1, e1, st1⟩ := initO X0 hx hZ hown (hw _ (List.mem_of_getElem? (i := 20) rfl)) (hw _ (List.mem_of_getElem? (i := 21) rfl)) (hw _ (List.mem_of_getElem? (i := 22) rfl)) e0 (g := (mkF m 1 #[.val (.ref a), .val (.ref arr), .val (.int (0 : Int32)), .val (.int (3 : Int32)), .val .null, .unset] [(.ref a)])) rfl (by rw [hml]; rfl) rfl (hb hby d2_1) (by decide) (W := 0) (by show 2 * 0 + _ ≤ _; exact Nat.le_of_eq rfl) (by decide)
  refine OEnds.go (g' := (mkF m 4 #[.val (.ref a), .val (.ref arr), .val (.int (0 : Int32)), .val (.int (3 : Int32)), .val .null, .unset] [])) st1 ?_
  refine OEnds.go (g' := (mkF m 5 #[.val (.ref a), .val (.ref arr), .val (.int (0 : Int32)), .val (.int (3 : Int32)), .val .null, .unset] [(.int (3 : Int32))])) (fun t k => XS.iloadN X1.here hx rfl (hb hby d2_4) rfl k) ?_
  refine OEnds.go (g' := (mkF m 27 #[.val (.ref a), .val (.ref arr), .val (.int (0 : Int32)), .val (.int (3 : Int32)), .val .null, .unset] [])) (fun t k => XS.ifYes X1.here hx rfl (pc0 := 5) (pc' := 27) rfl (hb hby d2_5) rfl ((if0 _ _).trans (feq (by decide : ¬ ((3 : Int32) = (0 : Int32)))).2) (by decide) (by decide) k) ?_
  obtain ⟨T2, X2, e2, st2⟩ := getS2 X1 hx hZ hown (host := "") (Or.inl (hw _ (List.mem_of_getElem? (i := 23) rfl))) Via.refl e1 SC (g := (mkF m 27 #[.val (.ref a), .val (.ref arr), .val (.int (0 : Int32)), .val (.int (3 : Int32)), .val .null, .unset] [])) rfl (hb hby d2_27)
  refine OEnds.go (g' := (mkF m 30 #[.val (.ref a), .val (.ref arr), .val (.int (0 : Int32)), .val (.int (3 : Int32)), .val .null, .unset] [(.int csv)])) st2 ?_
  refine OEnds.go (g' := (mkF m 33 #[.val (.ref a), .val (.ref arr), .val (.int (0 : Int32)), .val (.int (3 : Int32)), .val .null, .unset] [])) (fun t k => XS.ifNo X2.here hx rfl (hb hby d2_30) rfl ((if0 _ _).trans (feq (hcs : ¬ (csv = (0 : Int32)))).1) k) ?_
  refine OEnds.go (g' := (mkF m 34 #[.val (.ref a), .val (.ref arr), .val (.int (0 : Int32)), .val (.int (3 : Int32)), .val .null, .unset] [(.ref arr)])) (fun t k => XS.aloadN X2.here hx rfl (hb hby d2_33) rfl rfl k) ?_
  refine OEnds.go (g' := (mkF m 35 #[.val (.ref a), .val (.ref arr), .val (.int (0 : Int32)), .val (.int (3 : Int32)), .val .null, .unset] [(.int (0 : Int32)), (.ref arr)])) (fun t k => XS.iloadN X2.here hx rfl (hb hby d2_34) rfl k) ?_
  refine OEnds.go (g' := (mkF m 36 #[.val (.ref a), .val (.ref arr), .val (.int (0 : Int32)), .val (.int (3 : Int32)), .val .null, .unset] [(.int (3 : Int32)), (.int (0 : Int32)), (.ref arr)])) (fun t k => XS.iloadN X2.here hx rfl (hb hby d2_35) rfl k) ?_
  obtain ⟨_, _, ⟨T3, L3, k3, n3⟩, -, X3, ⟨Lc3, hQ3, l3, y3, z3⟩, st3⟩ := Jvm.LawKit.callS X2 hx (y := (⟨"java/lang/StringUTF16", "compress", "([CII)[B"⟩ : MethodName)) hown (mvT hZ (hw _ (List.mem_of_getElem? (i := 24) rfl))) (mvT hZ (hw _ (List.mem_of_getElem? (i := 25) rfl))) (mvT hZ (hw _ (List.mem_of_getElem? (i := 26) rfl))) (mvT hZ (hw _ (List.mem_of_getElem? (i := 27) rfl))) (by decide) (backOf (W := 0) (rmC3_3 l Z a0 hw [] arr ka c0 c1 c2 h0 n0 Z0 Vc hc0 hc1 hc2) hZ (hw _ (List.mem_of_getElem? (i := 27) rfl)) (hw _ (List.mem_of_getElem? (i := 26) rfl)) (by decide) (by decide)) (g := (mkF m 36 #[.val (.ref a), .val (.ref arr), .val (.int (0 : Int32)), .val (.int (3 : Int32)), .val .null, .unset] [(.int (3 : Int32)), (.int (0 : Int32)), (.ref arr)])) rfl (by rw [hml]; rfl) (argsL := [(.ref arr), (.int (0 : Int32)), (.int (3 : Int32))]) (rest := []) (lenOf pd_1 rfl) rfl (by show 2 * 0 + _ ≤ _; exact Nat.le_of_eq rfl) (hb hby d2_36) (fun _ _ => ⟨rfl, e2, (by decide : 0 + 1 ≤ _), (by decide : 0 + 3 ≤ _)⟩)
  dsimp only [Pt.U, Pt.locs, Pt.cells, Pt.slots] at X3 l3 y3 z3 st3 hQ3
  subst l3 y3 z3
  obtain ⟨b3, kb3, rfl, N3q, K3q, g_b3, s_b3, V3q⟩ := hQ3
  have N3 := Fr.app N0 N3q
  have K3 : Keep h0 T3.heap [a] := (Keep.refl h0 [a]).trans K3q all0
  have sz_b3 : h0.size ≤ b3 := Nat.le_trans (Keep.refl h0 [a]).1 s_b3
  refine OEnds.go (g' := (mkF m 39 #[.val (.ref a), .val (.ref arr), .val (.int (0 : Int32)), .val (.int (3 : Int32)), .val .null, .unset] [(.ref b3)])) st3 ?_
  refine OEnds.go (g' := (mkF m 41 #[.val (.ref a), .val (.ref arr), .val (.int (0 : Int32)), .val (.int (3 : Int32)), .val .null, .val (.ref b3)] [])) (fun t k => XS.astore X3.here hx rfl (hb hby d2_39) rfl rfl (l' := #[.val (.ref a), .val (.ref arr), .val (.int (0 : Int32)), .val (.int (3 : Int32)), .val .null, .val (.ref b3)]) rfl k) ?_
  refine OEnds.go (g' := (mkF m 42 #[.val (.ref a), .val (.ref arr), .val (.int (0 : Int32)), .val (.int (3 : Int32)), .val .null, .val (.ref b3)] [(.ref a)])) (fun t k => XS.aloadN X3.here hx rfl (hb hby d2_41) rfl rfl k) ?_
  refine OEnds.go (g' := (mkF m 44 #[.val (.ref a), .val (.ref arr), .val (.int (0 : Int32)), .val (.int (3 : Int32)), .val .null, .val (.ref b3)] [(.ref b3), (.ref a)])) (fun t k => XS.aload X3.here hx rfl (hb hby d2_42) rfl rfl k) ?_
  refine OEnds.go (g' := (mkF m 45 #[.val (.ref a), .val (.ref arr), .val (.int (0 : Int32)), .val (.int (3 : Int32)), .val .null, .val (.ref b3)] [(.int (3 : Int32)), (.ref b3), (.ref a)])) (fun t k => XS.iloadN X3.here hx rfl (hb hby d2_44) rfl k) ?_
  obtain ⟨_, _, ⟨T4, L4, k4, n4⟩, -, X4, ⟨Lc4, hQ4, l4, y4, z4⟩, st4⟩ := Jvm.LawKit.callS X3 hx (y := (⟨"java/lang/StringUTF16", "coderFromArrayLen", "([BI)B"⟩ : MethodName)) hown (mvT hZ (hw _ (List.mem_of_getElem? (i := 31) rfl))) (mvT hZ (hw _ (List.mem_of_getElem? (i := 32) rfl))) (mvT hZ (hw _ (List.mem_of_getElem? (i := 26) rfl))) (mvT hZ (hw _ (List.mem_of_getElem? (i := 33) rfl))) (by decide) (backOf (W := 1) (rmCo_3 l Z a0 hw [] b3 kb3 (own_by c0) (own_by c1) (own_by c2) T3.heap n0 (Nat.le_trans Z0 K3q.1) V3q) hZ (hw _ (List.mem_of_getElem? (i := 33) rfl)) (hw _ (List.mem_of_getElem? (i := 26) rfl)) (by decide) (by decide)) (g := (mkF m 45 #[.val (.ref a), .val (.ref arr), .val (.int (0 : Int32)), .val (.int (3 : Int32)), .val .null, .val (.ref b3)] [(.int (3 : Int32)), (.ref b3), (.ref a)])) rfl (by rw [hml]; rfl) (argsL := [(.ref b3), (.int (3 : Int32))]) (rest := [(.ref a)]) (lenOf pd_2 rfl) rfl (by show 2 * 0 + _ ≤ _; exact Nat.le_of_eq rfl) (hb hby d2_45) (fun _ _ => ⟨rfl, rfl, (by decide : 1 + 0 ≤ _), (by decide : 3 + 0 ≤ _)⟩)
  dsimp only [Pt.U, Pt.locs, Pt.cells, Pt.slots] at X4 l4 y4 z4 st4 hQ4
  subst l4 y4 z4
  obtain ⟨rfl, N4q, e4⟩ := hQ4
  have N4 := Fr.app N3 N4q
  refine OEnds.go (g' := (mkF m 48 #[.val (.ref a), .val (.ref arr), .val (.int (0 : Int32)), .val (.int (3 : Int32)), .val .null, .val (.ref b3)] [(.int (0 : Int32)), (.ref a)])) st4 ?_
  obtain ⟨T5, h5, X5, e5, W5, st5⟩ := putFN X4 hx hZ hown (hw _ (List.mem_of_getElem? (i := 34) rfl)) Via.refl e4 (Fc0.keep K3q nin0) (E0.keep K3q) (Or.inr ⟨(hw _ (List.mem_of_getElem? (i := 9) rfl)), rfl, hnm⟩) (hw _ (List.mem_of_getElem? (i := 6) rfl)) (ty := .byte) (v' := (.int (nar .byte (0 : Int32)))) (by decide) rfl (fits_nar_byte _) (g := (mkF m 48 #[.val (.ref a), .val (.ref arr), .val (.int (0 : Int32)), .val (.int (3 : Int32)), .val .null, .val (.ref b3)] [(.int (0 : Int32)), (.ref a)])) rfl rfl (hb hby d2_48)
  have N5 := Fr.snoc X5 N4 g_a
  have K5 : Keep h0 h5 [a] := K3.wr W5 (Or.inl (by simp))
  have Fw5 := (Fc0.keep K3q nin0).same W5
  refine OEnds.go (g' := (mkF m 51 #[.val (.ref a), .val (.ref arr), .val (.int (0 : Int32)), .val (.int (3 : Int32)), .val .null, .val (.ref b3)] [])) st5 ?_
  refine OEnds.go (g' := (mkF m 52 #[.val (.ref a), .val (.ref arr), .val (.int (0 : Int32)), .val (.int (3 : Int32)), .val .null, .val (.ref b3)] [(.ref a)])) (fun t k => XS.aloadN X5.here hx rfl (hb hby d2_51) rfl rfl k) ?_
  refine OEnds.go (g' := (mkF m 54 #[.val (.ref a), .val (.ref arr), .val (.int (0 : Int32)), .val (.int (3 : Int32)), .val .null, .val (.ref b3)] [(.ref b3), (.ref a)])) (fun t k => XS.aload X5.here hx rfl (hb hby d2_52) rfl rfl k) ?_
  obtain ⟨T6, h6, X6, e6, W6, st6⟩ := putF X5 hx hZ hown (host := "") (Or.inl (hw _ (List.mem_of_getElem? (i := 35) rfl))) Via.refl e5 ((Fv0.keep K3q nin0).other W5 (Or.inr (slot_ne (Or.inr (hw _ (List.mem_of_getElem? (i := 8) rfl))) (Or.inr (hw _ (List.mem_of_getElem? (i := 9) rfl))) (by decide) (t := (.array .byte)) (t' := .byte) (by decide) (by decide)))) ((E0.keep K3q).wr W5) (Or.inr ⟨(hw _ (List.mem_of_getElem? (i := 8) rfl)), rfl, hnm⟩) (hw _ (List.mem_of_getElem? (i := 6) rfl)) (ty := (.array .byte)) (by decide) rfl rfl (g := (mkF m 54 #[.val (.ref a), .val (.ref arr), .val (.int (0 : Int32)), .val (.int (3 : Int32)), .val .null, .val (.ref b3)] [(.ref b3), (.ref a)])) rfl rfl (hb hby d2_54)
  have N6 := Fr.snoc X6 N5 g_a
  have K6 : Keep h0 h6 [a] := K5.wr W6 (Or.inl (by simp))
  have Fw6 := ((Fv0.keep K3q nin0).other W5 (Or.inr (slot_ne (Or.inr (hw _ (List.mem_of_getElem? (i := 8) rfl))) (Or.inr (hw _ (List.mem_of_getElem? (i := 9) rfl))) (by decide) (t := (.array .byte)) (t' := .byte) (by decide) (by decide)))).same W6
  refine OEnds.go (g' := (mkF m 57 #[.val (.ref a), .val (.ref arr), .val (.int (0 : Int32)), .val (.int (3 : Int32)), .val .null, .val (.ref b3)] [])) st6 ?_
  exact OEnds.outV X6 Bd.notSynchronized hx Bd.returns (hb hby d2_57) (by rw [e6]; exact ⟨rfl, N6, K6, (((E0.keep K3q).wr W5).wr W6), (Fw5.other W6 (Or.inr (slot_ne (Or.inr (hw _ (List.mem_of_getElem? (i := 9) rfl))) (Or.inr (hw _ (List.mem_of_getElem? (i := 8) rfl))) (by decide) (t := .byte) (t' := (.array .byte)) (by decide) (by decide)))), b3, kb3, Fw6, g_b3, sz_b3, ((V3q.other W5 (Ne.symm (Nat.ne_of_lt (Nat.lt_of_lt_of_le E0.lt s_b3)))).other W6 (Ne.symm (Nat.ne_of_lt (Nat.lt_of_lt_of_le E0.lt s_b3))))⟩) (by decide) (by decide)
theorem ef_rmI1_3 (m : MethodId) (x0 : Addr) (x1 : Addr) : entryFrame m #[(.ref x0), (.ref x1)] 2 = mkF m 0 #[.val (.ref x0), .val (.ref x1)] [] := by first | (simp [entryFrame, mkF, argsToLocals, Value.category]; done) | rfl
def Q_rmI1_3 (Z : State) (a : Addr) (arr : Addr) (ka : ClassId) (c0 : Int32) (c1 : Int32) (c2 : Int32) (csv : Int32) (h0 : Heap) (n0 : Nat) (v : Option Value) (h : Heap) (L : List Loc) : Prop := v = none ∧ Fr n0 L ∧ Keep h0 h [a] ∧ Exa Z h a "java/lang/String" ∧ Fld Z h a "java/lang/String" "coder" "B" (.int (0 : Int32)) ∧ ∃ (b : Addr) (kb : ClassId), Fld Z h a "java/lang/String" "value" "[B" (.ref b) ∧ n0 ≤ b ∧ h0.size ≤ b ∧ Arv Z h b kb .byte (3 : Int32) [(.int (own_by c0)), (.int (own_by c1)), (.int (own_by c2))] (.int (0 : Int32))
set_option maxRecDepth 65536 in
set_option maxHeartbeats 40000000 in
theorem rmI1_3 (l : Launch) (Z : State) (a0 : Array Value) (hw : ∀ d ∈ tables_1, d.before a0 Z = true) (ws : List Jvm.Cond) (a : Addr) (arr : Addr) (ka : ClassId) (c0 : Int32) (c1 : Int32) (c2 : Int32) (csv : Int32) (h0 : Heap) (n0 : Nat) (Z0 : n0 ≤ h0.size) (E0 : Exa Z h0 a "java/lang/String") (Fc0 : Fld Z h0 a "java/lang/String" "coder" "B" (.int (0 : Int32))) (Fv0 : Fld Z h0 a "java/lang/String" "value" "[B" .null) (g_a : n0 ≤ a) (Vc : Arv Z h0 arr ka .char (3 : Int32) [(.int c0), (.int c1), (.int c2)] (.int (0 : Int32))) (SC : Sta Z h0 "java/lang/String" "COMPACT_STRINGS" "Z" (.int csv)) (hcs : ¬ csv = (0 : Int32)) (hne : arr ≠ a) (hc0 : 0 ≤ c0.toInt ∧ c0.toInt ≤ 255) (hc1 : 0 ≤ c1.toInt ∧ c1.toInt ≤ 255) (hc2 : 0 ≤ c2.toInt ∧ c2.toInt ≤ 255) :
    MetFree l (⟨"java/lang/String", "<init>", "([C)V"⟩ : MethodName) (head1 (Jvm.Cond.code (⟨"java/lang/String", "<init>", "([C)V"⟩ : MethodName) jdk_42_method_3_code 2 none :: ws) ({ frames := 3, cells := 1, slots := 3, locals := 100 } : Room)) (fun aa_ U => aa_ = #[(.ref a), (.ref arr)] ∧ Z.Warmed39 U.vm ∧ U.heap = h0) (fun _ _ _ _ _ => True) (fun _ U o U' => ∃ v L, o = .returned v ∧ Q_rmI1_3 Z a arr ka c0 c1 c2 csv h0 n0 v U'.heap L ∧ FrameEnd U o U' L ({ frames := 3, cells := 1, slots := 3, locals := 100 } : Room).cells ({ frames := 3, cells := 1, slots := 3, locals := 100 } : Room).slots) := by
  refine MetFree.of_bodySF (plainFor_of_name pn_1) hisR ?_
  intro p e s m args below meth c s₁ Bd hml0 hP hK
  obtain ⟨rfl, hZ, hh⟩ := hP
  have hx := Bd.exec
  have hby := Bd.bytes
  have hml : c.maxLocals = 2 := hml0
  have hown : s.vm.findClass "java/lang/String" = some m.cls := findClass_of_methodNamed Bd.named
  have hnm := (name_of_methodNamed Bd.named Bd.method).1
  have X0 : Stand p l e ({ frames := 3, cells := 1, slots := 3, locals := 100 } : Room) s m #[(.ref a), (.ref arr)] below meth c s₁ [] 0 0 := Stand.of_body Bd
  have e0 : s₁.heap = h0 := by rw [← hh, Bd.state]; rfl
  have N0 := Fr.nil n0
  show OEnds p e below (OEndP s (Q_rmI1_3 Z a arr ka c0 c1 c2 csv h0 n0) ({ frames := 3, cells := 1, slots := 3, locals := 100 } : Room).cells ({ frames := 3, cells := 1, slots := 3, locals := 100 } : Room).slots) s₁ (entryFrame m #[(.ref a), (.ref arr)] 2)
  rw [ef_rmI1_3 m a arr]
  refine OEnds.go (g' := (mkF m 1 #[.val (.ref a), .val (.ref arr)] [(.ref a)])) (fun t k => XS.aloadN X0.here hx rfl (hb hby d1_0) rfl rfl k) ?_
  refine OEnds.go (g' := (mkF m 2 #[.val (.ref a), .val (.ref arr)] [(.ref arr), (.ref a)])) (fun t k => XS.aloadN X0.here hx rfl (hb hby d1_1) rfl rfl k) ?_
  refine OEnds.go (g' := (mkF m 3 #[.val (.ref a), .val (.ref arr)] [(.int (0 : Int32)), (.ref arr), (.ref a)])) (fun t k => XS.iconst X0.here hx rfl (hb hby d1_2) k) ?_
  refine OEnds.go (g' := (mkF m 4 #[.val (.ref a), .val (.ref arr)] [(.ref arr), (.int (0 : Int32)), (.ref arr), (.ref a)])) (fun t k => XS.aloadN X0.here hx rfl (hb hby d1_3) rfl rfl k) ?_
  obtain ⟨cl1, Ar1, qa1, Sa1, Na1, Ha1, Ga1⟩ := @id _ Vc
  refine OEnds.go (g' := (mkF m 5 #[.val (.ref a), .val (.ref arr)] [(.int (3 : Int32)), (.int (0 : Int32)), (.ref arr), (.ref a)])) (fun t k => X0.arraylength hx (by rw [e0]; exact Ar1.1) (State.isArrayOf_alike hZ.alike Ar1.2.1) (g := (mkF m 4 #[.val (.ref a), .val (.ref arr)] [(.ref arr), (.int (0 : Int32)), (.ref arr), (.ref a)])) rfl rfl (hb hby d1_4) t (by rw [len_of Sa1 Na1]; exact k)) ?_
  refine OEnds.go (g' := (mkF m 6 #[.val (.ref a), .val (.ref arr)] [.null, (.int (3 : Int32)), (.int (0 : Int32)), (.ref arr), (.ref a)])) (fun t k => XS.aconstNull X0.here hx rfl (hb hby d1_5) k) ?_
  obtain ⟨_, _, ⟨T2, L2, k2, n2⟩, -, X2, ⟨Lc2, hQ2, l2, y2, z2⟩, st2⟩ := X0.specialBack hx (y := (⟨"java/lang/String", "<init>", "([CIILjava/lang/Void;)V"⟩ : MethodName)) rfl hown (mvT hZ (hw _ (List.mem_of_getElem? (i := 16) rfl))) (mvT hZ (hw _ (List.mem_of_getElem? (i := 17) rfl))) (mvT hZ (hw _ (List.mem_of_getElem? (i := 19) rfl))) (by decide) (backOf (W := 0) (rmI4_3 l Z a0 hw [] a arr ka c0 c1 c2 csv h0 n0 Z0 E0 Fc0 Fv0 g_a Vc SC hcs hne hc0 hc1 hc2) hZ (hw _ (List.mem_of_getElem? (i := 19) rfl)) (hw _ (List.mem_of_getElem? (i := 5) rfl)) (by decide) (by decide)) (g := (mkF m 6 #[.val (.ref a), .val (.ref arr)] [.null, (.int (3 : Int32)), (.int (0 : Int32)), (.ref arr), (.ref a)])) rfl (by rw [hml]; rfl) (Steps.refl _) (a := a) (argsL := [(.ref arr), (.int (0 : Int32)), (.int (3 : Int32)), .null]) (rest := []) (lenOf pd_3 rfl) rfl (by show 2 * 0 + _ ≤ _; exact Nat.le_of_eq rfl) (hb hby d1_6) (fun _ _ => ⟨rfl, e0, (by decide : 0 + 1 ≤ _), (by decide : 0 + 3 ≤ _)⟩)
  dsimp only [Pt.U, Pt.locs, Pt.cells, Pt.slots] at X2 l2 y2 z2 st2 hQ2
  subst l2 y2 z2
  obtain ⟨rfl, N2q, K2q, E2q, Fc2q, b2, kb2, Fv2q, g_b2, s_b2, V2q⟩ := hQ2
  have N2 := Fr.app N0 N2q
  have K2 : Keep h0 T2.heap [a] := (Keep.refl h0 [a]).trans K2q (allS (Or.inl (by simp)) all0)
  have sz_b2 : h0.size ≤ b2 := s_b2
  refine OEnds.tr (g' := (mkF m 9 #[.val (.ref a), .val (.ref arr)] [])) st2 ?_
  exact OEnds.outV X2 Bd.notSynchronized hx Bd.returns (hb hby d1_9) ⟨rfl, N2, K2, E2q, Fc2q, b2, kb2, Fv2q, g_b2, sz_b2, V2q⟩ (by decide) (by decide)
theorem own_ne0 {args : Array Value} {Z : State} {t : Term} {x : Int32} (ht : t.eval args Z none [] Z = some (.int x)) (h : (Jvm.Cond.not (.eq t (.int 0))).value args Z none Z [] = some true) : ¬ x = 0 := by
  have q := not_v h
  have e : (Jvm.Cond.eq t (.int 0)).value args Z none Z [] = some (decide (x = 0)) := by simp [Cond.value, ht, Term.int_eval]
  exact gotF e q
theorem own_wS {Z : State} {a0 : Array Value} (hw : ∀ d ∈ tables_1, d.before a0 Z = true) : ∀ a ∈ Bundle.stringAtoms, a.before a0 Z = true := by
  intro d hd
  simp only [Bundle.stringAtoms, List.mem_cons, List.not_mem_nil, or_false] at hd
  rcases hd with rfl | rfl | rfl | rfl | rfl | rfl | rfl
  · exact (hw _ (List.mem_of_getElem? (i := 5) rfl))
  · exact (hw _ (List.mem_of_getElem? (i := 6) rfl))
  · exact (hw _ (List.mem_of_getElem? (i := 7) rfl))
  · exact (hw _ (List.mem_of_getElem? (i := 8) rfl))
  · exact (hw _ (List.mem_of_getElem? (i := 9) rfl))
  · exact (hw _ (List.mem_of_getElem? (i := 10) rfl))
  · exact (hw _ (List.mem_of_getElem? (i := 11) rfl))
theorem own_ext0 (h : Heap) : Ext h h := ⟨Nat.le_refl _, fun _ _ q => q⟩
theorem own_ext {h h' h'' : Heap} (E : Ext h h') (E' : Ext h' h'') : Ext h h'' := ⟨Nat.le_trans E.1 E'.1, fun a c q => E'.2 a c (E.2 a c q)⟩
theorem ef_rm_coder_17_3 (m : MethodId) (x0 : Addr) : entryFrame m #[(.ref x0)] 1 = mkF m 0 #[.val (.ref x0)] [] := by first | (simp [entryFrame, mkF, argsToLocals, Value.category]; done) | rfl
def f_coder_17_3 (c0 : Int32) (c1 : Int32) (c2 : Int32) : Int32 := (0 : Int32)
def Q_rm_coder_17_3 (Z : State) (sx : Addr) (bb : Addr) (kb : ClassId) (c0 : Int32) (c1 : Int32) (c2 : Int32) (csv : Int32) (h0 : Heap) (n0 : Nat) (v : Option Value) (h : Heap) (L : List Loc) : Prop := v = some (.int (f_coder_17_3 c0 c1 c2)) ∧ Fr n0 L ∧ h = h0
set_option maxRecDepth 65536 in
set_option maxHeartbeats 40000000 in
theorem rm_coder_17_3 (l : Launch) (Z : State) (a0 : Array Value) (hw : ∀ d ∈ tables_1, d.before a0 Z = true) (ws : List Jvm.Cond) (sx : Addr) (bb : Addr) (kb : ClassId) (c0 : Int32) (c1 : Int32) (c2 : Int32) (csv : Int32) (h0 : Heap) (n0 : Nat) (Z0 : n0 ≤ h0.size) (E_sx : Exa Z h0 sx "java/lang/String") (Fc_sx : Fld Z h0 sx "java/lang/String" "coder" "B" (.int (0 : Int32))) (Fv_sx : Fld Z h0 sx "java/lang/String" "value" "[B" (.ref bb)) (V_sx : Arv Z h0 bb kb .byte (3 : Int32) [(.int (own_by c0)), (.int (own_by c1)), (.int (own_by c2))] (.int (0 : Int32))) (SC : Sta Z h0 "java/lang/String" "COMPACT_STRINGS" "Z" (.int csv)) (hcs : ¬ csv = (0 : Int32)) :
    MetFree l (⟨"java/lang/String", "coder", "()B"⟩ : MethodName) (head1 (Jvm.Cond.code (⟨"java/lang/String", "coder", "()B"⟩ : MethodName) jdk_42_method_152_code 1 (some .byte) :: ws) ({ frames := 0, cells := 0, slots := 0, locals := 0 } : Room)) (fun aa_ U => aa_ = #[(.ref sx)] ∧ Z.Warmed39 U.vm ∧ U.heap = h0) (fun _ _ _ _ _ => True) (fun _ U o U' => ∃ v L, o = .returned v ∧ Q_rm_coder_17_3 Z sx bb kb c0 c1 c2 csv h0 n0 v U'.heap L ∧ FrameEnd U o U' L ({ frames := 0, cells := 0, slots := 0, locals := 0 } : Room).cells ({ frames := 0, cells := 0, slots := 0, locals := 0 } : Room).slots) := by
  refine MetFree.of_bodySF (plainFor_of_name pn_1) hisR ?_
  intro p e s m args below meth c s₁ Bd hml0 hP hK
  obtain ⟨rfl, hZ, hh⟩ := hP
  have hx := Bd.exec
  have hby := Bd.bytes
  have hml : c.maxLocals = 1 := hml0
  have hown : s.vm.findClass "java/lang/String" = some m.cls := findClass_of_methodNamed Bd.named
  have hnm := (name_of_methodNamed Bd.named Bd.method).1
  have X0 : Stand p l e ({ frames := 0, cells := 0, slots := 0, locals := 0 } : Room) s m #[(.ref sx)] below meth c s₁ [] 0 0 := Stand.of_body Bd
  have e0 : s₁.heap = h0 := by rw [← hh, Bd.state]; rfl
  have N0 := Fr.nil n0
  show OEnds p e below (OEndP s (Q_rm_coder_17_3 Z sx bb kb c0 c1 c2 csv h0 n0) ({ frames := 0, cells := 0, slots := 0, locals := 0 } : Room).cells ({ frames := 0, cells := 0, slots := 0, locals := 0 } : Room).slots) s₁ (entryFrame m #[(.ref sx)] 1)
  rw [ef_rm_coder_17_3 m sx]
  obtain ⟨T1, X1, e1, st1⟩ := getS2 X0 hx hZ hown (host := "") (Or.inl (hw _ (List.mem_of_getElem? (i := 23) rfl))) Via.refl e0 SC (g := (mkF m 0 #[.val (.ref sx)] [])) rfl (hb hby d17_0)
  refine OEnds.go (g' := (mkF m 3 #[.val (.ref sx)] [(.int csv)])) st1 ?_
  refine OEnds.go (g' := (mkF m 6 #[.val (.ref sx)] [])) (fun t k => XS.ifNo X1.here hx rfl (hb hby d17_3) rfl ((if0 _ _).trans (feq (hcs : ¬ (csv = (0 : Int32)))).1) k) ?_
  refine OEnds.go (g' := (mkF m 7 #[.val (.ref sx)] [(.ref sx)])) (fun t k => XS.aloadN X1.here hx rfl (hb hby d17_6) rfl rfl k) ?_
  obtain ⟨T2, X2, e2, st2⟩ := getF X1 hx hZ hown (host := "") (Or.inl (hw _ (List.mem_of_getElem? (i := 34) rfl))) Via.refl e1 Fc_sx (g := (mkF m 7 #[.val (.ref sx)] [(.ref sx)])) rfl rfl (hb hby d17_7)
  refine OEnds.go (g' := (mkF m 10 #[.val (.ref sx)] [(.int (0 : Int32))])) st2 ?_
  refine OEnds.go (g' := (mkF m 14 #[.val (.ref sx)] [(.int (0 : Int32))])) (fun t k => XS.goto X2.here hx rfl (pc0 := 10) (pc' := 14) rfl (hb hby d17_10) (by decide) (by decide) k) ?_
  exact OEnds.outN X2 Bd.notSynchronized hx (t := .byte) Bd.returns (by simp) (hb hby d17_14) ⟨by show (some (.int (0 : Int32)) : Option Value) = some (.int (f_coder_17_3 c0 c1 c2)); rw [f_coder_17_3], N0, e2⟩ (by decide) (by decide)
theorem ef_rm_length_16_3 (m : MethodId) (x0 : Addr) : entryFrame m #[(.ref x0)] 1 = mkF m 0 #[.val (.ref x0)] [] := by first | (simp [entryFrame, mkF, argsToLocals, Value.category]; done) | rfl
def f_length_16_3 (c0 : Int32) (c1 : Int32) (c2 : Int32) : Int32 := (3 : Int32)
def Q_rm_length_16_3 (Z : State) (sx : Addr) (bb : Addr) (kb : ClassId) (c0 : Int32) (c1 : Int32) (c2 : Int32) (csv : Int32) (h0 : Heap) (n0 : Nat) (v : Option Value) (h : Heap) (L : List Loc) : Prop := v = some (.int (f_length_16_3 c0 c1 c2)) ∧ Fr n0 L ∧ h = h0
set_option maxRecDepth 65536 in
set_option maxHeartbeats 40000000 in
theorem rm_length_16_3 (l : Launch) (Z : State) (a0 : Array Value) (hw : ∀ d ∈ tables_1, d.before a0 Z = true) (ws : List Jvm.Cond) (sx : Addr) (bb : Addr) (kb : ClassId) (c0 : Int32) (c1 : Int32) (c2 : Int32) (csv : Int32) (h0 : Heap) (n0 : Nat) (Z0 : n0 ≤ h0.size) (E_sx : Exa Z h0 sx "java/lang/String") (Fc_sx : Fld Z h0 sx "java/lang/String" "coder" "B" (.int (0 : Int32))) (Fv_sx : Fld Z h0 sx "java/lang/String" "value" "[B" (.ref bb)) (V_sx : Arv Z h0 bb kb .byte (3 : Int32) [(.int (own_by c0)), (.int (own_by c1)), (.int (own_by c2))] (.int (0 : Int32))) (SC : Sta Z h0 "java/lang/String" "COMPACT_STRINGS" "Z" (.int csv)) (hcs : ¬ csv = (0 : Int32)) :
    MetFree l (⟨"java/lang/String", "length", "()I"⟩ : MethodName) (head1 (Jvm.Cond.code (⟨"java/lang/String", "length", "()I"⟩ : MethodName) jdk_42_method_54_code 1 (some .int) :: ws) ({ frames := 1, cells := 0, slots := 0, locals := 14 } : Room)) (fun aa_ U => aa_ = #[(.ref sx)] ∧ Z.Warmed39 U.vm ∧ U.heap = h0) (fun _ _ _ _ _ => True) (fun _ U o U' => ∃ v L, o = .returned v ∧ Q_rm_length_16_3 Z sx bb kb c0 c1 c2 csv h0 n0 v U'.heap L ∧ FrameEnd U o U' L ({ frames := 1, cells := 0, slots := 0, locals := 14 } : Room).cells ({ frames := 1, cells := 0, slots := 0, locals := 14 } : Room).slots) := by
  refine MetFree.of_bodySF (plainFor_of_name pn_1) hisR ?_
  intro p e s m args below meth c s₁ Bd hml0 hP hK
  obtain ⟨rfl, hZ, hh⟩ := hP
  have hx := Bd.exec
  have hby := Bd.bytes
  have hml : c.maxLocals = 1 := hml0
  have hown : s.vm.findClass "java/lang/String" = some m.cls := findClass_of_methodNamed Bd.named
  have hnm := (name_of_methodNamed Bd.named Bd.method).1
  have X0 : Stand p l e ({ frames := 1, cells := 0, slots := 0, locals := 14 } : Room) s m #[(.ref sx)] below meth c s₁ [] 0 0 := Stand.of_body Bd
  have e0 : s₁.heap = h0 := by rw [← hh, Bd.state]; rfl
  have N0 := Fr.nil n0
  show OEnds p e below (OEndP s (Q_rm_length_16_3 Z sx bb kb c0 c1 c2 csv h0 n0) ({ frames := 1, cells := 0, slots := 0, locals := 14 } : Room).cells ({ frames := 1, cells := 0, slots := 0, locals := 14 } : Room).slots) s₁ (entryFrame m #[(.ref sx)] 1)
  rw [ef_rm_length_16_3 m sx]
  refine OEnds.go (g' := (mkF m 1 #[.val (.ref sx)] [(.ref sx)])) (fun t k => XS.aloadN X0.here hx rfl (hb hby d16_0) rfl rfl k) ?_
  obtain ⟨T1, X1, e1, st1⟩ := getF X0 hx hZ hown (host := "") (Or.inl (hw _ (List.mem_of_getElem? (i := 35) rfl))) Via.refl e0 Fv_sx (g := (mkF m 1 #[.val (.ref sx)] [(.ref sx)])) rfl rfl (hb hby d16_1)
  refine OEnds.go (g' := (mkF m 4 #[.val (.ref sx)] [(.ref bb)])) st1 ?_
  obtain ⟨cl2, Ar2, qa2, Sa2, Na2, Ha2, Ga2⟩ := @id _ V_sx
  refine OEnds.go (g' := (mkF m 5 #[.val (.ref sx)] [(.int (3 : Int32))])) (fun t k => X1.arraylength hx (by rw [e1]; exact Ar2.1) (State.isArrayOf_alike hZ.alike Ar2.2.1) (g := (mkF m 4 #[.val (.ref sx)] [(.ref bb)])) rfl rfl (hb hby d16_4) t (by rw [len_of Sa2 Na2]; exact k)) ?_
  refine OEnds.go (g' := (mkF m 6 #[.val (.ref sx)] [(.ref sx), (.int (3 : Int32))])) (fun t k => XS.aloadN X1.here hx rfl (hb hby d16_5) rfl rfl k) ?_
  obtain ⟨cq3, kq3, q3a, q3b, q3c⟩ := isOf hZ e1 E_sx
  obtain ⟨_, _, ⟨T3, L3, k3, n3⟩, -, X3, ⟨Lc3, hQ3, l3, y3, z3⟩, st3⟩ := X1.virtualBack hx (y := (⟨"java/lang/String", "coder", "()B"⟩ : MethodName)) (z := (⟨"java/lang/String", "coder", "()B"⟩ : MethodName)) hown (mvT hZ (hw _ (List.mem_of_getElem? (i := 110) rfl))) (mvT hZ (hw _ (List.mem_of_getElem? (i := 111) rfl))) (notFace_of_selects (args := #[]) (mvT hZ (hw _ (List.mem_of_getElem? (i := 113) rfl)))) (mvT hZ (hw _ (List.mem_of_getElem? (i := 113) rfl))) (mvT hZ (hw _ (List.mem_of_getElem? (i := 112) rfl))) (by decide) (backOf (W := 1) (rm_coder_17_3 l Z a0 hw [] sx  bb kb c0 c1 c2 csv h0 n0 Z0 E_sx Fc_sx Fv_sx V_sx SC hcs) hZ (hw _ (List.mem_of_getElem? (i := 114) rfl)) (hw _ (List.mem_of_getElem? (i := 5) rfl)) (by decide) (by decide)) q3a q3c (g := (mkF m 6 #[.val (.ref sx)] [(.ref sx), (.int (3 : Int32))])) rfl (by rw [hml]; rfl) (Steps.refl _) (argsL := []) (rest := [(.int (3 : Int32))]) (lenOf pd_4 rfl) rfl (by show 2 * 0 + _ ≤ _; exact Nat.le_of_eq rfl) (hb hby d16_6) (fun _ _ => ⟨rfl, e1, (by decide : 0 + 0 ≤ _), (by decide : 0 + 0 ≤ _)⟩)
  dsimp only [Pt.U, Pt.locs, Pt.cells, Pt.slots] at X3 l3 y3 z3 st3 hQ3
  subst l3 y3 z3
  obtain ⟨rfl, N3q, e3⟩ := hQ3
  have N3 := Fr.app N0 N3q
  refine OEnds.tr (g' := (mkF m 9 #[.val (.ref sx)] [(.int (0 : Int32)), (.int (3 : Int32))])) st3 ?_
  refine OEnds.go (g' := (mkF m 10 #[.val (.ref sx)] [(.int ((3 : Int32) >>> ((0 : Int32) &&& 31)))])) (fun t k => XS.ishr X3.here hx rfl (hb hby d16_9) rfl k) ?_
  rw [show ((3 : Int32) >>> ((0 : Int32) &&& 31)) = (3 : Int32) from by decide]
  exact OEnds.outI X3 Bd.notSynchronized hx Bd.returns (hb hby d16_10) ⟨by show (some (.int (3 : Int32)) : Option Value) = some (.int (f_length_16_3 c0 c1 c2)); rw [f_length_16_3], N3, e3⟩ (by decide) (by decide)
theorem ef_rm_isLatin1_20_3 (m : MethodId) (x0 : Addr) : entryFrame m #[(.ref x0)] 1 = mkF m 0 #[.val (.ref x0)] [] := by first | (simp [entryFrame, mkF, argsToLocals, Value.category]; done) | rfl
def f_isLatin1_20_3 (c0 : Int32) (c1 : Int32) (c2 : Int32) : Int32 := (1 : Int32)
def Q_rm_isLatin1_20_3 (Z : State) (sx : Addr) (bb : Addr) (kb : ClassId) (c0 : Int32) (c1 : Int32) (c2 : Int32) (csv : Int32) (h0 : Heap) (n0 : Nat) (v : Option Value) (h : Heap) (L : List Loc) : Prop := v = some (.int (f_isLatin1_20_3 c0 c1 c2)) ∧ Fr n0 L ∧ h = h0
set_option maxRecDepth 65536 in
set_option maxHeartbeats 40000000 in
theorem rm_isLatin1_20_3 (l : Launch) (Z : State) (a0 : Array Value) (hw : ∀ d ∈ tables_1, d.before a0 Z = true) (ws : List Jvm.Cond) (sx : Addr) (bb : Addr) (kb : ClassId) (c0 : Int32) (c1 : Int32) (c2 : Int32) (csv : Int32) (h0 : Heap) (n0 : Nat) (Z0 : n0 ≤ h0.size) (E_sx : Exa Z h0 sx "java/lang/String") (Fc_sx : Fld Z h0 sx "java/lang/String" "coder" "B" (.int (0 : Int32))) (Fv_sx : Fld Z h0 sx "java/lang/String" "value" "[B" (.ref bb)) (V_sx : Arv Z h0 bb kb .byte (3 : Int32) [(.int (own_by c0)), (.int (own_by c1)), (.int (own_by c2))] (.int (0 : Int32))) (SC : Sta Z h0 "java/lang/String" "COMPACT_STRINGS" "Z" (.int csv)) (hcs : ¬ csv = (0 : Int32)) :
    MetFree l (⟨"java/lang/String", "isLatin1", "()Z"⟩ : MethodName) (head1 (Jvm.Cond.code (⟨"java/lang/String", "isLatin1", "()Z"⟩ : MethodName) jdk_42_method_154_code 1 (some .boolean) :: ws) ({ frames := 0, cells := 0, slots := 0, locals := 0 } : Room)) (fun aa_ U => aa_ = #[(.ref sx)] ∧ Z.Warmed39 U.vm ∧ U.heap = h0) (fun _ _ _ _ _ => True) (fun _ U o U' => ∃ v L, o = .returned v ∧ Q_rm_isLatin1_20_3 Z sx bb kb c0 c1 c2 csv h0 n0 v U'.heap L ∧ FrameEnd U o U' L ({ frames := 0, cells := 0, slots := 0, locals := 0 } : Room).cells ({ frames := 0, cells := 0, slots := 0, locals := 0 } : Room).slots) := by
  refine MetFree.of_bodySF (plainFor_of_name pn_1) hisR ?_
  intro p e s m args below meth c s₁ Bd hml0 hP hK
  obtain ⟨rfl, hZ, hh⟩ := hP
  have hx := Bd.exec
  have hby := Bd.bytes
  have hml : c.maxLocals = 1 := hml0
  have hown : s.vm.findClass "java/lang/String" = some m.cls := findClass_of_methodNamed Bd.named
  have hnm := (name_of_methodNamed Bd.named Bd.method).1
  have X0 : Stand p l e ({ frames := 0, cells := 0, slots := 0, locals := 0 } : Room) s m #[(.ref sx)] below meth c s₁ [] 0 0 := Stand.of_body Bd
  have e0 : s₁.heap = h0 := by rw [← hh, Bd.state]; rfl
  have N0 := Fr.nil n0
  show OEnds p e below (OEndP s (Q_rm_isLatin1_20_3 Z sx bb kb c0 c1 c2 csv h0 n0) ({ frames := 0, cells := 0, slots := 0, locals := 0 } : Room).cells ({ frames := 0, cells := 0, slots := 0, locals := 0 } : Room).slots) s₁ (entryFrame m #[(.ref sx)] 1)
  rw [ef_rm_isLatin1_20_3 m sx]
  obtain ⟨T1, X1, e1, st1⟩ := getS2 X0 hx hZ hown (host := "") (Or.inl (hw _ (List.mem_of_getElem? (i := 23) rfl))) Via.refl e0 SC (g := (mkF m 0 #[.val (.ref sx)] [])) rfl (hb hby d20_0)
  refine OEnds.go (g' := (mkF m 3 #[.val (.ref sx)] [(.int csv)])) st1 ?_
  refine OEnds.go (g' := (mkF m 6 #[.val (.ref sx)] [])) (fun t k => XS.ifNo X1.here hx rfl (hb hby d20_3) rfl ((if0 _ _).trans (feq (hcs : ¬ (csv = (0 : Int32)))).1) k) ?_
  refine OEnds.go (g' := (mkF m 7 #[.val (.ref sx)] [(.ref sx)])) (fun t k => XS.aloadN X1.here hx rfl (hb hby d20_6) rfl rfl k) ?_
  obtain ⟨T2, X2, e2, st2⟩ := getF X1 hx hZ hown (host := "") (Or.inl (hw _ (List.mem_of_getElem? (i := 34) rfl))) Via.refl e1 Fc_sx (g := (mkF m 7 #[.val (.ref sx)] [(.ref sx)])) rfl rfl (hb hby d20_7)
  refine OEnds.go (g' := (mkF m 10 #[.val (.ref sx)] [(.int (0 : Int32))])) st2 ?_
  refine OEnds.go (g' := (mkF m 13 #[.val (.ref sx)] [])) (fun t k => XS.ifNo X2.here hx rfl (hb hby d20_10) rfl ((if0 _ _).trans (teq (by decide : ((0 : Int32) = (0 : Int32)))).2) k) ?_
  refine OEnds.go (g' := (mkF m 14 #[.val (.ref sx)] [(.int (1 : Int32))])) (fun t k => XS.iconst X2.here hx rfl (hb hby d20_13) k) ?_
  refine OEnds.go (g' := (mkF m 18 #[.val (.ref sx)] [(.int (1 : Int32))])) (fun t k => XS.goto X2.here hx rfl (pc0 := 14) (pc' := 18) rfl (hb hby d20_14) (by decide) (by decide) k) ?_
  exact OEnds.outN X2 Bd.notSynchronized hx (t := .boolean) Bd.returns (by simp) (hb hby d20_18) ⟨by show (some (.int (1 : Int32)) : Option Value) = some (.int (f_isLatin1_20_3 c0 c1 c2)); rw [f_isLatin1_20_3], N0, e2⟩ (by decide) (by decide)
theorem ef_rm9 (m : MethodId) (x0 : Addr) : entryFrame m #[(.ref x0)] 1 = mkF m 0 #[.val (.ref x0)] [] := by first | (simp [entryFrame, mkF, argsToLocals, Value.category]; done) | rfl
def Q_rm9 (Z : State) (a : Addr) (h0 : Heap) (n0 : Nat) (v : Option Value) (h : Heap) (L : List Loc) : Prop := v = none ∧ Fr n0 L ∧ h = h0
set_option maxRecDepth 65536 in
set_option maxHeartbeats 40000000 in
theorem rm9 (l : Launch) (Z : State) (a0 : Array Value) (hw : ∀ d ∈ tables_1, d.before a0 Z = true) (ws : List Jvm.Cond) (a : Addr) (h0 : Heap) (n0 : Nat) (Z0 : n0 ≤ h0.size) :
    MetFree l (⟨"java/lang/Record", "<init>", "()V"⟩ : MethodName) (head1 (Jvm.Cond.code (⟨"java/lang/Record", "<init>", "()V"⟩ : MethodName) jdk_30_method_1_code 1 none :: ws) ({ frames := 1, cells := 0, slots := 0, locals := 12 } : Room)) (fun aa_ U => aa_ = #[(.ref a)] ∧ Z.Warmed39 U.vm ∧ U.heap = h0) (fun _ _ _ _ _ => True) (fun _ U o U' => ∃ v L, o = .returned v ∧ Q_rm9 Z a h0 n0 v U'.heap L ∧ FrameEnd U o U' L ({ frames := 1, cells := 0, slots := 0, locals := 12 } : Room).cells ({ frames := 1, cells := 0, slots := 0, locals := 12 } : Room).slots) := by
  refine MetFree.of_bodySF (plainFor_of_name pn_2) hisR ?_
  intro p e s m args below meth c s₁ Bd hml0 hP hK
  obtain ⟨rfl, hZ, hh⟩ := hP
  have hx := Bd.exec
  have hby := Bd.bytes
  have hml : c.maxLocals = 1 := hml0
  have hown : s.vm.findClass "java/lang/Record" = some m.cls := findClass_of_methodNamed Bd.named
  have hnm := (name_of_methodNamed Bd.named Bd.method).1
  have X0 : Stand p l e ({ frames := 1, cells := 0, slots := 0, locals := 12 } : Room) s m #[(.ref a)] below meth c s₁ [] 0 0 := Stand.of_body Bd
  have e0 : s₁.heap = h0 := by rw [← hh, Bd.state]; rfl
  have N0 := Fr.nil n0
  show OEnds p e below (OEndP s (Q_rm9 Z a h0 n0) ({ frames := 1, cells := 0, slots := 0, locals := 12 } : Room).cells ({ frames := 1, cells := 0, slots := 0, locals := 12 } : Room).slots) s₁ (entryFrame m #[(.ref a)] 1)
  rw [ef_rm9 m a]
  refine OEnds.go (g' := (mkF m 1 #[.val (.ref a)] [(.ref a)])) (fun t k => XS.aloadN X0.here hx rfl (hb hby d9_0) rfl rfl k) ?_
  obtain ⟨T1, X1, e1, st1⟩ := initO X0 hx hZ hown (hw _ (List.mem_of_getElem? (i := 61) rfl)) (hw _ (List.mem_of_getElem? (i := 21) rfl)) (hw _ (List.mem_of_getElem? (i := 22) rfl)) e0 (g := (mkF m 1 #[.val (.ref a)] [(.ref a)])) rfl (by rw [hml]; rfl) rfl (hb hby d9_1) (by decide) (W := 0) (by show 2 * 0 + _ ≤ _; exact Nat.le_of_eq rfl) (by decide)
  refine OEnds.go (g' := (mkF m 4 #[.val (.ref a)] [])) st1 ?_
  exact OEnds.outV X1 Bd.notSynchronized hx Bd.returns (hb hby d9_4) ⟨rfl, N0, e1⟩ (by decide) (by decide)
theorem ef_rm8 (m : MethodId) (x0 : Addr) (x1 : Int32) (x2 : Int32) (x3 : Int32) : entryFrame m #[(.ref x0), (.int x1), (.int x2), (.int x3)] 4 = mkF m 0 #[.val (.ref x0), .val (.int x1), .val (.int x2), .val (.int x3)] [] := by first | (simp [entryFrame, mkF, argsToLocals, Value.category]; done) | rfl
def Q_rm8 (Z : State) (a : Addr) (x1 : Int32) (x2 : Int32) (x3 : Int32) (h0 : Heap) (n0 : Nat) (v : Option Value) (h : Heap) (L : List Loc) : Prop := v = none ∧ Fr n0 L ∧ Keep h0 h [a] ∧ Exa Z h a "com/example/shapewright/shapewright/reader/IdlScanner$Mark" ∧ Fld Z h a "com/example/shapewright/shapewright/reader/IdlScanner$Mark" "position" "I" (.int x1) ∧ Fld Z h a "com/example/shapewright/shapewright/reader/IdlScanner$Mark" "line" "I" (.int x2) ∧ Fld Z h a "com/example/shapewright/shapewright/reader/IdlScanner$Mark" "column" "I" (.int x3)
set_option maxRecDepth 65536 in
set_option maxHeartbeats 40000000 in
theorem rm8 (l : Launch) (Z : State) (a0 : Array Value) (hw : ∀ d ∈ tables_1, d.before a0 Z = true) (ws : List Jvm.Cond) (a : Addr) (x1 : Int32) (x2 : Int32) (x3 : Int32) (h0 : Heap) (n0 : Nat) (Z0 : n0 ≤ h0.size) (E0 : Exa Z h0 a "com/example/shapewright/shapewright/reader/IdlScanner$Mark") (F_position : Fld Z h0 a "com/example/shapewright/shapewright/reader/IdlScanner$Mark" "position" "I" (.int (0 : Int32))) (F_line : Fld Z h0 a "com/example/shapewright/shapewright/reader/IdlScanner$Mark" "line" "I" (.int (0 : Int32))) (F_column : Fld Z h0 a "com/example/shapewright/shapewright/reader/IdlScanner$Mark" "column" "I" (.int (0 : Int32))) (g_a : n0 ≤ a) :
    MetFree l (⟨"com/example/shapewright/shapewright/reader/IdlScanner$Mark", "<init>", "(III)V"⟩ : MethodName) (head1 (Jvm.Cond.code (⟨"com/example/shapewright/shapewright/reader/IdlScanner$Mark", "<init>", "(III)V"⟩ : MethodName) prog_22_method_1_code 4 none :: ws) ({ frames := 2, cells := 0, slots := 0, locals := 24 } : Room)) (fun aa_ U => aa_ = #[(.ref a), (.int x1), (.int x2), (.int x3)] ∧ Z.Warmed39 U.vm ∧ U.heap = h0) (fun _ _ _ _ _ => True) (fun _ U o U' => ∃ v L, o = .returned v ∧ Q_rm8 Z a x1 x2 x3 h0 n0 v U'.heap L ∧ FrameEnd U o U' L ({ frames := 2, cells := 0, slots := 0, locals := 24 } : Room).cells ({ frames := 2, cells := 0, slots := 0, locals := 24 } : Room).slots) := by
  refine MetFree.of_bodySF (plainFor_of_name pn_3) hisR ?_
  intro p e s m args below meth c s₁ Bd hml0 hP hK
  obtain ⟨rfl, hZ, hh⟩ := hP
  have hx := Bd.exec
  have hby := Bd.bytes
  have hml : c.maxLocals = 4 := hml0
  have hown : s.vm.findClass "com/example/shapewright/shapewright/reader/IdlScanner$Mark" = some m.cls := findClass_of_methodNamed Bd.named
  have hnm := (name_of_methodNamed Bd.named Bd.method).1
  have X0 : Stand p l e ({ frames := 2, cells := 0, slots := 0, locals := 24 } : Room) s m #[(.ref a), (.int x1), (.int x2), (.int x3)] below meth c s₁ [] 0 0 := Stand.of_body Bd
  have e0 : s₁.heap = h0 := by rw [← hh, Bd.state]; rfl
  have N0 := Fr.nil n0
  show OEnds p e below (OEndP s (Q_rm8 Z a x1 x2 x3 h0 n0) ({ frames := 2, cells := 0, slots := 0, locals := 24 } : Room).cells ({ frames := 2, cells := 0, slots := 0, locals := 24 } : Room).slots) s₁ (entryFrame m #[(.ref a), (.int x1), (.int x2), (.int x3)] 4)
  rw [ef_rm8 m a x1 x2 x3]
  refine OEnds.go (g' := (mkF m 1 #[.val (.ref a), .val (.int x1), .val (.int x2), .val (.int x3)] [(.ref a)])) (fun t k => XS.aloadN X0.here hx rfl (hb hby d8_0) rfl rfl k) ?_
  obtain ⟨_, _, ⟨T1, L1, k1, n1⟩, -, X1, ⟨Lc1, hQ1, l1, y1, z1⟩, st1⟩ := X0.specialBack hx (y := (⟨"java/lang/Record", "<init>", "()V"⟩ : MethodName)) rfl hown (mvT hZ (hw _ (List.mem_of_getElem? (i := 56) rfl))) (mvT hZ (hw _ (List.mem_of_getElem? (i := 57) rfl))) (mvT hZ (hw _ (List.mem_of_getElem? (i := 60) rfl))) (by decide) (backOf (W := 0) (rm9 l Z a0 hw [] a h0 n0 Z0) hZ (hw _ (List.mem_of_getElem? (i := 60) rfl)) (hw _ (List.mem_of_getElem? (i := 59) rfl)) (by decide) (by decide)) (g := (mkF m 1 #[.val (.ref a), .val (.int x1), .val (.int x2), .val (.int x3)] [(.ref a)])) rfl (by rw [hml]; rfl) (Steps.refl _) (a := a) (argsL := []) (rest := []) (lenOf pd_5 rfl) rfl (by show 2 * 0 + _ ≤ _; exact Nat.le_of_eq rfl) (hb hby d8_1) (fun _ _ => ⟨rfl, e0, (by decide : 0 + 0 ≤ _), (by decide : 0 + 0 ≤ _)⟩)
  dsimp only [Pt.U, Pt.locs, Pt.cells, Pt.slots] at X1 l1 y1 z1 st1 hQ1
  subst l1 y1 z1
  obtain ⟨rfl, N1q, e1⟩ := hQ1
  have N1 := Fr.app N0 N1q
  refine OEnds.tr (g' := (mkF m 4 #[.val (.ref a), .val (.int x1), .val (.int x2), .val (.int x3)] [])) st1 ?_
  refine OEnds.go (g' := (mkF m 5 #[.val (.ref a), .val (.int x1), .val (.int x2), .val (.int x3)] [(.ref a)])) (fun t k => XS.aloadN X1.here hx rfl (hb hby d8_4) rfl rfl k) ?_
  refine OEnds.go (g' := (mkF m 6 #[.val (.ref a), .val (.int x1), .val (.int x2), .val (.int x3)] [(.int x1), (.ref a)])) (fun t k => XS.iloadN X1.here hx rfl (hb hby d8_5) rfl k) ?_
  obtain ⟨T2, h2, X2, e2, W2, st2⟩ := putF X1 hx hZ hown (host := "") (Or.inl (hw _ (List.mem_of_getElem? (i := 62) rfl))) Via.refl e1 F_position E0 (Or.inr ⟨(hw _ (List.mem_of_getElem? (i := 63) rfl)), rfl, hnm⟩) (hw _ (List.mem_of_getElem? (i := 51) rfl)) (ty := .int) (by decide) rfl rfl (g := (mkF m 6 #[.val (.ref a), .val (.int x1), .val (.int x2), .val (.int x3)] [(.int x1), (.ref a)])) rfl rfl (hb hby d8_6)
  have N2 := Fr.snoc X2 N1 g_a
  have K2 : Keep h0 h2 [a] := (Keep.refl h0 [a]).wr W2 (Or.inl (by simp))
  have Fw2 := F_position.same W2
  refine OEnds.go (g' := (mkF m 9 #[.val (.ref a), .val (.int x1), .val (.int x2), .val (.int x3)] [])) st2 ?_
  refine OEnds.go (g' := (mkF m 10 #[.val (.ref a), .val (.int x1), .val (.int x2), .val (.int x3)] [(.ref a)])) (fun t k => XS.aloadN X2.here hx rfl (hb hby d8_9) rfl rfl k) ?_
  refine OEnds.go (g' := (mkF m 11 #[.val (.ref a), .val (.int x1), .val (.int x2), .val (.int x3)] [(.int x2), (.ref a)])) (fun t k => XS.iloadN X2.here hx rfl (hb hby d8_10) rfl k) ?_
  obtain ⟨T3, h3, X3, e3, W3, st3⟩ := putF X2 hx hZ hown (host := "") (Or.inl (hw _ (List.mem_of_getElem? (i := 64) rfl))) Via.refl e2 (F_line.other W2 (Or.inr (slot_ne (Or.inr (hw _ (List.mem_of_getElem? (i := 65) rfl))) (Or.inr (hw _ (List.mem_of_getElem? (i := 63) rfl))) (by decide) (t := .int) (t' := .int) (by decide) (by decide)))) (E0.wr W2) (Or.inr ⟨(hw _ (List.mem_of_getElem? (i := 65) rfl)), rfl, hnm⟩) (hw _ (List.mem_of_getElem? (i := 51) rfl)) (ty := .int) (by decide) rfl rfl (g := (mkF m 11 #[.val (.ref a), .val (.int x1), .val (.int x2), .val (.int x3)] [(.int x2), (.ref a)])) rfl rfl (hb hby d8_11)
  have N3 := Fr.snoc X3 N2 g_a
  have K3 : Keep h0 h3 [a] := K2.wr W3 (Or.inl (by simp))
  have Fw3 := (F_line.other W2 (Or.inr (slot_ne (Or.inr (hw _ (List.mem_of_getElem? (i := 65) rfl))) (Or.inr (hw _ (List.mem_of_getElem? (i := 63) rfl))) (by decide) (t := .int) (t' := .int) (by decide) (by decide)))).same W3
  refine OEnds.go (g' := (mkF m 14 #[.val (.ref a), .val (.int x1), .val (.int x2), .val (.int x3)] [])) st3 ?_
  refine OEnds.go (g' := (mkF m 15 #[.val (.ref a), .val (.int x1), .val (.int x2), .val (.int x3)] [(.ref a)])) (fun t k => XS.aloadN X3.here hx rfl (hb hby d8_14) rfl rfl k) ?_
  refine OEnds.go (g' := (mkF m 16 #[.val (.ref a), .val (.int x1), .val (.int x2), .val (.int x3)] [(.int x3), (.ref a)])) (fun t k => XS.iloadN X3.here hx rfl (hb hby d8_15) rfl k) ?_
  obtain ⟨T4, h4, X4, e4, W4, st4⟩ := putF X3 hx hZ hown (host := "") (Or.inl (hw _ (List.mem_of_getElem? (i := 66) rfl))) Via.refl e3 ((F_column.other W2 (Or.inr (slot_ne (Or.inr (hw _ (List.mem_of_getElem? (i := 67) rfl))) (Or.inr (hw _ (List.mem_of_getElem? (i := 63) rfl))) (by decide) (t := .int) (t' := .int) (by decide) (by decide)))).other W3 (Or.inr (slot_ne (Or.inr (hw _ (List.mem_of_getElem? (i := 67) rfl))) (Or.inr (hw _ (List.mem_of_getElem? (i := 65) rfl))) (by decide) (t := .int) (t' := .int) (by decide) (by decide)))) ((E0.wr W2).wr W3) (Or.inr ⟨(hw _ (List.mem_of_getElem? (i := 67) rfl)), rfl, hnm⟩) (hw _ (List.mem_of_getElem? (i := 51) rfl)) (ty := .int) (by decide) rfl rfl (g := (mkF m 16 #[.val (.ref a), .val (.int x1), .val (.int x2), .val (.int x3)] [(.int x3), (.ref a)])) rfl rfl (hb hby d8_16)
  have N4 := Fr.snoc X4 N3 g_a
  have K4 : Keep h0 h4 [a] := K3.wr W4 (Or.inl (by simp))
  have Fw4 := ((F_column.other W2 (Or.inr (slot_ne (Or.inr (hw _ (List.mem_of_getElem? (i := 67) rfl))) (Or.inr (hw _ (List.mem_of_getElem? (i := 63) rfl))) (by decide) (t := .int) (t' := .int) (by decide) (by decide)))).other W3 (Or.inr (slot_ne (Or.inr (hw _ (List.mem_of_getElem? (i := 67) rfl))) (Or.inr (hw _ (List.mem_of_getElem? (i := 65) rfl))) (by decide) (t := .int) (t' := .int) (by decide) (by decide)))).same W4
  refine OEnds.go (g' := (mkF m 19 #[.val (.ref a), .val (.int x1), .val (.int x2), .val (.int x3)] [])) st4 ?_
  exact OEnds.outV X4 Bd.notSynchronized hx Bd.returns (hb hby d8_19) (by rw [e4]; exact ⟨rfl, N4, K4, (((E0.wr W2).wr W3).wr W4), ((Fw2.other W3 (Or.inr (slot_ne (Or.inr (hw _ (List.mem_of_getElem? (i := 63) rfl))) (Or.inr (hw _ (List.mem_of_getElem? (i := 65) rfl))) (by decide) (t := .int) (t' := .int) (by decide) (by decide)))).other W4 (Or.inr (slot_ne (Or.inr (hw _ (List.mem_of_getElem? (i := 63) rfl))) (Or.inr (hw _ (List.mem_of_getElem? (i := 67) rfl))) (by decide) (t := .int) (t' := .int) (by decide) (by decide)))), (Fw3.other W4 (Or.inr (slot_ne (Or.inr (hw _ (List.mem_of_getElem? (i := 65) rfl))) (Or.inr (hw _ (List.mem_of_getElem? (i := 67) rfl))) (by decide) (t := .int) (t' := .int) (by decide) (by decide)))), Fw4⟩) (by decide) (by decide)
theorem ef_rm11 (m : MethodId) (x0 : Addr) : entryFrame m #[(.ref x0)] 1 = mkF m 0 #[.val (.ref x0)] [] := by first | (simp [entryFrame, mkF, argsToLocals, Value.category]; done) | rfl
def f11 (wv : Int32) : Int32 := wv
def Q_rm11 (Z : State) (a : Addr) (wv : Int32) (h0 : Heap) (n0 : Nat) (v : Option Value) (h : Heap) (L : List Loc) : Prop := v = some (.int (f11 wv)) ∧ Fr n0 L ∧ h = h0
set_option maxRecDepth 65536 in
set_option maxHeartbeats 40000000 in
theorem rm11 (l : Launch) (Z : State) (a0 : Array Value) (hw : ∀ d ∈ tables_1, d.before a0 Z = true) (ws : List Jvm.Cond) (a : Addr) (wv : Int32) (h0 : Heap) (n0 : Nat) (Z0 : n0 ≤ h0.size) (Fx : Fld Z h0 a "com/example/shapewright/shapewright/reader/IdlScanner$Mark" "position" "I" (.int wv)) :
    MetFree l (⟨"com/example/shapewright/shapewright/reader/IdlScanner$Mark", "position", "()I"⟩ : MethodName) (head1 (Jvm.Cond.code (⟨"com/example/shapewright/shapewright/reader/IdlScanner$Mark", "position", "()I"⟩ : MethodName) prog_22_method_5_code 1 (some .int) :: ws) ({ frames := 0, cells := 0, slots := 0, locals := 0 } : Room)) (fun aa_ U => aa_ = #[(.ref a)] ∧ Z.Warmed39 U.vm ∧ U.heap = h0) (fun _ _ _ _ _ => True) (fun _ U o U' => ∃ v L, o = .returned v ∧ Q_rm11 Z a wv h0 n0 v U'.heap L ∧ FrameEnd U o U' L ({ frames := 0, cells := 0, slots := 0, locals := 0 } : Room).cells ({ frames := 0, cells := 0, slots := 0, locals := 0 } : Room).slots) := by
  refine MetFree.of_bodySF (plainFor_of_name pn_3) hisR ?_
  intro p e s m args below meth c s₁ Bd hml0 hP hK
  obtain ⟨rfl, hZ, hh⟩ := hP
  have hx := Bd.exec
  have hby := Bd.bytes
  have hml : c.maxLocals = 1 := hml0
  have hown : s.vm.findClass "com/example/shapewright/shapewright/reader/IdlScanner$Mark" = some m.cls := findClass_of_methodNamed Bd.named
  have hnm := (name_of_methodNamed Bd.named Bd.method).1
  have X0 : Stand p l e ({ frames := 0, cells := 0, slots := 0, locals := 0 } : Room) s m #[(.ref a)] below meth c s₁ [] 0 0 := Stand.of_body Bd
  have e0 : s₁.heap = h0 := by rw [← hh, Bd.state]; rfl
  have N0 := Fr.nil n0
  show OEnds p e below (OEndP s (Q_rm11 Z a wv h0 n0) ({ frames := 0, cells := 0, slots := 0, locals := 0 } : Room).cells ({ frames := 0, cells := 0, slots := 0, locals := 0 } : Room).slots) s₁ (entryFrame m #[(.ref a)] 1)
  rw [ef_rm11 m a]
  refine OEnds.go (g' := (mkF m 1 #[.val (.ref a)] [(.ref a)])) (fun t k => XS.aloadN X0.here hx rfl (hb hby d11_0) rfl rfl k) ?_
  obtain ⟨T1, X1, e1, st1⟩ := getF X0 hx hZ hown (host := "") (Or.inl (hw _ (List.mem_of_getElem? (i := 62) rfl))) Via.refl e0 Fx (g := (mkF m 1 #[.val (.ref a)] [(.ref a)])) rfl rfl (hb hby d11_1)
  refine OEnds.go (g' := (mkF m 4 #[.val (.ref a)] [(.int wv)])) st1 ?_
  exact OEnds.outI X1 Bd.notSynchronized hx Bd.returns (hb hby d11_4) ⟨by show (some (.int wv) : Option Value) = some (.int (f11 wv)); rw [f11], N0, e1⟩ (by decide) (by decide)
theorem own_get11 (x : Int32) : f11 x = x := rfl
theorem ef_rm12 (m : MethodId) (x0 : Addr) : entryFrame m #[(.ref x0)] 1 = mkF m 0 #[.val (.ref x0)] [] := by first | (simp [entryFrame, mkF, argsToLocals, Value.category]; done) | rfl
def f12 (wv : Int32) : Int32 := wv
def Q_rm12 (Z : State) (a : Addr) (wv : Int32) (h0 : Heap) (n0 : Nat) (v : Option Value) (h : Heap) (L : List Loc) : Prop := v = some (.int (f12 wv)) ∧ Fr n0 L ∧ h = h0
set_option maxRecDepth 65536 in
set_option maxHeartbeats 40000000 in
theorem rm12 (l : Launch) (Z : State) (a0 : Array Value) (hw : ∀ d ∈ tables_1, d.before a0 Z = true) (ws : List Jvm.Cond) (a : Addr) (wv : Int32) (h0 : Heap) (n0 : Nat) (Z0 : n0 ≤ h0.size) (Fx : Fld Z h0 a "com/example/shapewright/shapewright/reader/IdlScanner$Mark" "line" "I" (.int wv)) :
    MetFree l (⟨"com/example/shapewright/shapewright/reader/IdlScanner$Mark", "line", "()I"⟩ : MethodName) (head1 (Jvm.Cond.code (⟨"com/example/shapewright/shapewright/reader/IdlScanner$Mark", "line", "()I"⟩ : MethodName) prog_22_method_6_code 1 (some .int) :: ws) ({ frames := 0, cells := 0, slots := 0, locals := 0 } : Room)) (fun aa_ U => aa_ = #[(.ref a)] ∧ Z.Warmed39 U.vm ∧ U.heap = h0) (fun _ _ _ _ _ => True) (fun _ U o U' => ∃ v L, o = .returned v ∧ Q_rm12 Z a wv h0 n0 v U'.heap L ∧ FrameEnd U o U' L ({ frames := 0, cells := 0, slots := 0, locals := 0 } : Room).cells ({ frames := 0, cells := 0, slots := 0, locals := 0 } : Room).slots) := by
  refine MetFree.of_bodySF (plainFor_of_name pn_3) hisR ?_
  intro p e s m args below meth c s₁ Bd hml0 hP hK
  obtain ⟨rfl, hZ, hh⟩ := hP
  have hx := Bd.exec
  have hby := Bd.bytes
  have hml : c.maxLocals = 1 := hml0
  have hown : s.vm.findClass "com/example/shapewright/shapewright/reader/IdlScanner$Mark" = some m.cls := findClass_of_methodNamed Bd.named
  have hnm := (name_of_methodNamed Bd.named Bd.method).1
  have X0 : Stand p l e ({ frames := 0, cells := 0, slots := 0, locals := 0 } : Room) s m #[(.ref a)] below meth c s₁ [] 0 0 := Stand.of_body Bd
  have e0 : s₁.heap = h0 := by rw [← hh, Bd.state]; rfl
  have N0 := Fr.nil n0
  show OEnds p e below (OEndP s (Q_rm12 Z a wv h0 n0) ({ frames := 0, cells := 0, slots := 0, locals := 0 } : Room).cells ({ frames := 0, cells := 0, slots := 0, locals := 0 } : Room).slots) s₁ (entryFrame m #[(.ref a)] 1)
  rw [ef_rm12 m a]
  refine OEnds.go (g' := (mkF m 1 #[.val (.ref a)] [(.ref a)])) (fun t k => XS.aloadN X0.here hx rfl (hb hby d12_0) rfl rfl k) ?_
  obtain ⟨T1, X1, e1, st1⟩ := getF X0 hx hZ hown (host := "") (Or.inl (hw _ (List.mem_of_getElem? (i := 64) rfl))) Via.refl e0 Fx (g := (mkF m 1 #[.val (.ref a)] [(.ref a)])) rfl rfl (hb hby d12_1)
  refine OEnds.go (g' := (mkF m 4 #[.val (.ref a)] [(.int wv)])) st1 ?_
  exact OEnds.outI X1 Bd.notSynchronized hx Bd.returns (hb hby d12_4) ⟨by show (some (.int wv) : Option Value) = some (.int (f12 wv)); rw [f12], N0, e1⟩ (by decide) (by decide)
theorem own_get12 (x : Int32) : f12 x = x := rfl
theorem ef_rm13 (m : MethodId) (x0 : Addr) : entryFrame m #[(.ref x0)] 1 = mkF m 0 #[.val (.ref x0)] [] := by first | (simp [entryFrame, mkF, argsToLocals, Value.category]; done) | rfl
def f13 (wv : Int32) : Int32 := wv
def Q_rm13 (Z : State) (a : Addr) (wv : Int32) (h0 : Heap) (n0 : Nat) (v : Option Value) (h : Heap) (L : List Loc) : Prop := v = some (.int (f13 wv)) ∧ Fr n0 L ∧ h = h0
set_option maxRecDepth 65536 in
set_option maxHeartbeats 40000000 in
theorem rm13 (l : Launch) (Z : State) (a0 : Array Value) (hw : ∀ d ∈ tables_1, d.before a0 Z = true) (ws : List Jvm.Cond) (a : Addr) (wv : Int32) (h0 : Heap) (n0 : Nat) (Z0 : n0 ≤ h0.size) (Fx : Fld Z h0 a "com/example/shapewright/shapewright/reader/IdlScanner$Mark" "column" "I" (.int wv)) :
    MetFree l (⟨"com/example/shapewright/shapewright/reader/IdlScanner$Mark", "column", "()I"⟩ : MethodName) (head1 (Jvm.Cond.code (⟨"com/example/shapewright/shapewright/reader/IdlScanner$Mark", "column", "()I"⟩ : MethodName) prog_22_method_7_code 1 (some .int) :: ws) ({ frames := 0, cells := 0, slots := 0, locals := 0 } : Room)) (fun aa_ U => aa_ = #[(.ref a)] ∧ Z.Warmed39 U.vm ∧ U.heap = h0) (fun _ _ _ _ _ => True) (fun _ U o U' => ∃ v L, o = .returned v ∧ Q_rm13 Z a wv h0 n0 v U'.heap L ∧ FrameEnd U o U' L ({ frames := 0, cells := 0, slots := 0, locals := 0 } : Room).cells ({ frames := 0, cells := 0, slots := 0, locals := 0 } : Room).slots) := by
  refine MetFree.of_bodySF (plainFor_of_name pn_3) hisR ?_
  intro p e s m args below meth c s₁ Bd hml0 hP hK
  obtain ⟨rfl, hZ, hh⟩ := hP
  have hx := Bd.exec
  have hby := Bd.bytes
  have hml : c.maxLocals = 1 := hml0
  have hown : s.vm.findClass "com/example/shapewright/shapewright/reader/IdlScanner$Mark" = some m.cls := findClass_of_methodNamed Bd.named
  have hnm := (name_of_methodNamed Bd.named Bd.method).1
  have X0 : Stand p l e ({ frames := 0, cells := 0, slots := 0, locals := 0 } : Room) s m #[(.ref a)] below meth c s₁ [] 0 0 := Stand.of_body Bd
  have e0 : s₁.heap = h0 := by rw [← hh, Bd.state]; rfl
  have N0 := Fr.nil n0
  show OEnds p e below (OEndP s (Q_rm13 Z a wv h0 n0) ({ frames := 0, cells := 0, slots := 0, locals := 0 } : Room).cells ({ frames := 0, cells := 0, slots := 0, locals := 0 } : Room).slots) s₁ (entryFrame m #[(.ref a)] 1)
  rw [ef_rm13 m a]
  refine OEnds.go (g' := (mkF m 1 #[.val (.ref a)] [(.ref a)])) (fun t k => XS.aloadN X0.here hx rfl (hb hby d13_0) rfl rfl k) ?_
  obtain ⟨T1, X1, e1, st1⟩ := getF X0 hx hZ hown (host := "") (Or.inl (hw _ (List.mem_of_getElem? (i := 66) rfl))) Via.refl e0 Fx (g := (mkF m 1 #[.val (.ref a)] [(.ref a)])) rfl rfl (hb hby d13_1)
  refine OEnds.go (g' := (mkF m 4 #[.val (.ref a)] [(.int wv)])) st1 ?_
  exact OEnds.outI X1 Bd.notSynchronized hx Bd.returns (hb hby d13_4) ⟨by show (some (.int wv) : Option Value) = some (.int (f13 wv)); rw [f13], N0, e1⟩ (by decide) (by decide)
theorem own_get13 (x : Int32) : f13 x = x := rfl
theorem ef_rm7 (m : MethodId) (x0 : Addr) (x1 : Addr) (x2 : Addr) : entryFrame m #[(.ref x0), (.ref x1), (.ref x2)] 3 = mkF m 0 #[.val (.ref x0), .val (.ref x1), .val (.ref x2)] [] := by first | (simp [entryFrame, mkF, argsToLocals, Value.category]; done) | rfl
def Q_rm7 (Z : State) (a : Addr) (pa : Addr) (te : Addr) (h0 : Heap) (n0 : Nat) (v : Option Value) (h : Heap) (L : List Loc) : Prop := v = none ∧ Fr n0 L ∧ Keep h0 h [a] ∧ Exa Z h a "com/example/shapewright/shapewright/reader/IdlScanner" ∧ Fld Z h a "com/example/shapewright/shapewright/reader/IdlScanner" "position" "I" (.int (0 : Int32)) ∧ Fld Z h a "com/example/shapewright/shapewright/reader/IdlScanner" "line" "I" (.int (1 : Int32)) ∧ Fld Z h a "com/example/shapewright/shapewright/reader/IdlScanner" "column" "I" (.int (1 : Int32)) ∧ Fld Z h a "com/example/shapewright/shapewright/reader/IdlScanner" "text" "Ljava/lang/String;" (.ref te)
set_option maxRecDepth 65536 in
set_option maxHeartbeats 40000000 in
theorem rm7 (l : Launch) (Z : State) (a0 : Array Value) (hw : ∀ d ∈ tables_1, d.before a0 Z = true) (ws : List Jvm.Cond) (a : Addr) (pa : Addr) (te : Addr) (h0 : Heap) (n0 : Nat) (Z0 : n0 ≤ h0.size) (E0 : Exa Z h0 a "com/example/shapewright/shapewright/reader/IdlScanner") (F_position : Fld Z h0 a "com/example/shapewright/shapewright/reader/IdlScanner" "position" "I" (.int (0 : Int32))) (F_line : Fld Z h0 a "com/example/shapewright/shapewright/reader/IdlScanner" "line" "I" (.int (0 : Int32))) (F_column : Fld Z h0 a "com/example/shapewright/shapewright/reader/IdlScanner" "column" "I" (.int (0 : Int32))) (F_whitespaceEnd : Fld Z h0 a "com/example/shapewright/shapewright/reader/IdlScanner" "whitespaceEnd" "I" (.int (0 : Int32))) (F_path : Fld Z h0 a "com/example/shapewright/shapewright/reader/IdlScanner" "path" "Ljava/lang/String;" .null) (F_text : Fld Z h0 a "com/example/shapewright/shapewright/reader/IdlScanner" "text" "Ljava/lang/String;" .null) (g_a : n0 ≤ a) :
    MetFree l (⟨"com/example/shapewright/shapewright/reader/IdlScanner", "<init>", "(Ljava/lang/String;Ljava/lang/String;)V"⟩ : MethodName) (head1 (Jvm.Cond.code (⟨"com/example/shapewright/shapewright/reader/IdlScanner", "<init>", "(Ljava/lang/String;Ljava/lang/String;)V"⟩ : MethodName) prog_20_method_1_code 3 none :: ws) ({ frames := 1, cells := 0, slots := 0, locals := 12 } : Room)) (fun aa_ U => aa_ = #[(.ref a), (.ref pa), (.ref te)] ∧ Z.Warmed39 U.vm ∧ U.heap = h0) (fun _ _ _ _ _ => True) (fun _ U o U' => ∃ v L, o = .returned v ∧ Q_rm7 Z a pa te h0 n0 v U'.heap L ∧ FrameEnd U o U' L ({ frames := 1, cells := 0, slots := 0, locals := 12 } : Room).cells ({ frames := 1, cells := 0, slots := 0, locals := 12 } : Room).slots) := by
  refine MetFree.of_bodySF (plainFor_of_name pn_4) hisR ?_
  intro p e s m args below meth c s₁ Bd hml0 hP hK
  obtain ⟨rfl, hZ, hh⟩ := hP
  have hx := Bd.exec
  have hby := Bd.bytes
  have hml : c.maxLocals = 3 := hml0
  have hown : s.vm.findClass "com/example/shapewright/shapewright/reader/IdlScanner" = some m.cls := findClass_of_methodNamed Bd.named
  have hnm := (name_of_methodNamed Bd.named Bd.method).1
  have X0 : Stand p l e ({ frames := 1, cells := 0, slots := 0, locals := 12 } : Room) s m #[(.ref a), (.ref pa), (.ref te)] below meth c s₁ [] 0 0 := Stand.of_body Bd
  have e0 : s₁.heap = h0 := by rw [← hh, Bd.state]; rfl
  have N0 := Fr.nil n0
  show OEnds p e below (OEndP s (Q_rm7 Z a pa te h0 n0) ({ frames := 1, cells := 0, slots := 0, locals := 12 } : Room).cells ({ frames := 1, cells := 0, slots := 0, locals := 12 } : Room).slots) s₁ (entryFrame m #[(.ref a), (.ref pa), (.ref te)] 3)
  rw [ef_rm7 m a pa te]
  refine OEnds.go (g' := (mkF m 1 #[.val (.ref a), .val (.ref pa), .val (.ref te)] [(.ref a)])) (fun t k => XS.aloadN X0.here hx rfl (hb hby d7_0) rfl rfl k) ?_
  obtain ⟨T1, X1, e1, st1⟩ := initO X0 hx hZ hown (hw _ (List.mem_of_getElem? (i := 39) rfl)) (hw _ (List.mem_of_getElem? (i := 21) rfl)) (hw _ (List.mem_of_getElem? (i := 22) rfl)) e0 (g := (mkF m 1 #[.val (.ref a), .val (.ref pa), .val (.ref te)] [(.ref a)])) rfl (by rw [hml]; rfl) rfl (hb hby d7_1) (by decide) (W := 0) (by show 2 * 0 + _ ≤ _; exact Nat.le_of_eq rfl) (by decide)
  refine OEnds.go (g' := (mkF m 4 #[.val (.ref a), .val (.ref pa), .val (.ref te)] [])) st1 ?_
  refine OEnds.go (g' := (mkF m 5 #[.val (.ref a), .val (.ref pa), .val (.ref te)] [(.ref a)])) (fun t k => XS.aloadN X1.here hx rfl (hb hby d7_4) rfl rfl k) ?_
  refine OEnds.go (g' := (mkF m 6 #[.val (.ref a), .val (.ref pa), .val (.ref te)] [(.int (1 : Int32)), (.ref a)])) (fun t k => XS.iconst X1.here hx rfl (hb hby d7_5) k) ?_
  obtain ⟨T2, h2, X2, e2, W2, st2⟩ := putF X1 hx hZ hown (host := "") (Or.inl (hw _ (List.mem_of_getElem? (i := 40) rfl))) Via.refl e1 F_line E0 (Or.inl (hw _ (List.mem_of_getElem? (i := 41) rfl))) (hw _ (List.mem_of_getElem? (i := 2) rfl)) (ty := .int) (by decide) rfl rfl (g := (mkF m 6 #[.val (.ref a), .val (.ref pa), .val (.ref te)] [(.int (1 : Int32)), (.ref a)])) rfl rfl (hb hby d7_6)
  have N2 := Fr.snoc X2 N0 g_a
  have K2 : Keep h0 h2 [a] := (Keep.refl h0 [a]).wr W2 (Or.inl (by simp))
  have Fw2 := F_line.same W2
  refine OEnds.go (g' := (mkF m 9 #[.val (.ref a), .val (.ref pa), .val (.ref te)] [])) st2 ?_
  refine OEnds.go (g' := (mkF m 10 #[.val (.ref a), .val (.ref pa), .val (.ref te)] [(.ref a)])) (fun t k => XS.aloadN X2.here hx rfl (hb hby d7_9) rfl rfl k) ?_
  refine OEnds.go (g' := (mkF m 11 #[.val (.ref a), .val (.ref pa), .val (.ref te)] [(.int (1 : Int32)), (.ref a)])) (fun t k => XS.iconst X2.here hx rfl (hb hby d7_10) k) ?_
  obtain ⟨T3, h3, X3, e3, W3, st3⟩ := putF X2 hx hZ hown (host := "") (Or.inl (hw _ (List.mem_of_getElem? (i := 42) rfl))) Via.refl e2 (F_column.other W2 (Or.inr (slot_ne (Or.inl (hw _ (List.mem_of_getElem? (i := 43) rfl))) (Or.inl (hw _ (List.mem_of_getElem? (i := 41) rfl))) (by decide) (t := .int) (t' := .int) (by decide) (by decide)))) (E0.wr W2) (Or.inl (hw _ (List.mem_of_getElem? (i := 43) rfl))) (hw _ (List.mem_of_getElem? (i := 2) rfl)) (ty := .int) (by decide) rfl rfl (g := (mkF m 11 #[.val (.ref a), .val (.ref pa), .val (.ref te)] [(.int (1 : Int32)), (.ref a)])) rfl rfl (hb hby d7_11)
  have N3 := Fr.snoc X3 N2 g_a
  have K3 : Keep h0 h3 [a] := K2.wr W3 (Or.inl (by simp))
  have Fw3 := (F_column.other W2 (Or.inr (slot_ne (Or.inl (hw _ (List.mem_of_getElem? (i := 43) rfl))) (Or.inl (hw _ (List.mem_of_getElem? (i := 41) rfl))) (by decide) (t := .int) (t' := .int) (by decide) (by decide)))).same W3
  refine OEnds.go (g' := (mkF m 14 #[.val (.ref a), .val (.ref pa), .val (.ref te)] [])) st3 ?_
  refine OEnds.go (g' := (mkF m 15 #[.val (.ref a), .val (.ref pa), .val (.ref te)] [(.ref a)])) (fun t k => XS.aloadN X3.here hx rfl (hb hby d7_14) rfl rfl k) ?_
  refine OEnds.go (g' := (mkF m 16 #[.val (.ref a), .val (.ref pa), .val (.ref te)] [(.int (-1 : Int32)), (.ref a)])) (fun t k => XS.iconst X3.here hx rfl (hb hby d7_15) k) ?_
  obtain ⟨T4, h4, X4, e4, W4, st4⟩ := putF X3 hx hZ hown (host := "") (Or.inl (hw _ (List.mem_of_getElem? (i := 44) rfl))) Via.refl e3 ((F_whitespaceEnd.other W2 (Or.inr (slot_ne (Or.inl (hw _ (List.mem_of_getElem? (i := 45) rfl))) (Or.inl (hw _ (List.mem_of_getElem? (i := 41) rfl))) (by decide) (t := .int) (t' := .int) (by decide) (by decide)))).other W3 (Or.inr (slot_ne (Or.inl (hw _ (List.mem_of_getElem? (i := 45) rfl))) (Or.inl (hw _ (List.mem_of_getElem? (i := 43) rfl))) (by decide) (t := .int) (t' := .int) (by decide) (by decide)))) ((E0.wr W2).wr W3) (Or.inl (hw _ (List.mem_of_getElem? (i := 45) rfl))) (hw _ (List.mem_of_getElem? (i := 2) rfl)) (ty := .int) (by decide) rfl rfl (g := (mkF m 16 #[.val (.ref a), .val (.ref pa), .val (.ref te)] [(.int (-1 : Int32)), (.ref a)])) rfl rfl (hb hby d7_16)
  have N4 := Fr.snoc X4 N3 g_a
  have K4 : Keep h0 h4 [a] := K3.wr W4 (Or.inl (by simp))
  have Fw4 := ((F_whitespaceEnd.other W2 (Or.inr (slot_ne (Or.inl (hw _ (List.mem_of_getElem? (i := 45) rfl))) (Or.inl (hw _ (List.mem_of_getElem? (i := 41) rfl))) (by decide) (t := .int) (t' := .int) (by decide) (by decide)))).other W3 (Or.inr (slot_ne (Or.inl (hw _ (List.mem_of_getElem? (i := 45) rfl))) (Or.inl (hw _ (List.mem_of_getElem? (i := 43) rfl))) (by decide) (t := .int) (t' := .int) (by decide) (by decide)))).same W4
  refine OEnds.go (g' := (mkF m 19 #[.val (.ref a), .val (.ref pa), .val (.ref te)] [])) st4 ?_
  refine OEnds.go (g' := (mkF m 20 #[.val (.ref a), .val (.ref pa), .val (.ref te)] [(.ref a)])) (fun t k => XS.aloadN X4.here hx rfl (hb hby d7_19) rfl rfl k) ?_
  refine OEnds.go (g' := (mkF m 21 #[.val (.ref a), .val (.ref pa), .val (.ref te)] [(.ref pa), (.ref a)])) (fun t k => XS.aloadN X4.here hx rfl (hb hby d7_20) rfl rfl k) ?_
  obtain ⟨T5, h5, X5, e5, W5, st5⟩ := putF X4 hx hZ hown (host := "") (Or.inl (hw _ (List.mem_of_getElem? (i := 46) rfl))) Via.refl e4 (((F_path.other W2 (Or.inr (slot_ne (Or.inr (hw _ (List.mem_of_getElem? (i := 47) rfl))) (Or.inl (hw _ (List.mem_of_getElem? (i := 41) rfl))) (by decide) (t := (.object "java/lang/String")) (t' := .int) (by decide) (by decide)))).other W3 (Or.inr (slot_ne (Or.inr (hw _ (List.mem_of_getElem? (i := 47) rfl))) (Or.inl (hw _ (List.mem_of_getElem? (i := 43) rfl))) (by decide) (t := (.object "java/lang/String")) (t' := .int) (by decide) (by decide)))).other W4 (Or.inr (slot_ne (Or.inr (hw _ (List.mem_of_getElem? (i := 47) rfl))) (Or.inl (hw _ (List.mem_of_getElem? (i := 45) rfl))) (by decide) (t := (.object "java/lang/String")) (t' := .int) (by decide) (by decide)))) (((E0.wr W2).wr W3).wr W4) (Or.inr ⟨(hw _ (List.mem_of_getElem? (i := 47) rfl)), rfl, hnm⟩) (hw _ (List.mem_of_getElem? (i := 2) rfl)) (ty := (.object "java/lang/String")) (by decide) rfl rfl (g := (mkF m 21 #[.val (.ref a), .val (.ref pa), .val (.ref te)] [(.ref pa), (.ref a)])) rfl rfl (hb hby d7_21)
  have N5 := Fr.snoc X5 N4 g_a
  have K5 : Keep h0 h5 [a] := K4.wr W5 (Or.inl (by simp))
  have Fw5 := (((F_path.other W2 (Or.inr (slot_ne (Or.inr (hw _ (List.mem_of_getElem? (i := 47) rfl))) (Or.inl (hw _ (List.mem_of_getElem? (i := 41) rfl))) (by decide) (t := (.object "java/lang/String")) (t' := .int) (by decide) (by decide)))).other W3 (Or.inr (slot_ne (Or.inr (hw _ (List.mem_of_getElem? (i := 47) rfl))) (Or.inl (hw _ (List.mem_of_getElem? (i := 43) rfl))) (by decide) (t := (.object "java/lang/String")) (t' := .int) (by decide) (by decide)))).other W4 (Or.inr (slot_ne (Or.inr (hw _ (List.mem_of_getElem? (i := 47) rfl))) (Or.inl (hw _ (List.mem_of_getElem? (i := 45) rfl))) (by decide) (t := (.object "java/lang/String")) (t' := .int) (by decide) (by decide)))).same W5
  refine OEnds.go (g' := (mkF m 24 #[.val (.ref a), .val (.ref pa), .val (.ref te)] [])) st5 ?_
  refine OEnds.go (g' := (mkF m 25 #[.val (.ref a), .val (.ref pa), .val (.ref te)] [(.ref a)])) (fun t k => XS.aloadN X5.here hx rfl (hb hby d7_24) rfl rfl k) ?_
  refine OEnds.go (g' := (mkF m 26 #[.val (.ref a), .val (.ref pa), .val (.ref te)] [(.ref te), (.ref a)])) (fun t k => XS.aloadN X5.here hx rfl (hb hby d7_25) rfl rfl k) ?_
  obtain ⟨T6, h6, X6, e6, W6, st6⟩ := putF X5 hx hZ hown (host := "") (Or.inl (hw _ (List.mem_of_getElem? (i := 48) rfl))) Via.refl e5 ((((F_text.other W2 (Or.inr (slot_ne (Or.inr (hw _ (List.mem_of_getElem? (i := 49) rfl))) (Or.inl (hw _ (List.mem_of_getElem? (i := 41) rfl))) (by decide) (t := (.object "java/lang/String")) (t' := .int) (by decide) (by decide)))).other W3 (Or.inr (slot_ne (Or.inr (hw _ (List.mem_of_getElem? (i := 49) rfl))) (Or.inl (hw _ (List.mem_of_getElem? (i := 43) rfl))) (by decide) (t := (.object "java/lang/String")) (t' := .int) (by decide) (by decide)))).other W4 (Or.inr (slot_ne (Or.inr (hw _ (List.mem_of_getElem? (i := 49) rfl))) (Or.inl (hw _ (List.mem_of_getElem? (i := 45) rfl))) (by decide) (t := (.object "java/lang/String")) (t' := .int) (by decide) (by decide)))).other W5 (Or.inr (slot_ne (Or.inr (hw _ (List.mem_of_getElem? (i := 49) rfl))) (Or.inr (hw _ (List.mem_of_getElem? (i := 47) rfl))) (by decide) (t := (.object "java/lang/String")) (t' := (.object "java/lang/String")) (by decide) (by decide)))) ((((E0.wr W2).wr W3).wr W4).wr W5) (Or.inr ⟨(hw _ (List.mem_of_getElem? (i := 49) rfl)), rfl, hnm⟩) (hw _ (List.mem_of_getElem? (i := 2) rfl)) (ty := (.object "java/lang/String")) (by decide) rfl rfl (g := (mkF m 26 #[.val (.ref a), .val (.ref pa), .val (.ref te)] [(.ref te), (.ref a)])) rfl rfl (hb hby d7_26)
  have N6 := Fr.snoc X6 N5 g_a
  have K6 : Keep h0 h6 [a] := K5.wr W6 (Or.inl (by simp))
  have Fw6 := ((((F_text.other W2 (Or.inr (slot_ne (Or.inr (hw _ (List.mem_of_getElem? (i := 49) rfl))) (Or.inl (hw _ (List.mem_of_getElem? (i := 41) rfl))) (by decide) (t := (.object "java/lang/String")) (t' := .int) (by decide) (by decide)))).other W3 (Or.inr (slot_ne (Or.inr (hw _ (List.mem_of_getElem? (i := 49) rfl))) (Or.inl (hw _ (List.mem_of_getElem? (i := 43) rfl))) (by decide) (t := (.object "java/lang/String")) (t' := .int) (by decide) (by decide)))).other W4 (Or.inr (slot_ne (Or.inr (hw _ (List.mem_of_getElem? (i := 49) rfl))) (Or.inl (hw _ (List.mem_of_getElem? (i := 45) rfl))) (by decide) (t := (.object "java/lang/String")) (t' := .int) (by decide) (by decide)))).other W5 (Or.inr (slot_ne (Or.inr (hw _ (List.mem_of_getElem? (i := 49) rfl))) (Or.inr (hw _ (List.mem_of_getElem? (i := 47) rfl))) (by decide) (t := (.object "java/lang/String")) (t' := (.object "java/lang/String")) (by decide) (by decide)))).same W6
  refine OEnds.go (g' := (mkF m 29 #[.val (.ref a), .val (.ref pa), .val (.ref te)] [])) st6 ?_
  exact OEnds.outV X6 Bd.notSynchronized hx Bd.returns (hb hby d7_29) (by rw [e6]; exact ⟨rfl, N6, K6, (((((E0.wr W2).wr W3).wr W4).wr W5).wr W6), (((((F_position.other W2 (Or.inr (slot_ne (Or.inl (hw _ (List.mem_of_getElem? (i := 79) rfl))) (Or.inl (hw _ (List.mem_of_getElem? (i := 41) rfl))) (by decide) (t := .int) (t' := .int) (by decide) (by decide)))).other W3 (Or.inr (slot_ne (Or.inl (hw _ (List.mem_of_getElem? (i := 79) rfl))) (Or.inl (hw _ (List.mem_of_getElem? (i := 43) rfl))) (by decide) (t := .int) (t' := .int) (by decide) (by decide)))).other W4 (Or.inr (slot_ne (Or.inl (hw _ (List.mem_of_getElem? (i := 79) rfl))) (Or.inl (hw _ (List.mem_of_getElem? (i := 45) rfl))) (by decide) (t := .int) (t' := .int) (by decide) (by decide)))).other W5 (Or.inr (slot_ne (Or.inl (hw _ (List.mem_of_getElem? (i := 79) rfl))) (Or.inr (hw _ (List.mem_of_getElem? (i := 47) rfl))) (by decide) (t := .int) (t' := (.object "java/lang/String")) (by decide) (by decide)))).other W6 (Or.inr (slot_ne (Or.inl (hw _ (List.mem_of_getElem? (i := 79) rfl))) (Or.inr (hw _ (List.mem_of_getElem? (i := 49) rfl))) (by decide) (t := .int) (t' := (.object "java/lang/String")) (by decide) (by decide)))), ((((Fw2.other W3 (Or.inr (slot_ne (Or.inl (hw _ (List.mem_of_getElem? (i := 41) rfl))) (Or.inl (hw _ (List.mem_of_getElem? (i := 43) rfl))) (by decide) (t := .int) (t' := .int) (by decide) (by decide)))).other W4 (Or.inr (slot_ne (Or.inl (hw _ (List.mem_of_getElem? (i := 41) rfl))) (Or.inl (hw _ (List.mem_of_getElem? (i := 45) rfl))) (by decide) (t := .int) (t' := .int) (by decide) (by decide)))).other W5 (Or.inr (slot_ne (Or.inl (hw _ (List.mem_of_getElem? (i := 41) rfl))) (Or.inr (hw _ (List.mem_of_getElem? (i := 47) rfl))) (by decide) (t := .int) (t' := (.object "java/lang/String")) (by decide) (by decide)))).other W6 (Or.inr (slot_ne (Or.inl (hw _ (List.mem_of_getElem? (i := 41) rfl))) (Or.inr (hw _ (List.mem_of_getElem? (i := 49) rfl))) (by decide) (t := .int) (t' := (.object "java/lang/String")) (by decide) (by decide)))), (((Fw3.other W4 (Or.inr (slot_ne (Or.inl (hw _ (List.mem_of_getElem? (i := 43) rfl))) (Or.inl (hw _ (List.mem_of_getElem? (i := 45) rfl))) (by decide) (t := .int) (t' := .int) (by decide) (by decide)))).other W5 (Or.inr (slot_ne (Or.inl (hw _ (List.mem_of_getElem? (i := 43) rfl))) (Or.inr (hw _ (List.mem_of_getElem? (i := 47) rfl))) (by decide) (t := .int) (t' := (.object "java/lang/String")) (by decide) (by decide)))).other W6 (Or.inr (slot_ne (Or.inl (hw _ (List.mem_of_getElem? (i := 43) rfl))) (Or.inr (hw _ (List.mem_of_getElem? (i := 49) rfl))) (by decide) (t := .int) (t' := (.object "java/lang/String")) (by decide) (by decide)))), Fw6⟩) (by decide) (by decide)
theorem ef_rm10 (m : MethodId) (x0 : Addr) (x1 : Addr) : entryFrame m #[(.ref x0), (.ref x1)] 2 = mkF m 0 #[.val (.ref x0), .val (.ref x1)] [] := by first | (simp [entryFrame, mkF, argsToLocals, Value.category]; done) | rfl
def Q_rm10 (Z : State) (a : Addr) (mk : Addr) (y0_ : Int32) (y1_ : Int32) (y2_ : Int32) (x0_ : Int32) (x1_ : Int32) (x2_ : Int32) (te : Addr) (h0 : Heap) (n0 : Nat) (v : Option Value) (h : Heap) (L : List Loc) : Prop := v = none ∧ Fr n0 L ∧ Keep h0 h [a] ∧ Exa Z h a "com/example/shapewright/shapewright/reader/IdlScanner" ∧ Fld Z h a "com/example/shapewright/shapewright/reader/IdlScanner" "position" "I" (.int x0_) ∧ Fld Z h a "com/example/shapewright/shapewright/reader/IdlScanner" "line" "I" (.int x1_) ∧ Fld Z h a "com/example/shapewright/shapewright/reader/IdlScanner" "column" "I" (.int x2_) ∧ Fld Z h a "com/example/shapewright/shapewright/reader/IdlScanner" "text" "Ljava/lang/String;" (.ref te)
set_option maxRecDepth 65536 in
set_option maxHeartbeats 40000000 in
theorem rm10 (l : Launch) (Z : State) (a0 : Array Value) (hw : ∀ d ∈ tables_1, d.before a0 Z = true) (ws : List Jvm.Cond) (a : Addr) (mk : Addr) (y0_ : Int32) (y1_ : Int32) (y2_ : Int32) (x0_ : Int32) (x1_ : Int32) (x2_ : Int32) (te : Addr) (h0 : Heap) (n0 : Nat) (Z0 : n0 ≤ h0.size) (E0 : Exa Z h0 a "com/example/shapewright/shapewright/reader/IdlScanner") (E1 : Exa Z h0 mk "com/example/shapewright/shapewright/reader/IdlScanner$Mark") (F_position : Fld Z h0 a "com/example/shapewright/shapewright/reader/IdlScanner" "position" "I" (.int y0_)) (F_line : Fld Z h0 a "com/example/shapewright/shapewright/reader/IdlScanner" "line" "I" (.int y1_)) (F_column : Fld Z h0 a "com/example/shapewright/shapewright/reader/IdlScanner" "column" "I" (.int y2_)) (M_position : Fld Z h0 mk "com/example/shapewright/shapewright/reader/IdlScanner$Mark" "position" "I" (.int x0_)) (M_line : Fld Z h0 mk "com/example/shapewright/shapewright/reader/IdlScanner$Mark" "line" "I" (.int x1_)) (M_column : Fld Z h0 mk "com/example/shapewright/shapewright/reader/IdlScanner$Mark" "column" "I" (.int x2_)) (F_text : Fld Z h0 a "com/example/shapewright/shapewright/reader/IdlScanner" "text" "Ljava/lang/String;" (.ref te)) (g_a : n0 ≤ a) (hne : mk ≠ a) :
    MetFree l (⟨"com/example/shapewright/shapewright/reader/IdlScanner", "reset", "(Lcom/example/shapewright/shapewright/reader/IdlScanner$Mark;)V"⟩ : MethodName) (head1 (Jvm.Cond.code (⟨"com/example/shapewright/shapewright/reader/IdlScanner", "reset", "(Lcom/example/shapewright/shapewright/reader/IdlScanner$Mark;)V"⟩ : MethodName) prog_20_method_8_code 2 none :: ws) ({ frames := 1, cells := 0, slots := 0, locals := 14 } : Room)) (fun aa_ U => aa_ = #[(.ref a), (.ref mk)] ∧ Z.Warmed39 U.vm ∧ U.heap = h0) (fun _ _ _ _ _ => True) (fun _ U o U' => ∃ v L, o = .returned v ∧ Q_rm10 Z a mk y0_ y1_ y2_ x0_ x1_ x2_ te h0 n0 v U'.heap L ∧ FrameEnd U o U' L ({ frames := 1, cells := 0, slots := 0, locals := 14 } : Room).cells ({ frames := 1, cells := 0, slots := 0, locals := 14 } : Room).slots) := by
  refine MetFree.of_bodySF (plainFor_of_name pn_4) hisR ?_
  intro p e s m args below meth c s₁ Bd hml0 hP hK
  obtain ⟨rfl, hZ, hh⟩ := hP
  have hx := Bd.exec
  have hby := Bd.bytes
  have hml : c.maxLocals = 2 := hml0
  have hown : s.vm.findClass "com/example/shapewright/shapewright/reader/IdlScanner" = some m.cls := findClass_of_methodNamed Bd.named
  have hnm := (name_of_methodNamed Bd.named Bd.method).1
  have X0 : Stand p l e ({ frames := 1, cells := 0, slots := 0, locals := 14 } : Room) s m #[(.ref a), (.ref mk)] below meth c s₁ [] 0 0 := Stand.of_body Bd
  have e0 : s₁.heap = h0 := by rw [← hh, Bd.state]; rfl
  have N0 := Fr.nil n0
  show OEnds p e below (OEndP s (Q_rm10 Z a mk y0_ y1_ y2_ x0_ x1_ x2_ te h0 n0) ({ frames := 1, cells := 0, slots := 0, locals := 14 } : Room).cells ({ frames := 1, cells := 0, slots := 0, locals := 14 } : Room).slots) s₁ (entryFrame m #[(.ref a), (.ref mk)] 2)
  rw [ef_rm10 m a mk]
  refine OEnds.go (g' := (mkF m 1 #[.val (.ref a), .val (.ref mk)] [(.ref a)])) (fun t k => XS.aloadN X0.here hx rfl (hb hby d10_0) rfl rfl k) ?_
  refine OEnds.go (g' := (mkF m 2 #[.val (.ref a), .val (.ref mk)] [(.ref mk), (.ref a)])) (fun t k => XS.aloadN X0.here hx rfl (hb hby d10_1) rfl rfl k) ?_
  obtain ⟨cq1, kq1, q1a, q1b, q1c⟩ := isOf hZ e0 E1
  obtain ⟨_, _, ⟨T1, L1, k1, n1⟩, -, X1, ⟨Lc1, hQ1, l1, y1, z1⟩, st1⟩ := X0.virtualBack hx (y := (⟨"com/example/shapewright/shapewright/reader/IdlScanner$Mark", "position", "()I"⟩ : MethodName)) (z := (⟨"com/example/shapewright/shapewright/reader/IdlScanner$Mark", "position", "()I"⟩ : MethodName)) hown (mvT hZ (hw _ (List.mem_of_getElem? (i := 73) rfl))) (mvT hZ (hw _ (List.mem_of_getElem? (i := 74) rfl))) (notFace_of_selects (args := #[]) (mvT hZ (hw _ (List.mem_of_getElem? (i := 76) rfl)))) (mvT hZ (hw _ (List.mem_of_getElem? (i := 76) rfl))) (mvT hZ (hw _ (List.mem_of_getElem? (i := 75) rfl))) (by decide) (backOf (W := 1) (rm11 l Z a0 hw [] mk x0_ h0 n0 Z0 M_position) hZ (hw _ (List.mem_of_getElem? (i := 77) rfl)) (hw _ (List.mem_of_getElem? (i := 52) rfl)) (by decide) (by decide)) q1a q1c (g := (mkF m 2 #[.val (.ref a), .val (.ref mk)] [(.ref mk), (.ref a)])) rfl (by rw [hml]; rfl) (Steps.refl _) (argsL := []) (rest := [(.ref a)]) (lenOf pd_6 rfl) rfl (by show 2 * 0 + _ ≤ _; exact Nat.le_of_eq rfl) (hb hby d10_2) (fun _ _ => ⟨rfl, e0, (by decide : 0 + 0 ≤ _), (by decide : 0 + 0 ≤ _)⟩)
  dsimp only [Pt.U, Pt.locs, Pt.cells, Pt.slots] at X1 l1 y1 z1 st1 hQ1
  subst l1 y1 z1
  obtain ⟨rfl, N1q, e1⟩ := hQ1
  have N1 := Fr.app N0 N1q
  refine OEnds.tr (g' := (mkF m 5 #[.val (.ref a), .val (.ref mk)] [(.int x0_), (.ref a)])) st1 ?_
  obtain ⟨T2, h2, X2, e2, W2, st2⟩ := putF X1 hx hZ hown (host := "") (Or.inl (hw _ (List.mem_of_getElem? (i := 78) rfl))) Via.refl e1 F_position E0 (Or.inl (hw _ (List.mem_of_getElem? (i := 79) rfl))) (hw _ (List.mem_of_getElem? (i := 2) rfl)) (ty := .int) (by decide) rfl rfl (g := (mkF m 5 #[.val (.ref a), .val (.ref mk)] [(.int x0_), (.ref a)])) rfl rfl (hb hby d10_5)
  have N2 := Fr.snoc X2 N1 g_a
  have K2 : Keep h0 h2 [a] := (Keep.refl h0 [a]).wr W2 (Or.inl (by simp))
  have Fw2 := F_position.same W2
  refine OEnds.go (g' := (mkF m 8 #[.val (.ref a), .val (.ref mk)] [])) st2 ?_
  refine OEnds.go (g' := (mkF m 9 #[.val (.ref a), .val (.ref mk)] [(.ref a)])) (fun t k => XS.aloadN X2.here hx rfl (hb hby d10_8) rfl rfl k) ?_
  refine OEnds.go (g' := (mkF m 10 #[.val (.ref a), .val (.ref mk)] [(.ref mk), (.ref a)])) (fun t k => XS.aloadN X2.here hx rfl (hb hby d10_9) rfl rfl k) ?_
  obtain ⟨cq3, kq3, q3a, q3b, q3c⟩ := isOf hZ e2 (E1.wr W2)
  obtain ⟨_, _, ⟨T3, L3, k3, n3⟩, -, X3, ⟨Lc3, hQ3, l3, y3, z3⟩, st3⟩ := X2.virtualBack hx (y := (⟨"com/example/shapewright/shapewright/reader/IdlScanner$Mark", "line", "()I"⟩ : MethodName)) (z := (⟨"com/example/shapewright/shapewright/reader/IdlScanner$Mark", "line", "()I"⟩ : MethodName)) hown (mvT hZ (hw _ (List.mem_of_getElem? (i := 80) rfl))) (mvT hZ (hw _ (List.mem_of_getElem? (i := 81) rfl))) (notFace_of_selects (args := #[]) (mvT hZ (hw _ (List.mem_of_getElem? (i := 83) rfl)))) (mvT hZ (hw _ (List.mem_of_getElem? (i := 83) rfl))) (mvT hZ (hw _ (List.mem_of_getElem? (i := 82) rfl))) (by decide) (backOf (W := 1) (rm12 l Z a0 hw [] mk x1_ h2 n0 (Nat.le_trans Z0 (Nat.le_of_eq W2.size.symm)) (M_line.other W2 (Or.inl hne))) hZ (hw _ (List.mem_of_getElem? (i := 84) rfl)) (hw _ (List.mem_of_getElem? (i := 52) rfl)) (by decide) (by decide)) q3a q3c (g := (mkF m 10 #[.val (.ref a), .val (.ref mk)] [(.ref mk), (.ref a)])) rfl (by rw [hml]; rfl) (Steps.refl _) (argsL := []) (rest := [(.ref a)]) (lenOf pd_6 rfl) rfl (by show 2 * 0 + _ ≤ _; exact Nat.le_of_eq rfl) (hb hby d10_10) (fun _ _ => ⟨rfl, e2, (by decide : 0 + 0 ≤ _), (by decide : 0 + 0 ≤ _)⟩)
  dsimp only [Pt.U, Pt.locs, Pt.cells, Pt.slots] at X3 l3 y3 z3 st3 hQ3
  subst l3 y3 z3
  obtain ⟨rfl, N3q, e3⟩ := hQ3
  have N3 := Fr.app N2 N3q
  refine OEnds.tr (g' := (mkF m 13 #[.val (.ref a), .val (.ref mk)] [(.int x1_), (.ref a)])) st3 ?_
  obtain ⟨T4, h4, X4, e4, W4, st4⟩ := putF X3 hx hZ hown (host := "") (Or.inl (hw _ (List.mem_of_getElem? (i := 40) rfl))) Via.refl e3 (F_line.other W2 (Or.inr (slot_ne (Or.inl (hw _ (List.mem_of_getElem? (i := 41) rfl))) (Or.inl (hw _ (List.mem_of_getElem? (i := 79) rfl))) (by decide) (t := .int) (t' := .int) (by decide) (by decide)))) (E0.wr W2) (Or.inl (hw _ (List.mem_of_getElem? (i := 41) rfl))) (hw _ (List.mem_of_getElem? (i := 2) rfl)) (ty := .int) (by decide) rfl rfl (g := (mkF m 13 #[.val (.ref a), .val (.ref mk)] [(.int x1_), (.ref a)])) rfl rfl (hb hby d10_13)
  have N4 := Fr.snoc X4 N3 g_a
  have K4 : Keep h0 h4 [a] := K2.wr W4 (Or.inl (by simp))
  have Fw4 := (F_line.other W2 (Or.inr (slot_ne (Or.inl (hw _ (List.mem_of_getElem? (i := 41) rfl))) (Or.inl (hw _ (List.mem_of_getElem? (i := 79) rfl))) (by decide) (t := .int) (t' := .int) (by decide) (by decide)))).same W4
  refine OEnds.go (g' := (mkF m 16 #[.val (.ref a), .val (.ref mk)] [])) st4 ?_
  refine OEnds.go (g' := (mkF m 17 #[.val (.ref a), .val (.ref mk)] [(.ref a)])) (fun t k => XS.aloadN X4.here hx rfl (hb hby d10_16) rfl rfl k) ?_
  refine OEnds.go (g' := (mkF m 18 #[.val (.ref a), .val (.ref mk)] [(.ref mk), (.ref a)])) (fun t k => XS.aloadN X4.here hx rfl (hb hby d10_17) rfl rfl k) ?_
  obtain ⟨cq5, kq5, q5a, q5b, q5c⟩ := isOf hZ e4 ((E1.wr W2).wr W4)
  obtain ⟨_, _, ⟨T5, L5, k5, n5⟩, -, X5, ⟨Lc5, hQ5, l5, y5, z5⟩, st5⟩ := X4.virtualBack hx (y := (⟨"com/example/shapewright/shapewright/reader/IdlScanner$Mark", "column", "()I"⟩ : MethodName)) (z := (⟨"com/example/shapewright/shapewright/reader/IdlScanner$Mark", "column", "()I"⟩ : MethodName)) hown (mvT hZ (hw _ (List.mem_of_getElem? (i := 85) rfl))) (mvT hZ (hw _ (List.mem_of_getElem? (i := 86) rfl))) (notFace_of_selects (args := #[]) (mvT hZ (hw _ (List.mem_of_getElem? (i := 88) rfl)))) (mvT hZ (hw _ (List.mem_of_getElem? (i := 88) rfl))) (mvT hZ (hw _ (List.mem_of_getElem? (i := 87) rfl))) (by decide) (backOf (W := 1) (rm13 l Z a0 hw [] mk x2_ h4 n0 (Nat.le_trans (Nat.le_trans Z0 (Nat.le_of_eq W2.size.symm)) (Nat.le_of_eq W4.size.symm)) ((M_column.other W2 (Or.inl hne)).other W4 (Or.inl hne))) hZ (hw _ (List.mem_of_getElem? (i := 89) rfl)) (hw _ (List.mem_of_getElem? (i := 52) rfl)) (by decide) (by decide)) q5a q5c (g := (mkF m 18 #[.val (.ref a), .val (.ref mk)] [(.ref mk), (.ref a)])) rfl (by rw [hml]; rfl) (Steps.refl _) (argsL := []) (rest := [(.ref a)]) (lenOf pd_6 rfl) rfl (by show 2 * 0 + _ ≤ _; exact Nat.le_of_eq rfl) (hb hby d10_18) (fun _ _ => ⟨rfl, e4, (by decide : 0 + 0 ≤ _), (by decide : 0 + 0 ≤ _)⟩)
  dsimp only [Pt.U, Pt.locs, Pt.cells, Pt.slots] at X5 l5 y5 z5 st5 hQ5
  subst l5 y5 z5
  obtain ⟨rfl, N5q, e5⟩ := hQ5
  have N5 := Fr.app N4 N5q
  refine OEnds.tr (g' := (mkF m 21 #[.val (.ref a), .val (.ref mk)] [(.int x2_), (.ref a)])) st5 ?_
  obtain ⟨T6, h6, X6, e6, W6, st6⟩ := putF X5 hx hZ hown (host := "") (Or.inl (hw _ (List.mem_of_getElem? (i := 42) rfl))) Via.refl e5 ((F_column.other W2 (Or.inr (slot_ne (Or.inl (hw _ (List.mem_of_getElem? (i := 43) rfl))) (Or.inl (hw _ (List.mem_of_getElem? (i := 79) rfl))) (by decide) (t := .int) (t' := .int) (by decide) (by decide)))).other W4 (Or.inr (slot_ne (Or.inl (hw _ (List.mem_of_getElem? (i := 43) rfl))) (Or.inl (hw _ (List.mem_of_getElem? (i := 41) rfl))) (by decide) (t := .int) (t' := .int) (by decide) (by decide)))) ((E0.wr W2).wr W4) (Or.inl (hw _ (List.mem_of_getElem? (i := 43) rfl))) (hw _ (List.mem_of_getElem? (i := 2) rfl)) (ty := .int) (by decide) rfl rfl (g := (mkF m 21 #[.val (.ref a), .val (.ref mk)] [(.int x2_), (.ref a)])) rfl rfl (hb hby d10_21)
  have N6 := Fr.snoc X6 N5 g_a
  have K6 : Keep h0 h6 [a] := K4.wr W6 (Or.inl (by simp))
  have Fw6 := ((F_column.other W2 (Or.inr (slot_ne (Or.inl (hw _ (List.mem_of_getElem? (i := 43) rfl))) (Or.inl (hw _ (List.mem_of_getElem? (i := 79) rfl))) (by decide) (t := .int) (t' := .int) (by decide) (by decide)))).other W4 (Or.inr (slot_ne (Or.inl (hw _ (List.mem_of_getElem? (i := 43) rfl))) (Or.inl (hw _ (List.mem_of_getElem? (i := 41) rfl))) (by decide) (t := .int) (t' := .int) (by decide) (by decide)))).same W6
  refine OEnds.go (g' := (mkF m 24 #[.val (.ref a), .val (.ref mk)] [])) st6 ?_
  exact OEnds.outV X6 Bd.notSynchronized hx Bd.returns (hb hby d10_24) (by rw [e6]; exact ⟨rfl, N6, K6, (((E0.wr W2).wr W4).wr W6), ((Fw2.other W4 (Or.inr (slot_ne (Or.inl (hw _ (List.mem_of_getElem? (i := 79) rfl))) (Or.inl (hw _ (List.mem_of_getElem? (i := 41) rfl))) (by decide) (t := .int) (t' := .int) (by decide) (by decide)))).other W6 (Or.inr (slot_ne (Or.inl (hw _ (List.mem_of_getElem? (i := 79) rfl))) (Or.inl (hw _ (List.mem_of_getElem? (i := 43) rfl))) (by decide) (t := .int) (t' := .int) (by decide) (by decide)))), (Fw4.other W6 (Or.inr (slot_ne (Or.inl (hw _ (List.mem_of_getElem? (i := 41) rfl))) (Or.inl (hw _ (List.mem_of_getElem? (i := 43) rfl))) (by decide) (t := .int) (t' := .int) (by decide) (by decide)))), Fw6, (((F_text.other W2 (Or.inr (slot_ne (Or.inr (hw _ (List.mem_of_getElem? (i := 49) rfl))) (Or.inl (hw _ (List.mem_of_getElem? (i := 79) rfl))) (by decide) (t := (.object "java/lang/String")) (t' := .int) (by decide) (by decide)))).other W4 (Or.inr (slot_ne (Or.inr (hw _ (List.mem_of_getElem? (i := 49) rfl))) (Or.inl (hw _ (List.mem_of_getElem? (i := 41) rfl))) (by decide) (t := (.object "java/lang/String")) (t' := .int) (by decide) (by decide)))).other W6 (Or.inr (slot_ne (Or.inr (hw _ (List.mem_of_getElem? (i := 49) rfl))) (Or.inl (hw _ (List.mem_of_getElem? (i := 43) rfl))) (by decide) (t := (.object "java/lang/String")) (t' := .int) (by decide) (by decide))))⟩) (by decide) (by decide)
theorem ef_rm14 (m : MethodId) (x0 : Addr) : entryFrame m #[(.ref x0)] 1 = mkF m 0 #[.val (.ref x0)] [] := by first | (simp [entryFrame, mkF, argsToLocals, Value.category]; done) | rfl
def Q_rm14 (Z : State) (a : Addr) (y0_ : Int32) (y1_ : Int32) (y2_ : Int32) (h0 : Heap) (n0 : Nat) (v : Option Value) (h : Heap) (L : List Loc) : Prop := ∃ b : Addr, v = some (.ref b) ∧ Fr n0 L ∧ Keep h0 h [] ∧ n0 ≤ b ∧ h0.size ≤ b ∧ Exa Z h b "com/example/shapewright/shapewright/reader/IdlScanner$Mark" ∧ Fld Z h b "com/example/shapewright/shapewright/reader/IdlScanner$Mark" "position" "I" (.int y0_) ∧ Fld Z h b "com/example/shapewright/shapewright/reader/IdlScanner$Mark" "line" "I" (.int y1_) ∧ Fld Z h b "com/example/shapewright/shapewright/reader/IdlScanner$Mark" "column" "I" (.int y2_)
set_option maxRecDepth 65536 in
set_option maxHeartbeats 40000000 in
theorem rm14 (l : Launch) (Z : State) (a0 : Array Value) (hw : ∀ d ∈ tables_1, d.before a0 Z = true) (ws : List Jvm.Cond) (a : Addr) (y0_ : Int32) (y1_ : Int32) (y2_ : Int32) (h0 : Heap) (n0 : Nat) (Z0 : n0 ≤ h0.size) (F_position : Fld Z h0 a "com/example/shapewright/shapewright/reader/IdlScanner" "position" "I" (.int y0_)) (F_line : Fld Z h0 a "com/example/shapewright/shapewright/reader/IdlScanner" "line" "I" (.int y1_)) (F_column : Fld Z h0 a "com/example/shapewright/shapewright/reader/IdlScanner" "column" "I" (.int y2_)) :
    MetFree l (⟨"com/example/shapewright/shapewright/reader/IdlScanner", "mark", "()Lcom/example/shapewright/shapewright/reader/IdlScanner$Mark;"⟩ : MethodName) (head1 (Jvm.Cond.code (⟨"com/example/shapewright/shapewright/reader/IdlScanner", "mark", "()Lcom/example/shapewright/shapewright/reader/IdlScanner$Mark;"⟩ : MethodName) prog_20_method_7_code 1 (some (.object "com/example/shapewright/shapewright/reader/IdlScanner$Mark")) :: ws) ({ frames := 3, cells := 1, slots := 3, locals := 44 } : Room)) (fun aa_ U => aa_ = #[(.ref a)] ∧ Z.Warmed39 U.vm ∧ U.heap = h0) (fun _ _ _ _ _ => True) (fun _ U o U' => ∃ v L, o = .returned v ∧ Q_rm14 Z a y0_ y1_ y2_ h0 n0 v U'.heap L ∧ FrameEnd U o U' L ({ frames := 3, cells := 1, slots := 3, locals := 44 } : Room).cells ({ frames := 3, cells := 1, slots := 3, locals := 44 } : Room).slots) := by
  refine MetFree.of_bodySF (plainFor_of_name pn_4) hisR ?_
  intro p e s m args below meth c s₁ Bd hml0 hP hK
  obtain ⟨rfl, hZ, hh⟩ := hP
  have hx := Bd.exec
  have hby := Bd.bytes
  have hml : c.maxLocals = 1 := hml0
  have hown : s.vm.findClass "com/example/shapewright/shapewright/reader/IdlScanner" = some m.cls := findClass_of_methodNamed Bd.named
  have hnm := (name_of_methodNamed Bd.named Bd.method).1
  have X0 : Stand p l e ({ frames := 3, cells := 1, slots := 3, locals := 44 } : Room) s m #[(.ref a)] below meth c s₁ [] 0 0 := Stand.of_body Bd
  have e0 : s₁.heap = h0 := by rw [← hh, Bd.state]; rfl
  have N0 := Fr.nil n0
  show OEnds p e below (OEndP s (Q_rm14 Z a y0_ y1_ y2_ h0 n0) ({ frames := 3, cells := 1, slots := 3, locals := 44 } : Room).cells ({ frames := 3, cells := 1, slots := 3, locals := 44 } : Room).slots) s₁ (entryFrame m #[(.ref a)] 1)
  rw [ef_rm14 m a]
  obtain ⟨T1, h1, X1, e1, E1, A1, D1, -, st1⟩ := newO X0 hx hZ hown (hw _ (List.mem_of_getElem? (i := 95) rfl)) (hw _ (List.mem_of_getElem? (i := 51) rfl)) (hw _ (List.mem_of_getElem? (i := 52) rfl)) e0 (g := (mkF m 0 #[.val (.ref a)] [])) rfl (hb hby d14_0) (by decide) (by decide)
  obtain ⟨b1, g1⟩ : ∃ z, z = h0.size := ⟨_, rfl⟩
  rw [← g1] at A1 D1 st1
  have g_b1 : n0 ≤ b1 := Nat.le_trans Z0 (Nat.le_of_eq g1.symm)
  have sz_b1 : h0.size ≤ b1 := Nat.le_trans (Keep.refl h0 []).1 (Nat.le_of_eq g1.symm)
  have K1 : Keep h0 h1 [] := (Keep.refl h0 []).ext E1
  have F_position_b1 : Fld Z h1 b1 "com/example/shapewright/shapewright/reader/IdlScanner$Mark" "position" "I" (.int (0 : Int32)) := D1 (Or.inr (hw _ (List.mem_of_getElem? (i := 63) rfl))) (ty := .int) (by decide)
  have F_line_b1 : Fld Z h1 b1 "com/example/shapewright/shapewright/reader/IdlScanner$Mark" "line" "I" (.int (0 : Int32)) := D1 (Or.inr (hw _ (List.mem_of_getElem? (i := 65) rfl))) (ty := .int) (by decide)
  have F_column_b1 : Fld Z h1 b1 "com/example/shapewright/shapewright/reader/IdlScanner$Mark" "column" "I" (.int (0 : Int32)) := D1 (Or.inr (hw _ (List.mem_of_getElem? (i := 67) rfl))) (ty := .int) (by decide)
  refine OEnds.go (g' := (mkF m 3 #[.val (.ref a)] [(.ref b1)])) st1 ?_
  refine OEnds.go (g' := (mkF m 4 #[.val (.ref a)] [(.ref b1), (.ref b1)])) (fun t k => XS.dup X1.here hx rfl (hb hby d14_3) rfl rfl k) ?_
  refine OEnds.go (g' := (mkF m 5 #[.val (.ref a)] [(.ref a), (.ref b1), (.ref b1)])) (fun t k => XS.aloadN X1.here hx rfl (hb hby d14_4) rfl rfl k) ?_
  obtain ⟨T2, X2, e2, st2⟩ := getF X1 hx hZ hown (host := "") (Or.inl (hw _ (List.mem_of_getElem? (i := 78) rfl))) Via.refl e1 (F_position.ext E1) (g := (mkF m 5 #[.val (.ref a)] [(.ref a), (.ref b1), (.ref b1)])) rfl rfl (hb hby d14_5)
  refine OEnds.go (g' := (mkF m 8 #[.val (.ref a)] [(.int y0_), (.ref b1), (.ref b1)])) st2 ?_
  refine OEnds.go (g' := (mkF m 9 #[.val (.ref a)] [(.ref a), (.int y0_), (.ref b1), (.ref b1)])) (fun t k => XS.aloadN X2.here hx rfl (hb hby d14_8) rfl rfl k) ?_
  obtain ⟨T3, X3, e3, st3⟩ := getF X2 hx hZ hown (host := "") (Or.inl (hw _ (List.mem_of_getElem? (i := 40) rfl))) Via.refl e2 (F_line.ext E1) (g := (mkF m 9 #[.val (.ref a)] [(.ref a), (.int y0_), (.ref b1), (.ref b1)])) rfl rfl (hb hby d14_9)
  refine OEnds.go (g' := (mkF m 12 #[.val (.ref a)] [(.int y1_), (.int y0_), (.ref b1), (.ref b1)])) st3 ?_
  refine OEnds.go (g' := (mkF m 13 #[.val (.ref a)] [(.ref a), (.int y1_), (.int y0_), (.ref b1), (.ref b1)])) (fun t k => XS.aloadN X3.here hx rfl (hb hby d14_12) rfl rfl k) ?_
  obtain ⟨T4, X4, e4, st4⟩ := getF X3 hx hZ hown (host := "") (Or.inl (hw _ (List.mem_of_getElem? (i := 42) rfl))) Via.refl e3 (F_column.ext E1) (g := (mkF m 13 #[.val (.ref a)] [(.ref a), (.int y1_), (.int y0_), (.ref b1), (.ref b1)])) rfl rfl (hb hby d14_13)
  refine OEnds.go (g' := (mkF m 16 #[.val (.ref a)] [(.int y2_), (.int y1_), (.int y0_), (.ref b1), (.ref b1)])) st4 ?_
  obtain ⟨_, _, ⟨T5, L5, k5, n5⟩, -, X5, ⟨Lc5, hQ5, l5, y5, z5⟩, st5⟩ := X4.specialBack hx (y := (⟨"com/example/shapewright/shapewright/reader/IdlScanner$Mark", "<init>", "(III)V"⟩ : MethodName)) rfl hown (mvT hZ (hw _ (List.mem_of_getElem? (i := 96) rfl))) (mvT hZ (hw _ (List.mem_of_getElem? (i := 54) rfl))) (mvT hZ (hw _ (List.mem_of_getElem? (i := 55) rfl))) (by decide) (backOf (W := 1) (rm8 l Z a0 hw [] b1 y0_ y1_ y2_ h1 n0 (Nat.le_trans Z0 E1.1) A1 F_position_b1 F_line_b1 F_column_b1 g_b1) hZ (hw _ (List.mem_of_getElem? (i := 55) rfl)) (hw _ (List.mem_of_getElem? (i := 52) rfl)) (by decide) (by decide)) (g := (mkF m 16 #[.val (.ref a)] [(.int y2_), (.int y1_), (.int y0_), (.ref b1), (.ref b1)])) rfl (by rw [hml]; rfl) (Steps.refl _) (a := b1) (argsL := [(.int y0_), (.int y1_), (.int y2_)]) (rest := [(.ref b1)]) (lenOf pd_7 rfl) rfl (by show 2 * 0 + _ ≤ _; exact Nat.le_of_eq rfl) (hb hby d14_16) (fun _ _ => ⟨rfl, e4, (by decide : 1 + 0 ≤ _), (by decide : 3 + 0 ≤ _)⟩)
  dsimp only [Pt.U, Pt.locs, Pt.cells, Pt.slots] at X5 l5 y5 z5 st5 hQ5
  subst l5 y5 z5
  obtain ⟨rfl, N5q, K5q, E5q, Fposition_5q, Fline_5q, Fcolumn_5q⟩ := hQ5
  have N5 := Fr.app N0 N5q
  have K5 : Keep h0 T5.heap [] := K1.trans K5q (allS (Or.inr sz_b1) all0)
  refine OEnds.tr (g' := (mkF m 19 #[.val (.ref a)] [(.ref b1)])) st5 ?_
  exact OEnds.outA X5 Bd.notSynchronized hx Bd.returns rfl rfl (hb hby d14_19) ⟨b1, rfl, N5, K5, g_b1, sz_b1, E5q, Fposition_5q, Fline_5q, Fcolumn_5q⟩ (by decide) (by decide)
theorem ef_rm15 (m : MethodId) (x0 : Addr) : entryFrame m #[(.ref x0)] 1 = mkF m 0 #[.val (.ref x0)] [] := by first | (simp [entryFrame, mkF, argsToLocals, Value.category]; done) | rfl
def f15 (y0_ : Int32) : Int32 := if y0_ < (3 : Int32) then (0 : Int32) else (1 : Int32)
def Q_rm15 (Z : State) (a : Addr) (y0_ : Int32) (sx : Addr) (bb : Addr) (kb : ClassId) (c0 : Int32) (c1 : Int32) (c2 : Int32) (csv : Int32) (h0 : Heap) (n0 : Nat) (v : Option Value) (h : Heap) (L : List Loc) : Prop := v = some (.int (f15 y0_)) ∧ Fr n0 L ∧ h = h0
set_option maxRecDepth 65536 in
set_option maxHeartbeats 40000000 in
theorem rm15 (l : Launch) (Z : State) (a0 : Array Value) (hw : ∀ d ∈ tables_1, d.before a0 Z = true) (ws : List Jvm.Cond) (a : Addr) (y0_ : Int32) (sx : Addr) (bb : Addr) (kb : ClassId) (c0 : Int32) (c1 : Int32) (c2 : Int32) (csv : Int32) (h0 : Heap) (n0 : Nat) (Z0 : n0 ≤ h0.size) (F_position : Fld Z h0 a "com/example/shapewright/shapewright/reader/IdlScanner" "position" "I" (.int y0_)) (F_text : Fld Z h0 a "com/example/shapewright/shapewright/reader/IdlScanner" "text" "Ljava/lang/String;" (.ref sx)) (E_sx : Exa Z h0 sx "java/lang/String") (Fc_sx : Fld Z h0 sx "java/lang/String" "coder" "B" (.int (0 : Int32))) (Fv_sx : Fld Z h0 sx "java/lang/String" "value" "[B" (.ref bb)) (V_sx : Arv Z h0 bb kb .byte (3 : Int32) [(.int (own_by c0)), (.int (own_by c1)), (.int (own_by c2))] (.int (0 : Int32))) (SC : Sta Z h0 "java/lang/String" "COMPACT_STRINGS" "Z" (.int csv)) (hcs : ¬ csv = (0 : Int32)) :
    MetFree l (⟨"com/example/shapewright/shapewright/reader/IdlScanner", "atEnd", "()Z"⟩ : MethodName) (head1 (Jvm.Cond.code (⟨"com/example/shapewright/shapewright/reader/IdlScanner", "atEnd", "()Z"⟩ : MethodName) prog_20_method_2_code 1 (some .boolean) :: ws) ({ frames := 2, cells := 0, slots := 0, locals := 40 } : Room)) (fun aa_ U => aa_ = #[(.ref a)] ∧ Z.Warmed39 U.vm ∧ U.heap = h0) (fun _ _ _ _ _ => True) (fun _ U o U' => ∃ v L, o = .returned v ∧ Q_rm15 Z a y0_ sx bb kb c0 c1 c2 csv h0 n0 v U'.heap L ∧ FrameEnd U o U' L ({ frames := 2, cells := 0, slots := 0, locals := 40 } : Room).cells ({ frames := 2, cells := 0, slots := 0, locals := 40 } : Room).slots) := by
  refine MetFree.of_bodySF (plainFor_of_name pn_4) hisR ?_
  intro p e s m args below meth c s₁ Bd hml0 hP hK
  obtain ⟨rfl, hZ, hh⟩ := hP
  have hx := Bd.exec
  have hby := Bd.bytes
  have hml : c.maxLocals = 1 := hml0
  have hown : s.vm.findClass "com/example/shapewright/shapewright/reader/IdlScanner" = some m.cls := findClass_of_methodNamed Bd.named
  have hnm := (name_of_methodNamed Bd.named Bd.method).1
  have X0 : Stand p l e ({ frames := 2, cells := 0, slots := 0, locals := 40 } : Room) s m #[(.ref a)] below meth c s₁ [] 0 0 := Stand.of_body Bd
  have e0 : s₁.heap = h0 := by rw [← hh, Bd.state]; rfl
  have N0 := Fr.nil n0
  show OEnds p e below (OEndP s (Q_rm15 Z a y0_ sx bb kb c0 c1 c2 csv h0 n0) ({ frames := 2, cells := 0, slots := 0, locals := 40 } : Room).cells ({ frames := 2, cells := 0, slots := 0, locals := 40 } : Room).slots) s₁ (entryFrame m #[(.ref a)] 1)
  rw [ef_rm15 m a]
  refine OEnds.go (g' := (mkF m 1 #[.val (.ref a)] [(.ref a)])) (fun t k => XS.aloadN X0.here hx rfl (hb hby d15_0) rfl rfl k) ?_
  obtain ⟨T1, X1, e1, st1⟩ := getF X0 hx hZ hown (host := "") (Or.inl (hw _ (List.mem_of_getElem? (i := 78) rfl))) Via.refl e0 F_position (g := (mkF m 1 #[.val (.ref a)] [(.ref a)])) rfl rfl (hb hby d15_1)
  refine OEnds.go (g' := (mkF m 4 #[.val (.ref a)] [(.int y0_)])) st1 ?_
  refine OEnds.go (g' := (mkF m 5 #[.val (.ref a)] [(.ref a), (.int y0_)])) (fun t k => XS.aloadN X1.here hx rfl (hb hby d15_4) rfl rfl k) ?_
  obtain ⟨T2, X2, e2, st2⟩ := getF X1 hx hZ hown (host := "") (Or.inl (hw _ (List.mem_of_getElem? (i := 48) rfl))) Via.refl e1 F_text (g := (mkF m 5 #[.val (.ref a)] [(.ref a), (.int y0_)])) rfl rfl (hb hby d15_5)
  refine OEnds.go (g' := (mkF m 8 #[.val (.ref a)] [(.ref sx), (.int y0_)])) st2 ?_
  obtain ⟨cq3, kq3, q3a, q3b, q3c⟩ := isOf hZ e2 E_sx
  obtain ⟨_, _, ⟨T3, L3, k3, n3⟩, -, X3, ⟨Lc3, hQ3, l3, y3, z3⟩, st3⟩ := X2.virtualBack hx (y := (⟨"java/lang/String", "length", "()I"⟩ : MethodName)) (z := (⟨"java/lang/String", "length", "()I"⟩ : MethodName)) hown (mvT hZ (hw _ (List.mem_of_getElem? (i := 105) rfl))) (mvT hZ (hw _ (List.mem_of_getElem? (i := 106) rfl))) (notFace_of_selects (args := #[]) (mvT hZ (hw _ (List.mem_of_getElem? (i := 108) rfl)))) (mvT hZ (hw _ (List.mem_of_getElem? (i := 108) rfl))) (mvT hZ (hw _ (List.mem_of_getElem? (i := 107) rfl))) (by decide) (backOf (W := 1) (rm_length_16_3 l Z a0 hw [] sx  bb kb c0 c1 c2 csv h0 n0 Z0 E_sx Fc_sx Fv_sx V_sx SC hcs) hZ (hw _ (List.mem_of_getElem? (i := 109) rfl)) (hw _ (List.mem_of_getElem? (i := 5) rfl)) (by decide) (by decide)) q3a q3c (g := (mkF m 8 #[.val (.ref a)] [(.ref sx), (.int y0_)])) rfl (by rw [hml]; rfl) (Steps.refl _) (argsL := []) (rest := [(.int y0_)]) (lenOf pd_6 rfl) rfl (by show 2 * 0 + _ ≤ _; exact Nat.le_of_eq rfl) (hb hby d15_8) (fun _ _ => ⟨rfl, e2, (by decide : 0 + 0 ≤ _), (by decide : 0 + 0 ≤ _)⟩)
  dsimp only [Pt.U, Pt.locs, Pt.cells, Pt.slots] at X3 l3 y3 z3 st3 hQ3
  subst l3 y3 z3
  obtain ⟨rfl, N3q, e3⟩ := hQ3
  have N3 := Fr.app N0 N3q
  refine OEnds.tr (g' := (mkF m 11 #[.val (.ref a)] [(.int (3 : Int32)), (.int y0_)])) st3 ?_
  by_cases c11_4 : y0_ < (3 : Int32)
  · -- yes
    refine OEnds.go (g' := (mkF m 18 #[.val (.ref a)] [])) (fun t k => XS.icmpYes X3.here hx rfl (pc0 := 11) (pc' := 18) rfl (hb hby d15_11) rfl (tlt c11_4).1 (by decide) (by decide) k) ?_
    refine OEnds.go (g' := (mkF m 19 #[.val (.ref a)] [(.int (0 : Int32))])) (fun t k => XS.iconst X3.here hx rfl (hb hby d15_18) k) ?_
    exact OEnds.outN X3 Bd.notSynchronized hx (t := .boolean) Bd.returns (by simp) (hb hby d15_19) ⟨by show (some (.int (0 : Int32)) : Option Value) = some (.int (f15 y0_)); rw [f15, if_pos c11_4], N3, e3⟩ (by decide) (by decide)
  · -- no
    refine OEnds.go (g' := (mkF m 14 #[.val (.ref a)] [])) (fun t k => XS.icmpNo X3.here hx rfl (hb hby d15_11) rfl (flt c11_4).1 k) ?_
    refine OEnds.go (g' := (mkF m 15 #[.val (.ref a)] [(.int (1 : Int32))])) (fun t k => XS.iconst X3.here hx rfl (hb hby d15_14) k) ?_
    refine OEnds.go (g' := (mkF m 19 #[.val (.ref a)] [(.int (1 : Int32))])) (fun t k => XS.goto X3.here hx rfl (pc0 := 15) (pc' := 19) rfl (hb hby d15_15) (by decide) (by decide) k) ?_
    exact OEnds.outN X3 Bd.notSynchronized hx (t := .boolean) Bd.returns (by simp) (hb hby d15_19) ⟨by show (some (.int (1 : Int32)) : Option Value) = some (.int (f15 y0_)); rw [f15, if_neg c11_4], N3, e3⟩ (by decide) (by decide)
theorem own_back {c : Int32} (h : 0 ≤ c.toInt ∧ c.toInt ≤ 255) : nar .char (((own_by c) &&& (255 : Int32)).toUInt32.toUInt16.toUInt32.toInt32) = c := by
  have h1 := c_i2b c
  have h2 := c_i2b c.toInt8.toInt32
  have h3 := c_mask (own_by c) 255 8 (by decide) (by decide)
  have h4 : (own_by c).toInt = (c.toInt8.toInt32).toInt8.toInt32.toInt := rfl
  have e : (own_by c) &&& (255 : Int32) = c := Int32.toInt_inj.mp (by omega)
  rw [e, own_cc h]
  exact own_cc h
theorem ef_rmPI0 (m : MethodId) (x0 : Int32) (x1 : Int32) (x2 : Value) (hv2 : x2.isRef = true) : entryFrame m #[(.int x0), (.int x1), x2] 3 = mkF m 0 #[.val (.int x0), .val (.int x1), .val x2] [] := by
  rcases ref_cases hv2 with rfl | ⟨_, rfl⟩ <;> first | (simp [entryFrame, mkF, argsToLocals, Value.category]; done) | rfl
def Q_rmPI0 (Z : State) (fm : Value) (h0 : Heap) (n0 : Nat) (v : Option Value) (h : Heap) (L : List Loc) : Prop := v = some (.int (0 : Int32)) ∧ Fr n0 L ∧ h = h0
set_option maxRecDepth 65536 in
set_option maxHeartbeats 40000000 in
theorem rmPI0 (l : Launch) (Z : State) (a0 : Array Value) (hw : ∀ d ∈ tables_1, d.before a0 Z = true) (ws : List Jvm.Cond) (fm : Value) (h0 : Heap) (n0 : Nat) (Z0 : n0 ≤ h0.size) (hr_fm : fm.isRef = true) :
    MetFree l (⟨"jdk/internal/util/Preconditions", "checkIndex", "(IILjava/util/function/BiFunction;)I"⟩ : MethodName) (head1 (Jvm.Cond.code (⟨"jdk/internal/util/Preconditions", "checkIndex", "(IILjava/util/function/BiFunction;)I"⟩ : MethodName) jdk_41_method_11_code 3 (some .int) :: ws) ({ frames := 0, cells := 0, slots := 0, locals := 0 } : Room)) (fun aa_ U => aa_ = #[(.int (0 : Int32)), (.int (3 : Int32)), fm] ∧ Z.Warmed39 U.vm ∧ U.heap = h0) (fun _ _ _ _ _ => True) (fun _ U o U' => ∃ v L, o = .returned v ∧ Q_rmPI0 Z fm h0 n0 v U'.heap L ∧ FrameEnd U o U' L ({ frames := 0, cells := 0, slots := 0, locals := 0 } : Room).cells ({ frames := 0, cells := 0, slots := 0, locals := 0 } : Room).slots) := by
  refine MetFree.of_bodySF (plainFor_of_name pn_5) hisR ?_
  intro p e s m args below meth c s₁ Bd hml0 hP hK
  obtain ⟨rfl, hZ, hh⟩ := hP
  have hx := Bd.exec
  have hby := Bd.bytes
  have hml : c.maxLocals = 3 := hml0
  have hown : s.vm.findClass "jdk/internal/util/Preconditions" = some m.cls := findClass_of_methodNamed Bd.named
  have hnm := (name_of_methodNamed Bd.named Bd.method).1
  have X0 : Stand p l e ({ frames := 0, cells := 0, slots := 0, locals := 0 } : Room) s m #[(.int (0 : Int32)), (.int (3 : Int32)), fm] below meth c s₁ [] 0 0 := Stand.of_body Bd
  have e0 : s₁.heap = h0 := by rw [← hh, Bd.state]; rfl
  have N0 := Fr.nil n0
  show OEnds p e below (OEndP s (Q_rmPI0 Z fm h0 n0) ({ frames := 0, cells := 0, slots := 0, locals := 0 } : Room).cells ({ frames := 0, cells := 0, slots := 0, locals := 0 } : Room).slots) s₁ (entryFrame m #[(.int (0 : Int32)), (.int (3 : Int32)), fm] 3)
  rw [ef_rmPI0 m (0 : Int32) (3 : Int32) fm hr_fm]
  refine OEnds.go (g' := (mkF m 1 #[.val (.int (0 : Int32)), .val (.int (3 : Int32)), .val fm] [(.int (0 : Int32))])) (fun t k => XS.iloadN X0.here hx rfl (hb hby d23_0) rfl k) ?_
  refine OEnds.go (g' := (mkF m 4 #[.val (.int (0 : Int32)), .val (.int (3 : Int32)), .val fm] [])) (fun t k => XS.ifNo X0.here hx rfl (hb hby d23_1) rfl ((if0 _ _).trans (flt (by decide : ¬ ((0 : Int32) < (0 : Int32)))).1) k) ?_
  refine OEnds.go (g' := (mkF m 5 #[.val (.int (0 : Int32)), .val (.int (3 : Int32)), .val fm] [(.int (0 : Int32))])) (fun t k => XS.iloadN X0.here hx rfl (hb hby d23_4) rfl k) ?_
  refine OEnds.go (g' := (mkF m 6 #[.val (.int (0 : Int32)), .val (.int (3 : Int32)), .val fm] [(.int (3 : Int32)), (.int (0 : Int32))])) (fun t k => XS.iloadN X0.here hx rfl (hb hby d23_5) rfl k) ?_
  refine OEnds.go (g' := (mkF m 16 #[.val (.int (0 : Int32)), .val (.int (3 : Int32)), .val fm] [])) (fun t k => XS.icmpYes X0.here hx rfl (pc0 := 6) (pc' := 16) rfl (hb hby d23_6) rfl (tlt (by decide : ((0 : Int32) < (3 : Int32)))).1 (by decide) (by decide) k) ?_
  refine OEnds.go (g' := (mkF m 17 #[.val (.int (0 : Int32)), .val (.int (3 : Int32)), .val fm] [(.int (0 : Int32))])) (fun t k => XS.iloadN X0.here hx rfl (hb hby d23_16) rfl k) ?_
  exact OEnds.outI X0 Bd.notSynchronized hx Bd.returns (hb hby d23_17) ⟨rfl, N0, e0⟩ (by decide) (by decide)
theorem ef_rmCI0 (m : MethodId) (x0 : Int32) (x1 : Int32) : entryFrame m #[(.int x0), (.int x1)] 2 = mkF m 0 #[.val (.int x0), .val (.int x1)] [] := by first | (simp [entryFrame, mkF, argsToLocals, Value.category]; done) | rfl
def Q_rmCI0 (Z : State) (fm : Value) (h0 : Heap) (n0 : Nat) (v : Option Value) (h : Heap) (L : List Loc) : Prop := v = none ∧ Fr n0 L ∧ h = h0
set_option maxRecDepth 65536 in
set_option maxHeartbeats 40000000 in
theorem rmCI0 (l : Launch) (Z : State) (a0 : Array Value) (hw : ∀ d ∈ tables_1, d.before a0 Z = true) (ws : List Jvm.Cond) (fm : Value) (h0 : Heap) (n0 : Nat) (Z0 : n0 ≤ h0.size) (SF : Sta Z h0 "jdk/internal/util/Preconditions" "SIOOBE_FORMATTER" "Ljava/util/function/BiFunction;" fm) (hfm : fm.isRef = true) :
    MetFree l (⟨"java/lang/String", "checkIndex", "(II)V"⟩ : MethodName) (head1 (Jvm.Cond.code (⟨"java/lang/String", "checkIndex", "(II)V"⟩ : MethodName) jdk_42_method_155_code 2 none :: ws) ({ frames := 1, cells := 0, slots := 0, locals := 20 } : Room)) (fun aa_ U => aa_ = #[(.int (0 : Int32)), (.int (3 : Int32))] ∧ Z.Warmed39 U.vm ∧ U.heap = h0) (fun _ _ _ _ _ => True) (fun _ U o U' => ∃ v L, o = .returned v ∧ Q_rmCI0 Z fm h0 n0 v U'.heap L ∧ FrameEnd U o U' L ({ frames := 1, cells := 0, slots := 0, locals := 20 } : Room).cells ({ frames := 1, cells := 0, slots := 0, locals := 20 } : Room).slots) := by
  refine MetFree.of_bodySF (plainFor_of_name pn_1) hisR ?_
  intro p e s m args below meth c s₁ Bd hml0 hP hK
  obtain ⟨rfl, hZ, hh⟩ := hP
  have hx := Bd.exec
  have hby := Bd.bytes
  have hml : c.maxLocals = 2 := hml0
  have hown : s.vm.findClass "java/lang/String" = some m.cls := findClass_of_methodNamed Bd.named
  have hnm := (name_of_methodNamed Bd.named Bd.method).1
  have X0 : Stand p l e ({ frames := 1, cells := 0, slots := 0, locals := 20 } : Room) s m #[(.int (0 : Int32)), (.int (3 : Int32))] below meth c s₁ [] 0 0 := Stand.of_body Bd
  have e0 : s₁.heap = h0 := by rw [← hh, Bd.state]; rfl
  have N0 := Fr.nil n0
  show OEnds p e below (OEndP s (Q_rmCI0 Z fm h0 n0) ({ frames := 1, cells := 0, slots := 0, locals := 20 } : Room).cells ({ frames := 1, cells := 0, slots := 0, locals := 20 } : Room).slots) s₁ (entryFrame m #[(.int (0 : Int32)), (.int (3 : Int32))] 2)
  rw [ef_rmCI0 m (0 : Int32) (3 : Int32)]
  refine OEnds.go (g' := (mkF m 1 #[.val (.int (0 : Int32)), .val (.int (3 : Int32))] [(.int (0 : Int32))])) (fun t k => XS.iloadN X0.here hx rfl (hb hby d22_0) rfl k) ?_
  refine OEnds.go (g' := (mkF m 2 #[.val (.int (0 : Int32)), .val (.int (3 : Int32))] [(.int (3 : Int32)), (.int (0 : Int32))])) (fun t k => XS.iloadN X0.here hx rfl (hb hby d22_1) rfl k) ?_
  obtain ⟨T1, X1, e1, st1⟩ := getS2 X0 hx hZ hown (host := "") (Or.inl (hw _ (List.mem_of_getElem? (i := 137) rfl))) Via.refl e0 SF (g := (mkF m 2 #[.val (.int (0 : Int32)), .val (.int (3 : Int32))] [(.int (3 : Int32)), (.int (0 : Int32))])) rfl (hb hby d22_2)
  refine OEnds.go (g' := (mkF m 5 #[.val (.int (0 : Int32)), .val (.int (3 : Int32))] [fm, (.int (3 : Int32)), (.int (0 : Int32))])) st1 ?_
  obtain ⟨_, _, ⟨T2, L2, k2, n2⟩, -, X2, ⟨Lc2, hQ2, l2, y2, z2⟩, st2⟩ := Jvm.LawKit.callS X1 hx (y := (⟨"jdk/internal/util/Preconditions", "checkIndex", "(IILjava/util/function/BiFunction;)I"⟩ : MethodName)) hown (mvT hZ (hw _ (List.mem_of_getElem? (i := 139) rfl))) (mvT hZ (hw _ (List.mem_of_getElem? (i := 140) rfl))) (mvT hZ (hw _ (List.mem_of_getElem? (i := 138) rfl))) (mvT hZ (hw _ (List.mem_of_getElem? (i := 141) rfl))) (by decide) (backOf (W := 0) (rmPI0 l Z a0 hw [] fm h0 n0 Z0 hfm) hZ (hw _ (List.mem_of_getElem? (i := 141) rfl)) (hw _ (List.mem_of_getElem? (i := 138) rfl)) (by decide) (by decide)) (g := (mkF m 5 #[.val (.int (0 : Int32)), .val (.int (3 : Int32))] [fm, (.int (3 : Int32)), (.int (0 : Int32))])) rfl (by rw [hml]; rfl) (argsL := [(.int (0 : Int32)), (.int (3 : Int32)), fm]) (rest := []) (lenOf pd_8 rfl) rfl (by show 2 * 0 + _ ≤ _; exact Nat.le_of_eq rfl) (hb hby d22_5) (fun _ _ => ⟨rfl, e1, (by decide : 0 + 0 ≤ _), (by decide : 0 + 0 ≤ _)⟩)
  dsimp only [Pt.U, Pt.locs, Pt.cells, Pt.slots] at X2 l2 y2 z2 st2 hQ2
  subst l2 y2 z2
  obtain ⟨rfl, N2q, e2⟩ := hQ2
  have N2 := Fr.app N0 N2q
  refine OEnds.go (g' := (mkF m 8 #[.val (.int (0 : Int32)), .val (.int (3 : Int32))] [(.int (0 : Int32))])) st2 ?_
  refine OEnds.go (g' := (mkF m 9 #[.val (.int (0 : Int32)), .val (.int (3 : Int32))] [])) (fun t k => XS.pop X2.here hx rfl (hb hby d22_8) rfl rfl k) ?_
  exact OEnds.outV X2 Bd.notSynchronized hx Bd.returns (hb hby d22_9) ⟨rfl, N2, e2⟩ (by decide) (by decide)
theorem ef_rmLC0 (m : MethodId) (x0 : Addr) (x1 : Int32) : entryFrame m #[(.ref x0), (.int x1)] 2 = mkF m 0 #[.val (.ref x0), .val (.int x1)] [] := by first | (simp [entryFrame, mkF, argsToLocals, Value.category]; done) | rfl
def Q_rmLC0 (Z : State) (bb : Addr) (kb : ClassId) (c0 : Int32) (c1 : Int32) (c2 : Int32) (fm : Value) (h0 : Heap) (n0 : Nat) (v : Option Value) (h : Heap) (L : List Loc) : Prop := v = some (.int c0) ∧ Fr n0 L ∧ h = h0
set_option maxRecDepth 65536 in
set_option maxHeartbeats 40000000 in
theorem rmLC0 (l : Launch) (Z : State) (a0 : Array Value) (hw : ∀ d ∈ tables_1, d.before a0 Z = true) (ws : List Jvm.Cond) (bb : Addr) (kb : ClassId) (c0 : Int32) (c1 : Int32) (c2 : Int32) (fm : Value) (h0 : Heap) (n0 : Nat) (Z0 : n0 ≤ h0.size) (V0 : Arv Z h0 bb kb .byte (3 : Int32) [(.int (own_by c0)), (.int (own_by c1)), (.int (own_by c2))] (.int (0 : Int32))) (SF : Sta Z h0 "jdk/internal/util/Preconditions" "SIOOBE_FORMATTER" "Ljava/util/function/BiFunction;" fm) (hfm : fm.isRef = true) (hc0 : 0 ≤ c0.toInt ∧ c0.toInt ≤ 255) :
    MetFree l (⟨"java/lang/StringLatin1", "charAt", "([BI)C"⟩ : MethodName) (head1 (Jvm.Cond.code (⟨"java/lang/StringLatin1", "charAt", "([BI)C"⟩ : MethodName) jdk_43_method_2_code 2 (some .char) :: ws) ({ frames := 2, cells := 0, slots := 0, locals := 40 } : Room)) (fun aa_ U => aa_ = #[(.ref bb), (.int (0 : Int32))] ∧ Z.Warmed39 U.vm ∧ U.heap = h0) (fun _ _ _ _ _ => True) (fun _ U o U' => ∃ v L, o = .returned v ∧ Q_rmLC0 Z bb kb c0 c1 c2 fm h0 n0 v U'.heap L ∧ FrameEnd U o U' L ({ frames := 2, cells := 0, slots := 0, locals := 40 } : Room).cells ({ frames := 2, cells := 0, slots := 0, locals := 40 } : Room).slots) := by
  refine MetFree.of_bodySF (plainFor_of_name pn_6) hisR ?_
  intro p e s m args below meth c s₁ Bd hml0 hP hK
  obtain ⟨rfl, hZ, hh⟩ := hP
  have hx := Bd.exec
  have hby := Bd.bytes
  have hml : c.maxLocals = 2 := hml0
  have hown : s.vm.findClass "java/lang/StringLatin1" = some m.cls := findClass_of_methodNamed Bd.named
  have hnm := (name_of_methodNamed Bd.named Bd.method).1
  have X0 : Stand p l e ({ frames := 2, cells := 0, slots := 0, locals := 40 } : Room) s m #[(.ref bb), (.int (0 : Int32))] below meth c s₁ [] 0 0 := Stand.of_body Bd
  have e0 : s₁.heap = h0 := by rw [← hh, Bd.state]; rfl
  have N0 := Fr.nil n0
  show OEnds p e below (OEndP s (Q_rmLC0 Z bb kb c0 c1 c2 fm h0 n0) ({ frames := 2, cells := 0, slots := 0, locals := 40 } : Room).cells ({ frames := 2, cells := 0, slots := 0, locals := 40 } : Room).slots) s₁ (entryFrame m #[(.ref bb), (.int (0 : Int32))] 2)
  rw [ef_rmLC0 m bb (0 : Int32)]
  refine OEnds.go (g' := (mkF m 1 #[.val (.ref bb), .val (.int (0 : Int32))] [(.int (0 : Int32))])) (fun t k => XS.iloadN X0.here hx rfl (hb hby d21_0) rfl k) ?_
  refine OEnds.go (g' := (mkF m 2 #[.val (.ref bb), .val (.int (0 : Int32))] [(.ref bb), (.int (0 : Int32))])) (fun t k => XS.aloadN X0.here hx rfl (hb hby d21_1) rfl rfl k) ?_
  obtain ⟨cl1, Ar1, qa1, Sa1, Na1, Ha1, Ga1⟩ := @id _ V0
  refine OEnds.go (g' := (mkF m 3 #[.val (.ref bb), .val (.int (0 : Int32))] [(.int (3 : Int32)), (.int (0 : Int32))])) (fun t k => X0.arraylength hx (by rw [e0]; exact Ar1.1) (State.isArrayOf_alike hZ.alike Ar1.2.1) (g := (mkF m 2 #[.val (.ref bb), .val (.int (0 : Int32))] [(.ref bb), (.int (0 : Int32))])) rfl rfl (hb hby d21_2) t (by rw [len_of Sa1 Na1]; exact k)) ?_
  obtain ⟨_, _, ⟨T2, L2, k2, n2⟩, -, X2, ⟨Lc2, hQ2, l2, y2, z2⟩, st2⟩ := Jvm.LawKit.callS X0 hx (y := (⟨"java/lang/String", "checkIndex", "(II)V"⟩ : MethodName)) hown (mvT hZ (hw _ (List.mem_of_getElem? (i := 134) rfl))) (mvT hZ (hw _ (List.mem_of_getElem? (i := 135) rfl))) (mvT hZ (hw _ (List.mem_of_getElem? (i := 5) rfl))) (mvT hZ (hw _ (List.mem_of_getElem? (i := 136) rfl))) (by decide) (backOf (W := 0) (rmCI0 l Z a0 hw [] fm h0 n0 Z0 SF hfm) hZ (hw _ (List.mem_of_getElem? (i := 136) rfl)) (hw _ (List.mem_of_getElem? (i := 5) rfl)) (by decide) (by decide)) (g := (mkF m 3 #[.val (.ref bb), .val (.int (0 : Int32))] [(.int (3 : Int32)), (.int (0 : Int32))])) rfl (by rw [hml]; rfl) (argsL := [(.int (0 : Int32)), (.int (3 : Int32))]) (rest := []) (lenOf pd_9 rfl) rfl (by show 2 * 0 + _ ≤ _; exact Nat.le_of_eq rfl) (hb hby d21_3) (fun _ _ => ⟨rfl, e0, (by decide : 0 + 0 ≤ _), (by decide : 0 + 0 ≤ _)⟩)
  dsimp only [Pt.U, Pt.locs, Pt.cells, Pt.slots] at X2 l2 y2 z2 st2 hQ2
  subst l2 y2 z2
  obtain ⟨rfl, N2q, e2⟩ := hQ2
  have N2 := Fr.app N0 N2q
  refine OEnds.go (g' := (mkF m 6 #[.val (.ref bb), .val (.int (0 : Int32))] [])) st2 ?_
  refine OEnds.go (g' := (mkF m 7 #[.val (.ref bb), .val (.int (0 : Int32))] [(.ref bb)])) (fun t k => XS.aloadN X2.here hx rfl (hb hby d21_6) rfl rfl k) ?_
  refine OEnds.go (g' := (mkF m 8 #[.val (.ref bb), .val (.int (0 : Int32))] [(.int (0 : Int32)), (.ref bb)])) (fun t k => XS.iloadN X2.here hx rfl (hb hby d21_7) rfl k) ?_
  obtain ⟨cl3, Ar3, qa3, Sa3, Na3, Ha3, Ga3⟩ := @id _ V0
  have hin3 : ¬ ((0 : Int32) < 0 ∨ cl3.slots.size ≤ ((0 : Int32)).toNatClampNeg) := inb_of Sa3 ⟨by decide, by decide⟩
  have hat3 : cl3.slots[((0 : Int32)).toNatClampNeg]? = some (.int (own_by c0)) := Has.at Ha3 hin3 rfl
  refine OEnds.go (g' := (mkF m 9 #[.val (.ref bb), .val (.int (0 : Int32))] [(.int (own_by c0))])) (X2.baloadBytes hx (j := (0 : Int32)) (v := (.int (own_by c0))) (by rw [e2]; exact Ar3.1) (State.isArrayOf_alike hZ.alike Ar3.2.1) Ar3.2.2 hin3 hat3 (g := (mkF m 8 #[.val (.ref bb), .val (.int (0 : Int32))] [(.int (0 : Int32)), (.ref bb)])) rfl rfl (hb hby d21_8)) ?_
  refine OEnds.go (g' := (mkF m 12 #[.val (.ref bb), .val (.int (0 : Int32))] [(.int (255 : Int32)), (.int (own_by c0))])) (fun t k => XS.sipush X2.here hx rfl (hb hby d21_9) k) ?_
  refine OEnds.go (g' := (mkF m 13 #[.val (.ref bb), .val (.int (0 : Int32))] [(.int ((own_by c0) &&& (255 : Int32)))])) (fun t k => XS.iand X2.here hx rfl (hb hby d21_12) rfl k) ?_
  refine OEnds.go (g' := (mkF m 14 #[.val (.ref bb), .val (.int (0 : Int32))] [(.int (((own_by c0) &&& (255 : Int32)).toUInt32.toUInt16.toUInt32.toInt32))])) (fun t k => XS.i2c X2.here hx rfl (hb hby d21_13) rfl k) ?_
  exact OEnds.outN X2 Bd.notSynchronized hx (t := .char) Bd.returns (by simp) (hb hby d21_14) ⟨(congrArg (fun z => some (Value.int z)) (own_back hc0)), N2, e2⟩ (by decide) (by decide)
theorem ef_rmCA0 (m : MethodId) (x0 : Addr) (x1 : Int32) : entryFrame m #[(.ref x0), (.int x1)] 2 = mkF m 0 #[.val (.ref x0), .val (.int x1)] [] := by first | (simp [entryFrame, mkF, argsToLocals, Value.category]; done) | rfl
def Q_rmCA0 (Z : State) (sx : Addr) (bb : Addr) (kb : ClassId) (c0 : Int32) (c1 : Int32) (c2 : Int32) (csv : Int32) (fm : Value) (h0 : Heap) (n0 : Nat) (v : Option Value) (h : Heap) (L : List Loc) : Prop := v = some (.int c0) ∧ Fr n0 L ∧ h = h0
set_option maxRecDepth 65536 in
set_option maxHeartbeats 40000000 in
theorem rmCA0 (l : Launch) (Z : State) (a0 : Array Value) (hw : ∀ d ∈ tables_1, d.before a0 Z = true) (ws : List Jvm.Cond) (sx : Addr) (bb : Addr) (kb : ClassId) (c0 : Int32) (c1 : Int32) (c2 : Int32) (csv : Int32) (fm : Value) (h0 : Heap) (n0 : Nat) (Z0 : n0 ≤ h0.size) (E_sx : Exa Z h0 sx "java/lang/String") (Fc_sx : Fld Z h0 sx "java/lang/String" "coder" "B" (.int (0 : Int32))) (Fv_sx : Fld Z h0 sx "java/lang/String" "value" "[B" (.ref bb)) (V_sx : Arv Z h0 bb kb .byte (3 : Int32) [(.int (own_by c0)), (.int (own_by c1)), (.int (own_by c2))] (.int (0 : Int32))) (SC : Sta Z h0 "java/lang/String" "COMPACT_STRINGS" "Z" (.int csv)) (hcs : ¬ csv = (0 : Int32)) (SF : Sta Z h0 "jdk/internal/util/Preconditions" "SIOOBE_FORMATTER" "Ljava/util/function/BiFunction;" fm) (hfm : fm.isRef = true) (hc0 : 0 ≤ c0.toInt ∧ c0.toInt ≤ 255) :
    MetFree l (⟨"java/lang/String", "charAt", "(I)C"⟩ : MethodName) (head1 (Jvm.Cond.code (⟨"java/lang/String", "charAt", "(I)C"⟩ : MethodName) jdk_42_method_56_code 2 (some .char) :: ws) ({ frames := 3, cells := 0, slots := 0, locals := 60 } : Room)) (fun aa_ U => aa_ = #[(.ref sx), (.int (0 : Int32))] ∧ Z.Warmed39 U.vm ∧ U.heap = h0) (fun _ _ _ _ _ => True) (fun _ U o U' => ∃ v L, o = .returned v ∧ Q_rmCA0 Z sx bb kb c0 c1 c2 csv fm h0 n0 v U'.heap L ∧ FrameEnd U o U' L ({ frames := 3, cells := 0, slots := 0, locals := 60 } : Room).cells ({ frames := 3, cells := 0, slots := 0, locals := 60 } : Room).slots) := by
  refine MetFree.of_bodySF (plainFor_of_name pn_1) hisR ?_
  intro p e s m args below meth c s₁ Bd hml0 hP hK
  obtain ⟨rfl, hZ, hh⟩ := hP
  have hx := Bd.exec
  have hby := Bd.bytes
  have hml : c.maxLocals = 2 := hml0
  have hown : s.vm.findClass "java/lang/String" = some m.cls := findClass_of_methodNamed Bd.named
  have hnm := (name_of_methodNamed Bd.named Bd.method).1
  have X0 : Stand p l e ({ frames := 3, cells := 0, slots := 0, locals := 60 } : Room) s m #[(.ref sx), (.int (0 : Int32))] below meth c s₁ [] 0 0 := Stand.of_body Bd
  have e0 : s₁.heap = h0 := by rw [← hh, Bd.state]; rfl
  have N0 := Fr.nil n0
  show OEnds p e below (OEndP s (Q_rmCA0 Z sx bb kb c0 c1 c2 csv fm h0 n0) ({ frames := 3, cells := 0, slots := 0, locals := 60 } : Room).cells ({ frames := 3, cells := 0, slots := 0, locals := 60 } : Room).slots) s₁ (entryFrame m #[(.ref sx), (.int (0 : Int32))] 2)
  rw [ef_rmCA0 m sx (0 : Int32)]
  refine OEnds.go (g' := (mkF m 1 #[.val (.ref sx), .val (.int (0 : Int32))] [(.ref sx)])) (fun t k => XS.aloadN X0.here hx rfl (hb hby d19_0) rfl rfl k) ?_
  obtain ⟨cq1, kq1, q1a, q1b, q1c⟩ := isOf hZ e0 E_sx
  obtain ⟨_, _, ⟨T1, L1, k1, n1⟩, -, X1, ⟨Lc1, hQ1, l1, y1, z1⟩, st1⟩ := X0.virtualBack hx (y := (⟨"java/lang/String", "isLatin1", "()Z"⟩ : MethodName)) (z := (⟨"java/lang/String", "isLatin1", "()Z"⟩ : MethodName)) hown (mvT hZ (hw _ (List.mem_of_getElem? (i := 125) rfl))) (mvT hZ (hw _ (List.mem_of_getElem? (i := 126) rfl))) (notFace_of_selects (args := #[]) (mvT hZ (hw _ (List.mem_of_getElem? (i := 128) rfl)))) (mvT hZ (hw _ (List.mem_of_getElem? (i := 128) rfl))) (mvT hZ (hw _ (List.mem_of_getElem? (i := 127) rfl))) (by decide) (backOf (W := 0) (rm_isLatin1_20_3 l Z a0 hw [] sx  bb kb c0 c1 c2 csv h0 n0 Z0 E_sx Fc_sx Fv_sx V_sx SC hcs) hZ (hw _ (List.mem_of_getElem? (i := 129) rfl)) (hw _ (List.mem_of_getElem? (i := 5) rfl)) (by decide) (by decide)) q1a q1c (g := (mkF m 1 #[.val (.ref sx), .val (.int (0 : Int32))] [(.ref sx)])) rfl (by rw [hml]; rfl) (Steps.refl _) (argsL := []) (rest := []) (lenOf pd_10 rfl) rfl (by show 2 * 0 + _ ≤ _; exact Nat.le_of_eq rfl) (hb hby d19_1) (fun _ _ => ⟨rfl, e0, (by decide : 0 + 0 ≤ _), (by decide : 0 + 0 ≤ _)⟩)
  dsimp only [Pt.U, Pt.locs, Pt.cells, Pt.slots] at X1 l1 y1 z1 st1 hQ1
  subst l1 y1 z1
  obtain ⟨rfl, N1q, e1⟩ := hQ1
  have N1 := Fr.app N0 N1q
  refine OEnds.tr (g' := (mkF m 4 #[.val (.ref sx), .val (.int (0 : Int32))] [(.int (1 : Int32))])) st1 ?_
  refine OEnds.go (g' := (mkF m 7 #[.val (.ref sx), .val (.int (0 : Int32))] [])) (fun t k => XS.ifNo X1.here hx rfl (hb hby d19_4) rfl ((if0 _ _).trans (feq (by decide : ¬ ((1 : Int32) = (0 : Int32)))).1) k) ?_
  refine OEnds.go (g' := (mkF m 8 #[.val (.ref sx), .val (.int (0 : Int32))] [(.ref sx)])) (fun t k => XS.aloadN X1.here hx rfl (hb hby d19_7) rfl rfl k) ?_
  obtain ⟨T2, X2, e2, st2⟩ := getF X1 hx hZ hown (host := "") (Or.inl (hw _ (List.mem_of_getElem? (i := 35) rfl))) Via.refl e1 Fv_sx (g := (mkF m 8 #[.val (.ref sx), .val (.int (0 : Int32))] [(.ref sx)])) rfl rfl (hb hby d19_8)
  refine OEnds.go (g' := (mkF m 11 #[.val (.ref sx), .val (.int (0 : Int32))] [(.ref bb)])) st2 ?_
  refine OEnds.go (g' := (mkF m 12 #[.val (.ref sx), .val (.int (0 : Int32))] [(.int (0 : Int32)), (.ref bb)])) (fun t k => XS.iloadN X2.here hx rfl (hb hby d19_11) rfl k) ?_
  obtain ⟨_, _, ⟨T3, L3, k3, n3⟩, -, X3, ⟨Lc3, hQ3, l3, y3, z3⟩, st3⟩ := Jvm.LawKit.callS X2 hx (y := (⟨"java/lang/StringLatin1", "charAt", "([BI)C"⟩ : MethodName)) hown (mvT hZ (hw _ (List.mem_of_getElem? (i := 130) rfl))) (mvT hZ (hw _ (List.mem_of_getElem? (i := 131) rfl))) (mvT hZ (hw _ (List.mem_of_getElem? (i := 132) rfl))) (mvT hZ (hw _ (List.mem_of_getElem? (i := 133) rfl))) (by decide) (backOf (W := 0) (rmLC0 l Z a0 hw [] bb kb c0 c1 c2 fm h0 n0 Z0 V_sx SF hfm hc0) hZ (hw _ (List.mem_of_getElem? (i := 133) rfl)) (hw _ (List.mem_of_getElem? (i := 132) rfl)) (by decide) (by decide)) (g := (mkF m 12 #[.val (.ref sx), .val (.int (0 : Int32))] [(.int (0 : Int32)), (.ref bb)])) rfl (by rw [hml]; rfl) (argsL := [(.ref bb), (.int (0 : Int32))]) (rest := []) (lenOf pd_11 rfl) rfl (by show 2 * 0 + _ ≤ _; exact Nat.le_of_eq rfl) (hb hby d19_12) (fun _ _ => ⟨rfl, e2, (by decide : 0 + 0 ≤ _), (by decide : 0 + 0 ≤ _)⟩)
  dsimp only [Pt.U, Pt.locs, Pt.cells, Pt.slots] at X3 l3 y3 z3 st3 hQ3
  subst l3 y3 z3
  obtain ⟨rfl, N3q, e3⟩ := hQ3
  have N3 := Fr.app N1 N3q
  refine OEnds.go (g' := (mkF m 15 #[.val (.ref sx), .val (.int (0 : Int32))] [(.int c0)])) st3 ?_
  exact OEnds.outN X3 Bd.notSynchronized hx (t := .char) Bd.returns (by simp) (hb hby d19_15) ⟨(congrArg (fun z => some (Value.int z)) (own_cc hc0)), N3, e3⟩ (by decide) (by decide)
theorem ef_rmIN0 (m : MethodId) (x0 : Addr) (x1 : Int32) : entryFrame m #[(.ref x0), (.int x1)] 2 = mkF m 0 #[.val (.ref x0), .val (.int x1)] [] := by first | (simp [entryFrame, mkF, argsToLocals, Value.category]; done) | rfl
def fIN0 (cx : Int32) (c0 : Int32) : Int32 := if c0 = cx then (1 : Int32) else (0 : Int32)
def Q_rmIN0 (Z : State) (a : Addr) (cx : Int32) (sx : Addr) (bb : Addr) (kb : ClassId) (c0 : Int32) (c1 : Int32) (c2 : Int32) (csv : Int32) (fm : Value) (h0 : Heap) (n0 : Nat) (v : Option Value) (h : Heap) (L : List Loc) : Prop := v = some (.int (fIN0 cx c0)) ∧ Fr n0 L ∧ h = h0
set_option maxRecDepth 65536 in
set_option maxHeartbeats 40000000 in
theorem rmIN0 (l : Launch) (Z : State) (a0 : Array Value) (hw : ∀ d ∈ tables_1, d.before a0 Z = true) (ws : List Jvm.Cond) (a : Addr) (cx : Int32) (sx : Addr) (bb : Addr) (kb : ClassId) (c0 : Int32) (c1 : Int32) (c2 : Int32) (csv : Int32) (fm : Value) (h0 : Heap) (n0 : Nat) (Z0 : n0 ≤ h0.size) (F_position : Fld Z h0 a "com/example/shapewright/shapewright/reader/IdlScanner" "position" "I" (.int (0 : Int32))) (F_text : Fld Z h0 a "com/example/shapewright/shapewright/reader/IdlScanner" "text" "Ljava/lang/String;" (.ref sx)) (E_sx : Exa Z h0 sx "java/lang/String") (Fc_sx : Fld Z h0 sx "java/lang/String" "coder" "B" (.int (0 : Int32))) (Fv_sx : Fld Z h0 sx "java/lang/String" "value" "[B" (.ref bb)) (V_sx : Arv Z h0 bb kb .byte (3 : Int32) [(.int (own_by c0)), (.int (own_by c1)), (.int (own_by c2))] (.int (0 : Int32))) (SC : Sta Z h0 "java/lang/String" "COMPACT_STRINGS" "Z" (.int csv)) (hcs : ¬ csv = (0 : Int32)) (SF : Sta Z h0 "jdk/internal/util/Preconditions" "SIOOBE_FORMATTER" "Ljava/util/function/BiFunction;" fm) (hfm : fm.isRef = true) (hc0 : 0 ≤ c0.toInt ∧ c0.toInt ≤ 255) :
    MetFree l (⟨"com/example/shapewright/shapewright/reader/IdlScanner", "isNext", "(C)Z"⟩ : MethodName) (head1 (Jvm.Cond.code (⟨"com/example/shapewright/shapewright/reader/IdlScanner", "isNext", "(C)Z"⟩ : MethodName) prog_20_method_3_code 2 (some .boolean) :: ws) ({ frames := 4, cells := 0, slots := 0, locals := 90 } : Room)) (fun aa_ U => aa_ = #[(.ref a), (.int cx)] ∧ Z.Warmed39 U.vm ∧ U.heap = h0) (fun _ _ _ _ _ => True) (fun _ U o U' => ∃ v L, o = .returned v ∧ Q_rmIN0 Z a cx sx bb kb c0 c1 c2 csv fm h0 n0 v U'.heap L ∧ FrameEnd U o U' L ({ frames := 4, cells := 0, slots := 0, locals := 90 } : Room).cells ({ frames := 4, cells := 0, slots := 0, locals := 90 } : Room).slots) := by
  refine MetFree.of_bodySF (plainFor_of_name pn_4) hisR ?_
  intro p e s m args below meth c s₁ Bd hml0 hP hK
  obtain ⟨rfl, hZ, hh⟩ := hP
  have hx := Bd.exec
  have hby := Bd.bytes
  have hml : c.maxLocals = 2 := hml0
  have hown : s.vm.findClass "com/example/shapewright/shapewright/reader/IdlScanner" = some m.cls := findClass_of_methodNamed Bd.named
  have hnm := (name_of_methodNamed Bd.named Bd.method).1
  have X0 : Stand p l e ({ frames := 4, cells := 0, slots := 0, locals := 90 } : Room) s m #[(.ref a), (.int cx)] below meth c s₁ [] 0 0 := Stand.of_body Bd
  have e0 : s₁.heap = h0 := by rw [← hh, Bd.state]; rfl
  have N0 := Fr.nil n0
  show OEnds p e below (OEndP s (Q_rmIN0 Z a cx sx bb kb c0 c1 c2 csv fm h0 n0) ({ frames := 4, cells := 0, slots := 0, locals := 90 } : Room).cells ({ frames := 4, cells := 0, slots := 0, locals := 90 } : Room).slots) s₁ (entryFrame m #[(.ref a), (.int cx)] 2)
  rw [ef_rmIN0 m a cx]
  refine OEnds.go (g' := (mkF m 1 #[.val (.ref a), .val (.int cx)] [(.ref a)])) (fun t k => XS.aloadN X0.here hx rfl (hb hby d18_0) rfl rfl k) ?_
  obtain ⟨T1, X1, e1, st1⟩ := getF X0 hx hZ hown (host := "") (Or.inl (hw _ (List.mem_of_getElem? (i := 78) rfl))) Via.refl e0 F_position (g := (mkF m 1 #[.val (.ref a), .val (.int cx)] [(.ref a)])) rfl rfl (hb hby d18_1)
  refine OEnds.go (g' := (mkF m 4 #[.val (.ref a), .val (.int cx)] [(.int (0 : Int32))])) st1 ?_
  refine OEnds.go (g' := (mkF m 5 #[.val (.ref a), .val (.int cx)] [(.ref a), (.int (0 : Int32))])) (fun t k => XS.aloadN X1.here hx rfl (hb hby d18_4) rfl rfl k) ?_
  obtain ⟨T2, X2, e2, st2⟩ := getF X1 hx hZ hown (host := "") (Or.inl (hw _ (List.mem_of_getElem? (i := 48) rfl))) Via.refl e1 F_text (g := (mkF m 5 #[.val (.ref a), .val (.int cx)] [(.ref a), (.int (0 : Int32))])) rfl rfl (hb hby d18_5)
  refine OEnds.go (g' := (mkF m 8 #[.val (.ref a), .val (.int cx)] [(.ref sx), (.int (0 : Int32))])) st2 ?_
  obtain ⟨cq3, kq3, q3a, q3b, q3c⟩ := isOf hZ e2 E_sx
  obtain ⟨_, _, ⟨T3, L3, k3, n3⟩, -, X3, ⟨Lc3, hQ3, l3, y3, z3⟩, st3⟩ := X2.virtualBack hx (y := (⟨"java/lang/String", "length", "()I"⟩ : MethodName)) (z := (⟨"java/lang/String", "length", "()I"⟩ : MethodName)) hown (mvT hZ (hw _ (List.mem_of_getElem? (i := 105) rfl))) (mvT hZ (hw _ (List.mem_of_getElem? (i := 106) rfl))) (notFace_of_selects (args := #[]) (mvT hZ (hw _ (List.mem_of_getElem? (i := 108) rfl)))) (mvT hZ (hw _ (List.mem_of_getElem? (i := 108) rfl))) (mvT hZ (hw _ (List.mem_of_getElem? (i := 107) rfl))) (by decide) (backOf (W := 1) (rm_length_16_3 l Z a0 hw [] sx  bb kb c0 c1 c2 csv h0 n0 Z0 E_sx Fc_sx Fv_sx V_sx SC hcs) hZ (hw _ (List.mem_of_getElem? (i := 109) rfl)) (hw _ (List.mem_of_getElem? (i := 5) rfl)) (by decide) (by decide)) q3a q3c (g := (mkF m 8 #[.val (.ref a), .val (.int cx)] [(.ref sx), (.int (0 : Int32))])) rfl (by rw [hml]; rfl) (Steps.refl _) (argsL := []) (rest := [(.int (0 : Int32))]) (lenOf pd_6 rfl) rfl (by show 2 * 0 + _ ≤ _; exact Nat.le_of_eq rfl) (hb hby d18_8) (fun _ _ => ⟨rfl, e2, (by decide : 0 + 0 ≤ _), (by decide : 0 + 0 ≤ _)⟩)
  dsimp only [Pt.U, Pt.locs, Pt.cells, Pt.slots] at X3 l3 y3 z3 st3 hQ3
  subst l3 y3 z3
  obtain ⟨rfl, N3q, e3⟩ := hQ3
  have N3 := Fr.app N0 N3q
  refine OEnds.tr (g' := (mkF m 11 #[.val (.ref a), .val (.int cx)] [(.int (3 : Int32)), (.int (0 : Int32))])) st3 ?_
  refine OEnds.go (g' := (mkF m 14 #[.val (.ref a), .val (.int cx)] [])) (fun t k => XS.icmpNo X3.here hx rfl (hb hby d18_11) rfl (tlt (by decide : ((0 : Int32) < (3 : Int32)))).2.1 k) ?_
  refine OEnds.go (g' := (mkF m 15 #[.val (.ref a), .val (.int cx)] [(.ref a)])) (fun t k => XS.aloadN X3.here hx rfl (hb hby d18_14) rfl rfl k) ?_
  obtain ⟨T4, X4, e4, st4⟩ := getF X3 hx hZ hown (host := "") (Or.inl (hw _ (List.mem_of_getElem? (i := 48) rfl))) Via.refl e3 F_text (g := (mkF m 15 #[.val (.ref a), .val (.int cx)] [(.ref a)])) rfl rfl (hb hby d18_15)
  refine OEnds.go (g' := (mkF m 18 #[.val (.ref a), .val (.int cx)] [(.ref sx)])) st4 ?_
  refine OEnds.go (g' := (mkF m 19 #[.val (.ref a), .val (.int cx)] [(.ref a), (.ref sx)])) (fun t k => XS.aloadN X4.here hx rfl (hb hby d18_18) rfl rfl k) ?_
  obtain ⟨T5, X5, e5, st5⟩ := getF X4 hx hZ hown (host := "") (Or.inl (hw _ (List.mem_of_getElem? (i := 78) rfl))) Via.refl e4 F_position (g := (mkF m 19 #[.val (.ref a), .val (.int cx)] [(.ref a), (.ref sx)])) rfl rfl (hb hby d18_19)
  refine OEnds.go (g' := (mkF m 22 #[.val (.ref a), .val (.int cx)] [(.int (0 : Int32)), (.ref sx)])) st5 ?_
  obtain ⟨cq6, kq6, q6a, q6b, q6c⟩ := isOf hZ e5 E_sx
  obtain ⟨_, _, ⟨T6, L6, k6, n6⟩, -, X6, ⟨Lc6, hQ6, l6, y6, z6⟩, st6⟩ := X5.virtualBack hx (y := (⟨"java/lang/String", "charAt", "(I)C"⟩ : MethodName)) (z := (⟨"java/lang/String", "charAt", "(I)C"⟩ : MethodName)) hown (mvT hZ (hw _ (List.mem_of_getElem? (i := 120) rfl))) (mvT hZ (hw _ (List.mem_of_getElem? (i := 121) rfl))) (notFace_of_selects (args := #[]) (mvT hZ (hw _ (List.mem_of_getElem? (i := 123) rfl)))) (mvT hZ (hw _ (List.mem_of_getElem? (i := 123) rfl))) (mvT hZ (hw _ (List.mem_of_getElem? (i := 122) rfl))) (by decide) (backOf (W := 0) (rmCA0 l Z a0 hw [] sx bb kb c0 c1 c2 csv fm h0 n0 Z0 E_sx Fc_sx Fv_sx V_sx SC hcs SF hfm hc0) hZ (hw _ (List.mem_of_getElem? (i := 124) rfl)) (hw _ (List.mem_of_getElem? (i := 5) rfl)) (by decide) (by decide)) q6a q6c (g := (mkF m 22 #[.val (.ref a), .val (.int cx)] [(.int (0 : Int32)), (.ref sx)])) rfl (by rw [hml]; rfl) (Steps.refl _) (argsL := [(.int (0 : Int32))]) (rest := []) (lenOf pd_12 rfl) rfl (by show 2 * 0 + _ ≤ _; exact Nat.le_of_eq rfl) (hb hby d18_22) (fun _ _ => ⟨rfl, e5, (by decide : 0 + 0 ≤ _), (by decide : 0 + 0 ≤ _)⟩)
  dsimp only [Pt.U, Pt.locs, Pt.cells, Pt.slots] at X6 l6 y6 z6 st6 hQ6
  subst l6 y6 z6
  obtain ⟨rfl, N6q, e6⟩ := hQ6
  have N6 := Fr.app N3 N6q
  refine OEnds.tr (g' := (mkF m 25 #[.val (.ref a), .val (.int cx)] [(.int c0)])) st6 ?_
  refine OEnds.go (g' := (mkF m 26 #[.val (.ref a), .val (.int cx)] [(.int cx), (.int c0)])) (fun t k => XS.iloadN X6.here hx rfl (hb hby d18_25) rfl k) ?_
  by_cases c26_7 : c0 = cx
  · -- yes
    refine OEnds.go (g' := (mkF m 29 #[.val (.ref a), .val (.int cx)] [])) (fun t k => XS.icmpNo X6.here hx rfl (hb hby d18_26) rfl (teq c26_7).2 k) ?_
    refine OEnds.go (g' := (mkF m 30 #[.val (.ref a), .val (.int cx)] [(.int (1 : Int32))])) (fun t k => XS.iconst X6.here hx rfl (hb hby d18_29) k) ?_
    refine OEnds.go (g' := (mkF m 34 #[.val (.ref a), .val (.int cx)] [(.int (1 : Int32))])) (fun t k => XS.goto X6.here hx rfl (pc0 := 30) (pc' := 34) rfl (hb hby d18_30) (by decide) (by decide) k) ?_
    exact OEnds.outN X6 Bd.notSynchronized hx (t := .boolean) Bd.returns (by simp) (hb hby d18_34) ⟨by show (some (.int (1 : Int32)) : Option Value) = some (.int (fIN0 cx c0)); rw [fIN0, if_pos c26_7], N6, e6⟩ (by decide) (by decide)
  · -- no
    refine OEnds.go (g' := (mkF m 33 #[.val (.ref a), .val (.int cx)] [])) (fun t k => XS.icmpYes X6.here hx rfl (pc0 := 26) (pc' := 33) rfl (hb hby d18_26) rfl (feq c26_7).2 (by decide) (by decide) k) ?_
    refine OEnds.go (g' := (mkF m 34 #[.val (.ref a), .val (.int cx)] [(.int (0 : Int32))])) (fun t k => XS.iconst X6.here hx rfl (hb hby d18_33) k) ?_
    exact OEnds.outN X6 Bd.notSynchronized hx (t := .boolean) Bd.returns (by simp) (hb hby d18_34) ⟨by show (some (.int (0 : Int32)) : Option Value) = some (.int (fIN0 cx c0)); rw [fIN0, if_neg c26_7], N6, e6⟩ (by decide) (by decide)
theorem ef_rmPI1 (m : MethodId) (x0 : Int32) (x1 : Int32) (x2 : Value) (hv2 : x2.isRef = true) : entryFrame m #[(.int x0), (.int x1), x2] 3 = mkF m 0 #[.val (.int x0), .val (.int x1), .val x2] [] := by
  rcases ref_cases hv2 with rfl | ⟨_, rfl⟩ <;> first | (simp [entryFrame, mkF, argsToLocals, Value.category]; done) | rfl
def Q_rmPI1 (Z : State) (fm : Value) (h0 : Heap) (n0 : Nat) (v : Option Value) (h : Heap) (L : List Loc) : Prop := v = some (.int (1 : Int32)) ∧ Fr n0 L ∧ h = h0
set_option maxRecDepth 65536 in
set_option maxHeartbeats 40000000 in
theorem rmPI1 (l : Launch) (Z : State) (a0 : Array Value) (hw : ∀ d ∈ tables_1, d.before a0 Z = true) (ws : List Jvm.Cond) (fm : Value) (h0 : Heap) (n0 : Nat) (Z0 : n0 ≤ h0.size) (hr_fm : fm.isRef = true) :
    MetFree l (⟨"jdk/internal/util/Preconditions", "checkIndex", "(IILjava/util/function/BiFunction;)I"⟩ : MethodName) (head1 (Jvm.Cond.code (⟨"jdk/internal/util/Preconditions", "checkIndex", "(IILjava/util/function/BiFunction;)I"⟩ : MethodName) jdk_41_method_11_code 3 (some .int) :: ws) ({ frames := 0, cells := 0, slots := 0, locals := 0 } : Room)) (fun aa_ U => aa_ = #[(.int (1 : Int32)), (.int (3 : Int32)), fm] ∧ Z.Warmed39 U.vm ∧ U.heap = h0) (fun _ _ _ _ _ => True) (fun _ U o U' => ∃ v L, o = .returned v ∧ Q_rmPI1 Z fm h0 n0 v U'.heap L ∧ FrameEnd U o U' L ({ frames := 0, cells := 0, slots := 0, locals := 0 } : Room).cells ({ frames := 0, cells := 0, slots := 0, locals := 0 } : Room).slots) := by
  refine MetFree.of_bodySF (plainFor_of_name pn_5) hisR ?_
  intro p e s m args below meth c s₁ Bd hml0 hP hK
  obtain ⟨rfl, hZ, hh⟩ := hP
  have hx := Bd.exec
  have hby := Bd.bytes
  have hml : c.maxLocals = 3 := hml0
  have hown : s.vm.findClass "jdk/internal/util/Preconditions" = some m.cls := findClass_of_methodNamed Bd.named
  have hnm := (name_of_methodNamed Bd.named Bd.method).1
  have X0 : Stand p l e ({ frames := 0, cells := 0, slots := 0, locals := 0 } : Room) s m #[(.int (1 : Int32)), (.int (3 : Int32)), fm] below meth c s₁ [] 0 0 := Stand.of_body Bd
  have e0 : s₁.heap = h0 := by rw [← hh, Bd.state]; rfl
  have N0 := Fr.nil n0
  show OEnds p e below (OEndP s (Q_rmPI1 Z fm h0 n0) ({ frames := 0, cells := 0, slots := 0, locals := 0 } : Room).cells ({ frames := 0, cells := 0, slots := 0, locals := 0 } : Room).slots) s₁ (entryFrame m #[(.int (1 : Int32)), (.int (3 : Int32)), fm] 3)
  rw [ef_rmPI1 m (1 : Int32) (3 : Int32) fm hr_fm]
  refine OEnds.go (g' := (mkF m 1 #[.val (.int (1 : Int32)), .val (.int (3 : Int32)), .val fm] [(.int (1 : Int32))])) (fun t k => XS.iloadN X0.here hx rfl (hb hby d23_0) rfl k) ?_
  refine OEnds.go (g' := (mkF m 4 #[.val (.int (1 : Int32)), .val (.int (3 : Int32)), .val fm] [])) (fun t k => XS.ifNo X0.here hx rfl (hb hby d23_1) rfl ((if0 _ _).trans (flt (by decide : ¬ ((1 : Int32) < (0 : Int32)))).1) k) ?_
  refine OEnds.go (g' := (mkF m 5 #[.val (.int (1 : Int32)), .val (.int (3 : Int32)), .val fm] [(.int (1 : Int32))])) (fun t k => XS.iloadN X0.here hx rfl (hb hby d23_4) rfl k) ?_
  refine OEnds.go (g' := (mkF m 6 #[.val (.int (1 : Int32)), .val (.int (3 : Int32)), .val fm] [(.int (3 : Int32)), (.int (1 : Int32))])) (fun t k => XS.iloadN X0.here hx rfl (hb hby d23_5) rfl k) ?_
  refine OEnds.go (g' := (mkF m 16 #[.val (.int (1 : Int32)), .val (.int (3 : Int32)), .val fm] [])) (fun t k => XS.icmpYes X0.here hx rfl (pc0 := 6) (pc' := 16) rfl (hb hby d23_6) rfl (tlt (by decide : ((1 : Int32) < (3 : Int32)))).1 (by decide) (by decide) k) ?_
  refine OEnds.go (g' := (mkF m 17 #[.val (.int (1 : Int32)), .val (.int (3 : Int32)), .val fm] [(.int (1 : Int32))])) (fun t k => XS.iloadN X0.here hx rfl (hb hby d23_16) rfl k) ?_
  exact OEnds.outI X0 Bd.notSynchronized hx Bd.returns (hb hby d23_17) ⟨rfl, N0, e0⟩ (by decide) (by decide)
theorem ef_rmCI1 (m : MethodId) (x0 : Int32) (x1 : Int32) : entryFrame m #[(.int x0), (.int x1)] 2 = mkF m 0 #[.val (.int x0), .val (.int x1)] [] := by first | (simp [entryFrame, mkF, argsToLocals, Value.category]; done) | rfl
def Q_rmCI1 (Z : State) (fm : Value) (h0 : Heap) (n0 : Nat) (v : Option Value) (h : Heap) (L : List Loc) : Prop := v = none ∧ Fr n0 L ∧ h = h0
set_option maxRecDepth 65536 in
set_option maxHeartbeats 40000000 in
theorem rmCI1 (l : Launch) (Z : State) (a0 : Array Value) (hw : ∀ d ∈ tables_1, d.before a0 Z = true) (ws : List Jvm.Cond) (fm : Value) (h0 : Heap) (n0 : Nat) (Z0 : n0 ≤ h0.size) (SF : Sta Z h0 "jdk/internal/util/Preconditions" "SIOOBE_FORMATTER" "Ljava/util/function/BiFunction;" fm) (hfm : fm.isRef = true) :
    MetFree l (⟨"java/lang/String", "checkIndex", "(II)V"⟩ : MethodName) (head1 (Jvm.Cond.code (⟨"java/lang/String", "checkIndex", "(II)V"⟩ : MethodName) jdk_42_method_155_code 2 none :: ws) ({ frames := 1, cells := 0, slots := 0, locals := 20 } : Room)) (fun aa_ U => aa_ = #[(.int (1 : Int32)), (.int (3 : Int32))] ∧ Z.Warmed39 U.vm ∧ U.heap = h0) (fun _ _ _ _ _ => True) (fun _ U o U' => ∃ v L, o = .returned v ∧ Q_rmCI1 Z fm h0 n0 v U'.heap L ∧ FrameEnd U o U' L ({ frames := 1, cells := 0, slots := 0, locals := 20 } : Room).cells ({ frames := 1, cells := 0, slots := 0, locals := 20 } : Room).slots) := by
  refine MetFree.of_bodySF (plainFor_of_name pn_1) hisR ?_
  intro p e s m args below meth c s₁ Bd hml0 hP hK
  obtain ⟨rfl, hZ, hh⟩ := hP
  have hx := Bd.exec
  have hby := Bd.bytes
  have hml : c.maxLocals = 2 := hml0
  have hown : s.vm.findClass "java/lang/String" = some m.cls := findClass_of_methodNamed Bd.named
  have hnm := (name_of_methodNamed Bd.named Bd.method).1
  have X0 : Stand p l e ({ frames := 1, cells := 0, slots := 0, locals := 20 } : Room) s m #[(.int (1 : Int32)), (.int (3 : Int32))] below meth c s₁ [] 0 0 := Stand.of_body Bd
  have e0 : s₁.heap = h0 := by rw [← hh, Bd.state]; rfl
  have N0 := Fr.nil n0
  show OEnds p e below (OEndP s (Q_rmCI1 Z fm h0 n0) ({ frames := 1, cells := 0, slots := 0, locals := 20 } : Room).cells ({ frames := 1, cells := 0, slots := 0, locals := 20 } : Room).slots) s₁ (entryFrame m #[(.int (1 : Int32)), (.int (3 : Int32))] 2)
  rw [ef_rmCI1 m (1 : Int32) (3 : Int32)]
  refine OEnds.go (g' := (mkF m 1 #[.val (.int (1 : Int32)), .val (.int (3 : Int32))] [(.int (1 : Int32))])) (fun t k => XS.iloadN X0.here hx rfl (hb hby d22_0) rfl k) ?_
  refine OEnds.go (g' := (mkF m 2 #[.val (.int (1 : Int32)), .val (.int (3 : Int32))] [(.int (3 : Int32)), (.int (1 : Int32))])) (fun t k => XS.iloadN X0.here hx rfl (hb hby d22_1) rfl k) ?_
  obtain ⟨T1, X1, e1, st1⟩ := getS2 X0 hx hZ hown (host := "") (Or.inl (hw _ (List.mem_of_getElem? (i := 137) rfl))) Via.refl e0 SF (g := (mkF m 2 #[.val (.int (1 : Int32)), .val (.int (3 : Int32))] [(.int (3 : Int32)), (.int (1 : Int32))])) rfl (hb hby d22_2)
  refine OEnds.go (g' := (mkF m 5 #[.val (.int (1 : Int32)), .val (.int (3 : Int32))] [fm, (.int (3 : Int32)), (.int (1 : Int32))])) st1 ?_
  obtain ⟨_, _, ⟨T2, L2, k2, n2⟩, -, X2, ⟨Lc2, hQ2, l2, y2, z2⟩, st2⟩ := Jvm.LawKit.callS X1 hx (y := (⟨"jdk/internal/util/Preconditions", "checkIndex", "(IILjava/util/function/BiFunction;)I"⟩ : MethodName)) hown (mvT hZ (hw _ (List.mem_of_getElem? (i := 139) rfl))) (mvT hZ (hw _ (List.mem_of_getElem? (i := 140) rfl))) (mvT hZ (hw _ (List.mem_of_getElem? (i := 138) rfl))) (mvT hZ (hw _ (List.mem_of_getElem? (i := 141) rfl))) (by decide) (backOf (W := 0) (rmPI1 l Z a0 hw [] fm h0 n0 Z0 hfm) hZ (hw _ (List.mem_of_getElem? (i := 141) rfl)) (hw _ (List.mem_of_getElem? (i := 138) rfl)) (by decide) (by decide)) (g := (mkF m 5 #[.val (.int (1 : Int32)), .val (.int (3 : Int32))] [fm, (.int (3 : Int32)), (.int (1 : Int32))])) rfl (by rw [hml]; rfl) (argsL := [(.int (1 : Int32)), (.int (3 : Int32)), fm]) (rest := []) (lenOf pd_8 rfl) rfl (by show 2 * 0 + _ ≤ _; exact Nat.le_of_eq rfl) (hb hby d22_5) (fun _ _ => ⟨rfl, e1, (by decide : 0 + 0 ≤ _), (by decide : 0 + 0 ≤ _)⟩)
  dsimp only [Pt.U, Pt.locs, Pt.cells, Pt.slots] at X2 l2 y2 z2 st2 hQ2
  subst l2 y2 z2
  obtain ⟨rfl, N2q, e2⟩ := hQ2
  have N2 := Fr.app N0 N2q
  refine OEnds.go (g' := (mkF m 8 #[.val (.int (1 : Int32)), .val (.int (3 : Int32))] [(.int (1 : Int32))])) st2 ?_
  refine OEnds.go (g' := (mkF m 9 #[.val (.int (1 : Int32)), .val (.int (3 : Int32))] [])) (fun t k => XS.pop X2.here hx rfl (hb hby d22_8) rfl rfl k) ?_
  exact OEnds.outV X2 Bd.notSynchronized hx Bd.returns (hb hby d22_9) ⟨rfl, N2, e2⟩ (by decide) (by decide)
theorem ef_rmLC1 (m : MethodId) (x0 : Addr) (x1 : Int32) : entryFrame m #[(.ref x0), (.int x1)] 2 = mkF m 0 #[.val (.ref x0), .val (.int x1)] [] := by first | (simp [entryFrame, mkF, argsToLocals, Value.category]; done) | rfl
def Q_rmLC1 (Z : State) (bb : Addr) (kb : ClassId) (c0 : Int32) (c1 : Int32) (c2 : Int32) (fm : Value) (h0 : Heap) (n0 : Nat) (v : Option Value) (h : Heap) (L : List Loc) : Prop := v = some (.int c1) ∧ Fr n0 L ∧ h = h0
set_option maxRecDepth 65536 in
set_option maxHeartbeats 40000000 in
theorem rmLC1 (l : Launch) (Z : State) (a0 : Array Value) (hw : ∀ d ∈ tables_1, d.before a0 Z = true) (ws : List Jvm.Cond) (bb : Addr) (kb : ClassId) (c0 : Int32) (c1 : Int32) (c2 : Int32) (fm : Value) (h0 : Heap) (n0 : Nat) (Z0 : n0 ≤ h0.size) (V0 : Arv Z h0 bb kb .byte (3 : Int32) [(.int (own_by c0)), (.int (own_by c1)), (.int (own_by c2))] (.int (0 : Int32))) (SF : Sta Z h0 "jdk/internal/util/Preconditions" "SIOOBE_FORMATTER" "Ljava/util/function/BiFunction;" fm) (hfm : fm.isRef = true) (hc1 : 0 ≤ c1.toInt ∧ c1.toInt ≤ 255) :
    MetFree l (⟨"java/lang/StringLatin1", "charAt", "([BI)C"⟩ : MethodName) (head1 (Jvm.Cond.code (⟨"java/lang/StringLatin1", "charAt", "([BI)C"⟩ : MethodName) jdk_43_method_2_code 2 (some .char) :: ws) ({ frames := 2, cells := 0, slots := 0, locals := 40 } : Room)) (fun aa_ U => aa_ = #[(.ref bb), (.int (1 : Int32))] ∧ Z.Warmed39 U.vm ∧ U.heap = h0) (fun _ _ _ _ _ => True) (fun _ U o U' => ∃ v L, o = .returned v ∧ Q_rmLC1 Z bb kb c0 c1 c2 fm h0 n0 v U'.heap L ∧ FrameEnd U o U' L ({ frames := 2, cells := 0, slots := 0, locals := 40 } : Room).cells ({ frames := 2, cells := 0, slots := 0, locals := 40 } : Room).slots) := by
  refine MetFree.of_bodySF (plainFor_of_name pn_6) hisR ?_
  intro p e s m args below meth c s₁ Bd hml0 hP hK
  obtain ⟨rfl, hZ, hh⟩ := hP
  have hx := Bd.exec
  have hby := Bd.bytes
  have hml : c.maxLocals = 2 := hml0
  have hown : s.vm.findClass "java/lang/StringLatin1" = some m.cls := findClass_of_methodNamed Bd.named
  have hnm := (name_of_methodNamed Bd.named Bd.method).1
  have X0 : Stand p l e ({ frames := 2, cells := 0, slots := 0, locals := 40 } : Room) s m #[(.ref bb), (.int (1 : Int32))] below meth c s₁ [] 0 0 := Stand.of_body Bd
  have e0 : s₁.heap = h0 := by rw [← hh, Bd.state]; rfl
  have N0 := Fr.nil n0
  show OEnds p e below (OEndP s (Q_rmLC1 Z bb kb c0 c1 c2 fm h0 n0) ({ frames := 2, cells := 0, slots := 0, locals := 40 } : Room).cells ({ frames := 2, cells := 0, slots := 0, locals := 40 } : Room).slots) s₁ (entryFrame m #[(.ref bb), (.int (1 : Int32))] 2)
  rw [ef_rmLC1 m bb (1 : Int32)]
  refine OEnds.go (g' := (mkF m 1 #[.val (.ref bb), .val (.int (1 : Int32))] [(.int (1 : Int32))])) (fun t k => XS.iloadN X0.here hx rfl (hb hby d21_0) rfl k) ?_
  refine OEnds.go (g' := (mkF m 2 #[.val (.ref bb), .val (.int (1 : Int32))] [(.ref bb), (.int (1 : Int32))])) (fun t k => XS.aloadN X0.here hx rfl (hb hby d21_1) rfl rfl k) ?_
  obtain ⟨cl1, Ar1, qa1, Sa1, Na1, Ha1, Ga1⟩ := @id _ V0
  refine OEnds.go (g' := (mkF m 3 #[.val (.ref bb), .val (.int (1 : Int32))] [(.int (3 : Int32)), (.int (1 : Int32))])) (fun t k => X0.arraylength hx (by rw [e0]; exact Ar1.1) (State.isArrayOf_alike hZ.alike Ar1.2.1) (g := (mkF m 2 #[.val (.ref bb), .val (.int (1 : Int32))] [(.ref bb), (.int (1 : Int32))])) rfl rfl (hb hby d21_2) t (by rw [len_of Sa1 Na1]; exact k)) ?_
  obtain ⟨_, _, ⟨T2, L2, k2, n2⟩, -, X2, ⟨Lc2, hQ2, l2, y2, z2⟩, st2⟩ := Jvm.LawKit.callS X0 hx (y := (⟨"java/lang/String", "checkIndex", "(II)V"⟩ : MethodName)) hown (mvT hZ (hw _ (List.mem_of_getElem? (i := 134) rfl))) (mvT hZ (hw _ (List.mem_of_getElem? (i := 135) rfl))) (mvT hZ (hw _ (List.mem_of_getElem? (i := 5) rfl))) (mvT hZ (hw _ (List.mem_of_getElem? (i := 136) rfl))) (by decide) (backOf (W := 0) (rmCI1 l Z a0 hw [] fm h0 n0 Z0 SF hfm) hZ (hw _ (List.mem_of_getElem? (i := 136) rfl)) (hw _ (List.mem_of_getElem? (i := 5) rfl)) (by decide) (by decide)) (g := (mkF m 3 #[.val (.ref bb), .val (.int (1 : Int32))] [(.int (3 : Int32)), (.int (1 : Int32))])) rfl (by rw [hml]; rfl) (argsL := [(.int (1 : Int32)), (.int (3 : Int32))]) (rest := []) (lenOf pd_9 rfl) rfl (by show 2 * 0 + _ ≤ _; exact Nat.le_of_eq rfl) (hb hby d21_3) (fun _ _ => ⟨rfl, e0, (by decide : 0 + 0 ≤ _), (by decide : 0 + 0 ≤ _)⟩)
  dsimp only [Pt.U, Pt.locs, Pt.cells, Pt.slots] at X2 l2 y2 z2 st2 hQ2
  subst l2 y2 z2
  obtain ⟨rfl, N2q, e2⟩ := hQ2
  have N2 := Fr.app N0 N2q
  refine OEnds.go (g' := (mkF m 6 #[.val (.ref bb), .val (.int (1 : Int32))] [])) st2 ?_
  refine OEnds.go (g' := (mkF m 7 #[.val (.ref bb), .val (.int (1 : Int32))] [(.ref bb)])) (fun t k => XS.aloadN X2.here hx rfl (hb hby d21_6) rfl rfl k) ?_
  refine OEnds.go (g' := (mkF m 8 #[.val (.ref bb), .val (.int (1 : Int32))] [(.int (1 : Int32)), (.ref bb)])) (fun t k => XS.iloadN X2.here hx rfl (hb hby d21_7) rfl k) ?_
  obtain ⟨cl3, Ar3, qa3, Sa3, Na3, Ha3, Ga3⟩ := @id _ V0
  have hin3 : ¬ ((1 : Int32) < 0 ∨ cl3.slots.size ≤ ((1 : Int32)).toNatClampNeg) := inb_of Sa3 ⟨by decide, by decide⟩
  have hat3 : cl3.slots[((1 : Int32)).toNatClampNeg]? = some (.int (own_by c1)) := Has.at Ha3 hin3 rfl
  refine OEnds.go (g' := (mkF m 9 #[.val (.ref bb), .val (.int (1 : Int32))] [(.int (own_by c1))])) (X2.baloadBytes hx (j := (1 : Int32)) (v := (.int (own_by c1))) (by rw [e2]; exact Ar3.1) (State.isArrayOf_alike hZ.alike Ar3.2.1) Ar3.2.2 hin3 hat3 (g := (mkF m 8 #[.val (.ref bb), .val (.int (1 : Int32))] [(.int (1 : Int32)), (.ref bb)])) rfl rfl (hb hby d21_8)) ?_
  refine OEnds.go (g' := (mkF m 12 #[.val (.ref bb), .val (.int (1 : Int32))] [(.int (255 : Int32)), (.int (own_by c1))])) (fun t k => XS.sipush X2.here hx rfl (hb hby d21_9) k) ?_
  refine OEnds.go (g' := (mkF m 13 #[.val (.ref bb), .val (.int (1 : Int32))] [(.int ((own_by c1) &&& (255 : Int32)))])) (fun t k => XS.iand X2.here hx rfl (hb hby d21_12) rfl k) ?_
  refine OEnds.go (g' := (mkF m 14 #[.val (.ref bb), .val (.int (1 : Int32))] [(.int (((own_by c1) &&& (255 : Int32)).toUInt32.toUInt16.toUInt32.toInt32))])) (fun t k => XS.i2c X2.here hx rfl (hb hby d21_13) rfl k) ?_
  exact OEnds.outN X2 Bd.notSynchronized hx (t := .char) Bd.returns (by simp) (hb hby d21_14) ⟨(congrArg (fun z => some (Value.int z)) (own_back hc1)), N2, e2⟩ (by decide) (by decide)
theorem ef_rmCA1 (m : MethodId) (x0 : Addr) (x1 : Int32) : entryFrame m #[(.ref x0), (.int x1)] 2 = mkF m 0 #[.val (.ref x0), .val (.int x1)] [] := by first | (simp [entryFrame, mkF, argsToLocals, Value.category]; done) | rfl
def Q_rmCA1 (Z : State) (sx : Addr) (bb : Addr) (kb : ClassId) (c0 : Int32) (c1 : Int32) (c2 : Int32) (csv : Int32) (fm : Value) (h0 : Heap) (n0 : Nat) (v : Option Value) (h : Heap) (L : List Loc) : Prop := v = some (.int c1) ∧ Fr n0 L ∧ h = h0
set_option maxRecDepth 65536 in
set_option maxHeartbeats 40000000 in
theorem rmCA1 (l : Launch) (Z : State) (a0 : Array Value) (hw : ∀ d ∈ tables_1, d.before a0 Z = true) (ws : List Jvm.Cond) (sx : Addr) (bb : Addr) (kb : ClassId) (c0 : Int32) (c1 : Int32) (c2 : Int32) (csv : Int32) (fm : Value) (h0 : Heap) (n0 : Nat) (Z0 : n0 ≤ h0.size) (E_sx : Exa Z h0 sx "java/lang/String") (Fc_sx : Fld Z h0 sx "java/lang/String" "coder" "B" (.int (0 : Int32))) (Fv_sx : Fld Z h0 sx "java/lang/String" "value" "[B" (.ref bb)) (V_sx : Arv Z h0 bb kb .byte (3 : Int32) [(.int (own_by c0)), (.int (own_by c1)), (.int (own_by c2))] (.int (0 : Int32))) (SC : Sta Z h0 "java/lang/String" "COMPACT_STRINGS" "Z" (.int csv)) (hcs : ¬ csv = (0 : Int32)) (SF : Sta Z h0 "jdk/internal/util/Preconditions" "SIOOBE_FORMATTER" "Ljava/util/function/BiFunction;" fm) (hfm : fm.isRef = true) (hc1 : 0 ≤ c1.toInt ∧ c1.toInt ≤ 255) :
    MetFree l (⟨"java/lang/String", "charAt", "(I)C"⟩ : MethodName) (head1 (Jvm.Cond.code (⟨"java/lang/String", "charAt", "(I)C"⟩ : MethodName) jdk_42_method_56_code 2 (some .char) :: ws) ({ frames := 3, cells := 0, slots := 0, locals := 60 } : Room)) (fun aa_ U => aa_ = #[(.ref sx), (.int (1 : Int32))] ∧ Z.Warmed39 U.vm ∧ U.heap = h0) (fun _ _ _ _ _ => True) (fun _ U o U' => ∃ v L, o = .returned v ∧ Q_rmCA1 Z sx bb kb c0 c1 c2 csv fm h0 n0 v U'.heap L ∧ FrameEnd U o U' L ({ frames := 3, cells := 0, slots := 0, locals := 60 } : Room).cells ({ frames := 3, cells := 0, slots := 0, locals := 60 } : Room).slots) := by
  refine MetFree.of_bodySF (plainFor_of_name pn_1) hisR ?_
  intro p e s m args below meth c s₁ Bd hml0 hP hK
  obtain ⟨rfl, hZ, hh⟩ := hP
  have hx := Bd.exec
  have hby := Bd.bytes
  have hml : c.maxLocals = 2 := hml0
  have hown : s.vm.findClass "java/lang/String" = some m.cls := findClass_of_methodNamed Bd.named
  have hnm := (name_of_methodNamed Bd.named Bd.method).1
  have X0 : Stand p l e ({ frames := 3, cells := 0, slots := 0, locals := 60 } : Room) s m #[(.ref sx), (.int (1 : Int32))] below meth c s₁ [] 0 0 := Stand.of_body Bd
  have e0 : s₁.heap = h0 := by rw [← hh, Bd.state]; rfl
  have N0 := Fr.nil n0
  show OEnds p e below (OEndP s (Q_rmCA1 Z sx bb kb c0 c1 c2 csv fm h0 n0) ({ frames := 3, cells := 0, slots := 0, locals := 60 } : Room).cells ({ frames := 3, cells := 0, slots := 0, locals := 60 } : Room).slots) s₁ (entryFrame m #[(.ref sx), (.int (1 : Int32))] 2)
  rw [ef_rmCA1 m sx (1 : Int32)]
  refine OEnds.go (g' := (mkF m 1 #[.val (.ref sx), .val (.int (1 : Int32))] [(.ref sx)])) (fun t k => XS.aloadN X0.here hx rfl (hb hby d19_0) rfl rfl k) ?_
  obtain ⟨cq1, kq1, q1a, q1b, q1c⟩ := isOf hZ e0 E_sx
  obtain ⟨_, _, ⟨T1, L1, k1, n1⟩, -, X1, ⟨Lc1, hQ1, l1, y1, z1⟩, st1⟩ := X0.virtualBack hx (y := (⟨"java/lang/String", "isLatin1", "()Z"⟩ : MethodName)) (z := (⟨"java/lang/String", "isLatin1", "()Z"⟩ : MethodName)) hown (mvT hZ (hw _ (List.mem_of_getElem? (i := 125) rfl))) (mvT hZ (hw _ (List.mem_of_getElem? (i := 126) rfl))) (notFace_of_selects (args := #[]) (mvT hZ (hw _ (List.mem_of_getElem? (i := 128) rfl)))) (mvT hZ (hw _ (List.mem_of_getElem? (i := 128) rfl))) (mvT hZ (hw _ (List.mem_of_getElem? (i := 127) rfl))) (by decide) (backOf (W := 0) (rm_isLatin1_20_3 l Z a0 hw [] sx  bb kb c0 c1 c2 csv h0 n0 Z0 E_sx Fc_sx Fv_sx V_sx SC hcs) hZ (hw _ (List.mem_of_getElem? (i := 129) rfl)) (hw _ (List.mem_of_getElem? (i := 5) rfl)) (by decide) (by decide)) q1a q1c (g := (mkF m 1 #[.val (.ref sx), .val (.int (1 : Int32))] [(.ref sx)])) rfl (by rw [hml]; rfl) (Steps.refl _) (argsL := []) (rest := []) (lenOf pd_10 rfl) rfl (by show 2 * 0 + _ ≤ _; exact Nat.le_of_eq rfl) (hb hby d19_1) (fun _ _ => ⟨rfl, e0, (by decide : 0 + 0 ≤ _), (by decide : 0 + 0 ≤ _)⟩)
  dsimp only [Pt.U, Pt.locs, Pt.cells, Pt.slots] at X1 l1 y1 z1 st1 hQ1
  subst l1 y1 z1
  obtain ⟨rfl, N1q, e1⟩ := hQ1
  have N1 := Fr.app N0 N1q
  refine OEnds.tr (g' := (mkF m 4 #[.val (.ref sx), .val (.int (1 : Int32))] [(.int (1 : Int32))])) st1 ?_
  refine OEnds.go (g' := (mkF m 7 #[.val (.ref sx), .val (.int (1 : Int32))] [])) (fun t k => XS.ifNo X1.here hx rfl (hb hby d19_4) rfl ((if0 _ _).trans (feq (by decide : ¬ ((1 : Int32) = (0 : Int32)))).1) k) ?_
  refine OEnds.go (g' := (mkF m 8 #[.val (.ref sx), .val (.int (1 : Int32))] [(.ref sx)])) (fun t k => XS.aloadN X1.here hx rfl (hb hby d19_7) rfl rfl k) ?_
  obtain ⟨T2, X2, e2, st2⟩ := getF X1 hx hZ hown (host := "") (Or.inl (hw _ (List.mem_of_getElem? (i := 35) rfl))) Via.refl e1 Fv_sx (g := (mkF m 8 #[.val (.ref sx), .val (.int (1 : Int32))] [(.ref sx)])) rfl rfl (hb hby d19_8)
  refine OEnds.go (g' := (mkF m 11 #[.val (.ref sx), .val (.int (1 : Int32))] [(.ref bb)])) st2 ?_
  refine OEnds.go (g' := (mkF m 12 #[.val (.ref sx), .val (.int (1 : Int32))] [(.int (1 : Int32)), (.ref bb)])) (fun t k => XS.iloadN X2.here hx rfl (hb hby d19_11) rfl k) ?_
  obtain ⟨_, _, ⟨T3, L3, k3, n3⟩, -, X3, ⟨Lc3, hQ3, l3, y3, z3⟩, st3⟩ := Jvm.LawKit.callS X2 hx (y := (⟨"java/lang/StringLatin1", "charAt", "([BI)C"⟩ : MethodName)) hown (mvT hZ (hw _ (List.mem_of_getElem? (i := 130) rfl))) (mvT hZ (hw _ (List.mem_of_getElem? (i := 131) rfl))) (mvT hZ (hw _ (List.mem_of_getElem? (i := 132) rfl))) (mvT hZ (hw _ (List.mem_of_getElem? (i := 133) rfl))) (by decide) (backOf (W := 0) (rmLC1 l Z a0 hw [] bb kb c0 c1 c2 fm h0 n0 Z0 V_sx SF hfm hc1) hZ (hw _ (List.mem_of_getElem? (i := 133) rfl)) (hw _ (List.mem_of_getElem? (i := 132) rfl)) (by decide) (by decide)) (g := (mkF m 12 #[.val (.ref sx), .val (.int (1 : Int32))] [(.int (1 : Int32)), (.ref bb)])) rfl (by rw [hml]; rfl) (argsL := [(.ref bb), (.int (1 : Int32))]) (rest := []) (lenOf pd_11 rfl) rfl (by show 2 * 0 + _ ≤ _; exact Nat.le_of_eq rfl) (hb hby d19_12) (fun _ _ => ⟨rfl, e2, (by decide : 0 + 0 ≤ _), (by decide : 0 + 0 ≤ _)⟩)
  dsimp only [Pt.U, Pt.locs, Pt.cells, Pt.slots] at X3 l3 y3 z3 st3 hQ3
  subst l3 y3 z3
  obtain ⟨rfl, N3q, e3⟩ := hQ3
  have N3 := Fr.app N1 N3q
  refine OEnds.go (g' := (mkF m 15 #[.val (.ref sx), .val (.int (1 : Int32))] [(.int c1)])) st3 ?_
  exact OEnds.outN X3 Bd.notSynchronized hx (t := .char) Bd.returns (by simp) (hb hby d19_15) ⟨(congrArg (fun z => some (Value.int z)) (own_cc hc1)), N3, e3⟩ (by decide) (by decide)
theorem ef_rmIN1 (m : MethodId) (x0 : Addr) (x1 : Int32) : entryFrame m #[(.ref x0), (.int x1)] 2 = mkF m 0 #[.val (.ref x0), .val (.int x1)] [] := by first | (simp [entryFrame, mkF, argsToLocals, Value.category]; done) | rfl
def fIN1 (cx : Int32) (c1 : Int32) : Int32 := if c1 = cx then (1 : Int32) else (0 : Int32)
def Q_rmIN1 (Z : State) (a : Addr) (cx : Int32) (sx : Addr) (bb : Addr) (kb : ClassId) (c0 : Int32) (c1 : Int32) (c2 : Int32) (csv : Int32) (fm : Value) (h0 : Heap) (n0 : Nat) (v : Option Value) (h : Heap) (L : List Loc) : Prop := v = some (.int (fIN1 cx c1)) ∧ Fr n0 L ∧ h = h0
set_option maxRecDepth 65536 in
set_option maxHeartbeats 40000000 in
theorem rmIN1 (l : Launch) (Z : State) (a0 : Array Value) (hw : ∀ d ∈ tables_1, d.before a0 Z = true) (ws : List Jvm.Cond) (a : Addr) (cx : Int32) (sx : Addr) (bb : Addr) (kb : ClassId) (c0 : Int32) (c1 : Int32) (c2 : Int32) (csv : Int32) (fm : Value) (h0 : Heap) (n0 : Nat) (Z0 : n0 ≤ h0.size) (F_position : Fld Z h0 a "com/example/shapewright/shapewright/reader/IdlScanner" "position" "I" (.int (1 : Int32))) (F_text : Fld Z h0 a "com/example/shapewright/shapewright/reader/IdlScanner" "text" "Ljava/lang/String;" (.ref sx)) (E_sx : Exa Z h0 sx "java/lang/String") (Fc_sx : Fld Z h0 sx "java/lang/String" "coder" "B" (.int (0 : Int32))) (Fv_sx : Fld Z h0 sx "java/lang/String" "value" "[B" (.ref bb)) (V_sx : Arv Z h0 bb kb .byte (3 : Int32) [(.int (own_by c0)), (.int (own_by c1)), (.int (own_by c2))] (.int (0 : Int32))) (SC : Sta Z h0 "java/lang/String" "COMPACT_STRINGS" "Z" (.int csv)) (hcs : ¬ csv = (0 : Int32)) (SF : Sta Z h0 "jdk/internal/util/Preconditions" "SIOOBE_FORMATTER" "Ljava/util/function/BiFunction;" fm) (hfm : fm.isRef = true) (hc1 : 0 ≤ c1.toInt ∧ c1.toInt ≤ 255) :
    MetFree l (⟨"com/example/shapewright/shapewright/reader/IdlScanner", "isNext", "(C)Z"⟩ : MethodName) (head1 (Jvm.Cond.code (⟨"com/example/shapewright/shapewright/reader/IdlScanner", "isNext", "(C)Z"⟩ : MethodName) prog_20_method_3_code 2 (some .boolean) :: ws) ({ frames := 4, cells := 0, slots := 0, locals := 90 } : Room)) (fun aa_ U => aa_ = #[(.ref a), (.int cx)] ∧ Z.Warmed39 U.vm ∧ U.heap = h0) (fun _ _ _ _ _ => True) (fun _ U o U' => ∃ v L, o = .returned v ∧ Q_rmIN1 Z a cx sx bb kb c0 c1 c2 csv fm h0 n0 v U'.heap L ∧ FrameEnd U o U' L ({ frames := 4, cells := 0, slots := 0, locals := 90 } : Room).cells ({ frames := 4, cells := 0, slots := 0, locals := 90 } : Room).slots) := by
  refine MetFree.of_bodySF (plainFor_of_name pn_4) hisR ?_
  intro p e s m args below meth c s₁ Bd hml0 hP hK
  obtain ⟨rfl, hZ, hh⟩ := hP
  have hx := Bd.exec
  have hby := Bd.bytes
  have hml : c.maxLocals = 2 := hml0
  have hown : s.vm.findClass "com/example/shapewright/shapewright/reader/IdlScanner" = some m.cls := findClass_of_methodNamed Bd.named
  have hnm := (name_of_methodNamed Bd.named Bd.method).1
  have X0 : Stand p l e ({ frames := 4, cells := 0, slots := 0, locals := 90 } : Room) s m #[(.ref a), (.int cx)] below meth c s₁ [] 0 0 := Stand.of_body Bd
  have e0 : s₁.heap = h0 := by rw [← hh, Bd.state]; rfl
  have N0 := Fr.nil n0
  show OEnds p e below (OEndP s (Q_rmIN1 Z a cx sx bb kb c0 c1 c2 csv fm h0 n0) ({ frames := 4, cells := 0, slots := 0, locals := 90 } : Room).cells ({ frames := 4, cells := 0, slots := 0, locals := 90 } : Room).slots) s₁ (entryFrame m #[(.ref a), (.int cx)] 2)
  rw [ef_rmIN1 m a cx]
  refine OEnds.go (g' := (mkF m 1 #[.val (.ref a), .val (.int cx)] [(.ref a)])) (fun t k => XS.aloadN X0.here hx rfl (hb hby d18_0) rfl rfl k) ?_
  obtain ⟨T1, X1, e1, st1⟩ := getF X0 hx hZ hown (host := "") (Or.inl (hw _ (List.mem_of_getElem? (i := 78) rfl))) Via.refl e0 F_position (g := (mkF m 1 #[.val (.ref a), .val (.int cx)] [(.ref a)])) rfl rfl (hb hby d18_1)
  refine OEnds.go (g' := (mkF m 4 #[.val (.ref a), .val (.int cx)] [(.int (1 : Int32))])) st1 ?_
  refine OEnds.go (g' := (mkF m 5 #[.val (.ref a), .val (.int cx)] [(.ref a), (.int (1 : Int32))])) (fun t k => XS.aloadN X1.here hx rfl (hb hby d18_4) rfl rfl k) ?_
  obtain ⟨T2, X2, e2, st2⟩ := getF X1 hx hZ hown (host := "") (Or.inl (hw _ (List.mem_of_getElem? (i := 48) rfl))) Via.refl e1 F_text (g := (mkF m 5 #[.val (.ref a), .val (.int cx)] [(.ref a), (.int (1 : Int32))])) rfl rfl (hb hby d18_5)
  refine OEnds.go (g' := (mkF m 8 #[.val (.ref a), .val (.int cx)] [(.ref sx), (.int (1 : Int32))])) st2 ?_
  obtain ⟨cq3, kq3, q3a, q3b, q3c⟩ := isOf hZ e2 E_sx
  obtain ⟨_, _, ⟨T3, L3, k3, n3⟩, -, X3, ⟨Lc3, hQ3, l3, y3, z3⟩, st3⟩ := X2.virtualBack hx (y := (⟨"java/lang/String", "length", "()I"⟩ : MethodName)) (z := (⟨"java/lang/String", "length", "()I"⟩ : MethodName)) hown (mvT hZ (hw _ (List.mem_of_getElem? (i := 105) rfl))) (mvT hZ (hw _ (List.mem_of_getElem? (i := 106) rfl))) (notFace_of_selects (args := #[]) (mvT hZ (hw _ (List.mem_of_getElem? (i := 108) rfl)))) (mvT hZ (hw _ (List.mem_of_getElem? (i := 108) rfl))) (mvT hZ (hw _ (List.mem_of_getElem? (i := 107) rfl))) (by decide) (backOf (W := 1) (rm_length_16_3 l Z a0 hw [] sx  bb kb c0 c1 c2 csv h0 n0 Z0 E_sx Fc_sx Fv_sx V_sx SC hcs) hZ (hw _ (List.mem_of_getElem? (i := 109) rfl)) (hw _ (List.mem_of_getElem? (i := 5) rfl)) (by decide) (by decide)) q3a q3c (g := (mkF m 8 #[.val (.ref a), .val (.int cx)] [(.ref sx), (.int (1 : Int32))])) rfl (by rw [hml]; rfl) (Steps.refl _) (argsL := []) (rest := [(.int (1 : Int32))]) (lenOf pd_6 rfl) rfl (by show 2 * 0 + _ ≤ _; exact Nat.le_of_eq rfl) (hb hby d18_8) (fun _ _ => ⟨rfl, e2, (by decide : 0 + 0 ≤ _), (by decide : 0 + 0 ≤ _)⟩)
  dsimp only [Pt.U, Pt.locs, Pt.cells, Pt.slots] at X3 l3 y3 z3 st3 hQ3
  subst l3 y3 z3
  obtain ⟨rfl, N3q, e3⟩ := hQ3
  have N3 := Fr.app N0 N3q
  refine OEnds.tr (g' := (mkF m 11 #[.val (.ref a), .val (.int cx)] [(.int (3 : Int32)), (.int (1 : Int32))])) st3 ?_
  refine OEnds.go (g' := (mkF m 14 #[.val (.ref a), .val (.int cx)] [])) (fun t k => XS.icmpNo X3.here hx rfl (hb hby d18_11) rfl (tlt (by decide : ((1 : Int32) < (3 : Int32)))).2.1 k) ?_
  refine OEnds.go (g' := (mkF m 15 #[.val (.ref a), .val (.int cx)] [(.ref a)])) (fun t k => XS.aloadN X3.here hx rfl (hb hby d18_14) rfl rfl k) ?_
  obtain ⟨T4, X4, e4, st4⟩ := getF X3 hx hZ hown (host := "") (Or.inl (hw _ (List.mem_of_getElem? (i := 48) rfl))) Via.refl e3 F_text (g := (mkF m 15 #[.val (.ref a), .val (.int cx)] [(.ref a)])) rfl rfl (hb hby d18_15)
  refine OEnds.go (g' := (mkF m 18 #[.val (.ref a), .val (.int cx)] [(.ref sx)])) st4 ?_
  refine OEnds.go (g' := (mkF m 19 #[.val (.ref a), .val (.int cx)] [(.ref a), (.ref sx)])) (fun t k => XS.aloadN X4.here hx rfl (hb hby d18_18) rfl rfl k) ?_
  obtain ⟨T5, X5, e5, st5⟩ := getF X4 hx hZ hown (host := "") (Or.inl (hw _ (List.mem_of_getElem? (i := 78) rfl))) Via.refl e4 F_position (g := (mkF m 19 #[.val (.ref a), .val (.int cx)] [(.ref a), (.ref sx)])) rfl rfl (hb hby d18_19)
  refine OEnds.go (g' := (mkF m 22 #[.val (.ref a), .val (.int cx)] [(.int (1 : Int32)), (.ref sx)])) st5 ?_
  obtain ⟨cq6, kq6, q6a, q6b, q6c⟩ := isOf hZ e5 E_sx
  obtain ⟨_, _, ⟨T6, L6, k6, n6⟩, -, X6, ⟨Lc6, hQ6, l6, y6, z6⟩, st6⟩ := X5.virtualBack hx (y := (⟨"java/lang/String", "charAt", "(I)C"⟩ : MethodName)) (z := (⟨"java/lang/String", "charAt", "(I)C"⟩ : MethodName)) hown (mvT hZ (hw _ (List.mem_of_getElem? (i := 120) rfl))) (mvT hZ (hw _ (List.mem_of_getElem? (i := 121) rfl))) (notFace_of_selects (args := #[]) (mvT hZ (hw _ (List.mem_of_getElem? (i := 123) rfl)))) (mvT hZ (hw _ (List.mem_of_getElem? (i := 123) rfl))) (mvT hZ (hw _ (List.mem_of_getElem? (i := 122) rfl))) (by decide) (backOf (W := 0) (rmCA1 l Z a0 hw [] sx bb kb c0 c1 c2 csv fm h0 n0 Z0 E_sx Fc_sx Fv_sx V_sx SC hcs SF hfm hc1) hZ (hw _ (List.mem_of_getElem? (i := 124) rfl)) (hw _ (List.mem_of_getElem? (i := 5) rfl)) (by decide) (by decide)) q6a q6c (g := (mkF m 22 #[.val (.ref a), .val (.int cx)] [(.int (1 : Int32)), (.ref sx)])) rfl (by rw [hml]; rfl) (Steps.refl _) (argsL := [(.int (1 : Int32))]) (rest := []) (lenOf pd_12 rfl) rfl (by show 2 * 0 + _ ≤ _; exact Nat.le_of_eq rfl) (hb hby d18_22) (fun _ _ => ⟨rfl, e5, (by decide : 0 + 0 ≤ _), (by decide : 0 + 0 ≤ _)⟩)
  dsimp only [Pt.U, Pt.locs, Pt.cells, Pt.slots] at X6 l6 y6 z6 st6 hQ6
  subst l6 y6 z6
  obtain ⟨rfl, N6q, e6⟩ := hQ6
  have N6 := Fr.app N3 N6q
  refine OEnds.tr (g' := (mkF m 25 #[.val (.ref a), .val (.int cx)] [(.int c1)])) st6 ?_
  refine OEnds.go (g' := (mkF m 26 #[.val (.ref a), .val (.int cx)] [(.int cx), (.int c1)])) (fun t k => XS.iloadN X6.here hx rfl (hb hby d18_25) rfl k) ?_
  by_cases c26_7 : c1 = cx
  · -- yes
    refine OEnds.go (g' := (mkF m 29 #[.val (.ref a), .val (.int cx)] [])) (fun t k => XS.icmpNo X6.here hx rfl (hb hby d18_26) rfl (teq c26_7).2 k) ?_
    refine OEnds.go (g' := (mkF m 30 #[.val (.ref a), .val (.int cx)] [(.int (1 : Int32))])) (fun t k => XS.iconst X6.here hx rfl (hb hby d18_29) k) ?_
    refine OEnds.go (g' := (mkF m 34 #[.val (.ref a), .val (.int cx)] [(.int (1 : Int32))])) (fun t k => XS.goto X6.here hx rfl (pc0 := 30) (pc' := 34) rfl (hb hby d18_30) (by decide) (by decide) k) ?_
    exact OEnds.outN X6 Bd.notSynchronized hx (t := .boolean) Bd.returns (by simp) (hb hby d18_34) ⟨by show (some (.int (1 : Int32)) : Option Value) = some (.int (fIN1 cx c1)); rw [fIN1, if_pos c26_7], N6, e6⟩ (by decide) (by decide)
  · -- no
    refine OEnds.go (g' := (mkF m 33 #[.val (.ref a), .val (.int cx)] [])) (fun t k => XS.icmpYes X6.here hx rfl (pc0 := 26) (pc' := 33) rfl (hb hby d18_26) rfl (feq c26_7).2 (by decide) (by decide) k) ?_
    refine OEnds.go (g' := (mkF m 34 #[.val (.ref a), .val (.int cx)] [(.int (0 : Int32))])) (fun t k => XS.iconst X6.here hx rfl (hb hby d18_33) k) ?_
    exact OEnds.outN X6 Bd.notSynchronized hx (t := .boolean) Bd.returns (by simp) (hb hby d18_34) ⟨by show (some (.int (0 : Int32)) : Option Value) = some (.int (fIN1 cx c1)); rw [fIN1, if_neg c26_7], N6, e6⟩ (by decide) (by decide)
theorem ef_rmPI2 (m : MethodId) (x0 : Int32) (x1 : Int32) (x2 : Value) (hv2 : x2.isRef = true) : entryFrame m #[(.int x0), (.int x1), x2] 3 = mkF m 0 #[.val (.int x0), .val (.int x1), .val x2] [] := by
  rcases ref_cases hv2 with rfl | ⟨_, rfl⟩ <;> first | (simp [entryFrame, mkF, argsToLocals, Value.category]; done) | rfl
def Q_rmPI2 (Z : State) (fm : Value) (h0 : Heap) (n0 : Nat) (v : Option Value) (h : Heap) (L : List Loc) : Prop := v = some (.int (2 : Int32)) ∧ Fr n0 L ∧ h = h0
set_option maxRecDepth 65536 in
set_option maxHeartbeats 40000000 in
theorem rmPI2 (l : Launch) (Z : State) (a0 : Array Value) (hw : ∀ d ∈ tables_1, d.before a0 Z = true) (ws : List Jvm.Cond) (fm : Value) (h0 : Heap) (n0 : Nat) (Z0 : n0 ≤ h0.size) (hr_fm : fm.isRef = true) :
    MetFree l (⟨"jdk/internal/util/Preconditions", "checkIndex", "(IILjava/util/function/BiFunction;)I"⟩ : MethodName) (head1 (Jvm.Cond.code (⟨"jdk/internal/util/Preconditions", "checkIndex", "(IILjava/util/function/BiFunction;)I"⟩ : MethodName) jdk_41_method_11_code 3 (some .int) :: ws) ({ frames := 0, cells := 0, slots := 0, locals := 0 } : Room)) (fun aa_ U => aa_ = #[(.int (2 : Int32)), (.int (3 : Int32)), fm] ∧ Z.Warmed39 U.vm ∧ U.heap = h0) (fun _ _ _ _ _ => True) (fun _ U o U' => ∃ v L, o = .returned v ∧ Q_rmPI2 Z fm h0 n0 v U'.heap L ∧ FrameEnd U o U' L ({ frames := 0, cells := 0, slots := 0, locals := 0 } : Room).cells ({ frames := 0, cells := 0, slots := 0, locals := 0 } : Room).slots) := by
  refine MetFree.of_bodySF (plainFor_of_name pn_5) hisR ?_
  intro p e s m args below meth c s₁ Bd hml0 hP hK
  obtain ⟨rfl, hZ, hh⟩ := hP
  have hx := Bd.exec
  have hby := Bd.bytes
  have hml : c.maxLocals = 3 := hml0
  have hown : s.vm.findClass "jdk/internal/util/Preconditions" = some m.cls := findClass_of_methodNamed Bd.named
  have hnm := (name_of_methodNamed Bd.named Bd.method).1
  have X0 : Stand p l e ({ frames := 0, cells := 0, slots := 0, locals := 0 } : Room) s m #[(.int (2 : Int32)), (.int (3 : Int32)), fm] below meth c s₁ [] 0 0 := Stand.of_body Bd
  have e0 : s₁.heap = h0 := by rw [← hh, Bd.state]; rfl
  have N0 := Fr.nil n0
  show OEnds p e below (OEndP s (Q_rmPI2 Z fm h0 n0) ({ frames := 0, cells := 0, slots := 0, locals := 0 } : Room).cells ({ frames := 0, cells := 0, slots := 0, locals := 0 } : Room).slots) s₁ (entryFrame m #[(.int (2 : Int32)), (.int (3 : Int32)), fm] 3)
  rw [ef_rmPI2 m (2 : Int32) (3 : Int32) fm hr_fm]
  refine OEnds.go (g' := (mkF m 1 #[.val (.int (2 : Int32)), .val (.int (3 : Int32)), .val fm] [(.int (2 : Int32))])) (fun t k => XS.iloadN X0.here hx rfl (hb hby d23_0) rfl k) ?_
  refine OEnds.go (g' := (mkF m 4 #[.val (.int (2 : Int32)), .val (.int (3 : Int32)), .val fm] [])) (fun t k => XS.ifNo X0.here hx rfl (hb hby d23_1) rfl ((if0 _ _).trans (flt (by decide : ¬ ((2 : Int32) < (0 : Int32)))).1) k) ?_
  refine OEnds.go (g' := (mkF m 5 #[.val (.int (2 : Int32)), .val (.int (3 : Int32)), .val fm] [(.int (2 : Int32))])) (fun t k => XS.iloadN X0.here hx rfl (hb hby d23_4) rfl k) ?_
  refine OEnds.go (g' := (mkF m 6 #[.val (.int (2 : Int32)), .val (.int (3 : Int32)), .val fm] [(.int (3 : Int32)), (.int (2 : Int32))])) (fun t k => XS.iloadN X0.here hx rfl (hb hby d23_5) rfl k) ?_
  refine OEnds.go (g' := (mkF m 16 #[.val (.int (2 : Int32)), .val (.int (3 : Int32)), .val fm] [])) (fun t k => XS.icmpYes X0.here hx rfl (pc0 := 6) (pc' := 16) rfl (hb hby d23_6) rfl (tlt (by decide : ((2 : Int32) < (3 : Int32)))).1 (by decide) (by decide) k) ?_
  refine OEnds.go (g' := (mkF m 17 #[.val (.int (2 : Int32)), .val (.int (3 : Int32)), .val fm] [(.int (2 : Int32))])) (fun t k => XS.iloadN X0.here hx rfl (hb hby d23_16) rfl k) ?_
  exact OEnds.outI X0 Bd.notSynchronized hx Bd.returns (hb hby d23_17) ⟨rfl, N0, e0⟩ (by decide) (by decide)
theorem ef_rmCI2 (m : MethodId) (x0 : Int32) (x1 : Int32) : entryFrame m #[(.int x0), (.int x1)] 2 = mkF m 0 #[.val (.int x0), .val (.int x1)] [] := by first | (simp [entryFrame, mkF, argsToLocals, Value.category]; done) | rfl
def Q_rmCI2 (Z : State) (fm : Value) (h0 : Heap) (n0 : Nat) (v : Option Value) (h : Heap) (L : List Loc) : Prop := v = none ∧ Fr n0 L ∧ h = h0
set_option maxRecDepth 65536 in
set_option maxHeartbeats 40000000 in
theorem rmCI2 (l : Launch) (Z : State) (a0 : Array Value) (hw : ∀ d ∈ tables_1, d.before a0 Z = true) (ws : List Jvm.Cond) (fm : Value) (h0 : Heap) (n0 : Nat) (Z0 : n0 ≤ h0.size) (SF : Sta Z h0 "jdk/internal/util/Preconditions" "SIOOBE_FORMATTER" "Ljava/util/function/BiFunction;" fm) (hfm : fm.isRef = true) :
    MetFree l (⟨"java/lang/String", "checkIndex", "(II)V"⟩ : MethodName) (head1 (Jvm.Cond.code (⟨"java/lang/String", "checkIndex", "(II)V"⟩ : MethodName) jdk_42_method_155_code 2 none :: ws) ({ frames := 1, cells := 0, slots := 0, locals := 20 } : Room)) (fun aa_ U => aa_ = #[(.int (2 : Int32)), (.int (3 : Int32))] ∧ Z.Warmed39 U.vm ∧ U.heap = h0) (fun _ _ _ _ _ => True) (fun _ U o U' => ∃ v L, o = .returned v ∧ Q_rmCI2 Z fm h0 n0 v U'.heap L ∧ FrameEnd U o U' L ({ frames := 1, cells := 0, slots := 0, locals := 20 } : Room).cells ({ frames := 1, cells := 0, slots := 0, locals := 20 } : Room).slots) := by
  refine MetFree.of_bodySF (plainFor_of_name pn_1) hisR ?_
  intro p e s m args below meth c s₁ Bd hml0 hP hK
  obtain ⟨rfl, hZ, hh⟩ := hP
  have hx := Bd.exec
  have hby := Bd.bytes
  have hml : c.maxLocals = 2 := hml0
  have hown : s.vm.findClass "java/lang/String" = some m.cls := findClass_of_methodNamed Bd.named
  have hnm := (name_of_methodNamed Bd.named Bd.method).1
  have X0 : Stand p l e ({ frames := 1, cells := 0, slots := 0, locals := 20 } : Room) s m #[(.int (2 : Int32)), (.int (3 : Int32))] below meth c s₁ [] 0 0 := Stand.of_body Bd
  have e0 : s₁.heap = h0 := by rw [← hh, Bd.state]; rfl
  have N0 := Fr.nil n0
  show OEnds p e below (OEndP s (Q_rmCI2 Z fm h0 n0) ({ frames := 1, cells := 0, slots := 0, locals := 20 } : Room).cells ({ frames := 1, cells := 0, slots := 0, locals := 20 } : Room).slots) s₁ (entryFrame m #[(.int (2 : Int32)), (.int (3 : Int32))] 2)
  rw [ef_rmCI2 m (2 : Int32) (3 : Int32)]
  refine OEnds.go (g' := (mkF m 1 #[.val (.int (2 : Int32)), .val (.int (3 : Int32))] [(.int (2 : Int32))])) (fun t k => XS.iloadN X0.here hx rfl (hb hby d22_0) rfl k) ?_
  refine OEnds.go (g' := (mkF m 2 #[.val (.int (2 : Int32)), .val (.int (3 : Int32))] [(.int (3 : Int32)), (.int (2 : Int32))])) (fun t k => XS.iloadN X0.here hx rfl (hb hby d22_1) rfl k) ?_
  obtain ⟨T1, X1, e1, st1⟩ := getS2 X0 hx hZ hown (host := "") (Or.inl (hw _ (List.mem_of_getElem? (i := 137) rfl))) Via.refl e0 SF (g := (mkF m 2 #[.val (.int (2 : Int32)), .val (.int (3 : Int32))] [(.int (3 : Int32)), (.int (2 : Int32))])) rfl (hb hby d22_2)
  refine OEnds.go (g' := (mkF m 5 #[.val (.int (2 : Int32)), .val (.int (3 : Int32))] [fm, (.int (3 : Int32)), (.int (2 : Int32))])) st1 ?_
  obtain ⟨_, _, ⟨T2, L2, k2, n2⟩, -, X2, ⟨Lc2, hQ2, l2, y2, z2⟩, st2⟩ := Jvm.LawKit.callS X1 hx (y := (⟨"jdk/internal/util/Preconditions", "checkIndex", "(IILjava/util/function/BiFunction;)I"⟩ : MethodName)) hown (mvT hZ (hw _ (List.mem_of_getElem? (i := 139) rfl))) (mvT hZ (hw _ (List.mem_of_getElem? (i := 140) rfl))) (mvT hZ (hw _ (List.mem_of_getElem? (i := 138) rfl))) (mvT hZ (hw _ (List.mem_of_getElem? (i := 141) rfl))) (by decide) (backOf (W := 0) (rmPI2 l Z a0 hw [] fm h0 n0 Z0 hfm) hZ (hw _ (List.mem_of_getElem? (i := 141) rfl)) (hw _ (List.mem_of_getElem? (i := 138) rfl)) (by decide) (by decide)) (g := (mkF m 5 #[.val (.int (2 : Int32)), .val (.int (3 : Int32))] [fm, (.int (3 : Int32)), (.int (2 : Int32))])) rfl (by rw [hml]; rfl) (argsL := [(.int (2 : Int32)), (.int (3 : Int32)), fm]) (rest := []) (lenOf pd_8 rfl) rfl (by show 2 * 0 + _ ≤ _; exact Nat.le_of_eq rfl) (hb hby d22_5) (fun _ _ => ⟨rfl, e1, (by decide : 0 + 0 ≤ _), (by decide : 0 + 0 ≤ _)⟩)
  dsimp only [Pt.U, Pt.locs, Pt.cells, Pt.slots] at X2 l2 y2 z2 st2 hQ2
  subst l2 y2 z2
  obtain ⟨rfl, N2q, e2⟩ := hQ2
  have N2 := Fr.app N0 N2q
  refine OEnds.go (g' := (mkF m 8 #[.val (.int (2 : Int32)), .val (.int (3 : Int32))] [(.int (2 : Int32))])) st2 ?_
  refine OEnds.go (g' := (mkF m 9 #[.val (.int (2 : Int32)), .val (.int (3 : Int32))] [])) (fun t k => XS.pop X2.here hx rfl (hb hby d22_8) rfl rfl k) ?_
  exact OEnds.outV X2 Bd.notSynchronized hx Bd.returns (hb hby d22_9) ⟨rfl, N2, e2⟩ (by decide) (by decide)
theorem ef_rmLC2 (m : MethodId) (x0 : Addr) (x1 : Int32) : entryFrame m #[(.ref x0), (.int x1)] 2 = mkF m 0 #[.val (.ref x0), .val (.int x1)] [] := by first | (simp [entryFrame, mkF, argsToLocals, Value.category]; done) | rfl
def Q_rmLC2 (Z : State) (bb : Addr) (kb : ClassId) (c0 : Int32) (c1 : Int32) (c2 : Int32) (fm : Value) (h0 : Heap) (n0 : Nat) (v : Option Value) (h : Heap) (L : List Loc) : Prop := v = some (.int c2) ∧ Fr n0 L ∧ h = h0
set_option maxRecDepth 65536 in
set_option maxHeartbeats 40000000 in
theorem rmLC2 (l : Launch) (Z : State) (a0 : Array Value) (hw : ∀ d ∈ tables_1, d.before a0 Z = true) (ws : List Jvm.Cond) (bb : Addr) (kb : ClassId) (c0 : Int32) (c1 : Int32) (c2 : Int32) (fm : Value) (h0 : Heap) (n0 : Nat) (Z0 : n0 ≤ h0.size) (V0 : Arv Z h0 bb kb .byte (3 : Int32) [(.int (own_by c0)), (.int (own_by c1)), (.int (own_by c2))] (.int (0 : Int32))) (SF : Sta Z h0 "jdk/internal/util/Preconditions" "SIOOBE_FORMATTER" "Ljava/util/function/BiFunction;" fm) (hfm : fm.isRef = true) (hc2 : 0 ≤ c2.toInt ∧ c2.toInt ≤ 255) :
    MetFree l (⟨"java/lang/StringLatin1", "charAt", "([BI)C"⟩ : MethodName) (head1 (Jvm.Cond.code (⟨"java/lang/StringLatin1", "charAt", "([BI)C"⟩ : MethodName) jdk_43_method_2_code 2 (some .char) :: ws) ({ frames := 2, cells := 0, slots := 0, locals := 40 } : Room)) (fun aa_ U => aa_ = #[(.ref bb), (.int (2 : Int32))] ∧ Z.Warmed39 U.vm ∧ U.heap = h0) (fun _ _ _ _ _ => True) (fun _ U o U' => ∃ v L, o = .returned v ∧ Q_rmLC2 Z bb kb c0 c1 c2 fm h0 n0 v U'.heap L ∧ FrameEnd U o U' L ({ frames := 2, cells := 0, slots := 0, locals := 40 } : Room).cells ({ frames := 2, cells := 0, slots := 0, locals := 40 } : Room).slots) := by
  refine MetFree.of_bodySF (plainFor_of_name pn_6) hisR ?_
  intro p e s m args below meth c s₁ Bd hml0 hP hK
  obtain ⟨rfl, hZ, hh⟩ := hP
  have hx := Bd.exec
  have hby := Bd.bytes
  have hml : c.maxLocals = 2 := hml0
  have hown : s.vm.findClass "java/lang/StringLatin1" = some m.cls := findClass_of_methodNamed Bd.named
  have hnm := (name_of_methodNamed Bd.named Bd.method).1
  have X0 : Stand p l e ({ frames := 2, cells := 0, slots := 0, locals := 40 } : Room) s m #[(.ref bb), (.int (2 : Int32))] below meth c s₁ [] 0 0 := Stand.of_body Bd
  have e0 : s₁.heap = h0 := by rw [← hh, Bd.state]; rfl
  have N0 := Fr.nil n0
  show OEnds p e below (OEndP s (Q_rmLC2 Z bb kb c0 c1 c2 fm h0 n0) ({ frames := 2, cells := 0, slots := 0, locals := 40 } : Room).cells ({ frames := 2, cells := 0, slots := 0, locals := 40 } : Room).slots) s₁ (entryFrame m #[(.ref bb), (.int (2 : Int32))] 2)
  rw [ef_rmLC2 m bb (2 : Int32)]
  refine OEnds.go (g' := (mkF m 1 #[.val (.ref bb), .val (.int (2 : Int32))] [(.int (2 : Int32))])) (fun t k => XS.iloadN X0.here hx rfl (hb hby d21_0) rfl k) ?_
  refine OEnds.go (g' := (mkF m 2 #[.val (.ref bb), .val (.int (2 : Int32))] [(.ref bb), (.int (2 : Int32))])) (fun t k => XS.aloadN X0.here hx rfl (hb hby d21_1) rfl rfl k) ?_
  obtain ⟨cl1, Ar1, qa1, Sa1, Na1, Ha1, Ga1⟩ := @id _ V0
  refine OEnds.go (g' := (mkF m 3 #[.val (.ref bb), .val (.int (2 : Int32))] [(.int (3 : Int32)), (.int (2 : Int32))])) (fun t k => X0.arraylength hx (by rw [e0]; exact Ar1.1) (State.isArrayOf_alike hZ.alike Ar1.2.1) (g := (mkF m 2 #[.val (.ref bb), .val (.int (2 : Int32))] [(.ref bb), (.int (2 : Int32))])) rfl rfl (hb hby d21_2) t (by rw [len_of Sa1 Na1]; exact k)) ?_
  obtain ⟨_, _, ⟨T2, L2, k2, n2⟩, -, X2, ⟨Lc2, hQ2, l2, y2, z2⟩, st2⟩ := Jvm.LawKit.callS X0 hx (y := (⟨"java/lang/String", "checkIndex", "(II)V"⟩ : MethodName)) hown (mvT hZ (hw _ (List.mem_of_getElem? (i := 134) rfl))) (mvT hZ (hw _ (List.mem_of_getElem? (i := 135) rfl))) (mvT hZ (hw _ (List.mem_of_getElem? (i := 5) rfl))) (mvT hZ (hw _ (List.mem_of_getElem? (i := 136) rfl))) (by decide) (backOf (W := 0) (rmCI2 l Z a0 hw [] fm h0 n0 Z0 SF hfm) hZ (hw _ (List.mem_of_getElem? (i := 136) rfl)) (hw _ (List.mem_of_getElem? (i := 5) rfl)) (by decide) (by decide)) (g := (mkF m 3 #[.val (.ref bb), .val (.int (2 : Int32))] [(.int (3 : Int32)), (.int (2 : Int32))])) rfl (by rw [hml]; rfl) (argsL := [(.int (2 : Int32)), (.int (3 : Int32))]) (rest := []) (lenOf pd_9 rfl) rfl (by show 2 * 0 + _ ≤ _; exact Nat.le_of_eq rfl) (hb hby d21_3) (fun _ _ => ⟨rfl, e0, (by decide : 0 + 0 ≤ _), (by decide : 0 + 0 ≤ _)⟩)
  dsimp only [Pt.U, Pt.locs, Pt.cells, Pt.slots] at X2 l2 y2 z2 st2 hQ2
  subst l2 y2 z2
  obtain ⟨rfl, N2q, e2⟩ := hQ2
  have N2 := Fr.app N0 N2q
  refine OEnds.go (g' := (mkF m 6 #[.val (.ref bb), .val (.int (2 : Int32))] [])) st2 ?_
  refine OEnds.go (g' := (mkF m 7 #[.val (.ref bb), .val (.int (2 : Int32))] [(.ref bb)])) (fun t k => XS.aloadN X2.here hx rfl (hb hby d21_6) rfl rfl k) ?_
  refine OEnds.go (g' := (mkF m 8 #[.val (.ref bb), .val (.int (2 : Int32))] [(.int (2 : Int32)), (.ref bb)])) (fun t k => XS.iloadN X2.here hx rfl (hb hby d21_7) rfl k) ?_
  obtain ⟨cl3, Ar3, qa3, Sa3, Na3, Ha3, Ga3⟩ := @id _ V0
  have hin3 : ¬ ((2 : Int32) < 0 ∨ cl3.slots.size ≤ ((2 : Int32)).toNatClampNeg) := inb_of Sa3 ⟨by decide, by decide⟩
  have hat3 : cl3.slots[((2 : Int32)).toNatClampNeg]? = some (.int (own_by c2)) := Has.at Ha3 hin3 rfl
  refine OEnds.go (g' := (mkF m 9 #[.val (.ref bb), .val (.int (2 : Int32))] [(.int (own_by c2))])) (X2.baloadBytes hx (j := (2 : Int32)) (v := (.int (own_by c2))) (by rw [e2]; exact Ar3.1) (State.isArrayOf_alike hZ.alike Ar3.2.1) Ar3.2.2 hin3 hat3 (g := (mkF m 8 #[.val (.ref bb), .val (.int (2 : Int32))] [(.int (2 : Int32)), (.ref bb)])) rfl rfl (hb hby d21_8)) ?_
  refine OEnds.go (g' := (mkF m 12 #[.val (.ref bb), .val (.int (2 : Int32))] [(.int (255 : Int32)), (.int (own_by c2))])) (fun t k => XS.sipush X2.here hx rfl (hb hby d21_9) k) ?_
  refine OEnds.go (g' := (mkF m 13 #[.val (.ref bb), .val (.int (2 : Int32))] [(.int ((own_by c2) &&& (255 : Int32)))])) (fun t k => XS.iand X2.here hx rfl (hb hby d21_12) rfl k) ?_
  refine OEnds.go (g' := (mkF m 14 #[.val (.ref bb), .val (.int (2 : Int32))] [(.int (((own_by c2) &&& (255 : Int32)).toUInt32.toUInt16.toUInt32.toInt32))])) (fun t k => XS.i2c X2.here hx rfl (hb hby d21_13) rfl k) ?_
  exact OEnds.outN X2 Bd.notSynchronized hx (t := .char) Bd.returns (by simp) (hb hby d21_14) ⟨(congrArg (fun z => some (Value.int z)) (own_back hc2)), N2, e2⟩ (by decide) (by decide)
theorem ef_rmCA2 (m : MethodId) (x0 : Addr) (x1 : Int32) : entryFrame m #[(.ref x0), (.int x1)] 2 = mkF m 0 #[.val (.ref x0), .val (.int x1)] [] := by first | (simp [entryFrame, mkF, argsToLocals, Value.category]; done) | rfl
def Q_rmCA2 (Z : State) (sx : Addr) (bb : Addr) (kb : ClassId) (c0 : Int32) (c1 : Int32) (c2 : Int32) (csv : Int32) (fm : Value) (h0 : Heap) (n0 : Nat) (v : Option Value) (h : Heap) (L : List Loc) : Prop := v = some (.int c2) ∧ Fr n0 L ∧ h = h0
set_option maxRecDepth 65536 in
set_option maxHeartbeats 40000000 in
theorem rmCA2 (l : Launch) (Z : State) (a0 : Array Value) (hw : ∀ d ∈ tables_1, d.before a0 Z = true) (ws : List Jvm.Cond) (sx : Addr) (bb : Addr) (kb : ClassId) (c0 : Int32) (c1 : Int32) (c2 : Int32) (csv : Int32) (fm : Value) (h0 : Heap) (n0 : Nat) (Z0 : n0 ≤ h0.size) (E_sx : Exa Z h0 sx "java/lang/String") (Fc_sx : Fld Z h0 sx "java/lang/String" "coder" "B" (.int (0 : Int32))) (Fv_sx : Fld Z h0 sx "java/lang/String" "value" "[B" (.ref bb)) (V_sx : Arv Z h0 bb kb .byte (3 : Int32) [(.int (own_by c0)), (.int (own_by c1)), (.int (own_by c2))] (.int (0 : Int32))) (SC : Sta Z h0 "java/lang/String" "COMPACT_STRINGS" "Z" (.int csv)) (hcs : ¬ csv = (0 : Int32)) (SF : Sta Z h0 "jdk/internal/util/Preconditions" "SIOOBE_FORMATTER" "Ljava/util/function/BiFunction;" fm) (hfm : fm.isRef = true) (hc2 : 0 ≤ c2.toInt ∧ c2.toInt ≤ 255) :
    MetFree l (⟨"java/lang/String", "charAt", "(I)C"⟩ : MethodName) (head1 (Jvm.Cond.code (⟨"java/lang/String", "charAt", "(I)C"⟩ : MethodName) jdk_42_method_56_code 2 (some .char) :: ws) ({ frames := 3, cells := 0, slots := 0, locals := 60 } : Room)) (fun aa_ U => aa_ = #[(.ref sx), (.int (2 : Int32))] ∧ Z.Warmed39 U.vm ∧ U.heap = h0) (fun _ _ _ _ _ => True) (fun _ U o U' => ∃ v L, o = .returned v ∧ Q_rmCA2 Z sx bb kb c0 c1 c2 csv fm h0 n0 v U'.heap L ∧ FrameEnd U o U' L ({ frames := 3, cells := 0, slots := 0, locals := 60 } : Room).cells ({ frames := 3, cells := 0, slots := 0, locals := 60 } : Room).slots) := by
  refine MetFree.of_bodySF (plainFor_of_name pn_1) hisR ?_
  intro p e s m args below meth c s₁ Bd hml0 hP hK
  obtain ⟨rfl, hZ, hh⟩ := hP
  have hx := Bd.exec
  have hby := Bd.bytes
  have hml : c.maxLocals = 2 := hml0
  have hown : s.vm.findClass "java/lang/String" = some m.cls := findClass_of_methodNamed Bd.named
  have hnm := (name_of_methodNamed Bd.named Bd.method).1
  have X0 : Stand p l e ({ frames := 3, cells := 0, slots := 0, locals := 60 } : Room) s m #[(.ref sx), (.int (2 : Int32))] below meth c s₁ [] 0 0 := Stand.of_body Bd
  have e0 : s₁.heap = h0 := by rw [← hh, Bd.state]; rfl
  have N0 := Fr.nil n0
  show OEnds p e below (OEndP s (Q_rmCA2 Z sx bb kb c0 c1 c2 csv fm h0 n0) ({ frames := 3, cells := 0, slots := 0, locals := 60 } : Room).cells ({ frames := 3, cells := 0, slots := 0, locals := 60 } : Room).slots) s₁ (entryFrame m #[(.ref sx), (.int (2 : Int32))] 2)
  rw [ef_rmCA2 m sx (2 : Int32)]
  refine OEnds.go (g' := (mkF m 1 #[.val (.ref sx), .val (.int (2 : Int32))] [(.ref sx)])) (fun t k => XS.aloadN X0.here hx rfl (hb hby d19_0) rfl rfl k) ?_
  obtain ⟨cq1, kq1, q1a, q1b, q1c⟩ := isOf hZ e0 E_sx
  obtain ⟨_, _, ⟨T1, L1, k1, n1⟩, -, X1, ⟨Lc1, hQ1, l1, y1, z1⟩, st1⟩ := X0.virtualBack hx (y := (⟨"java/lang/String", "isLatin1", "()Z"⟩ : MethodName)) (z := (⟨"java/lang/String", "isLatin1", "()Z"⟩ : MethodName)) hown (mvT hZ (hw _ (List.mem_of_getElem? (i := 125) rfl))) (mvT hZ (hw _ (List.mem_of_getElem? (i := 126) rfl))) (notFace_of_selects (args := #[]) (mvT hZ (hw _ (List.mem_of_getElem? (i := 128) rfl)))) (mvT hZ (hw _ (List.mem_of_getElem? (i := 128) rfl))) (mvT hZ (hw _ (List.mem_of_getElem? (i := 127) rfl))) (by decide) (backOf (W := 0) (rm_isLatin1_20_3 l Z a0 hw [] sx  bb kb c0 c1 c2 csv h0 n0 Z0 E_sx Fc_sx Fv_sx V_sx SC hcs) hZ (hw _ (List.mem_of_getElem? (i := 129) rfl)) (hw _ (List.mem_of_getElem? (i := 5) rfl)) (by decide) (by decide)) q1a q1c (g := (mkF m 1 #[.val (.ref sx), .val (.int (2 : Int32))] [(.ref sx)])) rfl (by rw [hml]; rfl) (Steps.refl _) (argsL := []) (rest := []) (lenOf pd_10 rfl) rfl (by show 2 * 0 + _ ≤ _; exact Nat.le_of_eq rfl) (hb hby d19_1) (fun _ _ => ⟨rfl, e0, (by decide : 0 + 0 ≤ _), (by decide : 0 + 0 ≤ _)⟩)
  dsimp only [Pt.U, Pt.locs, Pt.cells, Pt.slots] at X1 l1 y1 z1 st1 hQ1
  subst l1 y1 z1
  obtain ⟨rfl, N1q, e1⟩ := hQ1
  have N1 := Fr.app N0 N1q
  refine OEnds.tr (g' := (mkF m 4 #[.val (.ref sx), .val (.int (2 : Int32))] [(.int (1 : Int32))])) st1 ?_
  refine OEnds.go (g' := (mkF m 7 #[.val (.ref sx), .val (.int (2 : Int32))] [])) (fun t k => XS.ifNo X1.here hx rfl (hb hby d19_4) rfl ((if0 _ _).trans (feq (by decide : ¬ ((1 : Int32) = (0 : Int32)))).1) k) ?_
  refine OEnds.go (g' := (mkF m 8 #[.val (.ref sx), .val (.int (2 : Int32))] [(.ref sx)])) (fun t k => XS.aloadN X1.here hx rfl (hb hby d19_7) rfl rfl k) ?_
  obtain ⟨T2, X2, e2, st2⟩ := getF X1 hx hZ hown (host := "") (Or.inl (hw _ (List.mem_of_getElem? (i := 35) rfl))) Via.refl e1 Fv_sx (g := (mkF m 8 #[.val (.ref sx), .val (.int (2 : Int32))] [(.ref sx)])) rfl rfl (hb hby d19_8)
  refine OEnds.go (g' := (mkF m 11 #[.val (.ref sx), .val (.int (2 : Int32))] [(.ref bb)])) st2 ?_
  refine OEnds.go (g' := (mkF m 12 #[.val (.ref sx), .val (.int (2 : Int32))] [(.int (2 : Int32)), (.ref bb)])) (fun t k => XS.iloadN X2.here hx rfl (hb hby d19_11) rfl k) ?_
  obtain ⟨_, _, ⟨T3, L3, k3, n3⟩, -, X3, ⟨Lc3, hQ3, l3, y3, z3⟩, st3⟩ := Jvm.LawKit.callS X2 hx (y := (⟨"java/lang/StringLatin1", "charAt", "([BI)C"⟩ : MethodName)) hown (mvT hZ (hw _ (List.mem_of_getElem? (i := 130) rfl))) (mvT hZ (hw _ (List.mem_of_getElem? (i := 131) rfl))) (mvT hZ (hw _ (List.mem_of_getElem? (i := 132) rfl))) (mvT hZ (hw _ (List.mem_of_getElem? (i := 133) rfl))) (by decide) (backOf (W := 0) (rmLC2 l Z a0 hw [] bb kb c0 c1 c2 fm h0 n0 Z0 V_sx SF hfm hc2) hZ (hw _ (List.mem_of_getElem? (i := 133) rfl)) (hw _ (List.mem_of_getElem? (i := 132) rfl)) (by decide) (by decide)) (g := (mkF m 12 #[.val (.ref sx), .val (.int (2 : Int32))] [(.int (2 : Int32)), (.ref bb)])) rfl (by rw [hml]; rfl) (argsL := [(.ref bb), (.int (2 : Int32))]) (rest := []) (lenOf pd_11 rfl) rfl (by show 2 * 0 + _ ≤ _; exact Nat.le_of_eq rfl) (hb hby d19_12) (fun _ _ => ⟨rfl, e2, (by decide : 0 + 0 ≤ _), (by decide : 0 + 0 ≤ _)⟩)
  dsimp only [Pt.U, Pt.locs, Pt.cells, Pt.slots] at X3 l3 y3 z3 st3 hQ3
  subst l3 y3 z3
  obtain ⟨rfl, N3q, e3⟩ := hQ3
  have N3 := Fr.app N1 N3q
  refine OEnds.go (g' := (mkF m 15 #[.val (.ref sx), .val (.int (2 : Int32))] [(.int c2)])) st3 ?_
  exact OEnds.outN X3 Bd.notSynchronized hx (t := .char) Bd.returns (by simp) (hb hby d19_15) ⟨(congrArg (fun z => some (Value.int z)) (own_cc hc2)), N3, e3⟩ (by decide) (by decide)
theorem ef_rmIN2 (m : MethodId) (x0 : Addr) (x1 : Int32) : entryFrame m #[(.ref x0), (.int x1)] 2 = mkF m 0 #[.val (.ref x0), .val (.int x1)] [] := by first | (simp [entryFrame, mkF, argsToLocals, Value.category]; done) | rfl
def fIN2 (cx : Int32) (c2 : Int32) : Int32 := if c2 = cx then (1 : Int32) else (0 : Int32)
def Q_rmIN2 (Z : State) (a : Addr) (cx : Int32) (sx : Addr) (bb : Addr) (kb : ClassId) (c0 : Int32) (c1 : Int32) (c2 : Int32) (csv : Int32) (fm : Value) (h0 : Heap) (n0 : Nat) (v : Option Value) (h : Heap) (L : List Loc) : Prop := v = some (.int (fIN2 cx c2)) ∧ Fr n0 L ∧ h = h0
set_option maxRecDepth 65536 in
set_option maxHeartbeats 40000000 in
theorem rmIN2 (l : Launch) (Z : State) (a0 : Array Value) (hw : ∀ d ∈ tables_1, d.before a0 Z = true) (ws : List Jvm.Cond) (a : Addr) (cx : Int32) (sx : Addr) (bb : Addr) (kb : ClassId) (c0 : Int32) (c1 : Int32) (c2 : Int32) (csv : Int32) (fm : Value) (h0 : Heap) (n0 : Nat) (Z0 : n0 ≤ h0.size) (F_position : Fld Z h0 a "com/example/shapewright/shapewright/reader/IdlScanner" "position" "I" (.int (2 : Int32))) (F_text : Fld Z h0 a "com/example/shapewright/shapewright/reader/IdlScanner" "text" "Ljava/lang/String;" (.ref sx)) (E_sx : Exa Z h0 sx "java/lang/String") (Fc_sx : Fld Z h0 sx "java/lang/String" "coder" "B" (.int (0 : Int32))) (Fv_sx : Fld Z h0 sx "java/lang/String" "value" "[B" (.ref bb)) (V_sx : Arv Z h0 bb kb .byte (3 : Int32) [(.int (own_by c0)), (.int (own_by c1)), (.int (own_by c2))] (.int (0 : Int32))) (SC : Sta Z h0 "java/lang/String" "COMPACT_STRINGS" "Z" (.int csv)) (hcs : ¬ csv = (0 : Int32)) (SF : Sta Z h0 "jdk/internal/util/Preconditions" "SIOOBE_FORMATTER" "Ljava/util/function/BiFunction;" fm) (hfm : fm.isRef = true) (hc2 : 0 ≤ c2.toInt ∧ c2.toInt ≤ 255) :
    MetFree l (⟨"com/example/shapewright/shapewright/reader/IdlScanner", "isNext", "(C)Z"⟩ : MethodName) (head1 (Jvm.Cond.code (⟨"com/example/shapewright/shapewright/reader/IdlScanner", "isNext", "(C)Z"⟩ : MethodName) prog_20_method_3_code 2 (some .boolean) :: ws) ({ frames := 4, cells := 0, slots := 0, locals := 90 } : Room)) (fun aa_ U => aa_ = #[(.ref a), (.int cx)] ∧ Z.Warmed39 U.vm ∧ U.heap = h0) (fun _ _ _ _ _ => True) (fun _ U o U' => ∃ v L, o = .returned v ∧ Q_rmIN2 Z a cx sx bb kb c0 c1 c2 csv fm h0 n0 v U'.heap L ∧ FrameEnd U o U' L ({ frames := 4, cells := 0, slots := 0, locals := 90 } : Room).cells ({ frames := 4, cells := 0, slots := 0, locals := 90 } : Room).slots) := by
  refine MetFree.of_bodySF (plainFor_of_name pn_4) hisR ?_
  intro p e s m args below meth c s₁ Bd hml0 hP hK
  obtain ⟨rfl, hZ, hh⟩ := hP
  have hx := Bd.exec
  have hby := Bd.bytes
  have hml : c.maxLocals = 2 := hml0
  have hown : s.vm.findClass "com/example/shapewright/shapewright/reader/IdlScanner" = some m.cls := findClass_of_methodNamed Bd.named
  have hnm := (name_of_methodNamed Bd.named Bd.method).1
  have X0 : Stand p l e ({ frames := 4, cells := 0, slots := 0, locals := 90 } : Room) s m #[(.ref a), (.int cx)] below meth c s₁ [] 0 0 := Stand.of_body Bd
  have e0 : s₁.heap = h0 := by rw [← hh, Bd.state]; rfl
  have N0 := Fr.nil n0
  show OEnds p e below (OEndP s (Q_rmIN2 Z a cx sx bb kb c0 c1 c2 csv fm h0 n0) ({ frames := 4, cells := 0, slots := 0, locals := 90 } : Room).cells ({ frames := 4, cells := 0, slots := 0, locals := 90 } : Room).slots) s₁ (entryFrame m #[(.ref a), (.int cx)] 2)
  rw [ef_rmIN2 m a cx]
  refine OEnds.go (g' := (mkF m 1 #[.val (.ref a), .val (.int cx)] [(.ref a)])) (fun t k => XS.aloadN X0.here hx rfl (hb hby d18_0) rfl rfl k) ?_
  obtain ⟨T1, X1, e1, st1⟩ := getF X0 hx hZ hown (host := "") (Or.inl (hw _ (List.mem_of_getElem? (i := 78) rfl))) Via.refl e0 F_position (g := (mkF m 1 #[.val (.ref a), .val (.int cx)] [(.ref a)])) rfl rfl (hb hby d18_1)
  refine OEnds.go (g' := (mkF m 4 #[.val (.ref a), .val (.int cx)] [(.int (2 : Int32))])) st1 ?_
  refine OEnds.go (g' := (mkF m 5 #[.val (.ref a), .val (.int cx)] [(.ref a), (.int (2 : Int32))])) (fun t k => XS.aloadN X1.here hx rfl (hb hby d18_4) rfl rfl k) ?_
  obtain ⟨T2, X2, e2, st2⟩ := getF X1 hx hZ hown (host := "") (Or.inl (hw _ (List.mem_of_getElem? (i := 48) rfl))) Via.refl e1 F_text (g := (mkF m 5 #[.val (.ref a), .val (.int cx)] [(.ref a), (.int (2 : Int32))])) rfl rfl (hb hby d18_5)
  refine OEnds.go (g' := (mkF m 8 #[.val (.ref a), .val (.int cx)] [(.ref sx), (.int (2 : Int32))])) st2 ?_
  obtain ⟨cq3, kq3, q3a, q3b, q3c⟩ := isOf hZ e2 E_sx
  obtain ⟨_, _, ⟨T3, L3, k3, n3⟩, -, X3, ⟨Lc3, hQ3, l3, y3, z3⟩, st3⟩ := X2.virtualBack hx (y := (⟨"java/lang/String", "length", "()I"⟩ : MethodName)) (z := (⟨"java/lang/String", "length", "()I"⟩ : MethodName)) hown (mvT hZ (hw _ (List.mem_of_getElem? (i := 105) rfl))) (mvT hZ (hw _ (List.mem_of_getElem? (i := 106) rfl))) (notFace_of_selects (args := #[]) (mvT hZ (hw _ (List.mem_of_getElem? (i := 108) rfl)))) (mvT hZ (hw _ (List.mem_of_getElem? (i := 108) rfl))) (mvT hZ (hw _ (List.mem_of_getElem? (i := 107) rfl))) (by decide) (backOf (W := 1) (rm_length_16_3 l Z a0 hw [] sx  bb kb c0 c1 c2 csv h0 n0 Z0 E_sx Fc_sx Fv_sx V_sx SC hcs) hZ (hw _ (List.mem_of_getElem? (i := 109) rfl)) (hw _ (List.mem_of_getElem? (i := 5) rfl)) (by decide) (by decide)) q3a q3c (g := (mkF m 8 #[.val (.ref a), .val (.int cx)] [(.ref sx), (.int (2 : Int32))])) rfl (by rw [hml]; rfl) (Steps.refl _) (argsL := []) (rest := [(.int (2 : Int32))]) (lenOf pd_6 rfl) rfl (by show 2 * 0 + _ ≤ _; exact Nat.le_of_eq rfl) (hb hby d18_8) (fun _ _ => ⟨rfl, e2, (by decide : 0 + 0 ≤ _), (by decide : 0 + 0 ≤ _)⟩)
  dsimp only [Pt.U, Pt.locs, Pt.cells, Pt.slots] at X3 l3 y3 z3 st3 hQ3
  subst l3 y3 z3
  obtain ⟨rfl, N3q, e3⟩ := hQ3
  have N3 := Fr.app N0 N3q
  refine OEnds.tr (g' := (mkF m 11 #[.val (.ref a), .val (.int cx)] [(.int (3 : Int32)), (.int (2 : Int32))])) st3 ?_
  refine OEnds.go (g' := (mkF m 14 #[.val (.ref a), .val (.int cx)] [])) (fun t k => XS.icmpNo X3.here hx rfl (hb hby d18_11) rfl (tlt (by decide : ((2 : Int32) < (3 : Int32)))).2.1 k) ?_
  refine OEnds.go (g' := (mkF m 15 #[.val (.ref a), .val (.int cx)] [(.ref a)])) (fun t k => XS.aloadN X3.here hx rfl (hb hby d18_14) rfl rfl k) ?_
  obtain ⟨T4, X4, e4, st4⟩ := getF X3 hx hZ hown (host := "") (Or.inl (hw _ (List.mem_of_getElem? (i := 48) rfl))) Via.refl e3 F_text (g := (mkF m 15 #[.val (.ref a), .val (.int cx)] [(.ref a)])) rfl rfl (hb hby d18_15)
  refine OEnds.go (g' := (mkF m 18 #[.val (.ref a), .val (.int cx)] [(.ref sx)])) st4 ?_
  refine OEnds.go (g' := (mkF m 19 #[.val (.ref a), .val (.int cx)] [(.ref a), (.ref sx)])) (fun t k => XS.aloadN X4.here hx rfl (hb hby d18_18) rfl rfl k) ?_
  obtain ⟨T5, X5, e5, st5⟩ := getF X4 hx hZ hown (host := "") (Or.inl (hw _ (List.mem_of_getElem? (i := 78) rfl))) Via.refl e4 F_position (g := (mkF m 19 #[.val (.ref a), .val (.int cx)] [(.ref a), (.ref sx)])) rfl rfl (hb hby d18_19)
  refine OEnds.go (g' := (mkF m 22 #[.val (.ref a), .val (.int cx)] [(.int (2 : Int32)), (.ref sx)])) st5 ?_
  obtain ⟨cq6, kq6, q6a, q6b, q6c⟩ := isOf hZ e5 E_sx
  obtain ⟨_, _, ⟨T6, L6, k6, n6⟩, -, X6, ⟨Lc6, hQ6, l6, y6, z6⟩, st6⟩ := X5.virtualBack hx (y := (⟨"java/lang/String", "charAt", "(I)C"⟩ : MethodName)) (z := (⟨"java/lang/String", "charAt", "(I)C"⟩ : MethodName)) hown (mvT hZ (hw _ (List.mem_of_getElem? (i := 120) rfl))) (mvT hZ (hw _ (List.mem_of_getElem? (i := 121) rfl))) (notFace_of_selects (args := #[]) (mvT hZ (hw _ (List.mem_of_getElem? (i := 123) rfl)))) (mvT hZ (hw _ (List.mem_of_getElem? (i := 123) rfl))) (mvT hZ (hw _ (List.mem_of_getElem? (i := 122) rfl))) (by decide) (backOf (W := 0) (rmCA2 l Z a0 hw [] sx bb kb c0 c1 c2 csv fm h0 n0 Z0 E_sx Fc_sx Fv_sx V_sx SC hcs SF hfm hc2) hZ (hw _ (List.mem_of_getElem? (i := 124) rfl)) (hw _ (List.mem_of_getElem? (i := 5) rfl)) (by decide) (by decide)) q6a q6c (g := (mkF m 22 #[.val (.ref a), .val (.int cx)] [(.int (2 : Int32)), (.ref sx)])) rfl (by rw [hml]; rfl) (Steps.refl _) (argsL := [(.int (2 : Int32))]) (rest := []) (lenOf pd_12 rfl) rfl (by show 2 * 0 + _ ≤ _; exact Nat.le_of_eq rfl) (hb hby d18_22) (fun _ _ => ⟨rfl, e5, (by decide : 0 + 0 ≤ _), (by decide : 0 + 0 ≤ _)⟩)
  dsimp only [Pt.U, Pt.locs, Pt.cells, Pt.slots] at X6 l6 y6 z6 st6 hQ6
  subst l6 y6 z6
  obtain ⟨rfl, N6q, e6⟩ := hQ6
  have N6 := Fr.app N3 N6q
  refine OEnds.tr (g' := (mkF m 25 #[.val (.ref a), .val (.int cx)] [(.int c2)])) st6 ?_
  refine OEnds.go (g' := (mkF m 26 #[.val (.ref a), .val (.int cx)] [(.int cx), (.int c2)])) (fun t k => XS.iloadN X6.here hx rfl (hb hby d18_25) rfl k) ?_
  by_cases c26_7 : c2 = cx
  · -- yes
    refine OEnds.go (g' := (mkF m 29 #[.val (.ref a), .val (.int cx)] [])) (fun t k => XS.icmpNo X6.here hx rfl (hb hby d18_26) rfl (teq c26_7).2 k) ?_
    refine OEnds.go (g' := (mkF m 30 #[.val (.ref a), .val (.int cx)] [(.int (1 : Int32))])) (fun t k => XS.iconst X6.here hx rfl (hb hby d18_29) k) ?_
    refine OEnds.go (g' := (mkF m 34 #[.val (.ref a), .val (.int cx)] [(.int (1 : Int32))])) (fun t k => XS.goto X6.here hx rfl (pc0 := 30) (pc' := 34) rfl (hb hby d18_30) (by decide) (by decide) k) ?_
    exact OEnds.outN X6 Bd.notSynchronized hx (t := .boolean) Bd.returns (by simp) (hb hby d18_34) ⟨by show (some (.int (1 : Int32)) : Option Value) = some (.int (fIN2 cx c2)); rw [fIN2, if_pos c26_7], N6, e6⟩ (by decide) (by decide)
  · -- no
    refine OEnds.go (g' := (mkF m 33 #[.val (.ref a), .val (.int cx)] [])) (fun t k => XS.icmpYes X6.here hx rfl (pc0 := 26) (pc' := 33) rfl (hb hby d18_26) rfl (feq c26_7).2 (by decide) (by decide) k) ?_
    refine OEnds.go (g' := (mkF m 34 #[.val (.ref a), .val (.int cx)] [(.int (0 : Int32))])) (fun t k => XS.iconst X6.here hx rfl (hb hby d18_33) k) ?_
    exact OEnds.outN X6 Bd.notSynchronized hx (t := .boolean) Bd.returns (by simp) (hb hby d18_34) ⟨by show (some (.int (0 : Int32)) : Option Value) = some (.int (fIN2 cx c2)); rw [fIN2, if_neg c26_7], N6, e6⟩ (by decide) (by decide)
theorem own_xor (c : Int32) (h : 0 ≤ c.toInt ∧ c.toInt ≤ 255) : ¬ c = ((c ^^^ (1 : Int32)).toUInt32.toUInt16.toUInt32.toInt32) := by
  intro q
  have h1 := c_i2c (c ^^^ (1 : Int32))
  have h2 := c_xor2 c 1
  have e : (1 : Int32).toInt = 1 := by decide
  have h3 := congrArg Int32.toInt q
  omega
theorem own_p3 {p : Int32} (h1 : ¬ p < 0) (h2 : p < 3) : p = 0 ∨ p = 1 ∨ p = 2 := by
  have e0 : (0 : Int32).toInt = 0 := by decide
  have e3 : (3 : Int32).toInt = 3 := by decide
  rw [Int32.lt_iff_toInt_lt] at h1 h2
  have h0 : 0 ≤ p.toInt := by omega
  have h3 : p.toInt < (3 : Nat) := by omega
  exact own_fin (P := fun p => p = 0 ∨ p = 1 ∨ p = 2) 3 (by decide) p h0 h3
theorem own_e1 (c : Int32) : ¬ fIN0 c c = 0 := by rw [fIN0, if_pos rfl]; decide
theorem own_e2 (c : Int32) : ¬ fIN1 c c = 0 := by rw [fIN1, if_pos rfl]; decide
theorem own_e3 (c : Int32) : ¬ fIN2 c c = 0 := by rw [fIN2, if_pos rfl]; decide
theorem own_n1 (c : Int32) (h : 0 ≤ c.toInt ∧ c.toInt ≤ 255) : fIN0 ((c ^^^ (1 : Int32)).toUInt32.toUInt16.toUInt32.toInt32) c = 0 := by rw [fIN0, if_neg (own_xor c h)]
theorem own_n2 (c : Int32) (h : 0 ≤ c.toInt ∧ c.toInt ≤ 255) : fIN1 ((c ^^^ (1 : Int32)).toUInt32.toUInt16.toUInt32.toInt32) c = 0 := by rw [fIN1, if_neg (own_xor c h)]
theorem own_n3 (c : Int32) (h : 0 ≤ c.toInt ∧ c.toInt ≤ 255) : fIN2 ((c ^^^ (1 : Int32)).toUInt32.toUInt16.toUInt32.toInt32) c = 0 := by rw [fIN2, if_neg (own_xor c h)]
theorem ef_rm0 (m : MethodId) (x0 : Int32) (x1 : Int32) (x2 : Int32) (x3 : Int32) (x4 : Int32) : entryFrame m #[(.int x0), (.int x1), (.int x2), (.int x3), (.int x4)] maxLocals = mkF m 0 #[.val (.int x0), .val (.int x1), .val (.int x2), .val (.int x3), .val (.int x4), .unset, .unset, .unset, .unset, .unset, .unset, .unset] [] := by first | (simp [entryFrame, mkF, argsToLocals, Value.category, maxLocals]; done) | rfl
def Q_rm0 (Z : State) (p0 : Int32) (p1 : Int32) (p2 : Int32) (p3 : Int32) (p4 : Int32) (csv : Int32) (fm : Value) (h0 : Heap) (n0 : Nat) (v : Option Value) (h : Heap) (L : List Loc) : Prop := v = some (.int 1) ∧ Fr n0 L
def jrm0_208_s0 (p0 : Int32) (p1 : Int32) (p2 : Int32) (p3 : Int32) (p4 : Int32) (csv : Int32) (fm : Value) : Int32 := if p1 < (3 : Int32) then (0 : Int32) else (1 : Int32)
set_option maxRecDepth 65536 in
set_option maxHeartbeats 40000000 in
theorem rm0 (l : Launch) (Z : State) (a0 : Array Value) (hw : ∀ d ∈ tables_1, d.before a0 Z = true) (ws : List Jvm.Cond) (p0 : Int32) (p1 : Int32) (p2 : Int32) (p3 : Int32) (p4 : Int32) (csv : Int32) (fm : Value) (h0 : Heap) (n0 : Nat) (Z0 : n0 ≤ h0.size) (SC : Sta Z h0 "java/lang/String" "COMPACT_STRINGS" "Z" (.int csv)) (hcs : ¬ csv = (0 : Int32)) (SF : Sta Z h0 "jdk/internal/util/Preconditions" "SIOOBE_FORMATTER" "Ljava/util/function/BiFunction;" fm) (hfm : fm.isRef = true) :
    MetFree l x (head1 (Jvm.Cond.code x code maxLocals ret :: ws) room_1) (fun aa_ U => aa_ = #[(.int p0), (.int p1), (.int p2), (.int p3), (.int p4)] ∧ Z.Warmed39 U.vm ∧ U.heap = h0) (fun _ _ _ _ _ => True) (fun _ U o U' => ∃ v L, o = .returned v ∧ Q_rm0 Z p0 p1 p2 p3 p4 csv fm h0 n0 v U'.heap L ∧ ReturnedEndW U o U' L room_1.cells room_1.slots) := by
  refine MetFree.of_bodySF (plainFor_of_name pn_7) hisR ?_
  intro p e s m args below meth c s₁ Bd hml0 hP hK
  obtain ⟨rfl, hZ, hh⟩ := hP
  have hx := Bd.exec
  have hby := Bd.bytes
  have hml : c.maxLocals = 12 := hml0
  have hown : s.vm.findClass "com/example/shapewright/shapewright/reader/IdlScannerResetPinLaw" = some m.cls := findClass_of_methodNamed Bd.named
  have hnm := (name_of_methodNamed Bd.named Bd.method).1
  have X0 : Stand p l e room_1 (s.setVm s.vm) m #[(.int p0), (.int p1), (.int p2), (.int p3), (.int p4)] below meth c s₁ [] 0 0 := Stand.of_body Bd
  have e0 : s₁.heap = h0 := by rw [← hh, Bd.state]; rfl
  have N0 := Fr.nil n0
  show OEnds p e below (OEndPW s (Q_rm0 Z p0 p1 p2 p3 p4 csv fm h0 n0) room_1.cells room_1.slots) s₁ (entryFrame m #[(.int p0), (.int p1), (.int p2), (.int p3), (.int p4)] maxLocals)
  rw [ef_rm0 m p0 p1 p2 p3 p4]
  have hS : s.Since s.vm h0.size := (State.WarmedH.refl s).since _
  have hk : h0.size ≤ h0.size := Nat.le_refl _
  refine OEnds.go (g' := (mkF m 1 #[.val (.int p0), .val (.int p1), .val (.int p2), .val (.int p3), .val (.int p4), .unset, .unset, .unset, .unset, .unset, .unset, .unset] [(.int (3 : Int32))])) (fun t k => XS.iconst X0.here hx rfl (hb hby at_0) k) ?_
  obtain ⟨T1, h1, k1, X1, e1, E1, A1, st1⟩ := newP X0 hx hZ (hw _ (List.mem_of_getElem? (i := 0) rfl)) e0 (g := (mkF m 1 #[.val (.int p0), .val (.int p1), .val (.int p2), .val (.int p3), .val (.int p4), .unset, .unset, .unset, .unset, .unset, .unset, .unset] [(.int (3 : Int32))])) rfl (hb hby at_1) rfl (by decide) (cap := 3) (by decide) (by decide) (by decide) (by decide)
  obtain ⟨b1, g1⟩ : ∃ z, z = h0.size := ⟨_, rfl⟩
  rw [← g1] at A1 st1
  have g_b1 : n0 ≤ b1 := Nat.le_trans Z0 (Nat.le_of_eq g1.symm)
  have V_b1 : Arv Z h1 b1 k1 .char (3 : Int32) [(.int (0 : Int32)), (.int (0 : Int32)), (.int (0 : Int32))] (.int (0 : Int32)) := (Arv.new A1 (by decide)).pad (pad_rep [] (.int (0 : Int32)) 3)
  refine OEnds.go (g' := (mkF m 3 #[.val (.int p0), .val (.int p1), .val (.int p2), .val (.int p3), .val (.int p4), .unset, .unset, .unset, .unset, .unset, .unset, .unset] [(.ref b1)])) st1 ?_
  refine OEnds.go (g' := (mkF m 5 #[.val (.int p0), .val (.int p1), .val (.int p2), .val (.int p3), .val (.int p4), .val (.ref b1), .unset, .unset, .unset, .unset, .unset, .unset] [])) (fun t k => XS.astore X1.here hx rfl (hb hby at_3) rfl rfl (l' := #[.val (.int p0), .val (.int p1), .val (.int p2), .val (.int p3), .val (.int p4), .val (.ref b1), .unset, .unset, .unset, .unset, .unset, .unset]) rfl k) ?_
  refine OEnds.go (g' := (mkF m 7 #[.val (.int p0), .val (.int p1), .val (.int p2), .val (.int p3), .val (.int p4), .val (.ref b1), .unset, .unset, .unset, .unset, .unset, .unset] [(.ref b1)])) (fun t k => XS.aload X1.here hx rfl (hb hby at_5) rfl rfl k) ?_
  refine OEnds.go (g' := (mkF m 8 #[.val (.int p0), .val (.int p1), .val (.int p2), .val (.int p3), .val (.int p4), .val (.ref b1), .unset, .unset, .unset, .unset, .unset, .unset] [(.int (0 : Int32)), (.ref b1)])) (fun t k => XS.iconst X1.here hx rfl (hb hby at_7) k) ?_
  refine OEnds.go (g' := (mkF m 9 #[.val (.int p0), .val (.int p1), .val (.int p2), .val (.int p3), .val (.int p4), .val (.ref b1), .unset, .unset, .unset, .unset, .unset, .unset] [(.int p0), (.int (0 : Int32)), (.ref b1)])) (fun t k => XS.iloadN X1.here hx rfl (hb hby at_8) rfl k) ?_
  refine OEnds.go (g' := (mkF m 12 #[.val (.int p0), .val (.int p1), .val (.int p2), .val (.int p3), .val (.int p4), .val (.ref b1), .unset, .unset, .unset, .unset, .unset, .unset] [(.int (255 : Int32)), (.int p0), (.int (0 : Int32)), (.ref b1)])) (fun t k => XS.sipush X1.here hx rfl (hb hby at_9) k) ?_
  refine OEnds.go (g' := (mkF m 13 #[.val (.int p0), .val (.int p1), .val (.int p2), .val (.int p3), .val (.int p4), .val (.ref b1), .unset, .unset, .unset, .unset, .unset, .unset] [(.int (p0 &&& (255 : Int32))), (.int (0 : Int32)), (.ref b1)])) (fun t k => XS.iand X1.here hx rfl (hb hby at_12) rfl k) ?_
  refine OEnds.go (g' := (mkF m 14 #[.val (.int p0), .val (.int p1), .val (.int p2), .val (.int p3), .val (.int p4), .val (.ref b1), .unset, .unset, .unset, .unset, .unset, .unset] [(.int ((p0 &&& (255 : Int32)).toUInt32.toUInt16.toUInt32.toInt32)), (.int (0 : Int32)), (.ref b1)])) (fun t k => XS.i2c X1.here hx rfl (hb hby at_13) rfl k) ?_
  obtain ⟨cl2, Ar2, qa2, Sa2, Na2, Ha2, Ga2⟩ := @id _ V_b1
  have hin2 : ¬ ((0 : Int32) < 0 ∨ cl2.slots.size ≤ ((0 : Int32)).toNatClampNeg) := inb_of Sa2 ⟨by decide, by decide⟩
  obtain ⟨T3, h3, X3, e3, W3, st3⟩ := stC X1 hx hZ e1 Ar2 (j := (0 : Int32)) hin2 (g := (mkF m 14 #[.val (.int p0), .val (.int p1), .val (.int p2), .val (.int p3), .val (.int p4), .val (.ref b1), .unset, .unset, .unset, .unset, .unset, .unset] [(.int ((p0 &&& (255 : Int32)).toUInt32.toUInt16.toUInt32.toInt32)), (.int (0 : Int32)), (.ref b1)])) rfl rfl (hb hby at_14)
  have N3 := Fr.snoc X3 N0 g_b1
  have V3_b1 : Arv Z h3 b1 k1 .char (3 : Int32) [(.int (((p0 &&& (255 : Int32)).toUInt32.toUInt16.toUInt32.toInt32).toUInt32.toUInt16.toUInt32.toInt32)), (.int (0 : Int32)), (.int (0 : Int32))] (.int (0 : Int32)) := Arv.set Ar2 qa2 Sa2 Na2 Ha2 Ga2 (fits_nar_char _) W3 0 rfl (Nat.le_of_ble_eq_true rfl)
  rw [own_cc (own_ch _)] at V3_b1
  refine OEnds.go (g' := (mkF m 15 #[.val (.int p0), .val (.int p1), .val (.int p2), .val (.int p3), .val (.int p4), .val (.ref b1), .unset, .unset, .unset, .unset, .unset, .unset] [])) st3 ?_
  refine OEnds.go (g' := (mkF m 17 #[.val (.int p0), .val (.int p1), .val (.int p2), .val (.int p3), .val (.int p4), .val (.ref b1), .unset, .unset, .unset, .unset, .unset, .unset] [(.ref b1)])) (fun t k => XS.aload X3.here hx rfl (hb hby at_15) rfl rfl k) ?_
  refine OEnds.go (g' := (mkF m 18 #[.val (.int p0), .val (.int p1), .val (.int p2), .val (.int p3), .val (.int p4), .val (.ref b1), .unset, .unset, .unset, .unset, .unset, .unset] [(.int (1 : Int32)), (.ref b1)])) (fun t k => XS.iconst X3.here hx rfl (hb hby at_17) k) ?_
  refine OEnds.go (g' := (mkF m 19 #[.val (.int p0), .val (.int p1), .val (.int p2), .val (.int p3), .val (.int p4), .val (.ref b1), .unset, .unset, .unset, .unset, .unset, .unset] [(.int p0), (.int (1 : Int32)), (.ref b1)])) (fun t k => XS.iloadN X3.here hx rfl (hb hby at_18) rfl k) ?_
  refine OEnds.go (g' := (mkF m 21 #[.val (.int p0), .val (.int p1), .val (.int p2), .val (.int p3), .val (.int p4), .val (.ref b1), .unset, .unset, .unset, .unset, .unset, .unset] [(.int (8 : Int32)), (.int p0), (.int (1 : Int32)), (.ref b1)])) (fun t k => XS.bipush X3.here hx rfl (hb hby at_19) k) ?_
  refine OEnds.go (g' := (mkF m 22 #[.val (.int p0), .val (.int p1), .val (.int p2), .val (.int p3), .val (.int p4), .val (.ref b1), .unset, .unset, .unset, .unset, .unset, .unset] [(.int ((p0.toUInt32 >>> ((8 : Int32) &&& 31).toUInt32).toInt32)), (.int (1 : Int32)), (.ref b1)])) (fun t k => XS.iushr X3.here hx rfl (hb hby at_21) rfl k) ?_
  refine OEnds.go (g' := (mkF m 25 #[.val (.int p0), .val (.int p1), .val (.int p2), .val (.int p3), .val (.int p4), .val (.ref b1), .unset, .unset, .unset, .unset, .unset, .unset] [(.int (255 : Int32)), (.int ((p0.toUInt32 >>> ((8 : Int32) &&& 31).toUInt32).toInt32)), (.int (1 : Int32)), (.ref b1)])) (fun t k => XS.sipush X3.here hx rfl (hb hby at_22) k) ?_
  refine OEnds.go (g' := (mkF m 26 #[.val (.int p0), .val (.int p1), .val (.int p2), .val (.int p3), .val (.int p4), .val (.ref b1), .unset, .unset, .unset, .unset, .unset, .unset] [(.int (((p0.toUInt32 >>> ((8 : Int32) &&& 31).toUInt32).toInt32) &&& (255 : Int32))), (.int (1 : Int32)), (.ref b1)])) (fun t k => XS.iand X3.here hx rfl (hb hby at_25) rfl k) ?_
  refine OEnds.go (g' := (mkF m 27 #[.val (.int p0), .val (.int p1), .val (.int p2), .val (.int p3), .val (.int p4), .val (.ref b1), .unset, .unset, .unset, .unset, .unset, .unset] [(.int ((((p0.toUInt32 >>> ((8 : Int32) &&& 31).toUInt32).toInt32) &&& (255 : Int32)).toUInt32.toUInt16.toUInt32.toInt32)), (.int (1 : Int32)), (.ref b1)])) (fun t k => XS.i2c X3.here hx rfl (hb hby at_26) rfl k) ?_
  obtain ⟨cl4, Ar4, qa4, Sa4, Na4, Ha4, Ga4⟩ := @id _ V3_b1
  have hin4 : ¬ ((1 : Int32) < 0 ∨ cl4.slots.size ≤ ((1 : Int32)).toNatClampNeg) := inb_of Sa4 ⟨by decide, by decide⟩
  obtain ⟨T5, h5, X5, e5, W5, st5⟩ := stC X3 hx hZ e3 Ar4 (j := (1 : Int32)) hin4 (g := (mkF m 27 #[.val (.int p0), .val (.int p1), .val (.int p2), .val (.int p3), .val (.int p4), .val (.ref b1), .unset, .unset, .unset, .unset, .unset, .unset] [(.int ((((p0.toUInt32 >>> ((8 : Int32) &&& 31).toUInt32).toInt32) &&& (255 : Int32)).toUInt32.toUInt16.toUInt32.toInt32)), (.int (1 : Int32)), (.ref b1)])) rfl rfl (hb hby at_27)
  have N5 := Fr.snoc X5 N3 g_b1
  have V5_b1 : Arv Z h5 b1 k1 .char (3 : Int32) [(.int ((p0 &&& (255 : Int32)).toUInt32.toUInt16.toUInt32.toInt32)), (.int (((((p0.toUInt32 >>> ((8 : Int32) &&& 31).toUInt32).toInt32) &&& (255 : Int32)).toUInt32.toUInt16.toUInt32.toInt32).toUInt32.toUInt16.toUInt32.toInt32)), (.int (0 : Int32))] (.int (0 : Int32)) := Arv.set Ar4 qa4 Sa4 Na4 Ha4 Ga4 (fits_nar_char _) W5 1 rfl (Nat.le_of_ble_eq_true rfl)
  rw [own_cc (own_ch _)] at V5_b1
  refine OEnds.go (g' := (mkF m 28 #[.val (.int p0), .val (.int p1), .val (.int p2), .val (.int p3), .val (.int p4), .val (.ref b1), .unset, .unset, .unset, .unset, .unset, .unset] [])) st5 ?_
  refine OEnds.go (g' := (mkF m 30 #[.val (.int p0), .val (.int p1), .val (.int p2), .val (.int p3), .val (.int p4), .val (.ref b1), .unset, .unset, .unset, .unset, .unset, .unset] [(.ref b1)])) (fun t k => XS.aload X5.here hx rfl (hb hby at_28) rfl rfl k) ?_
  refine OEnds.go (g' := (mkF m 31 #[.val (.int p0), .val (.int p1), .val (.int p2), .val (.int p3), .val (.int p4), .val (.ref b1), .unset, .unset, .unset, .unset, .unset, .unset] [(.int (2 : Int32)), (.ref b1)])) (fun t k => XS.iconst X5.here hx rfl (hb hby at_30) k) ?_
  refine OEnds.go (g' := (mkF m 32 #[.val (.int p0), .val (.int p1), .val (.int p2), .val (.int p3), .val (.int p4), .val (.ref b1), .unset, .unset, .unset, .unset, .unset, .unset] [(.int p0), (.int (2 : Int32)), (.ref b1)])) (fun t k => XS.iloadN X5.here hx rfl (hb hby at_31) rfl k) ?_
  refine OEnds.go (g' := (mkF m 34 #[.val (.int p0), .val (.int p1), .val (.int p2), .val (.int p3), .val (.int p4), .val (.ref b1), .unset, .unset, .unset, .unset, .unset, .unset] [(.int (16 : Int32)), (.int p0), (.int (2 : Int32)), (.ref b1)])) (fun t k => XS.bipush X5.here hx rfl (hb hby at_32) k) ?_
  refine OEnds.go (g' := (mkF m 35 #[.val (.int p0), .val (.int p1), .val (.int p2), .val (.int p3), .val (.int p4), .val (.ref b1), .unset, .unset, .unset, .unset, .unset, .unset] [(.int ((p0.toUInt32 >>> ((16 : Int32) &&& 31).toUInt32).toInt32)), (.int (2 : Int32)), (.ref b1)])) (fun t k => XS.iushr X5.here hx rfl (hb hby at_34) rfl k) ?_
  refine OEnds.go (g' := (mkF m 38 #[.val (.int p0), .val (.int p1), .val (.int p2), .val (.int p3), .val (.int p4), .val (.ref b1), .unset, .unset, .unset, .unset, .unset, .unset] [(.int (255 : Int32)), (.int ((p0.toUInt32 >>> ((16 : Int32) &&& 31).toUInt32).toInt32)), (.int (2 : Int32)), (.ref b1)])) (fun t k => XS.sipush X5.here hx rfl (hb hby at_35) k) ?_
  refine OEnds.go (g' := (mkF m 39 #[.val (.int p0), .val (.int p1), .val (.int p2), .val (.int p3), .val (.int p4), .val (.ref b1), .unset, .unset, .unset, .unset, .unset, .unset] [(.int (((p0.toUInt32 >>> ((16 : Int32) &&& 31).toUInt32).toInt32) &&& (255 : Int32))), (.int (2 : Int32)), (.ref b1)])) (fun t k => XS.iand X5.here hx rfl (hb hby at_38) rfl k) ?_
  refine OEnds.go (g' := (mkF m 40 #[.val (.int p0), .val (.int p1), .val (.int p2), .val (.int p3), .val (.int p4), .val (.ref b1), .unset, .unset, .unset, .unset, .unset, .unset] [(.int ((((p0.toUInt32 >>> ((16 : Int32) &&& 31).toUInt32).toInt32) &&& (255 : Int32)).toUInt32.toUInt16.toUInt32.toInt32)), (.int (2 : Int32)), (.ref b1)])) (fun t k => XS.i2c X5.here hx rfl (hb hby at_39) rfl k) ?_
  obtain ⟨cl6, Ar6, qa6, Sa6, Na6, Ha6, Ga6⟩ := @id _ V5_b1
  have hin6 : ¬ ((2 : Int32) < 0 ∨ cl6.slots.size ≤ ((2 : Int32)).toNatClampNeg) := inb_of Sa6 ⟨by decide, by decide⟩
  obtain ⟨T7, h7, X7, e7, W7, st7⟩ := stC X5 hx hZ e5 Ar6 (j := (2 : Int32)) hin6 (g := (mkF m 40 #[.val (.int p0), .val (.int p1), .val (.int p2), .val (.int p3), .val (.int p4), .val (.ref b1), .unset, .unset, .unset, .unset, .unset, .unset] [(.int ((((p0.toUInt32 >>> ((16 : Int32) &&& 31).toUInt32).toInt32) &&& (255 : Int32)).toUInt32.toUInt16.toUInt32.toInt32)), (.int (2 : Int32)), (.ref b1)])) rfl rfl (hb hby at_40)
  have N7 := Fr.snoc X7 N5 g_b1
  have V7_b1 : Arv Z h7 b1 k1 .char (3 : Int32) [(.int ((p0 &&& (255 : Int32)).toUInt32.toUInt16.toUInt32.toInt32)), (.int ((((p0.toUInt32 >>> ((8 : Int32) &&& 31).toUInt32).toInt32) &&& (255 : Int32)).toUInt32.toUInt16.toUInt32.toInt32)), (.int (((((p0.toUInt32 >>> ((16 : Int32) &&& 31).toUInt32).toInt32) &&& (255 : Int32)).toUInt32.toUInt16.toUInt32.toInt32).toUInt32.toUInt16.toUInt32.toInt32))] (.int (0 : Int32)) := Arv.set Ar6 qa6 Sa6 Na6 Ha6 Ga6 (fits_nar_char _) W7 2 rfl (Nat.le_of_ble_eq_true rfl)
  rw [own_cc (own_ch _)] at V7_b1
  refine OEnds.go (g' := (mkF m 41 #[.val (.int p0), .val (.int p1), .val (.int p2), .val (.int p3), .val (.int p4), .val (.ref b1), .unset, .unset, .unset, .unset, .unset, .unset] [])) st7 ?_
  obtain ⟨T8, h8, X8, e8, E8, A8, D8, -, st8⟩ := newO X7 hx hZ hown (hw _ (List.mem_of_getElem? (i := 1) rfl)) (hw _ (List.mem_of_getElem? (i := 2) rfl)) (hw _ (List.mem_of_getElem? (i := 3) rfl)) e7 (g := (mkF m 41 #[.val (.int p0), .val (.int p1), .val (.int p2), .val (.int p3), .val (.int p4), .val (.ref b1), .unset, .unset, .unset, .unset, .unset, .unset] [])) rfl (hb hby at_41) (by decide) (by decide)
  obtain ⟨b8, g8⟩ : ∃ z, z = h7.size := ⟨_, rfl⟩
  rw [← g8] at A8 D8 st8
  have g_b8 : n0 ≤ b8 := Nat.le_trans (Nat.le_trans (Nat.le_trans (Nat.le_trans (Nat.le_trans Z0 E1.1) (Nat.le_of_eq W3.size.symm)) (Nat.le_of_eq W5.size.symm)) (Nat.le_of_eq W7.size.symm)) (Nat.le_of_eq g8.symm)
  have F_line_b8 : Fld Z h8 b8 "com/example/shapewright/shapewright/reader/IdlScanner" "line" "I" (.int (0 : Int32)) := D8 (Or.inl (hw _ (List.mem_of_getElem? (i := 41) rfl))) (ty := .int) (by decide)
  have F_column_b8 : Fld Z h8 b8 "com/example/shapewright/shapewright/reader/IdlScanner" "column" "I" (.int (0 : Int32)) := D8 (Or.inl (hw _ (List.mem_of_getElem? (i := 43) rfl))) (ty := .int) (by decide)
  have F_whitespaceEnd_b8 : Fld Z h8 b8 "com/example/shapewright/shapewright/reader/IdlScanner" "whitespaceEnd" "I" (.int (0 : Int32)) := D8 (Or.inl (hw _ (List.mem_of_getElem? (i := 45) rfl))) (ty := .int) (by decide)
  have F_path_b8 : Fld Z h8 b8 "com/example/shapewright/shapewright/reader/IdlScanner" "path" "Ljava/lang/String;" .null := D8 (Or.inr (hw _ (List.mem_of_getElem? (i := 47) rfl))) (ty := (.object "java/lang/String")) (by decide)
  have F_text_b8 : Fld Z h8 b8 "com/example/shapewright/shapewright/reader/IdlScanner" "text" "Ljava/lang/String;" .null := D8 (Or.inr (hw _ (List.mem_of_getElem? (i := 49) rfl))) (ty := (.object "java/lang/String")) (by decide)
  have F_position_b8 : Fld Z h8 b8 "com/example/shapewright/shapewright/reader/IdlScanner" "position" "I" (.int (0 : Int32)) := D8 (Or.inl (hw _ (List.mem_of_getElem? (i := 79) rfl))) (ty := .int) (by decide)
  refine OEnds.go (g' := (mkF m 44 #[.val (.int p0), .val (.int p1), .val (.int p2), .val (.int p3), .val (.int p4), .val (.ref b1), .unset, .unset, .unset, .unset, .unset, .unset] [(.ref b8)])) st8 ?_
  refine OEnds.go (g' := (mkF m 45 #[.val (.int p0), .val (.int p1), .val (.int p2), .val (.int p3), .val (.int p4), .val (.ref b1), .unset, .unset, .unset, .unset, .unset, .unset] [(.ref b8), (.ref b8)])) (fun t k => XS.dup X8.here hx rfl (hb hby at_44) rfl rfl k) ?_
  obtain ⟨b9, T9, h9, k9, X9, e9, E9, hS, hk, hZ, hown, st9⟩ := ldcS X8 hx hZ hown (hw _ (List.mem_of_getElem? (i := 4) rfl)) (own_wS hw) e8 hS (Nat.le_trans (Nat.le_trans (Nat.le_trans (Nat.le_trans (Nat.le_trans hk E1.1) (Nat.le_of_eq W3.size.symm)) (Nat.le_of_eq W5.size.symm)) (Nat.le_of_eq W7.size.symm)) E8.1) (g := (mkF m 45 #[.val (.int p0), .val (.int p1), .val (.int p2), .val (.int p3), .val (.int p4), .val (.ref b1), .unset, .unset, .unset, .unset, .unset, .unset] [(.ref b8), (.ref b8)])) rfl (hb hby at_45) (n := 4) (by decide) (by decide) (by decide) (by decide)
  refine OEnds.go (g' := (mkF m 47 #[.val (.int p0), .val (.int p1), .val (.int p2), .val (.int p3), .val (.int p4), .val (.ref b1), .unset, .unset, .unset, .unset, .unset, .unset] [(.ref b9), (.ref b8), (.ref b8)])) st9 ?_
  obtain ⟨T10, h10, X10, e10, E10, A10, D10, -, st10⟩ := newO X9 hx hZ hown (hw _ (List.mem_of_getElem? (i := 12) rfl)) (hw _ (List.mem_of_getElem? (i := 6) rfl)) (hw _ (List.mem_of_getElem? (i := 5) rfl)) e9 (g := (mkF m 47 #[.val (.int p0), .val (.int p1), .val (.int p2), .val (.int p3), .val (.int p4), .val (.ref b1), .unset, .unset, .unset, .unset, .unset, .unset] [(.ref b9), (.ref b8), (.ref b8)])) rfl (hb hby at_47) (by decide) (by decide)
  obtain ⟨b10, g10⟩ : ∃ z, z = h9.size := ⟨_, rfl⟩
  rw [← g10] at A10 D10 st10
  have g_b10 : n0 ≤ b10 := Nat.le_trans (Nat.le_trans (Nat.le_trans (Nat.le_trans (Nat.le_trans (Nat.le_trans (Nat.le_trans Z0 E1.1) (Nat.le_of_eq W3.size.symm)) (Nat.le_of_eq W5.size.symm)) (Nat.le_of_eq W7.size.symm)) E8.1) E9.1) (Nat.le_of_eq g10.symm)
  have F_value_b10 : Fld Z h10 b10 "java/lang/String" "value" "[B" .null := D10 (Or.inr (hw _ (List.mem_of_getElem? (i := 8) rfl))) (ty := (.array .byte)) (by decide)
  have F_coder_b10 : Fld Z h10 b10 "java/lang/String" "coder" "B" (.int (0 : Int32)) := D10 (Or.inr (hw _ (List.mem_of_getElem? (i := 9) rfl))) (ty := .byte) (by decide)
  refine OEnds.go (g' := (mkF m 50 #[.val (.int p0), .val (.int p1), .val (.int p2), .val (.int p3), .val (.int p4), .val (.ref b1), .unset, .unset, .unset, .unset, .unset, .unset] [(.ref b10), (.ref b9), (.ref b8), (.ref b8)])) st10 ?_
  refine OEnds.go (g' := (mkF m 51 #[.val (.int p0), .val (.int p1), .val (.int p2), .val (.int p3), .val (.int p4), .val (.ref b1), .unset, .unset, .unset, .unset, .unset, .unset] [(.ref b10), (.ref b10), (.ref b9), (.ref b8), (.ref b8)])) (fun t k => XS.dup X10.here hx rfl (hb hby at_50) rfl rfl k) ?_
  refine OEnds.go (g' := (mkF m 53 #[.val (.int p0), .val (.int p1), .val (.int p2), .val (.int p3), .val (.int p4), .val (.ref b1), .unset, .unset, .unset, .unset, .unset, .unset] [(.ref b1), (.ref b10), (.ref b10), (.ref b9), (.ref b8), (.ref b8)])) (fun t k => XS.aload X10.here hx rfl (hb hby at_51) rfl rfl k) ?_
  obtain ⟨_, _, ⟨T11, L11, k11, n11⟩, -, X11, ⟨Lc11, hQ11, l11, y11, z11⟩, st11⟩ := X10.specialBack hx (y := (⟨"java/lang/String", "<init>", "([C)V"⟩ : MethodName)) rfl hown (mvT hZ (hw _ (List.mem_of_getElem? (i := 13) rfl))) (mvT hZ (hw _ (List.mem_of_getElem? (i := 14) rfl))) (mvT hZ (hw _ (List.mem_of_getElem? (i := 15) rfl))) (by decide) (backOf (W := 4) (rmI1_3 l Z a0 hw [] b10 b1 k1 ((p0 &&& (255 : Int32)).toUInt32.toUInt16.toUInt32.toInt32) ((((p0.toUInt32 >>> ((8 : Int32) &&& 31).toUInt32).toInt32) &&& (255 : Int32)).toUInt32.toUInt16.toUInt32.toInt32) ((((p0.toUInt32 >>> ((16 : Int32) &&& 31).toUInt32).toInt32) &&& (255 : Int32)).toUInt32.toUInt16.toUInt32.toInt32) csv h10 n0 (Nat.le_trans (Nat.le_trans (Nat.le_trans (Nat.le_trans (Nat.le_trans (Nat.le_trans (Nat.le_trans Z0 E1.1) (Nat.le_of_eq W3.size.symm)) (Nat.le_of_eq W5.size.symm)) (Nat.le_of_eq W7.size.symm)) E8.1) E9.1) E10.1) A10 F_coder_b10 F_value_b10 g_b10 (((V7_b1.ext E8).ext E9).ext E10) (((((((SC.ext E1).wr W3).wr W5).wr W7).ext E8).ext E9).ext E10) hcs (Nat.ne_of_lt (Nat.lt_of_lt_of_le ((V7_b1.ext E8).ext E9).lt (Nat.le_of_eq g10.symm))) (own_ch _) (own_ch _) (own_ch _)) hZ (hw _ (List.mem_of_getElem? (i := 15) rfl)) (hw _ (List.mem_of_getElem? (i := 5) rfl)) (by decide) (by decide)) (g := (mkF m 53 #[.val (.int p0), .val (.int p1), .val (.int p2), .val (.int p3), .val (.int p4), .val (.ref b1), .unset, .unset, .unset, .unset, .unset, .unset] [(.ref b1), (.ref b10), (.ref b10), (.ref b9), (.ref b8), (.ref b8)])) rfl (by rw [hml]; rfl) (Steps.refl _) (a := b10) (argsL := [(.ref b1)]) (rest := [(.ref b10), (.ref b9), (.ref b8), (.ref b8)]) (lenOf pd_13 rfl) rfl (by show 2 * 0 + _ ≤ _; exact Nat.le_of_eq rfl) (hb hby at_53) (fun _ _ => ⟨rfl, e10, (by decide : 5 + 1 ≤ _), (by decide : 24 + 3 ≤ _)⟩)
  dsimp only [Pt.U, Pt.locs, Pt.cells, Pt.slots] at X11 l11 y11 z11 st11 hQ11
  subst l11 y11 z11
  obtain ⟨rfl, N11q, K11q, E11q, Fc11q, b11, kb11, Fv11q, g_b11, s_b11, V11q⟩ := hQ11
  have N11 := Fr.app N7 N11q
  refine OEnds.tr (g' := (mkF m 56 #[.val (.int p0), .val (.int p1), .val (.int p2), .val (.int p3), .val (.int p4), .val (.ref b1), .unset, .unset, .unset, .unset, .unset, .unset] [(.ref b10), (.ref b9), (.ref b8), (.ref b8)])) st11 ?_
  obtain ⟨_, _, ⟨T12, L12, k12, n12⟩, -, X12, ⟨Lc12, hQ12, l12, y12, z12⟩, st12⟩ := X11.specialBack hx (y := (⟨"com/example/shapewright/shapewright/reader/IdlScanner", "<init>", "(Ljava/lang/String;Ljava/lang/String;)V"⟩ : MethodName)) rfl hown (mvT hZ (hw _ (List.mem_of_getElem? (i := 36) rfl))) (mvT hZ (hw _ (List.mem_of_getElem? (i := 37) rfl))) (mvT hZ (hw _ (List.mem_of_getElem? (i := 38) rfl))) (by decide) (backOf (W := 1) (rm7 l Z a0 hw [] b8 b9 b10 T11.heap n0 (Nat.le_trans (Nat.le_trans (Nat.le_trans (Nat.le_trans (Nat.le_trans (Nat.le_trans (Nat.le_trans (Nat.le_trans Z0 E1.1) (Nat.le_of_eq W3.size.symm)) (Nat.le_of_eq W5.size.symm)) (Nat.le_of_eq W7.size.symm)) E8.1) E9.1) E10.1) K11q.1) (((A8.ext E9).ext E10).keep K11q) (((F_position_b8.ext E9).ext E10).keep K11q (ninS (Nat.ne_of_lt (Nat.lt_of_lt_of_le (A8.ext E9).lt (Nat.le_of_eq g10.symm))) nin0)) (((F_line_b8.ext E9).ext E10).keep K11q (ninS (Nat.ne_of_lt (Nat.lt_of_lt_of_le (A8.ext E9).lt (Nat.le_of_eq g10.symm))) nin0)) (((F_column_b8.ext E9).ext E10).keep K11q (ninS (Nat.ne_of_lt (Nat.lt_of_lt_of_le (A8.ext E9).lt (Nat.le_of_eq g10.symm))) nin0)) (((F_whitespaceEnd_b8.ext E9).ext E10).keep K11q (ninS (Nat.ne_of_lt (Nat.lt_of_lt_of_le (A8.ext E9).lt (Nat.le_of_eq g10.symm))) nin0)) (((F_path_b8.ext E9).ext E10).keep K11q (ninS (Nat.ne_of_lt (Nat.lt_of_lt_of_le (A8.ext E9).lt (Nat.le_of_eq g10.symm))) nin0)) (((F_text_b8.ext E9).ext E10).keep K11q (ninS (Nat.ne_of_lt (Nat.lt_of_lt_of_le (A8.ext E9).lt (Nat.le_of_eq g10.symm))) nin0)) g_b8) hZ (hw _ (List.mem_of_getElem? (i := 38) rfl)) (hw _ (List.mem_of_getElem? (i := 3) rfl)) (by decide) (by decide)) (g := (mkF m 56 #[.val (.int p0), .val (.int p1), .val (.int p2), .val (.int p3), .val (.int p4), .val (.ref b1), .unset, .unset, .unset, .unset, .unset, .unset] [(.ref b10), (.ref b9), (.ref b8), (.ref b8)])) rfl (by rw [hml]; rfl) (Steps.refl _) (a := b8) (argsL := [(.ref b9), (.ref b10)]) (rest := [(.ref b8)]) (lenOf pd_14 rfl) rfl (by show 2 * 0 + _ ≤ _; exact Nat.le_of_eq rfl) (hb hby at_56) (fun _ _ => ⟨rfl, rfl, (by decide : 6 + 0 ≤ _), (by decide : 27 + 0 ≤ _)⟩)
  dsimp only [Pt.U, Pt.locs, Pt.cells, Pt.slots] at X12 l12 y12 z12 st12 hQ12
  subst l12 y12 z12
  obtain ⟨rfl, N12q, K12q, E12q, Fposition_12q, Fline_12q, Fcolumn_12q, Ft_12q⟩ := hQ12
  have N12 := Fr.app N11 N12q
  refine OEnds.tr (g' := (mkF m 59 #[.val (.int p0), .val (.int p1), .val (.int p2), .val (.int p3), .val (.int p4), .val (.ref b1), .unset, .unset, .unset, .unset, .unset, .unset] [(.ref b8)])) st12 ?_
  refine OEnds.go (g' := (mkF m 61 #[.val (.int p0), .val (.int p1), .val (.int p2), .val (.int p3), .val (.int p4), .val (.ref b1), .val (.ref b8), .unset, .unset, .unset, .unset, .unset] [])) (fun t k => XS.astore X12.here hx rfl (hb hby at_59) rfl rfl (l' := #[.val (.int p0), .val (.int p1), .val (.int p2), .val (.int p3), .val (.int p4), .val (.ref b1), .val (.ref b8), .unset, .unset, .unset, .unset, .unset]) rfl k) ?_
  obtain ⟨T13, h13, X13, e13, E13, A13, D13, -, st13⟩ := newO X12 hx hZ hown (hw _ (List.mem_of_getElem? (i := 50) rfl)) (hw _ (List.mem_of_getElem? (i := 51) rfl)) (hw _ (List.mem_of_getElem? (i := 52) rfl)) rfl (g := (mkF m 61 #[.val (.int p0), .val (.int p1), .val (.int p2), .val (.int p3), .val (.int p4), .val (.ref b1), .val (.ref b8), .unset, .unset, .unset, .unset, .unset] [])) rfl (hb hby at_61) (by decide) (by decide)
  obtain ⟨b13, g13⟩ : ∃ z, z = T12.heap.size := ⟨_, rfl⟩
  rw [← g13] at A13 D13 st13
  have g_b13 : n0 ≤ b13 := Nat.le_trans (Nat.le_trans (Nat.le_trans (Nat.le_trans (Nat.le_trans (Nat.le_trans (Nat.le_trans (Nat.le_trans (Nat.le_trans (Nat.le_trans Z0 E1.1) (Nat.le_of_eq W3.size.symm)) (Nat.le_of_eq W5.size.symm)) (Nat.le_of_eq W7.size.symm)) E8.1) E9.1) E10.1) K11q.1) K12q.1) (Nat.le_of_eq g13.symm)
  have F_position_b13 : Fld Z h13 b13 "com/example/shapewright/shapewright/reader/IdlScanner$Mark" "position" "I" (.int (0 : Int32)) := D13 (Or.inr (hw _ (List.mem_of_getElem? (i := 63) rfl))) (ty := .int) (by decide)
  have F_line_b13 : Fld Z h13 b13 "com/example/shapewright/shapewright/reader/IdlScanner$Mark" "line" "I" (.int (0 : Int32)) := D13 (Or.inr (hw _ (List.mem_of_getElem? (i := 65) rfl))) (ty := .int) (by decide)
  have F_column_b13 : Fld Z h13 b13 "com/example/shapewright/shapewright/reader/IdlScanner$Mark" "column" "I" (.int (0 : Int32)) := D13 (Or.inr (hw _ (List.mem_of_getElem? (i := 67) rfl))) (ty := .int) (by decide)
  refine OEnds.go (g' := (mkF m 64 #[.val (.int p0), .val (.int p1), .val (.int p2), .val (.int p3), .val (.int p4), .val (.ref b1), .val (.ref b8), .unset, .unset, .unset, .unset, .unset] [(.ref b13)])) st13 ?_
  refine OEnds.go (g' := (mkF m 65 #[.val (.int p0), .val (.int p1), .val (.int p2), .val (.int p3), .val (.int p4), .val (.ref b1), .val (.ref b8), .unset, .unset, .unset, .unset, .unset] [(.ref b13), (.ref b13)])) (fun t k => XS.dup X13.here hx rfl (hb hby at_64) rfl rfl k) ?_
  refine OEnds.go (g' := (mkF m 67 #[.val (.int p0), .val (.int p1), .val (.int p2), .val (.int p3), .val (.int p4), .val (.ref b1), .val (.ref b8), .unset, .unset, .unset, .unset, .unset] [(.int p4), (.ref b13), (.ref b13)])) (fun t k => XS.iload X13.here hx rfl (hb hby at_65) rfl k) ?_
  refine OEnds.go (g' := (mkF m 68 #[.val (.int p0), .val (.int p1), .val (.int p2), .val (.int p3), .val (.int p4), .val (.ref b1), .val (.ref b8), .unset, .unset, .unset, .unset, .unset] [(.int p3), (.int p4), (.ref b13), (.ref b13)])) (fun t k => XS.iloadN X13.here hx rfl (hb hby at_67) rfl k) ?_
  refine OEnds.go (g' := (mkF m 69 #[.val (.int p0), .val (.int p1), .val (.int p2), .val (.int p3), .val (.int p4), .val (.ref b1), .val (.ref b8), .unset, .unset, .unset, .unset, .unset] [(.int p2), (.int p3), (.int p4), (.ref b13), (.ref b13)])) (fun t k => XS.iloadN X13.here hx rfl (hb hby at_68) rfl k) ?_
  obtain ⟨_, _, ⟨T14, L14, k14, n14⟩, -, X14, ⟨Lc14, hQ14, l14, y14, z14⟩, st14⟩ := X13.specialBack hx (y := (⟨"com/example/shapewright/shapewright/reader/IdlScanner$Mark", "<init>", "(III)V"⟩ : MethodName)) rfl hown (mvT hZ (hw _ (List.mem_of_getElem? (i := 53) rfl))) (mvT hZ (hw _ (List.mem_of_getElem? (i := 54) rfl))) (mvT hZ (hw _ (List.mem_of_getElem? (i := 55) rfl))) (by decide) (backOf (W := 1) (rm8 l Z a0 hw [] b13 p4 p3 p2 h13 n0 (Nat.le_trans (Nat.le_trans (Nat.le_trans (Nat.le_trans (Nat.le_trans (Nat.le_trans (Nat.le_trans (Nat.le_trans (Nat.le_trans (Nat.le_trans Z0 E1.1) (Nat.le_of_eq W3.size.symm)) (Nat.le_of_eq W5.size.symm)) (Nat.le_of_eq W7.size.symm)) E8.1) E9.1) E10.1) K11q.1) K12q.1) E13.1) A13 F_position_b13 F_line_b13 F_column_b13 g_b13) hZ (hw _ (List.mem_of_getElem? (i := 55) rfl)) (hw _ (List.mem_of_getElem? (i := 52) rfl)) (by decide) (by decide)) (g := (mkF m 69 #[.val (.int p0), .val (.int p1), .val (.int p2), .val (.int p3), .val (.int p4), .val (.ref b1), .val (.ref b8), .unset, .unset, .unset, .unset, .unset] [(.int p2), (.int p3), (.int p4), (.ref b13), (.ref b13)])) rfl (by rw [hml]; rfl) (Steps.refl _) (a := b13) (argsL := [(.int p4), (.int p3), (.int p2)]) (rest := [(.ref b13)]) (lenOf pd_7 rfl) rfl (by show 2 * 0 + _ ≤ _; exact Nat.le_of_eq rfl) (hb hby at_69) (fun _ _ => ⟨rfl, e13, (by decide : 7 + 0 ≤ _), (by decide : 30 + 0 ≤ _)⟩)
  dsimp only [Pt.U, Pt.locs, Pt.cells, Pt.slots] at X14 l14 y14 z14 st14 hQ14
  subst l14 y14 z14
  obtain ⟨rfl, N14q, K14q, E14q, Fposition_14q, Fline_14q, Fcolumn_14q⟩ := hQ14
  have N14 := Fr.app N12 N14q
  refine OEnds.tr (g' := (mkF m 72 #[.val (.int p0), .val (.int p1), .val (.int p2), .val (.int p3), .val (.int p4), .val (.ref b1), .val (.ref b8), .unset, .unset, .unset, .unset, .unset] [(.ref b13)])) st14 ?_
  refine OEnds.go (g' := (mkF m 74 #[.val (.int p0), .val (.int p1), .val (.int p2), .val (.int p3), .val (.int p4), .val (.ref b1), .val (.ref b8), .val (.ref b13), .unset, .unset, .unset, .unset] [])) (fun t k => XS.astore X14.here hx rfl (hb hby at_72) rfl rfl (l' := #[.val (.int p0), .val (.int p1), .val (.int p2), .val (.int p3), .val (.int p4), .val (.ref b1), .val (.ref b8), .val (.ref b13), .unset, .unset, .unset, .unset]) rfl k) ?_
  obtain ⟨T15, h15, X15, e15, E15, A15, D15, -, st15⟩ := newO X14 hx hZ hown (hw _ (List.mem_of_getElem? (i := 50) rfl)) (hw _ (List.mem_of_getElem? (i := 51) rfl)) (hw _ (List.mem_of_getElem? (i := 52) rfl)) rfl (g := (mkF m 74 #[.val (.int p0), .val (.int p1), .val (.int p2), .val (.int p3), .val (.int p4), .val (.ref b1), .val (.ref b8), .val (.ref b13), .unset, .unset, .unset, .unset] [])) rfl (hb hby at_74) (by decide) (by decide)
  obtain ⟨b15, g15⟩ : ∃ z, z = T14.heap.size := ⟨_, rfl⟩
  rw [← g15] at A15 D15 st15
  have g_b15 : n0 ≤ b15 := Nat.le_trans (Nat.le_trans (Nat.le_trans (Nat.le_trans (Nat.le_trans (Nat.le_trans (Nat.le_trans (Nat.le_trans (Nat.le_trans (Nat.le_trans (Nat.le_trans (Nat.le_trans Z0 E1.1) (Nat.le_of_eq W3.size.symm)) (Nat.le_of_eq W5.size.symm)) (Nat.le_of_eq W7.size.symm)) E8.1) E9.1) E10.1) K11q.1) K12q.1) E13.1) K14q.1) (Nat.le_of_eq g15.symm)
  have F_position_b15 : Fld Z h15 b15 "com/example/shapewright/shapewright/reader/IdlScanner$Mark" "position" "I" (.int (0 : Int32)) := D15 (Or.inr (hw _ (List.mem_of_getElem? (i := 63) rfl))) (ty := .int) (by decide)
  have F_line_b15 : Fld Z h15 b15 "com/example/shapewright/shapewright/reader/IdlScanner$Mark" "line" "I" (.int (0 : Int32)) := D15 (Or.inr (hw _ (List.mem_of_getElem? (i := 65) rfl))) (ty := .int) (by decide)
  have F_column_b15 : Fld Z h15 b15 "com/example/shapewright/shapewright/reader/IdlScanner$Mark" "column" "I" (.int (0 : Int32)) := D15 (Or.inr (hw _ (List.mem_of_getElem? (i := 67) rfl))) (ty := .int) (by decide)
  refine OEnds.go (g' := (mkF m 77 #[.val (.int p0), .val (.int p1), .val (.int p2), .val (.int p3), .val (.int p4), .val (.ref b1), .val (.ref b8), .val (.ref b13), .unset, .unset, .unset, .unset] [(.ref b15)])) st15 ?_
  refine OEnds.go (g' := (mkF m 78 #[.val (.int p0), .val (.int p1), .val (.int p2), .val (.int p3), .val (.int p4), .val (.ref b1), .val (.ref b8), .val (.ref b13), .unset, .unset, .unset, .unset] [(.ref b15), (.ref b15)])) (fun t k => XS.dup X15.here hx rfl (hb hby at_77) rfl rfl k) ?_
  refine OEnds.go (g' := (mkF m 79 #[.val (.int p0), .val (.int p1), .val (.int p2), .val (.int p3), .val (.int p4), .val (.ref b1), .val (.ref b8), .val (.ref b13), .unset, .unset, .unset, .unset] [(.int p1), (.ref b15), (.ref b15)])) (fun t k => XS.iloadN X15.here hx rfl (hb hby at_78) rfl k) ?_
  refine OEnds.go (g' := (mkF m 80 #[.val (.int p0), .val (.int p1), .val (.int p2), .val (.int p3), .val (.int p4), .val (.ref b1), .val (.ref b8), .val (.ref b13), .unset, .unset, .unset, .unset] [(.int p2), (.int p1), (.ref b15), (.ref b15)])) (fun t k => XS.iloadN X15.here hx rfl (hb hby at_79) rfl k) ?_
  refine OEnds.go (g' := (mkF m 81 #[.val (.int p0), .val (.int p1), .val (.int p2), .val (.int p3), .val (.int p4), .val (.ref b1), .val (.ref b8), .val (.ref b13), .unset, .unset, .unset, .unset] [(.int p3), (.int p2), (.int p1), (.ref b15), (.ref b15)])) (fun t k => XS.iloadN X15.here hx rfl (hb hby at_80) rfl k) ?_
  obtain ⟨_, _, ⟨T16, L16, k16, n16⟩, -, X16, ⟨Lc16, hQ16, l16, y16, z16⟩, st16⟩ := X15.specialBack hx (y := (⟨"com/example/shapewright/shapewright/reader/IdlScanner$Mark", "<init>", "(III)V"⟩ : MethodName)) rfl hown (mvT hZ (hw _ (List.mem_of_getElem? (i := 53) rfl))) (mvT hZ (hw _ (List.mem_of_getElem? (i := 54) rfl))) (mvT hZ (hw _ (List.mem_of_getElem? (i := 55) rfl))) (by decide) (backOf (W := 1) (rm8 l Z a0 hw [] b15 p1 p2 p3 h15 n0 (Nat.le_trans (Nat.le_trans (Nat.le_trans (Nat.le_trans (Nat.le_trans (Nat.le_trans (Nat.le_trans (Nat.le_trans (Nat.le_trans (Nat.le_trans (Nat.le_trans (Nat.le_trans Z0 E1.1) (Nat.le_of_eq W3.size.symm)) (Nat.le_of_eq W5.size.symm)) (Nat.le_of_eq W7.size.symm)) E8.1) E9.1) E10.1) K11q.1) K12q.1) E13.1) K14q.1) E15.1) A15 F_position_b15 F_line_b15 F_column_b15 g_b15) hZ (hw _ (List.mem_of_getElem? (i := 55) rfl)) (hw _ (List.mem_of_getElem? (i := 52) rfl)) (by decide) (by decide)) (g := (mkF m 81 #[.val (.int p0), .val (.int p1), .val (.int p2), .val (.int p3), .val (.int p4), .val (.ref b1), .val (.ref b8), .val (.ref b13), .unset, .unset, .unset, .unset] [(.int p3), (.int p2), (.int p1), (.ref b15), (.ref b15)])) rfl (by rw [hml]; rfl) (Steps.refl _) (a := b15) (argsL := [(.int p1), (.int p2), (.int p3)]) (rest := [(.ref b15)]) (lenOf pd_7 rfl) rfl (by show 2 * 0 + _ ≤ _; exact Nat.le_of_eq rfl) (hb hby at_81) (fun _ _ => ⟨rfl, e15, (by decide : 8 + 0 ≤ _), (by decide : 33 + 0 ≤ _)⟩)
  dsimp only [Pt.U, Pt.locs, Pt.cells, Pt.slots] at X16 l16 y16 z16 st16 hQ16
  subst l16 y16 z16
  obtain ⟨rfl, N16q, K16q, E16q, Fposition_16q, Fline_16q, Fcolumn_16q⟩ := hQ16
  have N16 := Fr.app N14 N16q
  refine OEnds.tr (g' := (mkF m 84 #[.val (.int p0), .val (.int p1), .val (.int p2), .val (.int p3), .val (.int p4), .val (.ref b1), .val (.ref b8), .val (.ref b13), .unset, .unset, .unset, .unset] [(.ref b15)])) st16 ?_
  refine OEnds.go (g' := (mkF m 86 #[.val (.int p0), .val (.int p1), .val (.int p2), .val (.int p3), .val (.int p4), .val (.ref b1), .val (.ref b8), .val (.ref b13), .val (.ref b15), .unset, .unset, .unset] [])) (fun t k => XS.astore X16.here hx rfl (hb hby at_84) rfl rfl (l' := #[.val (.int p0), .val (.int p1), .val (.int p2), .val (.int p3), .val (.int p4), .val (.ref b1), .val (.ref b8), .val (.ref b13), .val (.ref b15), .unset, .unset, .unset]) rfl k) ?_
  refine OEnds.go (g' := (mkF m 88 #[.val (.int p0), .val (.int p1), .val (.int p2), .val (.int p3), .val (.int p4), .val (.ref b1), .val (.ref b8), .val (.ref b13), .val (.ref b15), .unset, .unset, .unset] [(.ref b8)])) (fun t k => XS.aload X16.here hx rfl (hb hby at_86) rfl rfl k) ?_
  refine OEnds.go (g' := (mkF m 90 #[.val (.int p0), .val (.int p1), .val (.int p2), .val (.int p3), .val (.int p4), .val (.ref b1), .val (.ref b8), .val (.ref b13), .val (.ref b15), .unset, .unset, .unset] [(.ref b13), (.ref b8)])) (fun t k => XS.aload X16.here hx rfl (hb hby at_88) rfl rfl k) ?_
  obtain ⟨cq17, kq17, q17a, q17b, q17c⟩ := isOf hZ rfl ((((E12q.ext E13).keep K14q).ext E15).keep K16q)
  obtain ⟨_, _, ⟨T17, L17, k17, n17⟩, -, X17, ⟨Lc17, hQ17, l17, y17, z17⟩, st17⟩ := X16.virtualBack hx (y := (⟨"com/example/shapewright/shapewright/reader/IdlScanner", "reset", "(Lcom/example/shapewright/shapewright/reader/IdlScanner$Mark;)V"⟩ : MethodName)) (z := (⟨"com/example/shapewright/shapewright/reader/IdlScanner", "reset", "(Lcom/example/shapewright/shapewright/reader/IdlScanner$Mark;)V"⟩ : MethodName)) hown (mvT hZ (hw _ (List.mem_of_getElem? (i := 68) rfl))) (mvT hZ (hw _ (List.mem_of_getElem? (i := 69) rfl))) (notFace_of_selects (args := #[]) (mvT hZ (hw _ (List.mem_of_getElem? (i := 71) rfl)))) (mvT hZ (hw _ (List.mem_of_getElem? (i := 71) rfl))) (mvT hZ (hw _ (List.mem_of_getElem? (i := 70) rfl))) (by decide) (backOf (W := 0) (rm10 l Z a0 hw [] b8 b13 (0 : Int32) (1 : Int32) (1 : Int32) p4 p3 p2 b10 T16.heap n0 (Nat.le_trans (Nat.le_trans (Nat.le_trans (Nat.le_trans (Nat.le_trans (Nat.le_trans (Nat.le_trans (Nat.le_trans (Nat.le_trans (Nat.le_trans (Nat.le_trans (Nat.le_trans (Nat.le_trans Z0 E1.1) (Nat.le_of_eq W3.size.symm)) (Nat.le_of_eq W5.size.symm)) (Nat.le_of_eq W7.size.symm)) E8.1) E9.1) E10.1) K11q.1) K12q.1) E13.1) K14q.1) E15.1) K16q.1) ((((E12q.ext E13).keep K14q).ext E15).keep K16q) ((E14q.ext E15).keep K16q) ((((Fposition_12q.ext E13).keep K14q (ninS (Nat.ne_of_lt (Nat.lt_of_lt_of_le E12q.lt (Nat.le_of_eq g13.symm))) nin0)).ext E15).keep K16q (ninS (Nat.ne_of_lt (Nat.lt_of_lt_of_le ((E12q.ext E13).keep K14q).lt (Nat.le_of_eq g15.symm))) nin0)) ((((Fline_12q.ext E13).keep K14q (ninS (Nat.ne_of_lt (Nat.lt_of_lt_of_le E12q.lt (Nat.le_of_eq g13.symm))) nin0)).ext E15).keep K16q (ninS (Nat.ne_of_lt (Nat.lt_of_lt_of_le ((E12q.ext E13).keep K14q).lt (Nat.le_of_eq g15.symm))) nin0)) ((((Fcolumn_12q.ext E13).keep K14q (ninS (Nat.ne_of_lt (Nat.lt_of_lt_of_le E12q.lt (Nat.le_of_eq g13.symm))) nin0)).ext E15).keep K16q (ninS (Nat.ne_of_lt (Nat.lt_of_lt_of_le ((E12q.ext E13).keep K14q).lt (Nat.le_of_eq g15.symm))) nin0)) ((Fposition_14q.ext E15).keep K16q (ninS (Nat.ne_of_lt (Nat.lt_of_lt_of_le E14q.lt (Nat.le_of_eq g15.symm))) nin0)) ((Fline_14q.ext E15).keep K16q (ninS (Nat.ne_of_lt (Nat.lt_of_lt_of_le E14q.lt (Nat.le_of_eq g15.symm))) nin0)) ((Fcolumn_14q.ext E15).keep K16q (ninS (Nat.ne_of_lt (Nat.lt_of_lt_of_le E14q.lt (Nat.le_of_eq g15.symm))) nin0)) ((((Ft_12q.ext E13).keep K14q (ninS (Nat.ne_of_lt (Nat.lt_of_lt_of_le E12q.lt (Nat.le_of_eq g13.symm))) nin0)).ext E15).keep K16q (ninS (Nat.ne_of_lt (Nat.lt_of_lt_of_le ((E12q.ext E13).keep K14q).lt (Nat.le_of_eq g15.symm))) nin0)) g_b8 (Exa.ne ((E14q.ext E15).keep K16q) ((((E12q.ext E13).keep K14q).ext E15).keep K16q) (by decide))) hZ (hw _ (List.mem_of_getElem? (i := 72) rfl)) (hw _ (List.mem_of_getElem? (i := 3) rfl)) (by decide) (by decide)) q17a q17c (g := (mkF m 90 #[.val (.int p0), .val (.int p1), .val (.int p2), .val (.int p3), .val (.int p4), .val (.ref b1), .val (.ref b8), .val (.ref b13), .val (.ref b15), .unset, .unset, .unset] [(.ref b13), (.ref b8)])) rfl (by rw [hml]; rfl) (Steps.refl _) (argsL := [(.ref b13)]) (rest := []) (lenOf pd_15 rfl) rfl (by show 2 * 0 + _ ≤ _; exact Nat.le_of_eq rfl) (hb hby at_90) (fun _ _ => ⟨rfl, rfl, (by decide : 8 + 0 ≤ _), (by decide : 33 + 0 ≤ _)⟩)
  dsimp only [Pt.U, Pt.locs, Pt.cells, Pt.slots] at X17 l17 y17 z17 st17 hQ17
  subst l17 y17 z17
  obtain ⟨rfl, N17q, K17q, E17q, Fposition_17q, Fline_17q, Fcolumn_17q, Ft_17q⟩ := hQ17
  have N17 := Fr.app N16 N17q
  refine OEnds.tr (g' := (mkF m 93 #[.val (.int p0), .val (.int p1), .val (.int p2), .val (.int p3), .val (.int p4), .val (.ref b1), .val (.ref b8), .val (.ref b13), .val (.ref b15), .unset, .unset, .unset] [])) st17 ?_
  refine OEnds.go (g' := (mkF m 95 #[.val (.int p0), .val (.int p1), .val (.int p2), .val (.int p3), .val (.int p4), .val (.ref b1), .val (.ref b8), .val (.ref b13), .val (.ref b15), .unset, .unset, .unset] [(.ref b8)])) (fun t k => XS.aload X17.here hx rfl (hb hby at_93) rfl rfl k) ?_
  obtain ⟨cq18, kq18, q18a, q18b, q18c⟩ := isOf hZ rfl E17q
  obtain ⟨_, _, ⟨T18, L18, k18, n18⟩, -, X18, ⟨Lc18, hQ18, l18, y18, z18⟩, st18⟩ := X17.virtualBack hx (y := (⟨"com/example/shapewright/shapewright/reader/IdlScanner", "mark", "()Lcom/example/shapewright/shapewright/reader/IdlScanner$Mark;"⟩ : MethodName)) (z := (⟨"com/example/shapewright/shapewright/reader/IdlScanner", "mark", "()Lcom/example/shapewright/shapewright/reader/IdlScanner$Mark;"⟩ : MethodName)) hown (mvT hZ (hw _ (List.mem_of_getElem? (i := 90) rfl))) (mvT hZ (hw _ (List.mem_of_getElem? (i := 91) rfl))) (notFace_of_selects (args := #[]) (mvT hZ (hw _ (List.mem_of_getElem? (i := 93) rfl)))) (mvT hZ (hw _ (List.mem_of_getElem? (i := 93) rfl))) (mvT hZ (hw _ (List.mem_of_getElem? (i := 92) rfl))) (by decide) (backOf (W := 0) (rm14 l Z a0 hw [] b8 p4 p3 p2 T17.heap n0 (Nat.le_trans (Nat.le_trans (Nat.le_trans (Nat.le_trans (Nat.le_trans (Nat.le_trans (Nat.le_trans (Nat.le_trans (Nat.le_trans (Nat.le_trans (Nat.le_trans (Nat.le_trans (Nat.le_trans (Nat.le_trans Z0 E1.1) (Nat.le_of_eq W3.size.symm)) (Nat.le_of_eq W5.size.symm)) (Nat.le_of_eq W7.size.symm)) E8.1) E9.1) E10.1) K11q.1) K12q.1) E13.1) K14q.1) E15.1) K16q.1) K17q.1) Fposition_17q Fline_17q Fcolumn_17q) hZ (hw _ (List.mem_of_getElem? (i := 94) rfl)) (hw _ (List.mem_of_getElem? (i := 3) rfl)) (by decide) (by decide)) q18a q18c (g := (mkF m 95 #[.val (.int p0), .val (.int p1), .val (.int p2), .val (.int p3), .val (.int p4), .val (.ref b1), .val (.ref b8), .val (.ref b13), .val (.ref b15), .unset, .unset, .unset] [(.ref b8)])) rfl (by rw [hml]; rfl) (Steps.refl _) (argsL := []) (rest := []) (lenOf pd_16 rfl) rfl (by show 2 * 0 + _ ≤ _; exact Nat.le_of_eq rfl) (hb hby at_95) (fun _ _ => ⟨rfl, rfl, (by decide : 8 + 1 ≤ _), (by decide : 33 + 3 ≤ _)⟩)
  dsimp only [Pt.U, Pt.locs, Pt.cells, Pt.slots] at X18 l18 y18 z18 st18 hQ18
  subst l18 y18 z18
  obtain ⟨b18, rfl, N18q, K18q, g_b18, s_b18, E18q, Fposition_18q, Fline_18q, Fcolumn_18q⟩ := hQ18
  have N18 := Fr.app N17 N18q
  refine OEnds.tr (g' := (mkF m 98 #[.val (.int p0), .val (.int p1), .val (.int p2), .val (.int p3), .val (.int p4), .val (.ref b1), .val (.ref b8), .val (.ref b13), .val (.ref b15), .unset, .unset, .unset] [(.ref b18)])) st18 ?_
  refine OEnds.go (g' := (mkF m 100 #[.val (.int p0), .val (.int p1), .val (.int p2), .val (.int p3), .val (.int p4), .val (.ref b1), .val (.ref b8), .val (.ref b13), .val (.ref b15), .val (.ref b18), .unset, .unset] [])) (fun t k => XS.astore X18.here hx rfl (hb hby at_98) rfl rfl (l' := #[.val (.int p0), .val (.int p1), .val (.int p2), .val (.int p3), .val (.int p4), .val (.ref b1), .val (.ref b8), .val (.ref b13), .val (.ref b15), .val (.ref b18), .unset, .unset]) rfl k) ?_
  refine OEnds.go (g' := (mkF m 102 #[.val (.int p0), .val (.int p1), .val (.int p2), .val (.int p3), .val (.int p4), .val (.ref b1), .val (.ref b8), .val (.ref b13), .val (.ref b15), .val (.ref b18), .unset, .unset] [(.ref b18)])) (fun t k => XS.aload X18.here hx rfl (hb hby at_100) rfl rfl k) ?_
  obtain ⟨cq19, kq19, q19a, q19b, q19c⟩ := isOf hZ rfl E18q
  obtain ⟨_, _, ⟨T19, L19, k19, n19⟩, -, X19, ⟨Lc19, hQ19, l19, y19, z19⟩, st19⟩ := X18.virtualBack hx (y := (⟨"com/example/shapewright/shapewright/reader/IdlScanner$Mark", "position", "()I"⟩ : MethodName)) (z := (⟨"com/example/shapewright/shapewright/reader/IdlScanner$Mark", "position", "()I"⟩ : MethodName)) hown (mvT hZ (hw _ (List.mem_of_getElem? (i := 97) rfl))) (mvT hZ (hw _ (List.mem_of_getElem? (i := 74) rfl))) (notFace_of_selects (args := #[]) (mvT hZ (hw _ (List.mem_of_getElem? (i := 76) rfl)))) (mvT hZ (hw _ (List.mem_of_getElem? (i := 76) rfl))) (mvT hZ (hw _ (List.mem_of_getElem? (i := 75) rfl))) (by decide) (backOf (W := 0) (rm11 l Z a0 hw [] b18 p4 T18.heap n0 (Nat.le_trans (Nat.le_trans (Nat.le_trans (Nat.le_trans (Nat.le_trans (Nat.le_trans (Nat.le_trans (Nat.le_trans (Nat.le_trans (Nat.le_trans (Nat.le_trans (Nat.le_trans (Nat.le_trans (Nat.le_trans (Nat.le_trans Z0 E1.1) (Nat.le_of_eq W3.size.symm)) (Nat.le_of_eq W5.size.symm)) (Nat.le_of_eq W7.size.symm)) E8.1) E9.1) E10.1) K11q.1) K12q.1) E13.1) K14q.1) E15.1) K16q.1) K17q.1) K18q.1) Fposition_18q) hZ (hw _ (List.mem_of_getElem? (i := 77) rfl)) (hw _ (List.mem_of_getElem? (i := 52) rfl)) (by decide) (by decide)) q19a q19c (g := (mkF m 102 #[.val (.int p0), .val (.int p1), .val (.int p2), .val (.int p3), .val (.int p4), .val (.ref b1), .val (.ref b8), .val (.ref b13), .val (.ref b15), .val (.ref b18), .unset, .unset] [(.ref b18)])) rfl (by rw [hml]; rfl) (Steps.refl _) (argsL := []) (rest := []) (lenOf pd_6 rfl) rfl (by show 2 * 0 + _ ≤ _; exact Nat.le_of_eq rfl) (hb hby at_102) (fun _ _ => ⟨rfl, rfl, (by decide : 9 + 0 ≤ _), (by decide : 36 + 0 ≤ _)⟩)
  dsimp only [Pt.U, Pt.locs, Pt.cells, Pt.slots] at X19 l19 y19 z19 st19 hQ19
  subst l19 y19 z19
  obtain ⟨rfl, N19q, e19⟩ := hQ19
  have N19 := Fr.app N18 N19q
  refine OEnds.tr (g' := (mkF m 105 #[.val (.int p0), .val (.int p1), .val (.int p2), .val (.int p3), .val (.int p4), .val (.ref b1), .val (.ref b8), .val (.ref b13), .val (.ref b15), .val (.ref b18), .unset, .unset] [(.int p4)])) st19 ?_
  refine OEnds.go (g' := (mkF m 107 #[.val (.int p0), .val (.int p1), .val (.int p2), .val (.int p3), .val (.int p4), .val (.ref b1), .val (.ref b8), .val (.ref b13), .val (.ref b15), .val (.ref b18), .unset, .unset] [(.int p4), (.int p4)])) (fun t k => XS.iload X19.here hx rfl (hb hby at_105) rfl k) ?_
  refine OEnds.go (g' := (mkF m 110 #[.val (.int p0), .val (.int p1), .val (.int p2), .val (.int p3), .val (.int p4), .val (.ref b1), .val (.ref b8), .val (.ref b13), .val (.ref b15), .val (.ref b18), .unset, .unset] [])) (fun t k => XS.icmpNo X19.here hx rfl (hb hby at_107) rfl (teq (rfl : p4 = p4)).2 k) ?_
  refine OEnds.go (g' := (mkF m 112 #[.val (.int p0), .val (.int p1), .val (.int p2), .val (.int p3), .val (.int p4), .val (.ref b1), .val (.ref b8), .val (.ref b13), .val (.ref b15), .val (.ref b18), .unset, .unset] [(.ref b18)])) (fun t k => XS.aload X19.here hx rfl (hb hby at_110) rfl rfl k) ?_
  obtain ⟨cq20, kq20, q20a, q20b, q20c⟩ := isOf hZ e19 E18q
  obtain ⟨_, _, ⟨T20, L20, k20, n20⟩, -, X20, ⟨Lc20, hQ20, l20, y20, z20⟩, st20⟩ := X19.virtualBack hx (y := (⟨"com/example/shapewright/shapewright/reader/IdlScanner$Mark", "line", "()I"⟩ : MethodName)) (z := (⟨"com/example/shapewright/shapewright/reader/IdlScanner$Mark", "line", "()I"⟩ : MethodName)) hown (mvT hZ (hw _ (List.mem_of_getElem? (i := 98) rfl))) (mvT hZ (hw _ (List.mem_of_getElem? (i := 81) rfl))) (notFace_of_selects (args := #[]) (mvT hZ (hw _ (List.mem_of_getElem? (i := 83) rfl)))) (mvT hZ (hw _ (List.mem_of_getElem? (i := 83) rfl))) (mvT hZ (hw _ (List.mem_of_getElem? (i := 82) rfl))) (by decide) (backOf (W := 0) (rm12 l Z a0 hw [] b18 p3 T18.heap n0 (Nat.le_trans (Nat.le_trans (Nat.le_trans (Nat.le_trans (Nat.le_trans (Nat.le_trans (Nat.le_trans (Nat.le_trans (Nat.le_trans (Nat.le_trans (Nat.le_trans (Nat.le_trans (Nat.le_trans (Nat.le_trans (Nat.le_trans Z0 E1.1) (Nat.le_of_eq W3.size.symm)) (Nat.le_of_eq W5.size.symm)) (Nat.le_of_eq W7.size.symm)) E8.1) E9.1) E10.1) K11q.1) K12q.1) E13.1) K14q.1) E15.1) K16q.1) K17q.1) K18q.1) Fline_18q) hZ (hw _ (List.mem_of_getElem? (i := 84) rfl)) (hw _ (List.mem_of_getElem? (i := 52) rfl)) (by decide) (by decide)) q20a q20c (g := (mkF m 112 #[.val (.int p0), .val (.int p1), .val (.int p2), .val (.int p3), .val (.int p4), .val (.ref b1), .val (.ref b8), .val (.ref b13), .val (.ref b15), .val (.ref b18), .unset, .unset] [(.ref b18)])) rfl (by rw [hml]; rfl) (Steps.refl _) (argsL := []) (rest := []) (lenOf pd_6 rfl) rfl (by show 2 * 0 + _ ≤ _; exact Nat.le_of_eq rfl) (hb hby at_112) (fun _ _ => ⟨rfl, e19, (by decide : 9 + 0 ≤ _), (by decide : 36 + 0 ≤ _)⟩)
  dsimp only [Pt.U, Pt.locs, Pt.cells, Pt.slots] at X20 l20 y20 z20 st20 hQ20
  subst l20 y20 z20
  obtain ⟨rfl, N20q, e20⟩ := hQ20
  have N20 := Fr.app N19 N20q
  refine OEnds.tr (g' := (mkF m 115 #[.val (.int p0), .val (.int p1), .val (.int p2), .val (.int p3), .val (.int p4), .val (.ref b1), .val (.ref b8), .val (.ref b13), .val (.ref b15), .val (.ref b18), .unset, .unset] [(.int p3)])) st20 ?_
  refine OEnds.go (g' := (mkF m 116 #[.val (.int p0), .val (.int p1), .val (.int p2), .val (.int p3), .val (.int p4), .val (.ref b1), .val (.ref b8), .val (.ref b13), .val (.ref b15), .val (.ref b18), .unset, .unset] [(.int p3), (.int p3)])) (fun t k => XS.iloadN X20.here hx rfl (hb hby at_115) rfl k) ?_
  refine OEnds.go (g' := (mkF m 119 #[.val (.int p0), .val (.int p1), .val (.int p2), .val (.int p3), .val (.int p4), .val (.ref b1), .val (.ref b8), .val (.ref b13), .val (.ref b15), .val (.ref b18), .unset, .unset] [])) (fun t k => XS.icmpNo X20.here hx rfl (hb hby at_116) rfl (teq (rfl : p3 = p3)).2 k) ?_
  refine OEnds.go (g' := (mkF m 121 #[.val (.int p0), .val (.int p1), .val (.int p2), .val (.int p3), .val (.int p4), .val (.ref b1), .val (.ref b8), .val (.ref b13), .val (.ref b15), .val (.ref b18), .unset, .unset] [(.ref b18)])) (fun t k => XS.aload X20.here hx rfl (hb hby at_119) rfl rfl k) ?_
  obtain ⟨cq21, kq21, q21a, q21b, q21c⟩ := isOf hZ e20 E18q
  obtain ⟨_, _, ⟨T21, L21, k21, n21⟩, -, X21, ⟨Lc21, hQ21, l21, y21, z21⟩, st21⟩ := X20.virtualBack hx (y := (⟨"com/example/shapewright/shapewright/reader/IdlScanner$Mark", "column", "()I"⟩ : MethodName)) (z := (⟨"com/example/shapewright/shapewright/reader/IdlScanner$Mark", "column", "()I"⟩ : MethodName)) hown (mvT hZ (hw _ (List.mem_of_getElem? (i := 99) rfl))) (mvT hZ (hw _ (List.mem_of_getElem? (i := 86) rfl))) (notFace_of_selects (args := #[]) (mvT hZ (hw _ (List.mem_of_getElem? (i := 88) rfl)))) (mvT hZ (hw _ (List.mem_of_getElem? (i := 88) rfl))) (mvT hZ (hw _ (List.mem_of_getElem? (i := 87) rfl))) (by decide) (backOf (W := 0) (rm13 l Z a0 hw [] b18 p2 T18.heap n0 (Nat.le_trans (Nat.le_trans (Nat.le_trans (Nat.le_trans (Nat.le_trans (Nat.le_trans (Nat.le_trans (Nat.le_trans (Nat.le_trans (Nat.le_trans (Nat.le_trans (Nat.le_trans (Nat.le_trans (Nat.le_trans (Nat.le_trans Z0 E1.1) (Nat.le_of_eq W3.size.symm)) (Nat.le_of_eq W5.size.symm)) (Nat.le_of_eq W7.size.symm)) E8.1) E9.1) E10.1) K11q.1) K12q.1) E13.1) K14q.1) E15.1) K16q.1) K17q.1) K18q.1) Fcolumn_18q) hZ (hw _ (List.mem_of_getElem? (i := 89) rfl)) (hw _ (List.mem_of_getElem? (i := 52) rfl)) (by decide) (by decide)) q21a q21c (g := (mkF m 121 #[.val (.int p0), .val (.int p1), .val (.int p2), .val (.int p3), .val (.int p4), .val (.ref b1), .val (.ref b8), .val (.ref b13), .val (.ref b15), .val (.ref b18), .unset, .unset] [(.ref b18)])) rfl (by rw [hml]; rfl) (Steps.refl _) (argsL := []) (rest := []) (lenOf pd_6 rfl) rfl (by show 2 * 0 + _ ≤ _; exact Nat.le_of_eq rfl) (hb hby at_121) (fun _ _ => ⟨rfl, e20, (by decide : 9 + 0 ≤ _), (by decide : 36 + 0 ≤ _)⟩)
  dsimp only [Pt.U, Pt.locs, Pt.cells, Pt.slots] at X21 l21 y21 z21 st21 hQ21
  subst l21 y21 z21
  obtain ⟨rfl, N21q, e21⟩ := hQ21
  have N21 := Fr.app N20 N21q
  refine OEnds.tr (g' := (mkF m 124 #[.val (.int p0), .val (.int p1), .val (.int p2), .val (.int p3), .val (.int p4), .val (.ref b1), .val (.ref b8), .val (.ref b13), .val (.ref b15), .val (.ref b18), .unset, .unset] [(.int p2)])) st21 ?_
  refine OEnds.go (g' := (mkF m 125 #[.val (.int p0), .val (.int p1), .val (.int p2), .val (.int p3), .val (.int p4), .val (.ref b1), .val (.ref b8), .val (.ref b13), .val (.ref b15), .val (.ref b18), .unset, .unset] [(.int p2), (.int p2)])) (fun t k => XS.iloadN X21.here hx rfl (hb hby at_124) rfl k) ?_
  refine OEnds.go (g' := (mkF m 128 #[.val (.int p0), .val (.int p1), .val (.int p2), .val (.int p3), .val (.int p4), .val (.ref b1), .val (.ref b8), .val (.ref b13), .val (.ref b15), .val (.ref b18), .unset, .unset] [])) (fun t k => XS.icmpNo X21.here hx rfl (hb hby at_125) rfl (teq (rfl : p2 = p2)).2 k) ?_
  refine OEnds.go (g' := (mkF m 129 #[.val (.int p0), .val (.int p1), .val (.int p2), .val (.int p3), .val (.int p4), .val (.ref b1), .val (.ref b8), .val (.ref b13), .val (.ref b15), .val (.ref b18), .unset, .unset] [(.int (1 : Int32))])) (fun t k => XS.iconst X21.here hx rfl (hb hby at_128) k) ?_
  refine OEnds.go (g' := (mkF m 133 #[.val (.int p0), .val (.int p1), .val (.int p2), .val (.int p3), .val (.int p4), .val (.ref b1), .val (.ref b8), .val (.ref b13), .val (.ref b15), .val (.ref b18), .unset, .unset] [(.int (1 : Int32))])) (fun t k => XS.goto X21.here hx rfl (pc0 := 129) (pc' := 133) rfl (hb hby at_129) (by decide) (by decide) k) ?_
  refine OEnds.go (g' := (mkF m 135 #[.val (.int p0), .val (.int p1), .val (.int p2), .val (.int p3), .val (.int p4), .val (.ref b1), .val (.ref b8), .val (.ref b13), .val (.ref b15), .val (.ref b18), .val (.int (1 : Int32)), .unset] [])) (fun t k => XS.istore X21.here hx rfl (hb hby at_133) rfl (l' := #[.val (.int p0), .val (.int p1), .val (.int p2), .val (.int p3), .val (.int p4), .val (.ref b1), .val (.ref b8), .val (.ref b13), .val (.ref b15), .val (.ref b18), .val (.int (1 : Int32)), .unset]) rfl k) ?_
  refine OEnds.go (g' := (mkF m 137 #[.val (.int p0), .val (.int p1), .val (.int p2), .val (.int p3), .val (.int p4), .val (.ref b1), .val (.ref b8), .val (.ref b13), .val (.ref b15), .val (.ref b18), .val (.int (1 : Int32)), .unset] [(.ref b8)])) (fun t k => XS.aload X21.here hx rfl (hb hby at_135) rfl rfl k) ?_
  refine OEnds.go (g' := (mkF m 139 #[.val (.int p0), .val (.int p1), .val (.int p2), .val (.int p3), .val (.int p4), .val (.ref b1), .val (.ref b8), .val (.ref b13), .val (.ref b15), .val (.ref b18), .val (.int (1 : Int32)), .unset] [(.ref b15), (.ref b8)])) (fun t k => XS.aload X21.here hx rfl (hb hby at_137) rfl rfl k) ?_
  obtain ⟨cq22, kq22, q22a, q22b, q22c⟩ := isOf hZ e21 (E17q.keep K18q)
  obtain ⟨_, _, ⟨T22, L22, k22, n22⟩, -, X22, ⟨Lc22, hQ22, l22, y22, z22⟩, st22⟩ := X21.virtualBack hx (y := (⟨"com/example/shapewright/shapewright/reader/IdlScanner", "reset", "(Lcom/example/shapewright/shapewright/reader/IdlScanner$Mark;)V"⟩ : MethodName)) (z := (⟨"com/example/shapewright/shapewright/reader/IdlScanner", "reset", "(Lcom/example/shapewright/shapewright/reader/IdlScanner$Mark;)V"⟩ : MethodName)) hown (mvT hZ (hw _ (List.mem_of_getElem? (i := 68) rfl))) (mvT hZ (hw _ (List.mem_of_getElem? (i := 69) rfl))) (notFace_of_selects (args := #[]) (mvT hZ (hw _ (List.mem_of_getElem? (i := 71) rfl)))) (mvT hZ (hw _ (List.mem_of_getElem? (i := 71) rfl))) (mvT hZ (hw _ (List.mem_of_getElem? (i := 70) rfl))) (by decide) (backOf (W := 0) (rm10 l Z a0 hw [] b8 b15 p4 p3 p2 p1 p2 p3 b10 T18.heap n0 (Nat.le_trans (Nat.le_trans (Nat.le_trans (Nat.le_trans (Nat.le_trans (Nat.le_trans (Nat.le_trans (Nat.le_trans (Nat.le_trans (Nat.le_trans (Nat.le_trans (Nat.le_trans (Nat.le_trans (Nat.le_trans (Nat.le_trans Z0 E1.1) (Nat.le_of_eq W3.size.symm)) (Nat.le_of_eq W5.size.symm)) (Nat.le_of_eq W7.size.symm)) E8.1) E9.1) E10.1) K11q.1) K12q.1) E13.1) K14q.1) E15.1) K16q.1) K17q.1) K18q.1) (E17q.keep K18q) ((E16q.keep K17q).keep K18q) (Fposition_17q.keep K18q nin0) (Fline_17q.keep K18q nin0) (Fcolumn_17q.keep K18q nin0) ((Fposition_16q.keep K17q (ninS (Ne.symm (Nat.ne_of_lt (Nat.lt_of_lt_of_le ((((((A8.ext E9).ext E10).keep K11q).keep K12q).ext E13).keep K14q).lt (Nat.le_of_eq g15.symm)))) nin0)).keep K18q nin0) ((Fline_16q.keep K17q (ninS (Ne.symm (Nat.ne_of_lt (Nat.lt_of_lt_of_le ((((((A8.ext E9).ext E10).keep K11q).keep K12q).ext E13).keep K14q).lt (Nat.le_of_eq g15.symm)))) nin0)).keep K18q nin0) ((Fcolumn_16q.keep K17q (ninS (Ne.symm (Nat.ne_of_lt (Nat.lt_of_lt_of_le ((((((A8.ext E9).ext E10).keep K11q).keep K12q).ext E13).keep K14q).lt (Nat.le_of_eq g15.symm)))) nin0)).keep K18q nin0) (Ft_17q.keep K18q nin0) g_b8 (Exa.ne ((E16q.keep K17q).keep K18q) (E17q.keep K18q) (by decide))) hZ (hw _ (List.mem_of_getElem? (i := 72) rfl)) (hw _ (List.mem_of_getElem? (i := 3) rfl)) (by decide) (by decide)) q22a q22c (g := (mkF m 139 #[.val (.int p0), .val (.int p1), .val (.int p2), .val (.int p3), .val (.int p4), .val (.ref b1), .val (.ref b8), .val (.ref b13), .val (.ref b15), .val (.ref b18), .val (.int (1 : Int32)), .unset] [(.ref b15), (.ref b8)])) rfl (by rw [hml]; rfl) (Steps.refl _) (argsL := [(.ref b15)]) (rest := []) (lenOf pd_15 rfl) rfl (by show 2 * 0 + _ ≤ _; exact Nat.le_of_eq rfl) (hb hby at_139) (fun _ _ => ⟨rfl, e21, (by decide : 9 + 0 ≤ _), (by decide : 36 + 0 ≤ _)⟩)
  dsimp only [Pt.U, Pt.locs, Pt.cells, Pt.slots] at X22 l22 y22 z22 st22 hQ22
  subst l22 y22 z22
  obtain ⟨rfl, N22q, K22q, E22q, Fposition_22q, Fline_22q, Fcolumn_22q, Ft_22q⟩ := hQ22
  have N22 := Fr.app N21 N22q
  refine OEnds.tr (g' := (mkF m 142 #[.val (.int p0), .val (.int p1), .val (.int p2), .val (.int p3), .val (.int p4), .val (.ref b1), .val (.ref b8), .val (.ref b13), .val (.ref b15), .val (.ref b18), .val (.int (1 : Int32)), .unset] [])) st22 ?_
  refine OEnds.go (g' := (mkF m 144 #[.val (.int p0), .val (.int p1), .val (.int p2), .val (.int p3), .val (.int p4), .val (.ref b1), .val (.ref b8), .val (.ref b13), .val (.ref b15), .val (.ref b18), .val (.int (1 : Int32)), .unset] [(.ref b8)])) (fun t k => XS.aload X22.here hx rfl (hb hby at_142) rfl rfl k) ?_
  obtain ⟨cq23, kq23, q23a, q23b, q23c⟩ := isOf hZ rfl E22q
  obtain ⟨_, _, ⟨T23, L23, k23, n23⟩, -, X23, ⟨Lc23, hQ23, l23, y23, z23⟩, st23⟩ := X22.virtualBack hx (y := (⟨"com/example/shapewright/shapewright/reader/IdlScanner", "mark", "()Lcom/example/shapewright/shapewright/reader/IdlScanner$Mark;"⟩ : MethodName)) (z := (⟨"com/example/shapewright/shapewright/reader/IdlScanner", "mark", "()Lcom/example/shapewright/shapewright/reader/IdlScanner$Mark;"⟩ : MethodName)) hown (mvT hZ (hw _ (List.mem_of_getElem? (i := 90) rfl))) (mvT hZ (hw _ (List.mem_of_getElem? (i := 91) rfl))) (notFace_of_selects (args := #[]) (mvT hZ (hw _ (List.mem_of_getElem? (i := 93) rfl)))) (mvT hZ (hw _ (List.mem_of_getElem? (i := 93) rfl))) (mvT hZ (hw _ (List.mem_of_getElem? (i := 92) rfl))) (by decide) (backOf (W := 0) (rm14 l Z a0 hw [] b8 p1 p2 p3 T22.heap n0 (Nat.le_trans (Nat.le_trans (Nat.le_trans (Nat.le_trans (Nat.le_trans (Nat.le_trans (Nat.le_trans (Nat.le_trans (Nat.le_trans (Nat.le_trans (Nat.le_trans (Nat.le_trans (Nat.le_trans (Nat.le_trans (Nat.le_trans (Nat.le_trans Z0 E1.1) (Nat.le_of_eq W3.size.symm)) (Nat.le_of_eq W5.size.symm)) (Nat.le_of_eq W7.size.symm)) E8.1) E9.1) E10.1) K11q.1) K12q.1) E13.1) K14q.1) E15.1) K16q.1) K17q.1) K18q.1) K22q.1) Fposition_22q Fline_22q Fcolumn_22q) hZ (hw _ (List.mem_of_getElem? (i := 94) rfl)) (hw _ (List.mem_of_getElem? (i := 3) rfl)) (by decide) (by decide)) q23a q23c (g := (mkF m 144 #[.val (.int p0), .val (.int p1), .val (.int p2), .val (.int p3), .val (.int p4), .val (.ref b1), .val (.ref b8), .val (.ref b13), .val (.ref b15), .val (.ref b18), .val (.int (1 : Int32)), .unset] [(.ref b8)])) rfl (by rw [hml]; rfl) (Steps.refl _) (argsL := []) (rest := []) (lenOf pd_16 rfl) rfl (by show 2 * 0 + _ ≤ _; exact Nat.le_of_eq rfl) (hb hby at_144) (fun _ _ => ⟨rfl, rfl, (by decide : 9 + 1 ≤ _), (by decide : 36 + 3 ≤ _)⟩)
  dsimp only [Pt.U, Pt.locs, Pt.cells, Pt.slots] at X23 l23 y23 z23 st23 hQ23
  subst l23 y23 z23
  obtain ⟨b23, rfl, N23q, K23q, g_b23, s_b23, E23q, Fposition_23q, Fline_23q, Fcolumn_23q⟩ := hQ23
  have N23 := Fr.app N22 N23q
  refine OEnds.tr (g' := (mkF m 147 #[.val (.int p0), .val (.int p1), .val (.int p2), .val (.int p3), .val (.int p4), .val (.ref b1), .val (.ref b8), .val (.ref b13), .val (.ref b15), .val (.ref b18), .val (.int (1 : Int32)), .unset] [(.ref b23)])) st23 ?_
  refine OEnds.go (g' := (mkF m 149 #[.val (.int p0), .val (.int p1), .val (.int p2), .val (.int p3), .val (.int p4), .val (.ref b1), .val (.ref b8), .val (.ref b13), .val (.ref b15), .val (.ref b18), .val (.int (1 : Int32)), .val (.ref b23)] [])) (fun t k => XS.astore X23.here hx rfl (hb hby at_147) rfl rfl (l' := #[.val (.int p0), .val (.int p1), .val (.int p2), .val (.int p3), .val (.int p4), .val (.ref b1), .val (.ref b8), .val (.ref b13), .val (.ref b15), .val (.ref b18), .val (.int (1 : Int32)), .val (.ref b23)]) rfl k) ?_
  refine OEnds.go (g' := (mkF m 151 #[.val (.int p0), .val (.int p1), .val (.int p2), .val (.int p3), .val (.int p4), .val (.ref b1), .val (.ref b8), .val (.ref b13), .val (.ref b15), .val (.ref b18), .val (.int (1 : Int32)), .val (.ref b23)] [(.int (1 : Int32))])) (fun t k => XS.iload X23.here hx rfl (hb hby at_149) rfl k) ?_
  refine OEnds.go (g' := (mkF m 154 #[.val (.int p0), .val (.int p1), .val (.int p2), .val (.int p3), .val (.int p4), .val (.ref b1), .val (.ref b8), .val (.ref b13), .val (.ref b15), .val (.ref b18), .val (.int (1 : Int32)), .val (.ref b23)] [])) (fun t k => XS.ifNo X23.here hx rfl (hb hby at_151) rfl ((if0 _ _).trans (feq (by decide : ¬ ((1 : Int32) = (0 : Int32)))).1) k) ?_
  refine OEnds.go (g' := (mkF m 156 #[.val (.int p0), .val (.int p1), .val (.int p2), .val (.int p3), .val (.int p4), .val (.ref b1), .val (.ref b8), .val (.ref b13), .val (.ref b15), .val (.ref b18), .val (.int (1 : Int32)), .val (.ref b23)] [(.ref b23)])) (fun t k => XS.aload X23.here hx rfl (hb hby at_154) rfl rfl k) ?_
  obtain ⟨cq24, kq24, q24a, q24b, q24c⟩ := isOf hZ rfl E23q
  obtain ⟨_, _, ⟨T24, L24, k24, n24⟩, -, X24, ⟨Lc24, hQ24, l24, y24, z24⟩, st24⟩ := X23.virtualBack hx (y := (⟨"com/example/shapewright/shapewright/reader/IdlScanner$Mark", "position", "()I"⟩ : MethodName)) (z := (⟨"com/example/shapewright/shapewright/reader/IdlScanner$Mark", "position", "()I"⟩ : MethodName)) hown (mvT hZ (hw _ (List.mem_of_getElem? (i := 97) rfl))) (mvT hZ (hw _ (List.mem_of_getElem? (i := 74) rfl))) (notFace_of_selects (args := #[]) (mvT hZ (hw _ (List.mem_of_getElem? (i := 76) rfl)))) (mvT hZ (hw _ (List.mem_of_getElem? (i := 76) rfl))) (mvT hZ (hw _ (List.mem_of_getElem? (i := 75) rfl))) (by decide) (backOf (W := 0) (rm11 l Z a0 hw [] b23 p1 T23.heap n0 (Nat.le_trans (Nat.le_trans (Nat.le_trans (Nat.le_trans (Nat.le_trans (Nat.le_trans (Nat.le_trans (Nat.le_trans (Nat.le_trans (Nat.le_trans (Nat.le_trans (Nat.le_trans (Nat.le_trans (Nat.le_trans (Nat.le_trans (Nat.le_trans (Nat.le_trans Z0 E1.1) (Nat.le_of_eq W3.size.symm)) (Nat.le_of_eq W5.size.symm)) (Nat.le_of_eq W7.size.symm)) E8.1) E9.1) E10.1) K11q.1) K12q.1) E13.1) K14q.1) E15.1) K16q.1) K17q.1) K18q.1) K22q.1) K23q.1) Fposition_23q) hZ (hw _ (List.mem_of_getElem? (i := 77) rfl)) (hw _ (List.mem_of_getElem? (i := 52) rfl)) (by decide) (by decide)) q24a q24c (g := (mkF m 156 #[.val (.int p0), .val (.int p1), .val (.int p2), .val (.int p3), .val (.int p4), .val (.ref b1), .val (.ref b8), .val (.ref b13), .val (.ref b15), .val (.ref b18), .val (.int (1 : Int32)), .val (.ref b23)] [(.ref b23)])) rfl (by rw [hml]; rfl) (Steps.refl _) (argsL := []) (rest := []) (lenOf pd_6 rfl) rfl (by show 2 * 0 + _ ≤ _; exact Nat.le_of_eq rfl) (hb hby at_156) (fun _ _ => ⟨rfl, rfl, (by decide : 10 + 0 ≤ _), (by decide : 39 + 0 ≤ _)⟩)
  dsimp only [Pt.U, Pt.locs, Pt.cells, Pt.slots] at X24 l24 y24 z24 st24 hQ24
  subst l24 y24 z24
  obtain ⟨rfl, N24q, e24⟩ := hQ24
  have N24 := Fr.app N23 N24q
  refine OEnds.tr (g' := (mkF m 159 #[.val (.int p0), .val (.int p1), .val (.int p2), .val (.int p3), .val (.int p4), .val (.ref b1), .val (.ref b8), .val (.ref b13), .val (.ref b15), .val (.ref b18), .val (.int (1 : Int32)), .val (.ref b23)] [(.int p1)])) st24 ?_
  refine OEnds.go (g' := (mkF m 160 #[.val (.int p0), .val (.int p1), .val (.int p2), .val (.int p3), .val (.int p4), .val (.ref b1), .val (.ref b8), .val (.ref b13), .val (.ref b15), .val (.ref b18), .val (.int (1 : Int32)), .val (.ref b23)] [(.int p1), (.int p1)])) (fun t k => XS.iloadN X24.here hx rfl (hb hby at_159) rfl k) ?_
  refine OEnds.go (g' := (mkF m 163 #[.val (.int p0), .val (.int p1), .val (.int p2), .val (.int p3), .val (.int p4), .val (.ref b1), .val (.ref b8), .val (.ref b13), .val (.ref b15), .val (.ref b18), .val (.int (1 : Int32)), .val (.ref b23)] [])) (fun t k => XS.icmpNo X24.here hx rfl (hb hby at_160) rfl (teq (rfl : p1 = p1)).2 k) ?_
  refine OEnds.go (g' := (mkF m 165 #[.val (.int p0), .val (.int p1), .val (.int p2), .val (.int p3), .val (.int p4), .val (.ref b1), .val (.ref b8), .val (.ref b13), .val (.ref b15), .val (.ref b18), .val (.int (1 : Int32)), .val (.ref b23)] [(.ref b23)])) (fun t k => XS.aload X24.here hx rfl (hb hby at_163) rfl rfl k) ?_
  obtain ⟨cq25, kq25, q25a, q25b, q25c⟩ := isOf hZ e24 E23q
  obtain ⟨_, _, ⟨T25, L25, k25, n25⟩, -, X25, ⟨Lc25, hQ25, l25, y25, z25⟩, st25⟩ := X24.virtualBack hx (y := (⟨"com/example/shapewright/shapewright/reader/IdlScanner$Mark", "line", "()I"⟩ : MethodName)) (z := (⟨"com/example/shapewright/shapewright/reader/IdlScanner$Mark", "line", "()I"⟩ : MethodName)) hown (mvT hZ (hw _ (List.mem_of_getElem? (i := 98) rfl))) (mvT hZ (hw _ (List.mem_of_getElem? (i := 81) rfl))) (notFace_of_selects (args := #[]) (mvT hZ (hw _ (List.mem_of_getElem? (i := 83) rfl)))) (mvT hZ (hw _ (List.mem_of_getElem? (i := 83) rfl))) (mvT hZ (hw _ (List.mem_of_getElem? (i := 82) rfl))) (by decide) (backOf (W := 0) (rm12 l Z a0 hw [] b23 p2 T23.heap n0 (Nat.le_trans (Nat.le_trans (Nat.le_trans (Nat.le_trans (Nat.le_trans (Nat.le_trans (Nat.le_trans (Nat.le_trans (Nat.le_trans (Nat.le_trans (Nat.le_trans (Nat.le_trans (Nat.le_trans (Nat.le_trans (Nat.le_trans (Nat.le_trans (Nat.le_trans Z0 E1.1) (Nat.le_of_eq W3.size.symm)) (Nat.le_of_eq W5.size.symm)) (Nat.le_of_eq W7.size.symm)) E8.1) E9.1) E10.1) K11q.1) K12q.1) E13.1) K14q.1) E15.1) K16q.1) K17q.1) K18q.1) K22q.1) K23q.1) Fline_23q) hZ (hw _ (List.mem_of_getElem? (i := 84) rfl)) (hw _ (List.mem_of_getElem? (i := 52) rfl)) (by decide) (by decide)) q25a q25c (g := (mkF m 165 #[.val (.int p0), .val (.int p1), .val (.int p2), .val (.int p3), .val (.int p4), .val (.ref b1), .val (.ref b8), .val (.ref b13), .val (.ref b15), .val (.ref b18), .val (.int (1 : Int32)), .val (.ref b23)] [(.ref b23)])) rfl (by rw [hml]; rfl) (Steps.refl _) (argsL := []) (rest := []) (lenOf pd_6 rfl) rfl (by show 2 * 0 + _ ≤ _; exact Nat.le_of_eq rfl) (hb hby at_165) (fun _ _ => ⟨rfl, e24, (by decide : 10 + 0 ≤ _), (by decide : 39 + 0 ≤ _)⟩)
  dsimp only [Pt.U, Pt.locs, Pt.cells, Pt.slots] at X25 l25 y25 z25 st25 hQ25
  subst l25 y25 z25
  obtain ⟨rfl, N25q, e25⟩ := hQ25
  have N25 := Fr.app N24 N25q
  refine OEnds.tr (g' := (mkF m 168 #[.val (.int p0), .val (.int p1), .val (.int p2), .val (.int p3), .val (.int p4), .val (.ref b1), .val (.ref b8), .val (.ref b13), .val (.ref b15), .val (.ref b18), .val (.int (1 : Int32)), .val (.ref b23)] [(.int p2)])) st25 ?_
  refine OEnds.go (g' := (mkF m 169 #[.val (.int p0), .val (.int p1), .val (.int p2), .val (.int p3), .val (.int p4), .val (.ref b1), .val (.ref b8), .val (.ref b13), .val (.ref b15), .val (.ref b18), .val (.int (1 : Int32)), .val (.ref b23)] [(.int p2), (.int p2)])) (fun t k => XS.iloadN X25.here hx rfl (hb hby at_168) rfl k) ?_
  refine OEnds.go (g' := (mkF m 172 #[.val (.int p0), .val (.int p1), .val (.int p2), .val (.int p3), .val (.int p4), .val (.ref b1), .val (.ref b8), .val (.ref b13), .val (.ref b15), .val (.ref b18), .val (.int (1 : Int32)), .val (.ref b23)] [])) (fun t k => XS.icmpNo X25.here hx rfl (hb hby at_169) rfl (teq (rfl : p2 = p2)).2 k) ?_
  refine OEnds.go (g' := (mkF m 174 #[.val (.int p0), .val (.int p1), .val (.int p2), .val (.int p3), .val (.int p4), .val (.ref b1), .val (.ref b8), .val (.ref b13), .val (.ref b15), .val (.ref b18), .val (.int (1 : Int32)), .val (.ref b23)] [(.ref b23)])) (fun t k => XS.aload X25.here hx rfl (hb hby at_172) rfl rfl k) ?_
  obtain ⟨cq26, kq26, q26a, q26b, q26c⟩ := isOf hZ e25 E23q
  obtain ⟨_, _, ⟨T26, L26, k26, n26⟩, -, X26, ⟨Lc26, hQ26, l26, y26, z26⟩, st26⟩ := X25.virtualBack hx (y := (⟨"com/example/shapewright/shapewright/reader/IdlScanner$Mark", "column", "()I"⟩ : MethodName)) (z := (⟨"com/example/shapewright/shapewright/reader/IdlScanner$Mark", "column", "()I"⟩ : MethodName)) hown (mvT hZ (hw _ (List.mem_of_getElem? (i := 99) rfl))) (mvT hZ (hw _ (List.mem_of_getElem? (i := 86) rfl))) (notFace_of_selects (args := #[]) (mvT hZ (hw _ (List.mem_of_getElem? (i := 88) rfl)))) (mvT hZ (hw _ (List.mem_of_getElem? (i := 88) rfl))) (mvT hZ (hw _ (List.mem_of_getElem? (i := 87) rfl))) (by decide) (backOf (W := 0) (rm13 l Z a0 hw [] b23 p3 T23.heap n0 (Nat.le_trans (Nat.le_trans (Nat.le_trans (Nat.le_trans (Nat.le_trans (Nat.le_trans (Nat.le_trans (Nat.le_trans (Nat.le_trans (Nat.le_trans (Nat.le_trans (Nat.le_trans (Nat.le_trans (Nat.le_trans (Nat.le_trans (Nat.le_trans (Nat.le_trans Z0 E1.1) (Nat.le_of_eq W3.size.symm)) (Nat.le_of_eq W5.size.symm)) (Nat.le_of_eq W7.size.symm)) E8.1) E9.1) E10.1) K11q.1) K12q.1) E13.1) K14q.1) E15.1) K16q.1) K17q.1) K18q.1) K22q.1) K23q.1) Fcolumn_23q) hZ (hw _ (List.mem_of_getElem? (i := 89) rfl)) (hw _ (List.mem_of_getElem? (i := 52) rfl)) (by decide) (by decide)) q26a q26c (g := (mkF m 174 #[.val (.int p0), .val (.int p1), .val (.int p2), .val (.int p3), .val (.int p4), .val (.ref b1), .val (.ref b8), .val (.ref b13), .val (.ref b15), .val (.ref b18), .val (.int (1 : Int32)), .val (.ref b23)] [(.ref b23)])) rfl (by rw [hml]; rfl) (Steps.refl _) (argsL := []) (rest := []) (lenOf pd_6 rfl) rfl (by show 2 * 0 + _ ≤ _; exact Nat.le_of_eq rfl) (hb hby at_174) (fun _ _ => ⟨rfl, e25, (by decide : 10 + 0 ≤ _), (by decide : 39 + 0 ≤ _)⟩)
  dsimp only [Pt.U, Pt.locs, Pt.cells, Pt.slots] at X26 l26 y26 z26 st26 hQ26
  subst l26 y26 z26
  obtain ⟨rfl, N26q, e26⟩ := hQ26
  have N26 := Fr.app N25 N26q
  refine OEnds.tr (g' := (mkF m 177 #[.val (.int p0), .val (.int p1), .val (.int p2), .val (.int p3), .val (.int p4), .val (.ref b1), .val (.ref b8), .val (.ref b13), .val (.ref b15), .val (.ref b18), .val (.int (1 : Int32)), .val (.ref b23)] [(.int p3)])) st26 ?_
  refine OEnds.go (g' := (mkF m 178 #[.val (.int p0), .val (.int p1), .val (.int p2), .val (.int p3), .val (.int p4), .val (.ref b1), .val (.ref b8), .val (.ref b13), .val (.ref b15), .val (.ref b18), .val (.int (1 : Int32)), .val (.ref b23)] [(.int p3), (.int p3)])) (fun t k => XS.iloadN X26.here hx rfl (hb hby at_177) rfl k) ?_
  refine OEnds.go (g' := (mkF m 181 #[.val (.int p0), .val (.int p1), .val (.int p2), .val (.int p3), .val (.int p4), .val (.ref b1), .val (.ref b8), .val (.ref b13), .val (.ref b15), .val (.ref b18), .val (.int (1 : Int32)), .val (.ref b23)] [])) (fun t k => XS.icmpNo X26.here hx rfl (hb hby at_178) rfl (teq (rfl : p3 = p3)).2 k) ?_
  refine OEnds.go (g' := (mkF m 182 #[.val (.int p0), .val (.int p1), .val (.int p2), .val (.int p3), .val (.int p4), .val (.ref b1), .val (.ref b8), .val (.ref b13), .val (.ref b15), .val (.ref b18), .val (.int (1 : Int32)), .val (.ref b23)] [(.int (1 : Int32))])) (fun t k => XS.iconst X26.here hx rfl (hb hby at_181) k) ?_
  refine OEnds.go (g' := (mkF m 186 #[.val (.int p0), .val (.int p1), .val (.int p2), .val (.int p3), .val (.int p4), .val (.ref b1), .val (.ref b8), .val (.ref b13), .val (.ref b15), .val (.ref b18), .val (.int (1 : Int32)), .val (.ref b23)] [(.int (1 : Int32))])) (fun t k => XS.goto X26.here hx rfl (pc0 := 182) (pc' := 186) rfl (hb hby at_182) (by decide) (by decide) k) ?_
  refine OEnds.go (g' := (mkF m 188 #[.val (.int p0), .val (.int p1), .val (.int p2), .val (.int p3), .val (.int p4), .val (.ref b1), .val (.ref b8), .val (.ref b13), .val (.ref b15), .val (.ref b18), .val (.int (1 : Int32)), .val (.ref b23)] [])) (fun t k => XS.istore X26.here hx rfl (hb hby at_186) rfl (l' := #[.val (.int p0), .val (.int p1), .val (.int p2), .val (.int p3), .val (.int p4), .val (.ref b1), .val (.ref b8), .val (.ref b13), .val (.ref b15), .val (.ref b18), .val (.int (1 : Int32)), .val (.ref b23)]) rfl k) ?_
  refine OEnds.go (g' := (mkF m 190 #[.val (.int p0), .val (.int p1), .val (.int p2), .val (.int p3), .val (.int p4), .val (.ref b1), .val (.ref b8), .val (.ref b13), .val (.ref b15), .val (.ref b18), .val (.int (1 : Int32)), .val (.ref b23)] [(.int (1 : Int32))])) (fun t k => XS.iload X26.here hx rfl (hb hby at_188) rfl k) ?_
  refine OEnds.go (g' := (mkF m 193 #[.val (.int p0), .val (.int p1), .val (.int p2), .val (.int p3), .val (.int p4), .val (.ref b1), .val (.ref b8), .val (.ref b13), .val (.ref b15), .val (.ref b18), .val (.int (1 : Int32)), .val (.ref b23)] [])) (fun t k => XS.ifNo X26.here hx rfl (hb hby at_190) rfl ((if0 _ _).trans (feq (by decide : ¬ ((1 : Int32) = (0 : Int32)))).1) k) ?_
  refine OEnds.go (g' := (mkF m 195 #[.val (.int p0), .val (.int p1), .val (.int p2), .val (.int p3), .val (.int p4), .val (.ref b1), .val (.ref b8), .val (.ref b13), .val (.ref b15), .val (.ref b18), .val (.int (1 : Int32)), .val (.ref b23)] [(.ref b8)])) (fun t k => XS.aload X26.here hx rfl (hb hby at_193) rfl rfl k) ?_
  obtain ⟨cq27, kq27, q27a, q27b, q27c⟩ := isOf hZ e26 (E22q.keep K23q)
  obtain ⟨_, _, ⟨T27, L27, k27, n27⟩, -, X27, ⟨Lc27, hQ27, l27, y27, z27⟩, st27⟩ := X26.virtualBack hx (y := (⟨"com/example/shapewright/shapewright/reader/IdlScanner", "atEnd", "()Z"⟩ : MethodName)) (z := (⟨"com/example/shapewright/shapewright/reader/IdlScanner", "atEnd", "()Z"⟩ : MethodName)) hown (mvT hZ (hw _ (List.mem_of_getElem? (i := 100) rfl))) (mvT hZ (hw _ (List.mem_of_getElem? (i := 101) rfl))) (notFace_of_selects (args := #[]) (mvT hZ (hw _ (List.mem_of_getElem? (i := 103) rfl)))) (mvT hZ (hw _ (List.mem_of_getElem? (i := 103) rfl))) (mvT hZ (hw _ (List.mem_of_getElem? (i := 102) rfl))) (by decide) (backOf (W := 0) (rm15 l Z a0 hw [] b8 p1 b10 b11 kb11 ((p0 &&& (255 : Int32)).toUInt32.toUInt16.toUInt32.toInt32) ((((p0.toUInt32 >>> ((8 : Int32) &&& 31).toUInt32).toInt32) &&& (255 : Int32)).toUInt32.toUInt16.toUInt32.toInt32) ((((p0.toUInt32 >>> ((16 : Int32) &&& 31).toUInt32).toInt32) &&& (255 : Int32)).toUInt32.toUInt16.toUInt32.toInt32) csv T23.heap n0 (Nat.le_trans (Nat.le_trans (Nat.le_trans (Nat.le_trans (Nat.le_trans (Nat.le_trans (Nat.le_trans (Nat.le_trans (Nat.le_trans (Nat.le_trans (Nat.le_trans (Nat.le_trans (Nat.le_trans (Nat.le_trans (Nat.le_trans (Nat.le_trans (Nat.le_trans Z0 E1.1) (Nat.le_of_eq W3.size.symm)) (Nat.le_of_eq W5.size.symm)) (Nat.le_of_eq W7.size.symm)) E8.1) E9.1) E10.1) K11q.1) K12q.1) E13.1) K14q.1) E15.1) K16q.1) K17q.1) K18q.1) K22q.1) K23q.1) (Fposition_22q.keep K23q nin0) (Ft_22q.keep K23q nin0) (((((((((E11q.keep K12q).ext E13).keep K14q).ext E15).keep K16q).keep K17q).keep K18q).keep K22q).keep K23q) (((((((((Fc11q.keep K12q (ninS (Ne.symm (Nat.ne_of_lt (Nat.lt_of_lt_of_le (F_whitespaceEnd_b8.ext E9).lt (Nat.le_of_eq g10.symm)))) nin0)).ext E13).keep K14q (ninS (Nat.ne_of_lt (Nat.lt_of_lt_of_le (E11q.keep K12q).lt (Nat.le_of_eq g13.symm))) nin0)).ext E15).keep K16q (ninS (Nat.ne_of_lt (Nat.lt_of_lt_of_le (((E11q.keep K12q).ext E13).keep K14q).lt (Nat.le_of_eq g15.symm))) nin0)).keep K17q (ninS (Ne.symm (Nat.ne_of_lt (Nat.lt_of_lt_of_le (F_whitespaceEnd_b8.ext E9).lt (Nat.le_of_eq g10.symm)))) nin0)).keep K18q nin0).keep K22q (ninS (Ne.symm (Nat.ne_of_lt (Nat.lt_of_lt_of_le (F_whitespaceEnd_b8.ext E9).lt (Nat.le_of_eq g10.symm)))) nin0)).keep K23q nin0) (((((((((Fv11q.keep K12q (ninS (Ne.symm (Nat.ne_of_lt (Nat.lt_of_lt_of_le (F_whitespaceEnd_b8.ext E9).lt (Nat.le_of_eq g10.symm)))) nin0)).ext E13).keep K14q (ninS (Nat.ne_of_lt (Nat.lt_of_lt_of_le (E11q.keep K12q).lt (Nat.le_of_eq g13.symm))) nin0)).ext E15).keep K16q (ninS (Nat.ne_of_lt (Nat.lt_of_lt_of_le (((E11q.keep K12q).ext E13).keep K14q).lt (Nat.le_of_eq g15.symm))) nin0)).keep K17q (ninS (Ne.symm (Nat.ne_of_lt (Nat.lt_of_lt_of_le (F_whitespaceEnd_b8.ext E9).lt (Nat.le_of_eq g10.symm)))) nin0)).keep K18q nin0).keep K22q (ninS (Ne.symm (Nat.ne_of_lt (Nat.lt_of_lt_of_le (F_whitespaceEnd_b8.ext E9).lt (Nat.le_of_eq g10.symm)))) nin0)).keep K23q nin0) (((((((((V11q.keep K12q (ninS (Ne.symm (Nat.ne_of_lt (Nat.lt_of_lt_of_le ((F_whitespaceEnd_b8.ext E9).ext E10).lt s_b11))) nin0)).ext E13).keep K14q (ninS (Nat.ne_of_lt (Nat.lt_of_lt_of_le (V11q.keep K12q (ninS (Ne.symm (Nat.ne_of_lt (Nat.lt_of_lt_of_le ((F_whitespaceEnd_b8.ext E9).ext E10).lt s_b11))) nin0)).lt (Nat.le_of_eq g13.symm))) nin0)).ext E15).keep K16q (ninS (Nat.ne_of_lt (Nat.lt_of_lt_of_le (((V11q.keep K12q (ninS (Ne.symm (Nat.ne_of_lt (Nat.lt_of_lt_of_le ((F_whitespaceEnd_b8.ext E9).ext E10).lt s_b11))) nin0)).ext E13).keep K14q (ninS (Nat.ne_of_lt (Nat.lt_of_lt_of_le (V11q.keep K12q (ninS (Ne.symm (Nat.ne_of_lt (Nat.lt_of_lt_of_le ((F_whitespaceEnd_b8.ext E9).ext E10).lt s_b11))) nin0)).lt (Nat.le_of_eq g13.symm))) nin0)).lt (Nat.le_of_eq g15.symm))) nin0)).keep K17q (ninS (Ne.symm (Nat.ne_of_lt (Nat.lt_of_lt_of_le ((F_whitespaceEnd_b8.ext E9).ext E10).lt s_b11))) nin0)).keep K18q nin0).keep K22q (ninS (Ne.symm (Nat.ne_of_lt (Nat.lt_of_lt_of_le ((F_whitespaceEnd_b8.ext E9).ext E10).lt s_b11))) nin0)).keep K23q nin0) (own_sta_keep (own_sta_keep (own_sta_keep (own_sta_keep (own_sta_keep ((own_sta_keep ((own_sta_keep (own_sta_keep (((((((SC.ext E1).wr W3).wr W5).wr W7).ext E8).ext E9).ext E10) K11q (allS (own_plE A10) all0)) K12q (allS (own_plE (((A8.ext E9).ext E10).keep K11q)) all0)).ext E13) K14q (allS (own_plE A13) all0)).ext E15) K16q (allS (own_plE A15) all0)) K17q (allS (own_plE ((((E12q.ext E13).keep K14q).ext E15).keep K16q)) all0)) K18q all0) K22q (allS (own_plE (E17q.keep K18q)) all0)) K23q all0) hcs) hZ (hw _ (List.mem_of_getElem? (i := 104) rfl)) (hw _ (List.mem_of_getElem? (i := 3) rfl)) (by decide) (by decide)) q27a q27c (g := (mkF m 195 #[.val (.int p0), .val (.int p1), .val (.int p2), .val (.int p3), .val (.int p4), .val (.ref b1), .val (.ref b8), .val (.ref b13), .val (.ref b15), .val (.ref b18), .val (.int (1 : Int32)), .val (.ref b23)] [(.ref b8)])) rfl (by rw [hml]; rfl) (Steps.refl _) (argsL := []) (rest := []) (lenOf pd_10 rfl) rfl (by show 2 * 0 + _ ≤ _; exact Nat.le_of_eq rfl) (hb hby at_195) (fun _ _ => ⟨rfl, e26, (by decide : 10 + 0 ≤ _), (by decide : 39 + 0 ≤ _)⟩)
  dsimp only [Pt.U, Pt.locs, Pt.cells, Pt.slots] at X27 l27 y27 z27 st27 hQ27
  subst l27 y27 z27
  obtain ⟨rfl, N27q, e27⟩ := hQ27
  have N27 := Fr.app N26 N27q
  refine OEnds.tr (g' := (mkF m 198 #[.val (.int p0), .val (.int p1), .val (.int p2), .val (.int p3), .val (.int p4), .val (.ref b1), .val (.ref b8), .val (.ref b13), .val (.ref b15), .val (.ref b18), .val (.int (1 : Int32)), .val (.ref b23)] [(.int (f15 p1))])) st27 ?_
  have J28 : OEnds p e below (OEndPW s (Q_rm0 Z p0 p1 p2 p3 p4 csv fm h0 n0) room_1.cells room_1.slots) T27 (mkF m 208 #[.val (.int p0), .val (.int p1), .val (.int p2), .val (.int p3), .val (.int p4), .val (.ref b1), .val (.ref b8), .val (.ref b13), .val (.ref b15), .val (.ref b18), .val (.int (1 : Int32)), .val (.ref b23)] [(.int (jrm0_208_s0 p0 p1 p2 p3 p4 csv fm)), (.int (f15 p1))]) := by
    refine OEnds.go (g' := (mkF m 211 #[.val (.int p0), .val (.int p1), .val (.int p2), .val (.int p3), .val (.int p4), .val (.ref b1), .val (.ref b8), .val (.ref b13), .val (.ref b15), .val (.ref b18), .val (.int (1 : Int32)), .val (.ref b23)] [])) (fun t k => XS.icmpNo X27.here hx rfl (hb hby at_208) rfl (teq (by rw [f15, jrm0_208_s0] : ((f15 p1) = (jrm0_208_s0 p0 p1 p2 p3 p4 csv fm)))).2 k) ?_
    refine OEnds.go (g' := (mkF m 212 #[.val (.int p0), .val (.int p1), .val (.int p2), .val (.int p3), .val (.int p4), .val (.ref b1), .val (.ref b8), .val (.ref b13), .val (.ref b15), .val (.ref b18), .val (.int (1 : Int32)), .val (.ref b23)] [(.int (1 : Int32))])) (fun t k => XS.iconst X27.here hx rfl (hb hby at_211) k) ?_
    refine OEnds.go (g' := (mkF m 216 #[.val (.int p0), .val (.int p1), .val (.int p2), .val (.int p3), .val (.int p4), .val (.ref b1), .val (.ref b8), .val (.ref b13), .val (.ref b15), .val (.ref b18), .val (.int (1 : Int32)), .val (.ref b23)] [(.int (1 : Int32))])) (fun t k => XS.goto X27.here hx rfl (pc0 := 212) (pc' := 216) rfl (hb hby at_212) (by decide) (by decide) k) ?_
    refine OEnds.go (g' := (mkF m 218 #[.val (.int p0), .val (.int p1), .val (.int p2), .val (.int p3), .val (.int p4), .val (.ref b1), .val (.ref b8), .val (.ref b13), .val (.ref b15), .val (.ref b18), .val (.int (1 : Int32)), .val (.ref b23)] [])) (fun t k => XS.istore X27.here hx rfl (hb hby at_216) rfl (l' := #[.val (.int p0), .val (.int p1), .val (.int p2), .val (.int p3), .val (.int p4), .val (.ref b1), .val (.ref b8), .val (.ref b13), .val (.ref b15), .val (.ref b18), .val (.int (1 : Int32)), .val (.ref b23)]) rfl k) ?_
    refine OEnds.go (g' := (mkF m 219 #[.val (.int p0), .val (.int p1), .val (.int p2), .val (.int p3), .val (.int p4), .val (.ref b1), .val (.ref b8), .val (.ref b13), .val (.ref b15), .val (.ref b18), .val (.int (1 : Int32)), .val (.ref b23)] [(.int p1)])) (fun t k => XS.iloadN X27.here hx rfl (hb hby at_218) rfl k) ?_
    by_cases c219_29 : p1 < (0 : Int32)
    · -- yes
      refine OEnds.go (g' := (mkF m 266 #[.val (.int p0), .val (.int p1), .val (.int p2), .val (.int p3), .val (.int p4), .val (.ref b1), .val (.ref b8), .val (.ref b13), .val (.ref b15), .val (.ref b18), .val (.int (1 : Int32)), .val (.ref b23)] [])) (fun t k => XS.ifYes X27.here hx rfl (pc0 := 219) (pc' := 266) rfl (hb hby at_219) rfl ((if0 _ _).trans (tlt c219_29).1) (by decide) (by decide) k) ?_
      refine OEnds.go (g' := (mkF m 268 #[.val (.int p0), .val (.int p1), .val (.int p2), .val (.int p3), .val (.int p4), .val (.ref b1), .val (.ref b8), .val (.ref b13), .val (.ref b15), .val (.ref b18), .val (.int (1 : Int32)), .val (.ref b23)] [(.int (1 : Int32))])) (fun t k => XS.iload X27.here hx rfl (hb hby at_266) rfl k) ?_
      exact OEnds.outNW X27 Bd.notSynchronized hS (by rw [e27]; exact (Nat.le_trans (Nat.le_trans (Nat.le_trans (Nat.le_trans (Nat.le_trans (Nat.le_trans (Nat.le_trans (Nat.le_trans (Nat.le_trans (Nat.le_trans (Nat.le_trans hk E10.1) K11q.1) K12q.1) E13.1) K14q.1) E15.1) K16q.1) K17q.1) K18q.1) K22q.1) K23q.1)) hx (t := .boolean) Bd.returns (by simp) (hb hby at_268) ⟨rfl, N27⟩ (by decide) (by decide)
    · -- no
      refine OEnds.go (g' := (mkF m 222 #[.val (.int p0), .val (.int p1), .val (.int p2), .val (.int p3), .val (.int p4), .val (.ref b1), .val (.ref b8), .val (.ref b13), .val (.ref b15), .val (.ref b18), .val (.int (1 : Int32)), .val (.ref b23)] [])) (fun t k => XS.ifNo X27.here hx rfl (hb hby at_219) rfl ((if0 _ _).trans (flt c219_29).1) k) ?_
      refine OEnds.go (g' := (mkF m 223 #[.val (.int p0), .val (.int p1), .val (.int p2), .val (.int p3), .val (.int p4), .val (.ref b1), .val (.ref b8), .val (.ref b13), .val (.ref b15), .val (.ref b18), .val (.int (1 : Int32)), .val (.ref b23)] [(.int p1)])) (fun t k => XS.iloadN X27.here hx rfl (hb hby at_222) rfl k) ?_
      refine OEnds.go (g' := (mkF m 224 #[.val (.int p0), .val (.int p1), .val (.int p2), .val (.int p3), .val (.int p4), .val (.ref b1), .val (.ref b8), .val (.ref b13), .val (.ref b15), .val (.ref b18), .val (.int (1 : Int32)), .val (.ref b23)] [(.int (3 : Int32)), (.int p1)])) (fun t k => XS.iconst X27.here hx rfl (hb hby at_223) k) ?_
      by_cases c224_30 : p1 < (3 : Int32)
      · -- yes
        refine OEnds.go (g' := (mkF m 227 #[.val (.int p0), .val (.int p1), .val (.int p2), .val (.int p3), .val (.int p4), .val (.ref b1), .val (.ref b8), .val (.ref b13), .val (.ref b15), .val (.ref b18), .val (.int (1 : Int32)), .val (.ref b23)] [])) (fun t k => XS.icmpNo X27.here hx rfl (hb hby at_224) rfl (tlt c224_30).2.1 k) ?_
        rcases (own_p3 c219_29 c224_30 : p1 = (0 : Int32) ∨ p1 = (1 : Int32) ∨ p1 = (2 : Int32)) with k227_31 | k227_31 | k227_31
        · -- (0 : Int32)
          rw [k227_31]
          refine OEnds.go (g' := (mkF m 229 #[.val (.int p0), .val (.int (0 : Int32)), .val (.int p2), .val (.int p3), .val (.int p4), .val (.ref b1), .val (.ref b8), .val (.ref b13), .val (.ref b15), .val (.ref b18), .val (.int (1 : Int32)), .val (.ref b23)] [(.int (1 : Int32))])) (fun t k => XS.iload X27.here hx rfl (hb hby at_227) rfl k) ?_
          refine OEnds.go (g' := (mkF m 232 #[.val (.int p0), .val (.int (0 : Int32)), .val (.int p2), .val (.int p3), .val (.int p4), .val (.ref b1), .val (.ref b8), .val (.ref b13), .val (.ref b15), .val (.ref b18), .val (.int (1 : Int32)), .val (.ref b23)] [])) (fun t k => XS.ifNo X27.here hx rfl (hb hby at_229) rfl ((if0 _ _).trans (feq (by decide : ¬ ((1 : Int32) = (0 : Int32)))).1) k) ?_
          refine OEnds.go (g' := (mkF m 234 #[.val (.int p0), .val (.int (0 : Int32)), .val (.int p2), .val (.int p3), .val (.int p4), .val (.ref b1), .val (.ref b8), .val (.ref b13), .val (.ref b15), .val (.ref b18), .val (.int (1 : Int32)), .val (.ref b23)] [(.ref b8)])) (fun t k => XS.aload X27.here hx rfl (hb hby at_232) rfl rfl k) ?_
          refine OEnds.go (g' := (mkF m 236 #[.val (.int p0), .val (.int (0 : Int32)), .val (.int p2), .val (.int p3), .val (.int p4), .val (.ref b1), .val (.ref b8), .val (.ref b13), .val (.ref b15), .val (.ref b18), .val (.int (1 : Int32)), .val (.ref b23)] [(.ref b1), (.ref b8)])) (fun t k => XS.aload X27.here hx rfl (hb hby at_234) rfl rfl k) ?_
          refine OEnds.go (g' := (mkF m 237 #[.val (.int p0), .val (.int (0 : Int32)), .val (.int p2), .val (.int p3), .val (.int p4), .val (.ref b1), .val (.ref b8), .val (.ref b13), .val (.ref b15), .val (.ref b18), .val (.int (1 : Int32)), .val (.ref b23)] [(.int (0 : Int32)), (.ref b1), (.ref b8)])) (fun t k => XS.iloadN X27.here hx rfl (hb hby at_236) rfl k) ?_
          obtain ⟨cl32, Ar32, qa32, Sa32, Na32, Ha32, Ga32⟩ := @id _ (((((((((((((V7_b1.ext E8).ext E9).ext E10).keep K11q (ninS (Nat.ne_of_lt (Nat.lt_of_lt_of_le ((V7_b1.ext E8).ext E9).lt (Nat.le_of_eq g10.symm))) nin0)).keep K12q (ninS (Nat.ne_of_lt (Nat.lt_of_lt_of_le V7_b1.lt (Nat.le_of_eq g8.symm))) nin0)).ext E13).keep K14q (ninS (Nat.ne_of_lt (Nat.lt_of_lt_of_le (((((V7_b1.ext E8).ext E9).ext E10).keep K11q (ninS (Nat.ne_of_lt (Nat.lt_of_lt_of_le ((V7_b1.ext E8).ext E9).lt (Nat.le_of_eq g10.symm))) nin0)).keep K12q (ninS (Nat.ne_of_lt (Nat.lt_of_lt_of_le V7_b1.lt (Nat.le_of_eq g8.symm))) nin0)).lt (Nat.le_of_eq g13.symm))) nin0)).ext E15).keep K16q (ninS (Nat.ne_of_lt (Nat.lt_of_lt_of_le (((((((V7_b1.ext E8).ext E9).ext E10).keep K11q (ninS (Nat.ne_of_lt (Nat.lt_of_lt_of_le ((V7_b1.ext E8).ext E9).lt (Nat.le_of_eq g10.symm))) nin0)).keep K12q (ninS (Nat.ne_of_lt (Nat.lt_of_lt_of_le V7_b1.lt (Nat.le_of_eq g8.symm))) nin0)).ext E13).keep K14q (ninS (Nat.ne_of_lt (Nat.lt_of_lt_of_le (((((V7_b1.ext E8).ext E9).ext E10).keep K11q (ninS (Nat.ne_of_lt (Nat.lt_of_lt_of_le ((V7_b1.ext E8).ext E9).lt (Nat.le_of_eq g10.symm))) nin0)).keep K12q (ninS (Nat.ne_of_lt (Nat.lt_of_lt_of_le V7_b1.lt (Nat.le_of_eq g8.symm))) nin0)).lt (Nat.le_of_eq g13.symm))) nin0)).lt (Nat.le_of_eq g15.symm))) nin0)).keep K17q (ninS (Nat.ne_of_lt (Nat.lt_of_lt_of_le V7_b1.lt (Nat.le_of_eq g8.symm))) nin0)).keep K18q nin0).keep K22q (ninS (Nat.ne_of_lt (Nat.lt_of_lt_of_le V7_b1.lt (Nat.le_of_eq g8.symm))) nin0)).keep K23q nin0)
          have hin32 : ¬ ((0 : Int32) < 0 ∨ cl32.slots.size ≤ ((0 : Int32)).toNatClampNeg) := inb_of Sa32 ⟨by decide, by decide⟩
          have hat32 : cl32.slots[((0 : Int32)).toNatClampNeg]? = some (.int ((p0 &&& (255 : Int32)).toUInt32.toUInt16.toUInt32.toInt32)) := Has.at Ha32 hin32 rfl
          refine OEnds.go (g' := (mkF m 238 #[.val (.int p0), .val (.int (0 : Int32)), .val (.int p2), .val (.int p3), .val (.int p4), .val (.ref b1), .val (.ref b8), .val (.ref b13), .val (.ref b15), .val (.ref b18), .val (.int (1 : Int32)), .val (.ref b23)] [(.int ((p0 &&& (255 : Int32)).toUInt32.toUInt16.toUInt32.toInt32)), (.ref b8)])) (X27.caload hx (j := (0 : Int32)) (v := (.int ((p0 &&& (255 : Int32)).toUInt32.toUInt16.toUInt32.toInt32))) (by rw [e27]; exact Ar32.1) (State.isArrayOf_alike hZ.alike Ar32.2.1) Ar32.2.2 hin32 hat32 (g := (mkF m 237 #[.val (.int p0), .val (.int (0 : Int32)), .val (.int p2), .val (.int p3), .val (.int p4), .val (.ref b1), .val (.ref b8), .val (.ref b13), .val (.ref b15), .val (.ref b18), .val (.int (1 : Int32)), .val (.ref b23)] [(.int (0 : Int32)), (.ref b1), (.ref b8)])) rfl rfl (hb hby at_237)) ?_
          obtain ⟨cq33, kq33, q33a, q33b, q33c⟩ := isOf hZ e27 (E22q.keep K23q)
          obtain ⟨_, _, ⟨T33, L33, k33, n33⟩, -, X33, ⟨Lc33, hQ33, l33, y33, z33⟩, st33⟩ := X27.virtualBack hx (y := (⟨"com/example/shapewright/shapewright/reader/IdlScanner", "isNext", "(C)Z"⟩ : MethodName)) (z := (⟨"com/example/shapewright/shapewright/reader/IdlScanner", "isNext", "(C)Z"⟩ : MethodName)) hown (mvT hZ (hw _ (List.mem_of_getElem? (i := 115) rfl))) (mvT hZ (hw _ (List.mem_of_getElem? (i := 116) rfl))) (notFace_of_selects (args := #[]) (mvT hZ (hw _ (List.mem_of_getElem? (i := 118) rfl)))) (mvT hZ (hw _ (List.mem_of_getElem? (i := 118) rfl))) (mvT hZ (hw _ (List.mem_of_getElem? (i := 117) rfl))) (by decide) (backOf (W := 0) (rmIN0 l Z a0 hw [] b8 ((p0 &&& (255 : Int32)).toUInt32.toUInt16.toUInt32.toInt32) b10 b11 kb11 ((p0 &&& (255 : Int32)).toUInt32.toUInt16.toUInt32.toInt32) ((((p0.toUInt32 >>> ((8 : Int32) &&& 31).toUInt32).toInt32) &&& (255 : Int32)).toUInt32.toUInt16.toUInt32.toInt32) ((((p0.toUInt32 >>> ((16 : Int32) &&& 31).toUInt32).toInt32) &&& (255 : Int32)).toUInt32.toUInt16.toUInt32.toInt32) csv fm T23.heap n0 (Nat.le_trans (Nat.le_trans (Nat.le_trans (Nat.le_trans (Nat.le_trans (Nat.le_trans (Nat.le_trans (Nat.le_trans (Nat.le_trans (Nat.le_trans (Nat.le_trans (Nat.le_trans (Nat.le_trans (Nat.le_trans (Nat.le_trans (Nat.le_trans (Nat.le_trans Z0 E1.1) (Nat.le_of_eq W3.size.symm)) (Nat.le_of_eq W5.size.symm)) (Nat.le_of_eq W7.size.symm)) E8.1) E9.1) E10.1) K11q.1) K12q.1) E13.1) K14q.1) E15.1) K16q.1) K17q.1) K18q.1) K22q.1) K23q.1) (show Fld Z T23.heap b8 "com/example/shapewright/shapewright/reader/IdlScanner" "position" "I" (.int (0 : Int32)) from k227_31 ▸ (Fposition_22q.keep K23q nin0)) (Ft_22q.keep K23q nin0) (((((((((E11q.keep K12q).ext E13).keep K14q).ext E15).keep K16q).keep K17q).keep K18q).keep K22q).keep K23q) (((((((((Fc11q.keep K12q (ninS (Ne.symm (Nat.ne_of_lt (Nat.lt_of_lt_of_le (F_whitespaceEnd_b8.ext E9).lt (Nat.le_of_eq g10.symm)))) nin0)).ext E13).keep K14q (ninS (Nat.ne_of_lt (Nat.lt_of_lt_of_le (E11q.keep K12q).lt (Nat.le_of_eq g13.symm))) nin0)).ext E15).keep K16q (ninS (Nat.ne_of_lt (Nat.lt_of_lt_of_le (((E11q.keep K12q).ext E13).keep K14q).lt (Nat.le_of_eq g15.symm))) nin0)).keep K17q (ninS (Ne.symm (Nat.ne_of_lt (Nat.lt_of_lt_of_le (F_whitespaceEnd_b8.ext E9).lt (Nat.le_of_eq g10.symm)))) nin0)).keep K18q nin0).keep K22q (ninS (Ne.symm (Nat.ne_of_lt (Nat.lt_of_lt_of_le (F_whitespaceEnd_b8.ext E9).lt (Nat.le_of_eq g10.symm)))) nin0)).keep K23q nin0) (((((((((Fv11q.keep K12q (ninS (Ne.symm (Nat.ne_of_lt (Nat.lt_of_lt_of_le (F_whitespaceEnd_b8.ext E9).lt (Nat.le_of_eq g10.symm)))) nin0)).ext E13).keep K14q (ninS (Nat.ne_of_lt (Nat.lt_of_lt_of_le (E11q.keep K12q).lt (Nat.le_of_eq g13.symm))) nin0)).ext E15).keep K16q (ninS (Nat.ne_of_lt (Nat.lt_of_lt_of_le (((E11q.keep K12q).ext E13).keep K14q).lt (Nat.le_of_eq g15.symm))) nin0)).keep K17q (ninS (Ne.symm (Nat.ne_of_lt (Nat.lt_of_lt_of_le (F_whitespaceEnd_b8.ext E9).lt (Nat.le_of_eq g10.symm)))) nin0)).keep K18q nin0).keep K22q (ninS (Ne.symm (Nat.ne_of_lt (Nat.lt_of_lt_of_le (F_whitespaceEnd_b8.ext E9).lt (Nat.le_of_eq g10.symm)))) nin0)).keep K23q nin0) (((((((((V11q.keep K12q (ninS (Ne.symm (Nat.ne_of_lt (Nat.lt_of_lt_of_le ((F_whitespaceEnd_b8.ext E9).ext E10).lt s_b11))) nin0)).ext E13).keep K14q (ninS (Nat.ne_of_lt (Nat.lt_of_lt_of_le (V11q.keep K12q (ninS (Ne.symm (Nat.ne_of_lt (Nat.lt_of_lt_of_le ((F_whitespaceEnd_b8.ext E9).ext E10).lt s_b11))) nin0)).lt (Nat.le_of_eq g13.symm))) nin0)).ext E15).keep K16q (ninS (Nat.ne_of_lt (Nat.lt_of_lt_of_le (((V11q.keep K12q (ninS (Ne.symm (Nat.ne_of_lt (Nat.lt_of_lt_of_le ((F_whitespaceEnd_b8.ext E9).ext E10).lt s_b11))) nin0)).ext E13).keep K14q (ninS (Nat.ne_of_lt (Nat.lt_of_lt_of_le (V11q.keep K12q (ninS (Ne.symm (Nat.ne_of_lt (Nat.lt_of_lt_of_le ((F_whitespaceEnd_b8.ext E9).ext E10).lt s_b11))) nin0)).lt (Nat.le_of_eq g13.symm))) nin0)).lt (Nat.le_of_eq g15.symm))) nin0)).keep K17q (ninS (Ne.symm (Nat.ne_of_lt (Nat.lt_of_lt_of_le ((F_whitespaceEnd_b8.ext E9).ext E10).lt s_b11))) nin0)).keep K18q nin0).keep K22q (ninS (Ne.symm (Nat.ne_of_lt (Nat.lt_of_lt_of_le ((F_whitespaceEnd_b8.ext E9).ext E10).lt s_b11))) nin0)).keep K23q nin0) (own_sta_keep (own_sta_keep (own_sta_keep (own_sta_keep (own_sta_keep ((own_sta_keep ((own_sta_keep (own_sta_keep (((((((SC.ext E1).wr W3).wr W5).wr W7).ext E8).ext E9).ext E10) K11q (allS (own_plE A10) all0)) K12q (allS (own_plE (((A8.ext E9).ext E10).keep K11q)) all0)).ext E13) K14q (allS (own_plE A13) all0)).ext E15) K16q (allS (own_plE A15) all0)) K17q (allS (own_plE ((((E12q.ext E13).keep K14q).ext E15).keep K16q)) all0)) K18q all0) K22q (allS (own_plE (E17q.keep K18q)) all0)) K23q all0) hcs (own_sta_keep (own_sta_keep (own_sta_keep (own_sta_keep (own_sta_keep ((own_sta_keep ((own_sta_keep (own_sta_keep (((((((SF.ext E1).wr W3).wr W5).wr W7).ext E8).ext E9).ext E10) K11q (allS (own_plE A10) all0)) K12q (allS (own_plE (((A8.ext E9).ext E10).keep K11q)) all0)).ext E13) K14q (allS (own_plE A13) all0)).ext E15) K16q (allS (own_plE A15) all0)) K17q (allS (own_plE ((((E12q.ext E13).keep K14q).ext E15).keep K16q)) all0)) K18q all0) K22q (allS (own_plE (E17q.keep K18q)) all0)) K23q all0) hfm (own_ch _)) hZ (hw _ (List.mem_of_getElem? (i := 119) rfl)) (hw _ (List.mem_of_getElem? (i := 3) rfl)) (by decide) (by decide)) q33a q33c (g := (mkF m 238 #[.val (.int p0), .val (.int (0 : Int32)), .val (.int p2), .val (.int p3), .val (.int p4), .val (.ref b1), .val (.ref b8), .val (.ref b13), .val (.ref b15), .val (.ref b18), .val (.int (1 : Int32)), .val (.ref b23)] [(.int ((p0 &&& (255 : Int32)).toUInt32.toUInt16.toUInt32.toInt32)), (.ref b8)])) rfl (by rw [hml]; rfl) (Steps.refl _) (argsL := [(.int ((p0 &&& (255 : Int32)).toUInt32.toUInt16.toUInt32.toInt32))]) (rest := []) (lenOf pd_17 rfl) rfl (by show 2 * 0 + _ ≤ _; exact Nat.le_of_eq rfl) (hb hby at_238) (fun _ _ => ⟨rfl, e27, (by decide : 10 + 0 ≤ _), (by decide : 39 + 0 ≤ _)⟩)
          dsimp only [Pt.U, Pt.locs, Pt.cells, Pt.slots] at X33 l33 y33 z33 st33 hQ33
          subst l33 y33 z33
          obtain ⟨rfl, N33q, e33⟩ := hQ33
          have N33 := Fr.app N27 N33q
          refine OEnds.tr (g' := (mkF m 241 #[.val (.int p0), .val (.int (0 : Int32)), .val (.int p2), .val (.int p3), .val (.int p4), .val (.ref b1), .val (.ref b8), .val (.ref b13), .val (.ref b15), .val (.ref b18), .val (.int (1 : Int32)), .val (.ref b23)] [(.int (fIN0 ((p0 &&& (255 : Int32)).toUInt32.toUInt16.toUInt32.toInt32) ((p0 &&& (255 : Int32)).toUInt32.toUInt16.toUInt32.toInt32)))])) st33 ?_
          refine OEnds.go (g' := (mkF m 244 #[.val (.int p0), .val (.int (0 : Int32)), .val (.int p2), .val (.int p3), .val (.int p4), .val (.ref b1), .val (.ref b8), .val (.ref b13), .val (.ref b15), .val (.ref b18), .val (.int (1 : Int32)), .val (.ref b23)] [])) (fun t k => XS.ifNo X33.here hx rfl (hb hby at_241) rfl ((if0 _ _).trans (feq (own_e1 _ : ¬ ((fIN0 ((p0 &&& (255 : Int32)).toUInt32.toUInt16.toUInt32.toInt32) ((p0 &&& (255 : Int32)).toUInt32.toUInt16.toUInt32.toInt32)) = (0 : Int32)))).1) k) ?_
          refine OEnds.go (g' := (mkF m 246 #[.val (.int p0), .val (.int (0 : Int32)), .val (.int p2), .val (.int p3), .val (.int p4), .val (.ref b1), .val (.ref b8), .val (.ref b13), .val (.ref b15), .val (.ref b18), .val (.int (1 : Int32)), .val (.ref b23)] [(.ref b8)])) (fun t k => XS.aload X33.here hx rfl (hb hby at_244) rfl rfl k) ?_
          refine OEnds.go (g' := (mkF m 248 #[.val (.int p0), .val (.int (0 : Int32)), .val (.int p2), .val (.int p3), .val (.int p4), .val (.ref b1), .val (.ref b8), .val (.ref b13), .val (.ref b15), .val (.ref b18), .val (.int (1 : Int32)), .val (.ref b23)] [(.ref b1), (.ref b8)])) (fun t k => XS.aload X33.here hx rfl (hb hby at_246) rfl rfl k) ?_
          refine OEnds.go (g' := (mkF m 249 #[.val (.int p0), .val (.int (0 : Int32)), .val (.int p2), .val (.int p3), .val (.int p4), .val (.ref b1), .val (.ref b8), .val (.ref b13), .val (.ref b15), .val (.ref b18), .val (.int (1 : Int32)), .val (.ref b23)] [(.int (0 : Int32)), (.ref b1), (.ref b8)])) (fun t k => XS.iloadN X33.here hx rfl (hb hby at_248) rfl k) ?_
          obtain ⟨cl34, Ar34, qa34, Sa34, Na34, Ha34, Ga34⟩ := @id _ (((((((((((((V7_b1.ext E8).ext E9).ext E10).keep K11q (ninS (Nat.ne_of_lt (Nat.lt_of_lt_of_le ((V7_b1.ext E8).ext E9).lt (Nat.le_of_eq g10.symm))) nin0)).keep K12q (ninS (Nat.ne_of_lt (Nat.lt_of_lt_of_le V7_b1.lt (Nat.le_of_eq g8.symm))) nin0)).ext E13).keep K14q (ninS (Nat.ne_of_lt (Nat.lt_of_lt_of_le (((((V7_b1.ext E8).ext E9).ext E10).keep K11q (ninS (Nat.ne_of_lt (Nat.lt_of_lt_of_le ((V7_b1.ext E8).ext E9).lt (Nat.le_of_eq g10.symm))) nin0)).keep K12q (ninS (Nat.ne_of_lt (Nat.lt_of_lt_of_le V7_b1.lt (Nat.le_of_eq g8.symm))) nin0)).lt (Nat.le_of_eq g13.symm))) nin0)).ext E15).keep K16q (ninS (Nat.ne_of_lt (Nat.lt_of_lt_of_le (((((((V7_b1.ext E8).ext E9).ext E10).keep K11q (ninS (Nat.ne_of_lt (Nat.lt_of_lt_of_le ((V7_b1.ext E8).ext E9).lt (Nat.le_of_eq g10.symm))) nin0)).keep K12q (ninS (Nat.ne_of_lt (Nat.lt_of_lt_of_le V7_b1.lt (Nat.le_of_eq g8.symm))) nin0)).ext E13).keep K14q (ninS (Nat.ne_of_lt (Nat.lt_of_lt_of_le (((((V7_b1.ext E8).ext E9).ext E10).keep K11q (ninS (Nat.ne_of_lt (Nat.lt_of_lt_of_le ((V7_b1.ext E8).ext E9).lt (Nat.le_of_eq g10.symm))) nin0)).keep K12q (ninS (Nat.ne_of_lt (Nat.lt_of_lt_of_le V7_b1.lt (Nat.le_of_eq g8.symm))) nin0)).lt (Nat.le_of_eq g13.symm))) nin0)).lt (Nat.le_of_eq g15.symm))) nin0)).keep K17q (ninS (Nat.ne_of_lt (Nat.lt_of_lt_of_le V7_b1.lt (Nat.le_of_eq g8.symm))) nin0)).keep K18q nin0).keep K22q (ninS (Nat.ne_of_lt (Nat.lt_of_lt_of_le V7_b1.lt (Nat.le_of_eq g8.symm))) nin0)).keep K23q nin0)
          have hin34 : ¬ ((0 : Int32) < 0 ∨ cl34.slots.size ≤ ((0 : Int32)).toNatClampNeg) := inb_of Sa34 ⟨by decide, by decide⟩
          have hat34 : cl34.slots[((0 : Int32)).toNatClampNeg]? = some (.int ((p0 &&& (255 : Int32)).toUInt32.toUInt16.toUInt32.toInt32)) := Has.at Ha34 hin34 rfl
          refine OEnds.go (g' := (mkF m 250 #[.val (.int p0), .val (.int (0 : Int32)), .val (.int p2), .val (.int p3), .val (.int p4), .val (.ref b1), .val (.ref b8), .val (.ref b13), .val (.ref b15), .val (.ref b18), .val (.int (1 : Int32)), .val (.ref b23)] [(.int ((p0 &&& (255 : Int32)).toUInt32.toUInt16.toUInt32.toInt32)), (.ref b8)])) (X33.caload hx (j := (0 : Int32)) (v := (.int ((p0 &&& (255 : Int32)).toUInt32.toUInt16.toUInt32.toInt32))) (by rw [e33]; exact Ar34.1) (State.isArrayOf_alike hZ.alike Ar34.2.1) Ar34.2.2 hin34 hat34 (g := (mkF m 249 #[.val (.int p0), .val (.int (0 : Int32)), .val (.int p2), .val (.int p3), .val (.int p4), .val (.ref b1), .val (.ref b8), .val (.ref b13), .val (.ref b15), .val (.ref b18), .val (.int (1 : Int32)), .val (.ref b23)] [(.int (0 : Int32)), (.ref b1), (.ref b8)])) rfl rfl (hb hby at_249)) ?_
          refine OEnds.go (g' := (mkF m 251 #[.val (.int p0), .val (.int (0 : Int32)), .val (.int p2), .val (.int p3), .val (.int p4), .val (.ref b1), .val (.ref b8), .val (.ref b13), .val (.ref b15), .val (.ref b18), .val (.int (1 : Int32)), .val (.ref b23)] [(.int (1 : Int32)), (.int ((p0 &&& (255 : Int32)).toUInt32.toUInt16.toUInt32.toInt32)), (.ref b8)])) (fun t k => XS.iconst X33.here hx rfl (hb hby at_250) k) ?_
          refine OEnds.go (g' := (mkF m 252 #[.val (.int p0), .val (.int (0 : Int32)), .val (.int p2), .val (.int p3), .val (.int p4), .val (.ref b1), .val (.ref b8), .val (.ref b13), .val (.ref b15), .val (.ref b18), .val (.int (1 : Int32)), .val (.ref b23)] [(.int (((p0 &&& (255 : Int32)).toUInt32.toUInt16.toUInt32.toInt32) ^^^ (1 : Int32))), (.ref b8)])) (fun t k => XS.ixor X33.here hx rfl (hb hby at_251) rfl k) ?_
          refine OEnds.go (g' := (mkF m 253 #[.val (.int p0), .val (.int (0 : Int32)), .val (.int p2), .val (.int p3), .val (.int p4), .val (.ref b1), .val (.ref b8), .val (.ref b13), .val (.ref b15), .val (.ref b18), .val (.int (1 : Int32)), .val (.ref b23)] [(.int ((((p0 &&& (255 : Int32)).toUInt32.toUInt16.toUInt32.toInt32) ^^^ (1 : Int32)).toUInt32.toUInt16.toUInt32.toInt32)), (.ref b8)])) (fun t k => XS.i2c X33.here hx rfl (hb hby at_252) rfl k) ?_
          obtain ⟨cq35, kq35, q35a, q35b, q35c⟩ := isOf hZ e33 (E22q.keep K23q)
          obtain ⟨_, _, ⟨T35, L35, k35, n35⟩, -, X35, ⟨Lc35, hQ35, l35, y35, z35⟩, st35⟩ := X33.virtualBack hx (y := (⟨"com/example/shapewright/shapewright/reader/IdlScanner", "isNext", "(C)Z"⟩ : MethodName)) (z := (⟨"com/example/shapewright/shapewright/reader/IdlScanner", "isNext", "(C)Z"⟩ : MethodName)) hown (mvT hZ (hw _ (List.mem_of_getElem? (i := 115) rfl))) (mvT hZ (hw _ (List.mem_of_getElem? (i := 116) rfl))) (notFace_of_selects (args := #[]) (mvT hZ (hw _ (List.mem_of_getElem? (i := 118) rfl)))) (mvT hZ (hw _ (List.mem_of_getElem? (i := 118) rfl))) (mvT hZ (hw _ (List.mem_of_getElem? (i := 117) rfl))) (by decide) (backOf (W := 0) (rmIN0 l Z a0 hw [] b8 ((((p0 &&& (255 : Int32)).toUInt32.toUInt16.toUInt32.toInt32) ^^^ (1 : Int32)).toUInt32.toUInt16.toUInt32.toInt32) b10 b11 kb11 ((p0 &&& (255 : Int32)).toUInt32.toUInt16.toUInt32.toInt32) ((((p0.toUInt32 >>> ((8 : Int32) &&& 31).toUInt32).toInt32) &&& (255 : Int32)).toUInt32.toUInt16.toUInt32.toInt32) ((((p0.toUInt32 >>> ((16 : Int32) &&& 31).toUInt32).toInt32) &&& (255 : Int32)).toUInt32.toUInt16.toUInt32.toInt32) csv fm T23.heap n0 (Nat.le_trans (Nat.le_trans (Nat.le_trans (Nat.le_trans (Nat.le_trans (Nat.le_trans (Nat.le_trans (Nat.le_trans (Nat.le_trans (Nat.le_trans (Nat.le_trans (Nat.le_trans (Nat.le_trans (Nat.le_trans (Nat.le_trans (Nat.le_trans (Nat.le_trans Z0 E1.1) (Nat.le_of_eq W3.size.symm)) (Nat.le_of_eq W5.size.symm)) (Nat.le_of_eq W7.size.symm)) E8.1) E9.1) E10.1) K11q.1) K12q.1) E13.1) K14q.1) E15.1) K16q.1) K17q.1) K18q.1) K22q.1) K23q.1) (show Fld Z T23.heap b8 "com/example/shapewright/shapewright/reader/IdlScanner" "position" "I" (.int (0 : Int32)) from k227_31 ▸ (Fposition_22q.keep K23q nin0)) (Ft_22q.keep K23q nin0) (((((((((E11q.keep K12q).ext E13).keep K14q).ext E15).keep K16q).keep K17q).keep K18q).keep K22q).keep K23q) (((((((((Fc11q.keep K12q (ninS (Ne.symm (Nat.ne_of_lt (Nat.lt_of_lt_of_le (F_whitespaceEnd_b8.ext E9).lt (Nat.le_of_eq g10.symm)))) nin0)).ext E13).keep K14q (ninS (Nat.ne_of_lt (Nat.lt_of_lt_of_le (E11q.keep K12q).lt (Nat.le_of_eq g13.symm))) nin0)).ext E15).keep K16q (ninS (Nat.ne_of_lt (Nat.lt_of_lt_of_le (((E11q.keep K12q).ext E13).keep K14q).lt (Nat.le_of_eq g15.symm))) nin0)).keep K17q (ninS (Ne.symm (Nat.ne_of_lt (Nat.lt_of_lt_of_le (F_whitespaceEnd_b8.ext E9).lt (Nat.le_of_eq g10.symm)))) nin0)).keep K18q nin0).keep K22q (ninS (Ne.symm (Nat.ne_of_lt (Nat.lt_of_lt_of_le (F_whitespaceEnd_b8.ext E9).lt (Nat.le_of_eq g10.symm)))) nin0)).keep K23q nin0) (((((((((Fv11q.keep K12q (ninS (Ne.symm (Nat.ne_of_lt (Nat.lt_of_lt_of_le (F_whitespaceEnd_b8.ext E9).lt (Nat.le_of_eq g10.symm)))) nin0)).ext E13).keep K14q (ninS (Nat.ne_of_lt (Nat.lt_of_lt_of_le (E11q.keep K12q).lt (Nat.le_of_eq g13.symm))) nin0)).ext E15).keep K16q (ninS (Nat.ne_of_lt (Nat.lt_of_lt_of_le (((E11q.keep K12q).ext E13).keep K14q).lt (Nat.le_of_eq g15.symm))) nin0)).keep K17q (ninS (Ne.symm (Nat.ne_of_lt (Nat.lt_of_lt_of_le (F_whitespaceEnd_b8.ext E9).lt (Nat.le_of_eq g10.symm)))) nin0)).keep K18q nin0).keep K22q (ninS (Ne.symm (Nat.ne_of_lt (Nat.lt_of_lt_of_le (F_whitespaceEnd_b8.ext E9).lt (Nat.le_of_eq g10.symm)))) nin0)).keep K23q nin0) (((((((((V11q.keep K12q (ninS (Ne.symm (Nat.ne_of_lt (Nat.lt_of_lt_of_le ((F_whitespaceEnd_b8.ext E9).ext E10).lt s_b11))) nin0)).ext E13).keep K14q (ninS (Nat.ne_of_lt (Nat.lt_of_lt_of_le (V11q.keep K12q (ninS (Ne.symm (Nat.ne_of_lt (Nat.lt_of_lt_of_le ((F_whitespaceEnd_b8.ext E9).ext E10).lt s_b11))) nin0)).lt (Nat.le_of_eq g13.symm))) nin0)).ext E15).keep K16q (ninS (Nat.ne_of_lt (Nat.lt_of_lt_of_le (((V11q.keep K12q (ninS (Ne.symm (Nat.ne_of_lt (Nat.lt_of_lt_of_le ((F_whitespaceEnd_b8.ext E9).ext E10).lt s_b11))) nin0)).ext E13).keep K14q (ninS (Nat.ne_of_lt (Nat.lt_of_lt_of_le (V11q.keep K12q (ninS (Ne.symm (Nat.ne_of_lt (Nat.lt_of_lt_of_le ((F_whitespaceEnd_b8.ext E9).ext E10).lt s_b11))) nin0)).lt (Nat.le_of_eq g13.symm))) nin0)).lt (Nat.le_of_eq g15.symm))) nin0)).keep K17q (ninS (Ne.symm (Nat.ne_of_lt (Nat.lt_of_lt_of_le ((F_whitespaceEnd_b8.ext E9).ext E10).lt s_b11))) nin0)).keep K18q nin0).keep K22q (ninS (Ne.symm (Nat.ne_of_lt (Nat.lt_of_lt_of_le ((F_whitespaceEnd_b8.ext E9).ext E10).lt s_b11))) nin0)).keep K23q nin0) (own_sta_keep (own_sta_keep (own_sta_keep (own_sta_keep (own_sta_keep ((own_sta_keep ((own_sta_keep (own_sta_keep (((((((SC.ext E1).wr W3).wr W5).wr W7).ext E8).ext E9).ext E10) K11q (allS (own_plE A10) all0)) K12q (allS (own_plE (((A8.ext E9).ext E10).keep K11q)) all0)).ext E13) K14q (allS (own_plE A13) all0)).ext E15) K16q (allS (own_plE A15) all0)) K17q (allS (own_plE ((((E12q.ext E13).keep K14q).ext E15).keep K16q)) all0)) K18q all0) K22q (allS (own_plE (E17q.keep K18q)) all0)) K23q all0) hcs (own_sta_keep (own_sta_keep (own_sta_keep (own_sta_keep (own_sta_keep ((own_sta_keep ((own_sta_keep (own_sta_keep (((((((SF.ext E1).wr W3).wr W5).wr W7).ext E8).ext E9).ext E10) K11q (allS (own_plE A10) all0)) K12q (allS (own_plE (((A8.ext E9).ext E10).keep K11q)) all0)).ext E13) K14q (allS (own_plE A13) all0)).ext E15) K16q (allS (own_plE A15) all0)) K17q (allS (own_plE ((((E12q.ext E13).keep K14q).ext E15).keep K16q)) all0)) K18q all0) K22q (allS (own_plE (E17q.keep K18q)) all0)) K23q all0) hfm (own_ch _)) hZ (hw _ (List.mem_of_getElem? (i := 119) rfl)) (hw _ (List.mem_of_getElem? (i := 3) rfl)) (by decide) (by decide)) q35a q35c (g := (mkF m 253 #[.val (.int p0), .val (.int (0 : Int32)), .val (.int p2), .val (.int p3), .val (.int p4), .val (.ref b1), .val (.ref b8), .val (.ref b13), .val (.ref b15), .val (.ref b18), .val (.int (1 : Int32)), .val (.ref b23)] [(.int ((((p0 &&& (255 : Int32)).toUInt32.toUInt16.toUInt32.toInt32) ^^^ (1 : Int32)).toUInt32.toUInt16.toUInt32.toInt32)), (.ref b8)])) rfl (by rw [hml]; rfl) (Steps.refl _) (argsL := [(.int ((((p0 &&& (255 : Int32)).toUInt32.toUInt16.toUInt32.toInt32) ^^^ (1 : Int32)).toUInt32.toUInt16.toUInt32.toInt32))]) (rest := []) (lenOf pd_17 rfl) rfl (by show 2 * 0 + _ ≤ _; exact Nat.le_of_eq rfl) (hb hby at_253) (fun _ _ => ⟨rfl, e33, (by decide : 10 + 0 ≤ _), (by decide : 39 + 0 ≤ _)⟩)
          dsimp only [Pt.U, Pt.locs, Pt.cells, Pt.slots] at X35 l35 y35 z35 st35 hQ35
          subst l35 y35 z35
          obtain ⟨rfl, N35q, e35⟩ := hQ35
          have N35 := Fr.app N33 N35q
          refine OEnds.tr (g' := (mkF m 256 #[.val (.int p0), .val (.int (0 : Int32)), .val (.int p2), .val (.int p3), .val (.int p4), .val (.ref b1), .val (.ref b8), .val (.ref b13), .val (.ref b15), .val (.ref b18), .val (.int (1 : Int32)), .val (.ref b23)] [(.int (fIN0 ((((p0 &&& (255 : Int32)).toUInt32.toUInt16.toUInt32.toInt32) ^^^ (1 : Int32)).toUInt32.toUInt16.toUInt32.toInt32) ((p0 &&& (255 : Int32)).toUInt32.toUInt16.toUInt32.toInt32)))])) st35 ?_
          refine OEnds.go (g' := (mkF m 259 #[.val (.int p0), .val (.int (0 : Int32)), .val (.int p2), .val (.int p3), .val (.int p4), .val (.ref b1), .val (.ref b8), .val (.ref b13), .val (.ref b15), .val (.ref b18), .val (.int (1 : Int32)), .val (.ref b23)] [])) (fun t k => XS.ifNo X35.here hx rfl (hb hby at_256) rfl ((if0 _ _).trans (teq (own_n1 _ (own_ch _) : ((fIN0 ((((p0 &&& (255 : Int32)).toUInt32.toUInt16.toUInt32.toInt32) ^^^ (1 : Int32)).toUInt32.toUInt16.toUInt32.toInt32) ((p0 &&& (255 : Int32)).toUInt32.toUInt16.toUInt32.toInt32)) = (0 : Int32)))).2) k) ?_
          refine OEnds.go (g' := (mkF m 260 #[.val (.int p0), .val (.int (0 : Int32)), .val (.int p2), .val (.int p3), .val (.int p4), .val (.ref b1), .val (.ref b8), .val (.ref b13), .val (.ref b15), .val (.ref b18), .val (.int (1 : Int32)), .val (.ref b23)] [(.int (1 : Int32))])) (fun t k => XS.iconst X35.here hx rfl (hb hby at_259) k) ?_
          refine OEnds.go (g' := (mkF m 264 #[.val (.int p0), .val (.int (0 : Int32)), .val (.int p2), .val (.int p3), .val (.int p4), .val (.ref b1), .val (.ref b8), .val (.ref b13), .val (.ref b15), .val (.ref b18), .val (.int (1 : Int32)), .val (.ref b23)] [(.int (1 : Int32))])) (fun t k => XS.goto X35.here hx rfl (pc0 := 260) (pc' := 264) rfl (hb hby at_260) (by decide) (by decide) k) ?_
          refine OEnds.go (g' := (mkF m 266 #[.val (.int p0), .val (.int (0 : Int32)), .val (.int p2), .val (.int p3), .val (.int p4), .val (.ref b1), .val (.ref b8), .val (.ref b13), .val (.ref b15), .val (.ref b18), .val (.int (1 : Int32)), .val (.ref b23)] [])) (fun t k => XS.istore X35.here hx rfl (hb hby at_264) rfl (l' := #[.val (.int p0), .val (.int (0 : Int32)), .val (.int p2), .val (.int p3), .val (.int p4), .val (.ref b1), .val (.ref b8), .val (.ref b13), .val (.ref b15), .val (.ref b18), .val (.int (1 : Int32)), .val (.ref b23)]) rfl k) ?_
          refine OEnds.go (g' := (mkF m 268 #[.val (.int p0), .val (.int (0 : Int32)), .val (.int p2), .val (.int p3), .val (.int p4), .val (.ref b1), .val (.ref b8), .val (.ref b13), .val (.ref b15), .val (.ref b18), .val (.int (1 : Int32)), .val (.ref b23)] [(.int (1 : Int32))])) (fun t k => XS.iload X35.here hx rfl (hb hby at_266) rfl k) ?_
          exact OEnds.outNW X35 Bd.notSynchronized hS (by rw [e35]; exact (Nat.le_trans (Nat.le_trans (Nat.le_trans (Nat.le_trans (Nat.le_trans (Nat.le_trans (Nat.le_trans (Nat.le_trans (Nat.le_trans (Nat.le_trans (Nat.le_trans hk E10.1) K11q.1) K12q.1) E13.1) K14q.1) E15.1) K16q.1) K17q.1) K18q.1) K22q.1) K23q.1)) hx (t := .boolean) Bd.returns (by simp) (hb hby at_268) ⟨rfl, N35⟩ (by decide) (by decide)
        · -- (1 : Int32)
          rw [k227_31]
          refine OEnds.go (g' := (mkF m 229 #[.val (.int p0), .val (.int (1 : Int32)), .val (.int p2), .val (.int p3), .val (.int p4), .val (.ref b1), .val (.ref b8), .val (.ref b13), .val (.ref b15), .val (.ref b18), .val (.int (1 : Int32)), .val (.ref b23)] [(.int (1 : Int32))])) (fun t k => XS.iload X27.here hx rfl (hb hby at_227) rfl k) ?_
          refine OEnds.go (g' := (mkF m 232 #[.val (.int p0), .val (.int (1 : Int32)), .val (.int p2), .val (.int p3), .val (.int p4), .val (.ref b1), .val (.ref b8), .val (.ref b13), .val (.ref b15), .val (.ref b18), .val (.int (1 : Int32)), .val (.ref b23)] [])) (fun t k => XS.ifNo X27.here hx rfl (hb hby at_229) rfl ((if0 _ _).trans (feq (by decide : ¬ ((1 : Int32) = (0 : Int32)))).1) k) ?_
          refine OEnds.go (g' := (mkF m 234 #[.val (.int p0), .val (.int (1 : Int32)), .val (.int p2), .val (.int p3), .val (.int p4), .val (.ref b1), .val (.ref b8), .val (.ref b13), .val (.ref b15), .val (.ref b18), .val (.int (1 : Int32)), .val (.ref b23)] [(.ref b8)])) (fun t k => XS.aload X27.here hx rfl (hb hby at_232) rfl rfl k) ?_
          refine OEnds.go (g' := (mkF m 236 #[.val (.int p0), .val (.int (1 : Int32)), .val (.int p2), .val (.int p3), .val (.int p4), .val (.ref b1), .val (.ref b8), .val (.ref b13), .val (.ref b15), .val (.ref b18), .val (.int (1 : Int32)), .val (.ref b23)] [(.ref b1), (.ref b8)])) (fun t k => XS.aload X27.here hx rfl (hb hby at_234) rfl rfl k) ?_
          refine OEnds.go (g' := (mkF m 237 #[.val (.int p0), .val (.int (1 : Int32)), .val (.int p2), .val (.int p3), .val (.int p4), .val (.ref b1), .val (.ref b8), .val (.ref b13), .val (.ref b15), .val (.ref b18), .val (.int (1 : Int32)), .val (.ref b23)] [(.int (1 : Int32)), (.ref b1), (.ref b8)])) (fun t k => XS.iloadN X27.here hx rfl (hb hby at_236) rfl k) ?_
          obtain ⟨cl36, Ar36, qa36, Sa36, Na36, Ha36, Ga36⟩ := @id _ (((((((((((((V7_b1.ext E8).ext E9).ext E10).keep K11q (ninS (Nat.ne_of_lt (Nat.lt_of_lt_of_le ((V7_b1.ext E8).ext E9).lt (Nat.le_of_eq g10.symm))) nin0)).keep K12q (ninS (Nat.ne_of_lt (Nat.lt_of_lt_of_le V7_b1.lt (Nat.le_of_eq g8.symm))) nin0)).ext E13).keep K14q (ninS (Nat.ne_of_lt (Nat.lt_of_lt_of_le (((((V7_b1.ext E8).ext E9).ext E10).keep K11q (ninS (Nat.ne_of_lt (Nat.lt_of_lt_of_le ((V7_b1.ext E8).ext E9).lt (Nat.le_of_eq g10.symm))) nin0)).keep K12q (ninS (Nat.ne_of_lt (Nat.lt_of_lt_of_le V7_b1.lt (Nat.le_of_eq g8.symm))) nin0)).lt (Nat.le_of_eq g13.symm))) nin0)).ext E15).keep K16q (ninS (Nat.ne_of_lt (Nat.lt_of_lt_of_le (((((((V7_b1.ext E8).ext E9).ext E10).keep K11q (ninS (Nat.ne_of_lt (Nat.lt_of_lt_of_le ((V7_b1.ext E8).ext E9).lt (Nat.le_of_eq g10.symm))) nin0)).keep K12q (ninS (Nat.ne_of_lt (Nat.lt_of_lt_of_le V7_b1.lt (Nat.le_of_eq g8.symm))) nin0)).ext E13).keep K14q (ninS (Nat.ne_of_lt (Nat.lt_of_lt_of_le (((((V7_b1.ext E8).ext E9).ext E10).keep K11q (ninS (Nat.ne_of_lt (Nat.lt_of_lt_of_le ((V7_b1.ext E8).ext E9).lt (Nat.le_of_eq g10.symm))) nin0)).keep K12q (ninS (Nat.ne_of_lt (Nat.lt_of_lt_of_le V7_b1.lt (Nat.le_of_eq g8.symm))) nin0)).lt (Nat.le_of_eq g13.symm))) nin0)).lt (Nat.le_of_eq g15.symm))) nin0)).keep K17q (ninS (Nat.ne_of_lt (Nat.lt_of_lt_of_le V7_b1.lt (Nat.le_of_eq g8.symm))) nin0)).keep K18q nin0).keep K22q (ninS (Nat.ne_of_lt (Nat.lt_of_lt_of_le V7_b1.lt (Nat.le_of_eq g8.symm))) nin0)).keep K23q nin0)
          have hin36 : ¬ ((1 : Int32) < 0 ∨ cl36.slots.size ≤ ((1 : Int32)).toNatClampNeg) := inb_of Sa36 ⟨by decide, by decide⟩
          have hat36 : cl36.slots[((1 : Int32)).toNatClampNeg]? = some (.int ((((p0.toUInt32 >>> ((8 : Int32) &&& 31).toUInt32).toInt32) &&& (255 : Int32)).toUInt32.toUInt16.toUInt32.toInt32)) := Has.at Ha36 hin36 rfl
          refine OEnds.go (g' := (mkF m 238 #[.val (.int p0), .val (.int (1 : Int32)), .val (.int p2), .val (.int p3), .val (.int p4), .val (.ref b1), .val (.ref b8), .val (.ref b13), .val (.ref b15), .val (.ref b18), .val (.int (1 : Int32)), .val (.ref b23)] [(.int ((((p0.toUInt32 >>> ((8 : Int32) &&& 31).toUInt32).toInt32) &&& (255 : Int32)).toUInt32.toUInt16.toUInt32.toInt32)), (.ref b8)])) (X27.caload hx (j := (1 : Int32)) (v := (.int ((((p0.toUInt32 >>> ((8 : Int32) &&& 31).toUInt32).toInt32) &&& (255 : Int32)).toUInt32.toUInt16.toUInt32.toInt32))) (by rw [e27]; exact Ar36.1) (State.isArrayOf_alike hZ.alike Ar36.2.1) Ar36.2.2 hin36 hat36 (g := (mkF m 237 #[.val (.int p0), .val (.int (1 : Int32)), .val (.int p2), .val (.int p3), .val (.int p4), .val (.ref b1), .val (.ref b8), .val (.ref b13), .val (.ref b15), .val (.ref b18), .val (.int (1 : Int32)), .val (.ref b23)] [(.int (1 : Int32)), (.ref b1), (.ref b8)])) rfl rfl (hb hby at_237)) ?_
          obtain ⟨cq37, kq37, q37a, q37b, q37c⟩ := isOf hZ e27 (E22q.keep K23q)
          obtain ⟨_, _, ⟨T37, L37, k37, n37⟩, -, X37, ⟨Lc37, hQ37, l37, y37, z37⟩, st37⟩ := X27.virtualBack hx (y := (⟨"com/example/shapewright/shapewright/reader/IdlScanner", "isNext", "(C)Z"⟩ : MethodName)) (z := (⟨"com/example/shapewright/shapewright/reader/IdlScanner", "isNext", "(C)Z"⟩ : MethodName)) hown (mvT hZ (hw _ (List.mem_of_getElem? (i := 115) rfl))) (mvT hZ (hw _ (List.mem_of_getElem? (i := 116) rfl))) (notFace_of_selects (args := #[]) (mvT hZ (hw _ (List.mem_of_getElem? (i := 118) rfl)))) (mvT hZ (hw _ (List.mem_of_getElem? (i := 118) rfl))) (mvT hZ (hw _ (List.mem_of_getElem? (i := 117) rfl))) (by decide) (backOf (W := 0) (rmIN1 l Z a0 hw [] b8 ((((p0.toUInt32 >>> ((8 : Int32) &&& 31).toUInt32).toInt32) &&& (255 : Int32)).toUInt32.toUInt16.toUInt32.toInt32) b10 b11 kb11 ((p0 &&& (255 : Int32)).toUInt32.toUInt16.toUInt32.toInt32) ((((p0.toUInt32 >>> ((8 : Int32) &&& 31).toUInt32).toInt32) &&& (255 : Int32)).toUInt32.toUInt16.toUInt32.toInt32) ((((p0.toUInt32 >>> ((16 : Int32) &&& 31).toUInt32).toInt32) &&& (255 : Int32)).toUInt32.toUInt16.toUInt32.toInt32) csv fm T23.heap n0 (Nat.le_trans (Nat.le_trans (Nat.le_trans (Nat.le_trans (Nat.le_trans (Nat.le_trans (Nat.le_trans (Nat.le_trans (Nat.le_trans (Nat.le_trans (Nat.le_trans (Nat.le_trans (Nat.le_trans (Nat.le_trans (Nat.le_trans (Nat.le_trans (Nat.le_trans Z0 E1.1) (Nat.le_of_eq W3.size.symm)) (Nat.le_of_eq W5.size.symm)) (Nat.le_of_eq W7.size.symm)) E8.1) E9.1) E10.1) K11q.1) K12q.1) E13.1) K14q.1) E15.1) K16q.1) K17q.1) K18q.1) K22q.1) K23q.1) (show Fld Z T23.heap b8 "com/example/shapewright/shapewright/reader/IdlScanner" "position" "I" (.int (1 : Int32)) from k227_31 ▸ (Fposition_22q.keep K23q nin0)) (Ft_22q.keep K23q nin0) (((((((((E11q.keep K12q).ext E13).keep K14q).ext E15).keep K16q).keep K17q).keep K18q).keep K22q).keep K23q) (((((((((Fc11q.keep K12q (ninS (Ne.symm (Nat.ne_of_lt (Nat.lt_of_lt_of_le (F_whitespaceEnd_b8.ext E9).lt (Nat.le_of_eq g10.symm)))) nin0)).ext E13).keep K14q (ninS (Nat.ne_of_lt (Nat.lt_of_lt_of_le (E11q.keep K12q).lt (Nat.le_of_eq g13.symm))) nin0)).ext E15).keep K16q (ninS (Nat.ne_of_lt (Nat.lt_of_lt_of_le (((E11q.keep K12q).ext E13).keep K14q).lt (Nat.le_of_eq g15.symm))) nin0)).keep K17q (ninS (Ne.symm (Nat.ne_of_lt (Nat.lt_of_lt_of_le (F_whitespaceEnd_b8.ext E9).lt (Nat.le_of_eq g10.symm)))) nin0)).keep K18q nin0).keep K22q (ninS (Ne.symm (Nat.ne_of_lt (Nat.lt_of_lt_of_le (F_whitespaceEnd_b8.ext E9).lt (Nat.le_of_eq g10.symm)))) nin0)).keep K23q nin0) (((((((((Fv11q.keep K12q (ninS (Ne.symm (Nat.ne_of_lt (Nat.lt_of_lt_of_le (F_whitespaceEnd_b8.ext E9).lt (Nat.le_of_eq g10.symm)))) nin0)).ext E13).keep K14q (ninS (Nat.ne_of_lt (Nat.lt_of_lt_of_le (E11q.keep K12q).lt (Nat.le_of_eq g13.symm))) nin0)).ext E15).keep K16q (ninS (Nat.ne_of_lt (Nat.lt_of_lt_of_le (((E11q.keep K12q).ext E13).keep K14q).lt (Nat.le_of_eq g15.symm))) nin0)).keep K17q (ninS (Ne.symm (Nat.ne_of_lt (Nat.lt_of_lt_of_le (F_whitespaceEnd_b8.ext E9).lt (Nat.le_of_eq g10.symm)))) nin0)).keep K18q nin0).keep K22q (ninS (Ne.symm (Nat.ne_of_lt (Nat.lt_of_lt_of_le (F_whitespaceEnd_b8.ext E9).lt (Nat.le_of_eq g10.symm)))) nin0)).keep K23q nin0) (((((((((V11q.keep K12q (ninS (Ne.symm (Nat.ne_of_lt (Nat.lt_of_lt_of_le ((F_whitespaceEnd_b8.ext E9).ext E10).lt s_b11))) nin0)).ext E13).keep K14q (ninS (Nat.ne_of_lt (Nat.lt_of_lt_of_le (V11q.keep K12q (ninS (Ne.symm (Nat.ne_of_lt (Nat.lt_of_lt_of_le ((F_whitespaceEnd_b8.ext E9).ext E10).lt s_b11))) nin0)).lt (Nat.le_of_eq g13.symm))) nin0)).ext E15).keep K16q (ninS (Nat.ne_of_lt (Nat.lt_of_lt_of_le (((V11q.keep K12q (ninS (Ne.symm (Nat.ne_of_lt (Nat.lt_of_lt_of_le ((F_whitespaceEnd_b8.ext E9).ext E10).lt s_b11))) nin0)).ext E13).keep K14q (ninS (Nat.ne_of_lt (Nat.lt_of_lt_of_le (V11q.keep K12q (ninS (Ne.symm (Nat.ne_of_lt (Nat.lt_of_lt_of_le ((F_whitespaceEnd_b8.ext E9).ext E10).lt s_b11))) nin0)).lt (Nat.le_of_eq g13.symm))) nin0)).lt (Nat.le_of_eq g15.symm))) nin0)).keep K17q (ninS (Ne.symm (Nat.ne_of_lt (Nat.lt_of_lt_of_le ((F_whitespaceEnd_b8.ext E9).ext E10).lt s_b11))) nin0)).keep K18q nin0).keep K22q (ninS (Ne.symm (Nat.ne_of_lt (Nat.lt_of_lt_of_le ((F_whitespaceEnd_b8.ext E9).ext E10).lt s_b11))) nin0)).keep K23q nin0) (own_sta_keep (own_sta_keep (own_sta_keep (own_sta_keep (own_sta_keep ((own_sta_keep ((own_sta_keep (own_sta_keep (((((((SC.ext E1).wr W3).wr W5).wr W7).ext E8).ext E9).ext E10) K11q (allS (own_plE A10) all0)) K12q (allS (own_plE (((A8.ext E9).ext E10).keep K11q)) all0)).ext E13) K14q (allS (own_plE A13) all0)).ext E15) K16q (allS (own_plE A15) all0)) K17q (allS (own_plE ((((E12q.ext E13).keep K14q).ext E15).keep K16q)) all0)) K18q all0) K22q (allS (own_plE (E17q.keep K18q)) all0)) K23q all0) hcs (own_sta_keep (own_sta_keep (own_sta_keep (own_sta_keep (own_sta_keep ((own_sta_keep ((own_sta_keep (own_sta_keep (((((((SF.ext E1).wr W3).wr W5).wr W7).ext E8).ext E9).ext E10) K11q (allS (own_plE A10) all0)) K12q (allS (own_plE (((A8.ext E9).ext E10).keep K11q)) all0)).ext E13) K14q (allS (own_plE A13) all0)).ext E15) K16q (allS (own_plE A15) all0)) K17q (allS (own_plE ((((E12q.ext E13).keep K14q).ext E15).keep K16q)) all0)) K18q all0) K22q (allS (own_plE (E17q.keep K18q)) all0)) K23q all0) hfm (own_ch _)) hZ (hw _ (List.mem_of_getElem? (i := 119) rfl)) (hw _ (List.mem_of_getElem? (i := 3) rfl)) (by decide) (by decide)) q37a q37c (g := (mkF m 238 #[.val (.int p0), .val (.int (1 : Int32)), .val (.int p2), .val (.int p3), .val (.int p4), .val (.ref b1), .val (.ref b8), .val (.ref b13), .val (.ref b15), .val (.ref b18), .val (.int (1 : Int32)), .val (.ref b23)] [(.int ((((p0.toUInt32 >>> ((8 : Int32) &&& 31).toUInt32).toInt32) &&& (255 : Int32)).toUInt32.toUInt16.toUInt32.toInt32)), (.ref b8)])) rfl (by rw [hml]; rfl) (Steps.refl _) (argsL := [(.int ((((p0.toUInt32 >>> ((8 : Int32) &&& 31).toUInt32).toInt32) &&& (255 : Int32)).toUInt32.toUInt16.toUInt32.toInt32))]) (rest := []) (lenOf pd_17 rfl) rfl (by show 2 * 0 + _ ≤ _; exact Nat.le_of_eq rfl) (hb hby at_238) (fun _ _ => ⟨rfl, e27, (by decide : 10 + 0 ≤ _), (by decide : 39 + 0 ≤ _)⟩)
          dsimp only [Pt.U, Pt.locs, Pt.cells, Pt.slots] at X37 l37 y37 z37 st37 hQ37
          subst l37 y37 z37
          obtain ⟨rfl, N37q, e37⟩ := hQ37
          have N37 := Fr.app N27 N37q
          refine OEnds.tr (g' := (mkF m 241 #[.val (.int p0), .val (.int (1 : Int32)), .val (.int p2), .val (.int p3), .val (.int p4), .val (.ref b1), .val (.ref b8), .val (.ref b13), .val (.ref b15), .val (.ref b18), .val (.int (1 : Int32)), .val (.ref b23)] [(.int (fIN1 ((((p0.toUInt32 >>> ((8 : Int32) &&& 31).toUInt32).toInt32) &&& (255 : Int32)).toUInt32.toUInt16.toUInt32.toInt32) ((((p0.toUInt32 >>> ((8 : Int32) &&& 31).toUInt32).toInt32) &&& (255 : Int32)).toUInt32.toUInt16.toUInt32.toInt32)))])) st37 ?_
          refine OEnds.go (g' := (mkF m 244 #[.val (.int p0), .val (.int (1 : Int32)), .val (.int p2), .val (.int p3), .val (.int p4), .val (.ref b1), .val (.ref b8), .val (.ref b13), .val (.ref b15), .val (.ref b18), .val (.int (1 : Int32)), .val (.ref b23)] [])) (fun t k => XS.ifNo X37.here hx rfl (hb hby at_241) rfl ((if0 _ _).trans (feq (own_e2 _ : ¬ ((fIN1 ((((p0.toUInt32 >>> ((8 : Int32) &&& 31).toUInt32).toInt32) &&& (255 : Int32)).toUInt32.toUInt16.toUInt32.toInt32) ((((p0.toUInt32 >>> ((8 : Int32) &&& 31).toUInt32).toInt32) &&& (255 : Int32)).toUInt32.toUInt16.toUInt32.toInt32)) = (0 : Int32)))).1) k) ?_
          refine OEnds.go (g' := (mkF m 246 #[.val (.int p0), .val (.int (1 : Int32)), .val (.int p2), .val (.int p3), .val (.int p4), .val (.ref b1), .val (.ref b8), .val (.ref b13), .val (.ref b15), .val (.ref b18), .val (.int (1 : Int32)), .val (.ref b23)] [(.ref b8)])) (fun t k => XS.aload X37.here hx rfl (hb hby at_244) rfl rfl k) ?_
          refine OEnds.go (g' := (mkF m 248 #[.val (.int p0), .val (.int (1 : Int32)), .val (.int p2), .val (.int p3), .val (.int p4), .val (.ref b1), .val (.ref b8), .val (.ref b13), .val (.ref b15), .val (.ref b18), .val (.int (1 : Int32)), .val (.ref b23)] [(.ref b1), (.ref b8)])) (fun t k => XS.aload X37.here hx rfl (hb hby at_246) rfl rfl k) ?_
          refine OEnds.go (g' := (mkF m 249 #[.val (.int p0), .val (.int (1 : Int32)), .val (.int p2), .val (.int p3), .val (.int p4), .val (.ref b1), .val (.ref b8), .val (.ref b13), .val (.ref b15), .val (.ref b18), .val (.int (1 : Int32)), .val (.ref b23)] [(.int (1 : Int32)), (.ref b1), (.ref b8)])) (fun t k => XS.iloadN X37.here hx rfl (hb hby at_248) rfl k) ?_
          obtain ⟨cl38, Ar38, qa38, Sa38, Na38, Ha38, Ga38⟩ := @id _ (((((((((((((V7_b1.ext E8).ext E9).ext E10).keep K11q (ninS (Nat.ne_of_lt (Nat.lt_of_lt_of_le ((V7_b1.ext E8).ext E9).lt (Nat.le_of_eq g10.symm))) nin0)).keep K12q (ninS (Nat.ne_of_lt (Nat.lt_of_lt_of_le V7_b1.lt (Nat.le_of_eq g8.symm))) nin0)).ext E13).keep K14q (ninS (Nat.ne_of_lt (Nat.lt_of_lt_of_le (((((V7_b1.ext E8).ext E9).ext E10).keep K11q (ninS (Nat.ne_of_lt (Nat.lt_of_lt_of_le ((V7_b1.ext E8).ext E9).lt (Nat.le_of_eq g10.symm))) nin0)).keep K12q (ninS (Nat.ne_of_lt (Nat.lt_of_lt_of_le V7_b1.lt (Nat.le_of_eq g8.symm))) nin0)).lt (Nat.le_of_eq g13.symm))) nin0)).ext E15).keep K16q (ninS (Nat.ne_of_lt (Nat.lt_of_lt_of_le (((((((V7_b1.ext E8).ext E9).ext E10).keep K11q (ninS (Nat.ne_of_lt (Nat.lt_of_lt_of_le ((V7_b1.ext E8).ext E9).lt (Nat.le_of_eq g10.symm))) nin0)).keep K12q (ninS (Nat.ne_of_lt (Nat.lt_of_lt_of_le V7_b1.lt (Nat.le_of_eq g8.symm))) nin0)).ext E13).keep K14q (ninS (Nat.ne_of_lt (Nat.lt_of_lt_of_le (((((V7_b1.ext E8).ext E9).ext E10).keep K11q (ninS (Nat.ne_of_lt (Nat.lt_of_lt_of_le ((V7_b1.ext E8).ext E9).lt (Nat.le_of_eq g10.symm))) nin0)).keep K12q (ninS (Nat.ne_of_lt (Nat.lt_of_lt_of_le V7_b1.lt (Nat.le_of_eq g8.symm))) nin0)).lt (Nat.le_of_eq g13.symm))) nin0)).lt (Nat.le_of_eq g15.symm))) nin0)).keep K17q (ninS (Nat.ne_of_lt (Nat.lt_of_lt_of_le V7_b1.lt (Nat.le_of_eq g8.symm))) nin0)).keep K18q nin0).keep K22q (ninS (Nat.ne_of_lt (Nat.lt_of_lt_of_le V7_b1.lt (Nat.le_of_eq g8.symm))) nin0)).keep K23q nin0)
          have hin38 : ¬ ((1 : Int32) < 0 ∨ cl38.slots.size ≤ ((1 : Int32)).toNatClampNeg) := inb_of Sa38 ⟨by decide, by decide⟩
          have hat38 : cl38.slots[((1 : Int32)).toNatClampNeg]? = some (.int ((((p0.toUInt32 >>> ((8 : Int32) &&& 31).toUInt32).toInt32) &&& (255 : Int32)).toUInt32.toUInt16.toUInt32.toInt32)) := Has.at Ha38 hin38 rfl
          refine OEnds.go (g' := (mkF m 250 #[.val (.int p0), .val (.int (1 : Int32)), .val (.int p2), .val (.int p3), .val (.int p4), .val (.ref b1), .val (.ref b8), .val (.ref b13), .val (.ref b15), .val (.ref b18), .val (.int (1 : Int32)), .val (.ref b23)] [(.int ((((p0.toUInt32 >>> ((8 : Int32) &&& 31).toUInt32).toInt32) &&& (255 : Int32)).toUInt32.toUInt16.toUInt32.toInt32)), (.ref b8)])) (X37.caload hx (j := (1 : Int32)) (v := (.int ((((p0.toUInt32 >>> ((8 : Int32) &&& 31).toUInt32).toInt32) &&& (255 : Int32)).toUInt32.toUInt16.toUInt32.toInt32))) (by rw [e37]; exact Ar38.1) (State.isArrayOf_alike hZ.alike Ar38.2.1) Ar38.2.2 hin38 hat38 (g := (mkF m 249 #[.val (.int p0), .val (.int (1 : Int32)), .val (.int p2), .val (.int p3), .val (.int p4), .val (.ref b1), .val (.ref b8), .val (.ref b13), .val (.ref b15), .val (.ref b18), .val (.int (1 : Int32)), .val (.ref b23)] [(.int (1 : Int32)), (.ref b1), (.ref b8)])) rfl rfl (hb hby at_249)) ?_
          refine OEnds.go (g' := (mkF m 251 #[.val (.int p0), .val (.int (1 : Int32)), .val (.int p2), .val (.int p3), .val (.int p4), .val (.ref b1), .val (.ref b8), .val (.ref b13), .val (.ref b15), .val (.ref b18), .val (.int (1 : Int32)), .val (.ref b23)] [(.int (1 : Int32)), (.int ((((p0.toUInt32 >>> ((8 : Int32) &&& 31).toUInt32).toInt32) &&& (255 : Int32)).toUInt32.toUInt16.toUInt32.toInt32)), (.ref b8)])) (fun t k => XS.iconst X37.here hx rfl (hb hby at_250) k) ?_
          refine OEnds.go (g' := (mkF m 252 #[.val (.int p0), .val (.int (1 : Int32)), .val (.int p2), .val (.int p3), .val (.int p4), .val (.ref b1), .val (.ref b8), .val (.ref b13), .val (.ref b15), .val (.ref b18), .val (.int (1 : Int32)), .val (.ref b23)] [(.int (((((p0.toUInt32 >>> ((8 : Int32) &&& 31).toUInt32).toInt32) &&& (255 : Int32)).toUInt32.toUInt16.toUInt32.toInt32) ^^^ (1 : Int32))), (.ref b8)])) (fun t k => XS.ixor X37.here hx rfl (hb hby at_251) rfl k) ?_
          refine OEnds.go (g' := (mkF m 253 #[.val (.int p0), .val (.int (1 : Int32)), .val (.int p2), .val (.int p3), .val (.int p4), .val (.ref b1), .val (.ref b8), .val (.ref b13), .val (.ref b15), .val (.ref b18), .val (.int (1 : Int32)), .val (.ref b23)] [(.int ((((((p0.toUInt32 >>> ((8 : Int32) &&& 31).toUInt32).toInt32) &&& (255 : Int32)).toUInt32.toUInt16.toUInt32.toInt32) ^^^ (1 : Int32)).toUInt32.toUInt16.toUInt32.toInt32)), (.ref b8)])) (fun t k => XS.i2c X37.here hx rfl (hb hby at_252) rfl k) ?_
          obtain ⟨cq39, kq39, q39a, q39b, q39c⟩ := isOf hZ e37 (E22q.keep K23q)
          obtain ⟨_, _, ⟨T39, L39, k39, n39⟩, -, X39, ⟨Lc39, hQ39, l39, y39, z39⟩, st39⟩ := X37.virtualBack hx (y := (⟨"com/example/shapewright/shapewright/reader/IdlScanner", "isNext", "(C)Z"⟩ : MethodName)) (z := (⟨"com/example/shapewright/shapewright/reader/IdlScanner", "isNext", "(C)Z"⟩ : MethodName)) hown (mvT hZ (hw _ (List.mem_of_getElem? (i := 115) rfl))) (mvT hZ (hw _ (List.mem_of_getElem? (i := 116) rfl))) (notFace_of_selects (args := #[]) (mvT hZ (hw _ (List.mem_of_getElem? (i := 118) rfl)))) (mvT hZ (hw _ (List.mem_of_getElem? (i := 118) rfl))) (mvT hZ (hw _ (List.mem_of_getElem? (i := 117) rfl))) (by decide) (backOf (W := 0) (rmIN1 l Z a0 hw [] b8 ((((((p0.toUInt32 >>> ((8 : Int32) &&& 31).toUInt32).toInt32) &&& (255 : Int32)).toUInt32.toUInt16.toUInt32.toInt32) ^^^ (1 : Int32)).toUInt32.toUInt16.toUInt32.toInt32) b10 b11 kb11 ((p0 &&& (255 : Int32)).toUInt32.toUInt16.toUInt32.toInt32) ((((p0.toUInt32 >>> ((8 : Int32) &&& 31).toUInt32).toInt32) &&& (255 : Int32)).toUInt32.toUInt16.toUInt32.toInt32) ((((p0.toUInt32 >>> ((16 : Int32) &&& 31).toUInt32).toInt32) &&& (255 : Int32)).toUInt32.toUInt16.toUInt32.toInt32) csv fm T23.heap n0 (Nat.le_trans (Nat.le_trans (Nat.le_trans (Nat.le_trans (Nat.le_trans (Nat.le_trans (Nat.le_trans (Nat.le_trans (Nat.le_trans (Nat.le_trans (Nat.le_trans (Nat.le_trans (Nat.le_trans (Nat.le_trans (Nat.le_trans (Nat.le_trans (Nat.le_trans Z0 E1.1) (Nat.le_of_eq W3.size.symm)) (Nat.le_of_eq W5.size.symm)) (Nat.le_of_eq W7.size.symm)) E8.1) E9.1) E10.1) K11q.1) K12q.1) E13.1) K14q.1) E15.1) K16q.1) K17q.1) K18q.1) K22q.1) K23q.1) (show Fld Z T23.heap b8 "com/example/shapewright/shapewright/reader/IdlScanner" "position" "I" (.int (1 : Int32)) from k227_31 ▸ (Fposition_22q.keep K23q nin0)) (Ft_22q.keep K23q nin0) (((((((((E11q.keep K12q).ext E13).keep K14q).ext E15).keep K16q).keep K17q).keep K18q).keep K22q).keep K23q) (((((((((Fc11q.keep K12q (ninS (Ne.symm (Nat.ne_of_lt (Nat.lt_of_lt_of_le (F_whitespaceEnd_b8.ext E9).lt (Nat.le_of_eq g10.symm)))) nin0)).ext E13).keep K14q (ninS (Nat.ne_of_lt (Nat.lt_of_lt_of_le (E11q.keep K12q).lt (Nat.le_of_eq g13.symm))) nin0)).ext E15).keep K16q (ninS (Nat.ne_of_lt (Nat.lt_of_lt_of_le (((E11q.keep K12q).ext E13).keep K14q).lt (Nat.le_of_eq g15.symm))) nin0)).keep K17q (ninS (Ne.symm (Nat.ne_of_lt (Nat.lt_of_lt_of_le (F_whitespaceEnd_b8.ext E9).lt (Nat.le_of_eq g10.symm)))) nin0)).keep K18q nin0).keep K22q (ninS (Ne.symm (Nat.ne_of_lt (Nat.lt_of_lt_of_le (F_whitespaceEnd_b8.ext E9).lt (Nat.le_of_eq g10.symm)))) nin0)).keep K23q nin0) (((((((((Fv11q.keep K12q (ninS (Ne.symm (Nat.ne_of_lt (Nat.lt_of_lt_of_le (F_whitespaceEnd_b8.ext E9).lt (Nat.le_of_eq g10.symm)))) nin0)).ext E13).keep K14q (ninS (Nat.ne_of_lt (Nat.lt_of_lt_of_le (E11q.keep K12q).lt (Nat.le_of_eq g13.symm))) nin0)).ext E15).keep K16q (ninS (Nat.ne_of_lt (Nat.lt_of_lt_of_le (((E11q.keep K12q).ext E13).keep K14q).lt (Nat.le_of_eq g15.symm))) nin0)).keep K17q (ninS (Ne.symm (Nat.ne_of_lt (Nat.lt_of_lt_of_le (F_whitespaceEnd_b8.ext E9).lt (Nat.le_of_eq g10.symm)))) nin0)).keep K18q nin0).keep K22q (ninS (Ne.symm (Nat.ne_of_lt (Nat.lt_of_lt_of_le (F_whitespaceEnd_b8.ext E9).lt (Nat.le_of_eq g10.symm)))) nin0)).keep K23q nin0) (((((((((V11q.keep K12q (ninS (Ne.symm (Nat.ne_of_lt (Nat.lt_of_lt_of_le ((F_whitespaceEnd_b8.ext E9).ext E10).lt s_b11))) nin0)).ext E13).keep K14q (ninS (Nat.ne_of_lt (Nat.lt_of_lt_of_le (V11q.keep K12q (ninS (Ne.symm (Nat.ne_of_lt (Nat.lt_of_lt_of_le ((F_whitespaceEnd_b8.ext E9).ext E10).lt s_b11))) nin0)).lt (Nat.le_of_eq g13.symm))) nin0)).ext E15).keep K16q (ninS (Nat.ne_of_lt (Nat.lt_of_lt_of_le (((V11q.keep K12q (ninS (Ne.symm (Nat.ne_of_lt (Nat.lt_of_lt_of_le ((F_whitespaceEnd_b8.ext E9).ext E10).lt s_b11))) nin0)).ext E13).keep K14q (ninS (Nat.ne_of_lt (Nat.lt_of_lt_of_le (V11q.keep K12q (ninS (Ne.symm (Nat.ne_of_lt (Nat.lt_of_lt_of_le ((F_whitespaceEnd_b8.ext E9).ext E10).lt s_b11))) nin0)).lt (Nat.le_of_eq g13.symm))) nin0)).lt (Nat.le_of_eq g15.symm))) nin0)).keep K17q (ninS (Ne.symm (Nat.ne_of_lt (Nat.lt_of_lt_of_le ((F_whitespaceEnd_b8.ext E9).ext E10).lt s_b11))) nin0)).keep K18q nin0).keep K22q (ninS (Ne.symm (Nat.ne_of_lt (Nat.lt_of_lt_of_le ((F_whitespaceEnd_b8.ext E9).ext E10).lt s_b11))) nin0)).keep K23q nin0) (own_sta_keep (own_sta_keep (own_sta_keep (own_sta_keep (own_sta_keep ((own_sta_keep ((own_sta_keep (own_sta_keep (((((((SC.ext E1).wr W3).wr W5).wr W7).ext E8).ext E9).ext E10) K11q (allS (own_plE A10) all0)) K12q (allS (own_plE (((A8.ext E9).ext E10).keep K11q)) all0)).ext E13) K14q (allS (own_plE A13) all0)).ext E15) K16q (allS (own_plE A15) all0)) K17q (allS (own_plE ((((E12q.ext E13).keep K14q).ext E15).keep K16q)) all0)) K18q all0) K22q (allS (own_plE (E17q.keep K18q)) all0)) K23q all0) hcs (own_sta_keep (own_sta_keep (own_sta_keep (own_sta_keep (own_sta_keep ((own_sta_keep ((own_sta_keep (own_sta_keep (((((((SF.ext E1).wr W3).wr W5).wr W7).ext E8).ext E9).ext E10) K11q (allS (own_plE A10) all0)) K12q (allS (own_plE (((A8.ext E9).ext E10).keep K11q)) all0)).ext E13) K14q (allS (own_plE A13) all0)).ext E15) K16q (allS (own_plE A15) all0)) K17q (allS (own_plE ((((E12q.ext E13).keep K14q).ext E15).keep K16q)) all0)) K18q all0) K22q (allS (own_plE (E17q.keep K18q)) all0)) K23q all0) hfm (own_ch _)) hZ (hw _ (List.mem_of_getElem? (i := 119) rfl)) (hw _ (List.mem_of_getElem? (i := 3) rfl)) (by decide) (by decide)) q39a q39c (g := (mkF m 253 #[.val (.int p0), .val (.int (1 : Int32)), .val (.int p2), .val (.int p3), .val (.int p4), .val (.ref b1), .val (.ref b8), .val (.ref b13), .val (.ref b15), .val (.ref b18), .val (.int (1 : Int32)), .val (.ref b23)] [(.int ((((((p0.toUInt32 >>> ((8 : Int32) &&& 31).toUInt32).toInt32) &&& (255 : Int32)).toUInt32.toUInt16.toUInt32.toInt32) ^^^ (1 : Int32)).toUInt32.toUInt16.toUInt32.toInt32)), (.ref b8)])) rfl (by rw [hml]; rfl) (Steps.refl _) (argsL := [(.int ((((((p0.toUInt32 >>> ((8 : Int32) &&& 31).toUInt32).toInt32) &&& (255 : Int32)).toUInt32.toUInt16.toUInt32.toInt32) ^^^ (1 : Int32)).toUInt32.toUInt16.toUInt32.toInt32))]) (rest := []) (lenOf pd_17 rfl) rfl (by show 2 * 0 + _ ≤ _; exact Nat.le_of_eq rfl) (hb hby at_253) (fun _ _ => ⟨rfl, e37, (by decide : 10 + 0 ≤ _), (by decide : 39 + 0 ≤ _)⟩)
          dsimp only [Pt.U, Pt.locs, Pt.cells, Pt.slots] at X39 l39 y39 z39 st39 hQ39
          subst l39 y39 z39
          obtain ⟨rfl, N39q, e39⟩ := hQ39
          have N39 := Fr.app N37 N39q
          refine OEnds.tr (g' := (mkF m 256 #[.val (.int p0), .val (.int (1 : Int32)), .val (.int p2), .val (.int p3), .val (.int p4), .val (.ref b1), .val (.ref b8), .val (.ref b13), .val (.ref b15), .val (.ref b18), .val (.int (1 : Int32)), .val (.ref b23)] [(.int (fIN1 ((((((p0.toUInt32 >>> ((8 : Int32) &&& 31).toUInt32).toInt32) &&& (255 : Int32)).toUInt32.toUInt16.toUInt32.toInt32) ^^^ (1 : Int32)).toUInt32.toUInt16.toUInt32.toInt32) ((((p0.toUInt32 >>> ((8 : Int32) &&& 31).toUInt32).toInt32) &&& (255 : Int32)).toUInt32.toUInt16.toUInt32.toInt32)))])) st39 ?_
          refine OEnds.go (g' := (mkF m 259 #[.val (.int p0), .val (.int (1 : Int32)), .val (.int p2), .val (.int p3), .val (.int p4), .val (.ref b1), .val (.ref b8), .val (.ref b13), .val (.ref b15), .val (.ref b18), .val (.int (1 : Int32)), .val (.ref b23)] [])) (fun t k => XS.ifNo X39.here hx rfl (hb hby at_256) rfl ((if0 _ _).trans (teq (own_n2 _ (own_ch _) : ((fIN1 ((((((p0.toUInt32 >>> ((8 : Int32) &&& 31).toUInt32).toInt32) &&& (255 : Int32)).toUInt32.toUInt16.toUInt32.toInt32) ^^^ (1 : Int32)).toUInt32.toUInt16.toUInt32.toInt32) ((((p0.toUInt32 >>> ((8 : Int32) &&& 31).toUInt32).toInt32) &&& (255 : Int32)).toUInt32.toUInt16.toUInt32.toInt32)) = (0 : Int32)))).2) k) ?_
          refine OEnds.go (g' := (mkF m 260 #[.val (.int p0), .val (.int (1 : Int32)), .val (.int p2), .val (.int p3), .val (.int p4), .val (.ref b1), .val (.ref b8), .val (.ref b13), .val (.ref b15), .val (.ref b18), .val (.int (1 : Int32)), .val (.ref b23)] [(.int (1 : Int32))])) (fun t k => XS.iconst X39.here hx rfl (hb hby at_259) k) ?_
          refine OEnds.go (g' := (mkF m 264 #[.val (.int p0), .val (.int (1 : Int32)), .val (.int p2), .val (.int p3), .val (.int p4), .val (.ref b1), .val (.ref b8), .val (.ref b13), .val (.ref b15), .val (.ref b18), .val (.int (1 : Int32)), .val (.ref b23)] [(.int (1 : Int32))])) (fun t k => XS.goto X39.here hx rfl (pc0 := 260) (pc' := 264) rfl (hb hby at_260) (by decide) (by decide) k) ?_
          refine OEnds.go (g' := (mkF m 266 #[.val (.int p0), .val (.int (1 : Int32)), .val (.int p2), .val (.int p3), .val (.int p4), .val (.ref b1), .val (.ref b8), .val (.ref b13), .val (.ref b15), .val (.ref b18), .val (.int (1 : Int32)), .val (.ref b23)] [])) (fun t k => XS.istore X39.here hx rfl (hb hby at_264) rfl (l' := #[.val (.int p0), .val (.int (1 : Int32)), .val (.int p2), .val (.int p3), .val (.int p4), .val (.ref b1), .val (.ref b8), .val (.ref b13), .val (.ref b15), .val (.ref b18), .val (.int (1 : Int32)), .val (.ref b23)]) rfl k) ?_
          refine OEnds.go (g' := (mkF m 268 #[.val (.int p0), .val (.int (1 : Int32)), .val (.int p2), .val (.int p3), .val (.int p4), .val (.ref b1), .val (.ref b8), .val (.ref b13), .val (.ref b15), .val (.ref b18), .val (.int (1 : Int32)), .val (.ref b23)] [(.int (1 : Int32))])) (fun t k => XS.iload X39.here hx rfl (hb hby at_266) rfl k) ?_
          exact OEnds.outNW X39 Bd.notSynchronized hS (by rw [e39]; exact (Nat.le_trans (Nat.le_trans (Nat.le_trans (Nat.le_trans (Nat.le_trans (Nat.le_trans (Nat.le_trans (Nat.le_trans (Nat.le_trans (Nat.le_trans (Nat.le_trans hk E10.1) K11q.1) K12q.1) E13.1) K14q.1) E15.1) K16q.1) K17q.1) K18q.1) K22q.1) K23q.1)) hx (t := .boolean) Bd.returns (by simp) (hb hby at_268) ⟨rfl, N39⟩ (by decide) (by decide)
        · -- (2 : Int32)
          rw [k227_31]
          refine OEnds.go (g' := (mkF m 229 #[.val (.int p0), .val (.int (2 : Int32)), .val (.int p2), .val (.int p3), .val (.int p4), .val (.ref b1), .val (.ref b8), .val (.ref b13), .val (.ref b15), .val (.ref b18), .val (.int (1 : Int32)), .val (.ref b23)] [(.int (1 : Int32))])) (fun t k => XS.iload X27.here hx rfl (hb hby at_227) rfl k) ?_
          refine OEnds.go (g' := (mkF m 232 #[.val (.int p0), .val (.int (2 : Int32)), .val (.int p2), .val (.int p3), .val (.int p4), .val (.ref b1), .val (.ref b8), .val (.ref b13), .val (.ref b15), .val (.ref b18), .val (.int (1 : Int32)), .val (.ref b23)] [])) (fun t k => XS.ifNo X27.here hx rfl (hb hby at_229) rfl ((if0 _ _).trans (feq (by decide : ¬ ((1 : Int32) = (0 : Int32)))).1) k) ?_
          refine OEnds.go (g' := (mkF m 234 #[.val (.int p0), .val (.int (2 : Int32)), .val (.int p2), .val (.int p3), .val (.int p4), .val (.ref b1), .val (.ref b8), .val (.ref b13), .val (.ref b15), .val (.ref b18), .val (.int (1 : Int32)), .val (.ref b23)] [(.ref b8)])) (fun t k => XS.aload X27.here hx rfl (hb hby at_232) rfl rfl k) ?_
          refine OEnds.go (g' := (mkF m 236 #[.val (.int p0), .val (.int (2 : Int32)), .val (.int p2), .val (.int p3), .val (.int p4), .val (.ref b1), .val (.ref b8), .val (.ref b13), .val (.ref b15), .val (.ref b18), .val (.int (1 : Int32)), .val (.ref b23)] [(.ref b1), (.ref b8)])) (fun t k => XS.aload X27.here hx rfl (hb hby at_234) rfl rfl k) ?_
          refine OEnds.go (g' := (mkF m 237 #[.val (.int p0), .val (.int (2 : Int32)), .val (.int p2), .val (.int p3), .val (.int p4), .val (.ref b1), .val (.ref b8), .val (.ref b13), .val (.ref b15), .val (.ref b18), .val (.int (1 : Int32)), .val (.ref b23)] [(.int (2 : Int32)), (.ref b1), (.ref b8)])) (fun t k => XS.iloadN X27.here hx rfl (hb hby at_236) rfl k) ?_
          obtain ⟨cl40, Ar40, qa40, Sa40, Na40, Ha40, Ga40⟩ := @id _ (((((((((((((V7_b1.ext E8).ext E9).ext E10).keep K11q (ninS (Nat.ne_of_lt (Nat.lt_of_lt_of_le ((V7_b1.ext E8).ext E9).lt (Nat.le_of_eq g10.symm))) nin0)).keep K12q (ninS (Nat.ne_of_lt (Nat.lt_of_lt_of_le V7_b1.lt (Nat.le_of_eq g8.symm))) nin0)).ext E13).keep K14q (ninS (Nat.ne_of_lt (Nat.lt_of_lt_of_le (((((V7_b1.ext E8).ext E9).ext E10).keep K11q (ninS (Nat.ne_of_lt (Nat.lt_of_lt_of_le ((V7_b1.ext E8).ext E9).lt (Nat.le_of_eq g10.symm))) nin0)).keep K12q (ninS (Nat.ne_of_lt (Nat.lt_of_lt_of_le V7_b1.lt (Nat.le_of_eq g8.symm))) nin0)).lt (Nat.le_of_eq g13.symm))) nin0)).ext E15).keep K16q (ninS (Nat.ne_of_lt (Nat.lt_of_lt_of_le (((((((V7_b1.ext E8).ext E9).ext E10).keep K11q (ninS (Nat.ne_of_lt (Nat.lt_of_lt_of_le ((V7_b1.ext E8).ext E9).lt (Nat.le_of_eq g10.symm))) nin0)).keep K12q (ninS (Nat.ne_of_lt (Nat.lt_of_lt_of_le V7_b1.lt (Nat.le_of_eq g8.symm))) nin0)).ext E13).keep K14q (ninS (Nat.ne_of_lt (Nat.lt_of_lt_of_le (((((V7_b1.ext E8).ext E9).ext E10).keep K11q (ninS (Nat.ne_of_lt (Nat.lt_of_lt_of_le ((V7_b1.ext E8).ext E9).lt (Nat.le_of_eq g10.symm))) nin0)).keep K12q (ninS (Nat.ne_of_lt (Nat.lt_of_lt_of_le V7_b1.lt (Nat.le_of_eq g8.symm))) nin0)).lt (Nat.le_of_eq g13.symm))) nin0)).lt (Nat.le_of_eq g15.symm))) nin0)).keep K17q (ninS (Nat.ne_of_lt (Nat.lt_of_lt_of_le V7_b1.lt (Nat.le_of_eq g8.symm))) nin0)).keep K18q nin0).keep K22q (ninS (Nat.ne_of_lt (Nat.lt_of_lt_of_le V7_b1.lt (Nat.le_of_eq g8.symm))) nin0)).keep K23q nin0)
          have hin40 : ¬ ((2 : Int32) < 0 ∨ cl40.slots.size ≤ ((2 : Int32)).toNatClampNeg) := inb_of Sa40 ⟨by decide, by decide⟩
          have hat40 : cl40.slots[((2 : Int32)).toNatClampNeg]? = some (.int ((((p0.toUInt32 >>> ((16 : Int32) &&& 31).toUInt32).toInt32) &&& (255 : Int32)).toUInt32.toUInt16.toUInt32.toInt32)) := Has.at Ha40 hin40 rfl
          refine OEnds.go (g' := (mkF m 238 #[.val (.int p0), .val (.int (2 : Int32)), .val (.int p2), .val (.int p3), .val (.int p4), .val (.ref b1), .val (.ref b8), .val (.ref b13), .val (.ref b15), .val (.ref b18), .val (.int (1 : Int32)), .val (.ref b23)] [(.int ((((p0.toUInt32 >>> ((16 : Int32) &&& 31).toUInt32).toInt32) &&& (255 : Int32)).toUInt32.toUInt16.toUInt32.toInt32)), (.ref b8)])) (X27.caload hx (j := (2 : Int32)) (v := (.int ((((p0.toUInt32 >>> ((16 : Int32) &&& 31).toUInt32).toInt32) &&& (255 : Int32)).toUInt32.toUInt16.toUInt32.toInt32))) (by rw [e27]; exact Ar40.1) (State.isArrayOf_alike hZ.alike Ar40.2.1) Ar40.2.2 hin40 hat40 (g := (mkF m 237 #[.val (.int p0), .val (.int (2 : Int32)), .val (.int p2), .val (.int p3), .val (.int p4), .val (.ref b1), .val (.ref b8), .val (.ref b13), .val (.ref b15), .val (.ref b18), .val (.int (1 : Int32)), .val (.ref b23)] [(.int (2 : Int32)), (.ref b1), (.ref b8)])) rfl rfl (hb hby at_237)) ?_
          obtain ⟨cq41, kq41, q41a, q41b, q41c⟩ := isOf hZ e27 (E22q.keep K23q)
          obtain ⟨_, _, ⟨T41, L41, k41, n41⟩, -, X41, ⟨Lc41, hQ41, l41, y41, z41⟩, st41⟩ := X27.virtualBack hx (y := (⟨"com/example/shapewright/shapewright/reader/IdlScanner", "isNext", "(C)Z"⟩ : MethodName)) (z := (⟨"com/example/shapewright/shapewright/reader/IdlScanner", "isNext", "(C)Z"⟩ : MethodName)) hown (mvT hZ (hw _ (List.mem_of_getElem? (i := 115) rfl))) (mvT hZ (hw _ (List.mem_of_getElem? (i := 116) rfl))) (notFace_of_selects (args := #[]) (mvT hZ (hw _ (List.mem_of_getElem? (i := 118) rfl)))) (mvT hZ (hw _ (List.mem_of_getElem? (i := 118) rfl))) (mvT hZ (hw _ (List.mem_of_getElem? (i := 117) rfl))) (by decide) (backOf (W := 0) (rmIN2 l Z a0 hw [] b8 ((((p0.toUInt32 >>> ((16 : Int32) &&& 31).toUInt32).toInt32) &&& (255 : Int32)).toUInt32.toUInt16.toUInt32.toInt32) b10 b11 kb11 ((p0 &&& (255 : Int32)).toUInt32.toUInt16.toUInt32.toInt32) ((((p0.toUInt32 >>> ((8 : Int32) &&& 31).toUInt32).toInt32) &&& (255 : Int32)).toUInt32.toUInt16.toUInt32.toInt32) ((((p0.toUInt32 >>> ((16 : Int32) &&& 31).toUInt32).toInt32) &&& (255 : Int32)).toUInt32.toUInt16.toUInt32.toInt32) csv fm T23.heap n0 (Nat.le_trans (Nat.le_trans (Nat.le_trans (Nat.le_trans (Nat.le_trans (Nat.le_trans (Nat.le_trans (Nat.le_trans (Nat.le_trans (Nat.le_trans (Nat.le_trans (Nat.le_trans (Nat.le_trans (Nat.le_trans (Nat.le_trans (Nat.le_trans (Nat.le_trans Z0 E1.1) (Nat.le_of_eq W3.size.symm)) (Nat.le_of_eq W5.size.symm)) (Nat.le_of_eq W7.size.symm)) E8.1) E9.1) E10.1) K11q.1) K12q.1) E13.1) K14q.1) E15.1) K16q.1) K17q.1) K18q.1) K22q.1) K23q.1) (show Fld Z T23.heap b8 "com/example/shapewright/shapewright/reader/IdlScanner" "position" "I" (.int (2 : Int32)) from k227_31 ▸ (Fposition_22q.keep K23q nin0)) (Ft_22q.keep K23q nin0) (((((((((E11q.keep K12q).ext E13).keep K14q).ext E15).keep K16q).keep K17q).keep K18q).keep K22q).keep K23q) (((((((((Fc11q.keep K12q (ninS (Ne.symm (Nat.ne_of_lt (Nat.lt_of_lt_of_le (F_whitespaceEnd_b8.ext E9).lt (Nat.le_of_eq g10.symm)))) nin0)).ext E13).keep K14q (ninS (Nat.ne_of_lt (Nat.lt_of_lt_of_le (E11q.keep K12q).lt (Nat.le_of_eq g13.symm))) nin0)).ext E15).keep K16q (ninS (Nat.ne_of_lt (Nat.lt_of_lt_of_le (((E11q.keep K12q).ext E13).keep K14q).lt (Nat.le_of_eq g15.symm))) nin0)).keep K17q (ninS (Ne.symm (Nat.ne_of_lt (Nat.lt_of_lt_of_le (F_whitespaceEnd_b8.ext E9).lt (Nat.le_of_eq g10.symm)))) nin0)).keep K18q nin0).keep K22q (ninS (Ne.symm (Nat.ne_of_lt (Nat.lt_of_lt_of_le (F_whitespaceEnd_b8.ext E9).lt (Nat.le_of_eq g10.symm)))) nin0)).keep K23q nin0) (((((((((Fv11q.keep K12q (ninS (Ne.symm (Nat.ne_of_lt (Nat.lt_of_lt_of_le (F_whitespaceEnd_b8.ext E9).lt (Nat.le_of_eq g10.symm)))) nin0)).ext E13).keep K14q (ninS (Nat.ne_of_lt (Nat.lt_of_lt_of_le (E11q.keep K12q).lt (Nat.le_of_eq g13.symm))) nin0)).ext E15).keep K16q (ninS (Nat.ne_of_lt (Nat.lt_of_lt_of_le (((E11q.keep K12q).ext E13).keep K14q).lt (Nat.le_of_eq g15.symm))) nin0)).keep K17q (ninS (Ne.symm (Nat.ne_of_lt (Nat.lt_of_lt_of_le (F_whitespaceEnd_b8.ext E9).lt (Nat.le_of_eq g10.symm)))) nin0)).keep K18q nin0).keep K22q (ninS (Ne.symm (Nat.ne_of_lt (Nat.lt_of_lt_of_le (F_whitespaceEnd_b8.ext E9).lt (Nat.le_of_eq g10.symm)))) nin0)).keep K23q nin0) (((((((((V11q.keep K12q (ninS (Ne.symm (Nat.ne_of_lt (Nat.lt_of_lt_of_le ((F_whitespaceEnd_b8.ext E9).ext E10).lt s_b11))) nin0)).ext E13).keep K14q (ninS (Nat.ne_of_lt (Nat.lt_of_lt_of_le (V11q.keep K12q (ninS (Ne.symm (Nat.ne_of_lt (Nat.lt_of_lt_of_le ((F_whitespaceEnd_b8.ext E9).ext E10).lt s_b11))) nin0)).lt (Nat.le_of_eq g13.symm))) nin0)).ext E15).keep K16q (ninS (Nat.ne_of_lt (Nat.lt_of_lt_of_le (((V11q.keep K12q (ninS (Ne.symm (Nat.ne_of_lt (Nat.lt_of_lt_of_le ((F_whitespaceEnd_b8.ext E9).ext E10).lt s_b11))) nin0)).ext E13).keep K14q (ninS (Nat.ne_of_lt (Nat.lt_of_lt_of_le (V11q.keep K12q (ninS (Ne.symm (Nat.ne_of_lt (Nat.lt_of_lt_of_le ((F_whitespaceEnd_b8.ext E9).ext E10).lt s_b11))) nin0)).lt (Nat.le_of_eq g13.symm))) nin0)).lt (Nat.le_of_eq g15.symm))) nin0)).keep K17q (ninS (Ne.symm (Nat.ne_of_lt (Nat.lt_of_lt_of_le ((F_whitespaceEnd_b8.ext E9).ext E10).lt s_b11))) nin0)).keep K18q nin0).keep K22q (ninS (Ne.symm (Nat.ne_of_lt (Nat.lt_of_lt_of_le ((F_whitespaceEnd_b8.ext E9).ext E10).lt s_b11))) nin0)).keep K23q nin0) (own_sta_keep (own_sta_keep (own_sta_keep (own_sta_keep (own_sta_keep ((own_sta_keep ((own_sta_keep (own_sta_keep (((((((SC.ext E1).wr W3).wr W5).wr W7).ext E8).ext E9).ext E10) K11q (allS (own_plE A10) all0)) K12q (allS (own_plE (((A8.ext E9).ext E10).keep K11q)) all0)).ext E13) K14q (allS (own_plE A13) all0)).ext E15) K16q (allS (own_plE A15) all0)) K17q (allS (own_plE ((((E12q.ext E13).keep K14q).ext E15).keep K16q)) all0)) K18q all0) K22q (allS (own_plE (E17q.keep K18q)) all0)) K23q all0) hcs (own_sta_keep (own_sta_keep (own_sta_keep (own_sta_keep (own_sta_keep ((own_sta_keep ((own_sta_keep (own_sta_keep (((((((SF.ext E1).wr W3).wr W5).wr W7).ext E8).ext E9).ext E10) K11q (allS (own_plE A10) all0)) K12q (allS (own_plE (((A8.ext E9).ext E10).keep K11q)) all0)).ext E13) K14q (allS (own_plE A13) all0)).ext E15) K16q (allS (own_plE A15) all0)) K17q (allS (own_plE ((((E12q.ext E13).keep K14q).ext E15).keep K16q)) all0)) K18q all0) K22q (allS (own_plE (E17q.keep K18q)) all0)) K23q all0) hfm (own_ch _)) hZ (hw _ (List.mem_of_getElem? (i := 119) rfl)) (hw _ (List.mem_of_getElem? (i := 3) rfl)) (by decide) (by decide)) q41a q41c (g := (mkF m 238 #[.val (.int p0), .val (.int (2 : Int32)), .val (.int p2), .val (.int p3), .val (.int p4), .val (.ref b1), .val (.ref b8), .val (.ref b13), .val (.ref b15), .val (.ref b18), .val (.int (1 : Int32)), .val (.ref b23)] [(.int ((((p0.toUInt32 >>> ((16 : Int32) &&& 31).toUInt32).toInt32) &&& (255 : Int32)).toUInt32.toUInt16.toUInt32.toInt32)), (.ref b8)])) rfl (by rw [hml]; rfl) (Steps.refl _) (argsL := [(.int ((((p0.toUInt32 >>> ((16 : Int32) &&& 31).toUInt32).toInt32) &&& (255 : Int32)).toUInt32.toUInt16.toUInt32.toInt32))]) (rest := []) (lenOf pd_17 rfl) rfl (by show 2 * 0 + _ ≤ _; exact Nat.le_of_eq rfl) (hb hby at_238) (fun _ _ => ⟨rfl, e27, (by decide : 10 + 0 ≤ _), (by decide : 39 + 0 ≤ _)⟩)
          dsimp only [Pt.U, Pt.locs, Pt.cells, Pt.slots] at X41 l41 y41 z41 st41 hQ41
          subst l41 y41 z41
          obtain ⟨rfl, N41q, e41⟩ := hQ41
          have N41 := Fr.app N27 N41q
          refine OEnds.tr (g' := (mkF m 241 #[.val (.int p0), .val (.int (2 : Int32)), .val (.int p2), .val (.int p3), .val (.int p4), .val (.ref b1), .val (.ref b8), .val (.ref b13), .val (.ref b15), .val (.ref b18), .val (.int (1 : Int32)), .val (.ref b23)] [(.int (fIN2 ((((p0.toUInt32 >>> ((16 : Int32) &&& 31).toUInt32).toInt32) &&& (255 : Int32)).toUInt32.toUInt16.toUInt32.toInt32) ((((p0.toUInt32 >>> ((16 : Int32) &&& 31).toUInt32).toInt32) &&& (255 : Int32)).toUInt32.toUInt16.toUInt32.toInt32)))])) st41 ?_
          refine OEnds.go (g' := (mkF m 244 #[.val (.int p0), .val (.int (2 : Int32)), .val (.int p2), .val (.int p3), .val (.int p4), .val (.ref b1), .val (.ref b8), .val (.ref b13), .val (.ref b15), .val (.ref b18), .val (.int (1 : Int32)), .val (.ref b23)] [])) (fun t k => XS.ifNo X41.here hx rfl (hb hby at_241) rfl ((if0 _ _).trans (feq (own_e3 _ : ¬ ((fIN2 ((((p0.toUInt32 >>> ((16 : Int32) &&& 31).toUInt32).toInt32) &&& (255 : Int32)).toUInt32.toUInt16.toUInt32.toInt32) ((((p0.toUInt32 >>> ((16 : Int32) &&& 31).toUInt32).toInt32) &&& (255 : Int32)).toUInt32.toUInt16.toUInt32.toInt32)) = (0 : Int32)))).1) k) ?_
          refine OEnds.go (g' := (mkF m 246 #[.val (.int p0), .val (.int (2 : Int32)), .val (.int p2), .val (.int p3), .val (.int p4), .val (.ref b1), .val (.ref b8), .val (.ref b13), .val (.ref b15), .val (.ref b18), .val (.int (1 : Int32)), .val (.ref b23)] [(.ref b8)])) (fun t k => XS.aload X41.here hx rfl (hb hby at_244) rfl rfl k) ?_
          refine OEnds.go (g' := (mkF m 248 #[.val (.int p0), .val (.int (2 : Int32)), .val (.int p2), .val (.int p3), .val (.int p4), .val (.ref b1), .val (.ref b8), .val (.ref b13), .val (.ref b15), .val (.ref b18), .val (.int (1 : Int32)), .val (.ref b23)] [(.ref b1), (.ref b8)])) (fun t k => XS.aload X41.here hx rfl (hb hby at_246) rfl rfl k) ?_
          refine OEnds.go (g' := (mkF m 249 #[.val (.int p0), .val (.int (2 : Int32)), .val (.int p2), .val (.int p3), .val (.int p4), .val (.ref b1), .val (.ref b8), .val (.ref b13), .val (.ref b15), .val (.ref b18), .val (.int (1 : Int32)), .val (.ref b23)] [(.int (2 : Int32)), (.ref b1), (.ref b8)])) (fun t k => XS.iloadN X41.here hx rfl (hb hby at_248) rfl k) ?_
          obtain ⟨cl42, Ar42, qa42, Sa42, Na42, Ha42, Ga42⟩ := @id _ (((((((((((((V7_b1.ext E8).ext E9).ext E10).keep K11q (ninS (Nat.ne_of_lt (Nat.lt_of_lt_of_le ((V7_b1.ext E8).ext E9).lt (Nat.le_of_eq g10.symm))) nin0)).keep K12q (ninS (Nat.ne_of_lt (Nat.lt_of_lt_of_le V7_b1.lt (Nat.le_of_eq g8.symm))) nin0)).ext E13).keep K14q (ninS (Nat.ne_of_lt (Nat.lt_of_lt_of_le (((((V7_b1.ext E8).ext E9).ext E10).keep K11q (ninS (Nat.ne_of_lt (Nat.lt_of_lt_of_le ((V7_b1.ext E8).ext E9).lt (Nat.le_of_eq g10.symm))) nin0)).keep K12q (ninS (Nat.ne_of_lt (Nat.lt_of_lt_of_le V7_b1.lt (Nat.le_of_eq g8.symm))) nin0)).lt (Nat.le_of_eq g13.symm))) nin0)).ext E15).keep K16q (ninS (Nat.ne_of_lt (Nat.lt_of_lt_of_le (((((((V7_b1.ext E8).ext E9).ext E10).keep K11q (ninS (Nat.ne_of_lt (Nat.lt_of_lt_of_le ((V7_b1.ext E8).ext E9).lt (Nat.le_of_eq g10.symm))) nin0)).keep K12q (ninS (Nat.ne_of_lt (Nat.lt_of_lt_of_le V7_b1.lt (Nat.le_of_eq g8.symm))) nin0)).ext E13).keep K14q (ninS (Nat.ne_of_lt (Nat.lt_of_lt_of_le (((((V7_b1.ext E8).ext E9).ext E10).keep K11q (ninS (Nat.ne_of_lt (Nat.lt_of_lt_of_le ((V7_b1.ext E8).ext E9).lt (Nat.le_of_eq g10.symm))) nin0)).keep K12q (ninS (Nat.ne_of_lt (Nat.lt_of_lt_of_le V7_b1.lt (Nat.le_of_eq g8.symm))) nin0)).lt (Nat.le_of_eq g13.symm))) nin0)).lt (Nat.le_of_eq g15.symm))) nin0)).keep K17q (ninS (Nat.ne_of_lt (Nat.lt_of_lt_of_le V7_b1.lt (Nat.le_of_eq g8.symm))) nin0)).keep K18q nin0).keep K22q (ninS (Nat.ne_of_lt (Nat.lt_of_lt_of_le V7_b1.lt (Nat.le_of_eq g8.symm))) nin0)).keep K23q nin0)
          have hin42 : ¬ ((2 : Int32) < 0 ∨ cl42.slots.size ≤ ((2 : Int32)).toNatClampNeg) := inb_of Sa42 ⟨by decide, by decide⟩
          have hat42 : cl42.slots[((2 : Int32)).toNatClampNeg]? = some (.int ((((p0.toUInt32 >>> ((16 : Int32) &&& 31).toUInt32).toInt32) &&& (255 : Int32)).toUInt32.toUInt16.toUInt32.toInt32)) := Has.at Ha42 hin42 rfl
          refine OEnds.go (g' := (mkF m 250 #[.val (.int p0), .val (.int (2 : Int32)), .val (.int p2), .val (.int p3), .val (.int p4), .val (.ref b1), .val (.ref b8), .val (.ref b13), .val (.ref b15), .val (.ref b18), .val (.int (1 : Int32)), .val (.ref b23)] [(.int ((((p0.toUInt32 >>> ((16 : Int32) &&& 31).toUInt32).toInt32) &&& (255 : Int32)).toUInt32.toUInt16.toUInt32.toInt32)), (.ref b8)])) (X41.caload hx (j := (2 : Int32)) (v := (.int ((((p0.toUInt32 >>> ((16 : Int32) &&& 31).toUInt32).toInt32) &&& (255 : Int32)).toUInt32.toUInt16.toUInt32.toInt32))) (by rw [e41]; exact Ar42.1) (State.isArrayOf_alike hZ.alike Ar42.2.1) Ar42.2.2 hin42 hat42 (g := (mkF m 249 #[.val (.int p0), .val (.int (2 : Int32)), .val (.int p2), .val (.int p3), .val (.int p4), .val (.ref b1), .val (.ref b8), .val (.ref b13), .val (.ref b15), .val (.ref b18), .val (.int (1 : Int32)), .val (.ref b23)] [(.int (2 : Int32)), (.ref b1), (.ref b8)])) rfl rfl (hb hby at_249)) ?_
          refine OEnds.go (g' := (mkF m 251 #[.val (.int p0), .val (.int (2 : Int32)), .val (.int p2), .val (.int p3), .val (.int p4), .val (.ref b1), .val (.ref b8), .val (.ref b13), .val (.ref b15), .val (.ref b18), .val (.int (1 : Int32)), .val (.ref b23)] [(.int (1 : Int32)), (.int ((((p0.toUInt32 >>> ((16 : Int32) &&& 31).toUInt32).toInt32) &&& (255 : Int32)).toUInt32.toUInt16.toUInt32.toInt32)), (.ref b8)])) (fun t k => XS.iconst X41.here hx rfl (hb hby at_250) k) ?_
          refine OEnds.go (g' := (mkF m 252 #[.val (.int p0), .val (.int (2 : Int32)), .val (.int p2), .val (.int p3), .val (.int p4), .val (.ref b1), .val (.ref b8), .val (.ref b13), .val (.ref b15), .val (.ref b18), .val (.int (1 : Int32)), .val (.ref b23)] [(.int (((((p0.toUInt32 >>> ((16 : Int32) &&& 31).toUInt32).toInt32) &&& (255 : Int32)).toUInt32.toUInt16.toUInt32.toInt32) ^^^ (1 : Int32))), (.ref b8)])) (fun t k => XS.ixor X41.here hx rfl (hb hby at_251) rfl k) ?_
          refine OEnds.go (g' := (mkF m 253 #[.val (.int p0), .val (.int (2 : Int32)), .val (.int p2), .val (.int p3), .val (.int p4), .val (.ref b1), .val (.ref b8), .val (.ref b13), .val (.ref b15), .val (.ref b18), .val (.int (1 : Int32)), .val (.ref b23)] [(.int ((((((p0.toUInt32 >>> ((16 : Int32) &&& 31).toUInt32).toInt32) &&& (255 : Int32)).toUInt32.toUInt16.toUInt32.toInt32) ^^^ (1 : Int32)).toUInt32.toUInt16.toUInt32.toInt32)), (.ref b8)])) (fun t k => XS.i2c X41.here hx rfl (hb hby at_252) rfl k) ?_
          obtain ⟨cq43, kq43, q43a, q43b, q43c⟩ := isOf hZ e41 (E22q.keep K23q)
          obtain ⟨_, _, ⟨T43, L43, k43, n43⟩, -, X43, ⟨Lc43, hQ43, l43, y43, z43⟩, st43⟩ := X41.virtualBack hx (y := (⟨"com/example/shapewright/shapewright/reader/IdlScanner", "isNext", "(C)Z"⟩ : MethodName)) (z := (⟨"com/example/shapewright/shapewright/reader/IdlScanner", "isNext", "(C)Z"⟩ : MethodName)) hown (mvT hZ (hw _ (List.mem_of_getElem? (i := 115) rfl))) (mvT hZ (hw _ (List.mem_of_getElem? (i := 116) rfl))) (notFace_of_selects (args := #[]) (mvT hZ (hw _ (List.mem_of_getElem? (i := 118) rfl)))) (mvT hZ (hw _ (List.mem_of_getElem? (i := 118) rfl))) (mvT hZ (hw _ (List.mem_of_getElem? (i := 117) rfl))) (by decide) (backOf (W := 0) (rmIN2 l Z a0 hw [] b8 ((((((p0.toUInt32 >>> ((16 : Int32) &&& 31).toUInt32).toInt32) &&& (255 : Int32)).toUInt32.toUInt16.toUInt32.toInt32) ^^^ (1 : Int32)).toUInt32.toUInt16.toUInt32.toInt32) b10 b11 kb11 ((p0 &&& (255 : Int32)).toUInt32.toUInt16.toUInt32.toInt32) ((((p0.toUInt32 >>> ((8 : Int32) &&& 31).toUInt32).toInt32) &&& (255 : Int32)).toUInt32.toUInt16.toUInt32.toInt32) ((((p0.toUInt32 >>> ((16 : Int32) &&& 31).toUInt32).toInt32) &&& (255 : Int32)).toUInt32.toUInt16.toUInt32.toInt32) csv fm T23.heap n0 (Nat.le_trans (Nat.le_trans (Nat.le_trans (Nat.le_trans (Nat.le_trans (Nat.le_trans (Nat.le_trans (Nat.le_trans (Nat.le_trans (Nat.le_trans (Nat.le_trans (Nat.le_trans (Nat.le_trans (Nat.le_trans (Nat.le_trans (Nat.le_trans (Nat.le_trans Z0 E1.1) (Nat.le_of_eq W3.size.symm)) (Nat.le_of_eq W5.size.symm)) (Nat.le_of_eq W7.size.symm)) E8.1) E9.1) E10.1) K11q.1) K12q.1) E13.1) K14q.1) E15.1) K16q.1) K17q.1) K18q.1) K22q.1) K23q.1) (show Fld Z T23.heap b8 "com/example/shapewright/shapewright/reader/IdlScanner" "position" "I" (.int (2 : Int32)) from k227_31 ▸ (Fposition_22q.keep K23q nin0)) (Ft_22q.keep K23q nin0) (((((((((E11q.keep K12q).ext E13).keep K14q).ext E15).keep K16q).keep K17q).keep K18q).keep K22q).keep K23q) (((((((((Fc11q.keep K12q (ninS (Ne.symm (Nat.ne_of_lt (Nat.lt_of_lt_of_le (F_whitespaceEnd_b8.ext E9).lt (Nat.le_of_eq g10.symm)))) nin0)).ext E13).keep K14q (ninS (Nat.ne_of_lt (Nat.lt_of_lt_of_le (E11q.keep K12q).lt (Nat.le_of_eq g13.symm))) nin0)).ext E15).keep K16q (ninS (Nat.ne_of_lt (Nat.lt_of_lt_of_le (((E11q.keep K12q).ext E13).keep K14q).lt (Nat.le_of_eq g15.symm))) nin0)).keep K17q (ninS (Ne.symm (Nat.ne_of_lt (Nat.lt_of_lt_of_le (F_whitespaceEnd_b8.ext E9).lt (Nat.le_of_eq g10.symm)))) nin0)).keep K18q nin0).keep K22q (ninS (Ne.symm (Nat.ne_of_lt (Nat.lt_of_lt_of_le (F_whitespaceEnd_b8.ext E9).lt (Nat.le_of_eq g10.symm)))) nin0)).keep K23q nin0) (((((((((Fv11q.keep K12q (ninS (Ne.symm (Nat.ne_of_lt (Nat.lt_of_lt_of_le (F_whitespaceEnd_b8.ext E9).lt (Nat.le_of_eq g10.symm)))) nin0)).ext E13).keep K14q (ninS (Nat.ne_of_lt (Nat.lt_of_lt_of_le (E11q.keep K12q).lt (Nat.le_of_eq g13.symm))) nin0)).ext E15).keep K16q (ninS (Nat.ne_of_lt (Nat.lt_of_lt_of_le (((E11q.keep K12q).ext E13).keep K14q).lt (Nat.le_of_eq g15.symm))) nin0)).keep K17q (ninS (Ne.symm (Nat.ne_of_lt (Nat.lt_of_lt_of_le (F_whitespaceEnd_b8.ext E9).lt (Nat.le_of_eq g10.symm)))) nin0)).keep K18q nin0).keep K22q (ninS (Ne.symm (Nat.ne_of_lt (Nat.lt_of_lt_of_le (F_whitespaceEnd_b8.ext E9).lt (Nat.le_of_eq g10.symm)))) nin0)).keep K23q nin0) (((((((((V11q.keep K12q (ninS (Ne.symm (Nat.ne_of_lt (Nat.lt_of_lt_of_le ((F_whitespaceEnd_b8.ext E9).ext E10).lt s_b11))) nin0)).ext E13).keep K14q (ninS (Nat.ne_of_lt (Nat.lt_of_lt_of_le (V11q.keep K12q (ninS (Ne.symm (Nat.ne_of_lt (Nat.lt_of_lt_of_le ((F_whitespaceEnd_b8.ext E9).ext E10).lt s_b11))) nin0)).lt (Nat.le_of_eq g13.symm))) nin0)).ext E15).keep K16q (ninS (Nat.ne_of_lt (Nat.lt_of_lt_of_le (((V11q.keep K12q (ninS (Ne.symm (Nat.ne_of_lt (Nat.lt_of_lt_of_le ((F_whitespaceEnd_b8.ext E9).ext E10).lt s_b11))) nin0)).ext E13).keep K14q (ninS (Nat.ne_of_lt (Nat.lt_of_lt_of_le (V11q.keep K12q (ninS (Ne.symm (Nat.ne_of_lt (Nat.lt_of_lt_of_le ((F_whitespaceEnd_b8.ext E9).ext E10).lt s_b11))) nin0)).lt (Nat.le_of_eq g13.symm))) nin0)).lt (Nat.le_of_eq g15.symm))) nin0)).keep K17q (ninS (Ne.symm (Nat.ne_of_lt (Nat.lt_of_lt_of_le ((F_whitespaceEnd_b8.ext E9).ext E10).lt s_b11))) nin0)).keep K18q nin0).keep K22q (ninS (Ne.symm (Nat.ne_of_lt (Nat.lt_of_lt_of_le ((F_whitespaceEnd_b8.ext E9).ext E10).lt s_b11))) nin0)).keep K23q nin0) (own_sta_keep (own_sta_keep (own_sta_keep (own_sta_keep (own_sta_keep ((own_sta_keep ((own_sta_keep (own_sta_keep (((((((SC.ext E1).wr W3).wr W5).wr W7).ext E8).ext E9).ext E10) K11q (allS (own_plE A10) all0)) K12q (allS (own_plE (((A8.ext E9).ext E10).keep K11q)) all0)).ext E13) K14q (allS (own_plE A13) all0)).ext E15) K16q (allS (own_plE A15) all0)) K17q (allS (own_plE ((((E12q.ext E13).keep K14q).ext E15).keep K16q)) all0)) K18q all0) K22q (allS (own_plE (E17q.keep K18q)) all0)) K23q all0) hcs (own_sta_keep (own_sta_keep (own_sta_keep (own_sta_keep (own_sta_keep ((own_sta_keep ((own_sta_keep (own_sta_keep (((((((SF.ext E1).wr W3).wr W5).wr W7).ext E8).ext E9).ext E10) K11q (allS (own_plE A10) all0)) K12q (allS (own_plE (((A8.ext E9).ext E10).keep K11q)) all0)).ext E13) K14q (allS (own_plE A13) all0)).ext E15) K16q (allS (own_plE A15) all0)) K17q (allS (own_plE ((((E12q.ext E13).keep K14q).ext E15).keep K16q)) all0)) K18q all0) K22q (allS (own_plE (E17q.keep K18q)) all0)) K23q all0) hfm (own_ch _)) hZ (hw _ (List.mem_of_getElem? (i := 119) rfl)) (hw _ (List.mem_of_getElem? (i := 3) rfl)) (by decide) (by decide)) q43a q43c (g := (mkF m 253 #[.val (.int p0), .val (.int (2 : Int32)), .val (.int p2), .val (.int p3), .val (.int p4), .val (.ref b1), .val (.ref b8), .val (.ref b13), .val (.ref b15), .val (.ref b18), .val (.int (1 : Int32)), .val (.ref b23)] [(.int ((((((p0.toUInt32 >>> ((16 : Int32) &&& 31).toUInt32).toInt32) &&& (255 : Int32)).toUInt32.toUInt16.toUInt32.toInt32) ^^^ (1 : Int32)).toUInt32.toUInt16.toUInt32.toInt32)), (.ref b8)])) rfl (by rw [hml]; rfl) (Steps.refl _) (argsL := [(.int ((((((p0.toUInt32 >>> ((16 : Int32) &&& 31).toUInt32).toInt32) &&& (255 : Int32)).toUInt32.toUInt16.toUInt32.toInt32) ^^^ (1 : Int32)).toUInt32.toUInt16.toUInt32.toInt32))]) (rest := []) (lenOf pd_17 rfl) rfl (by show 2 * 0 + _ ≤ _; exact Nat.le_of_eq rfl) (hb hby at_253) (fun _ _ => ⟨rfl, e41, (by decide : 10 + 0 ≤ _), (by decide : 39 + 0 ≤ _)⟩)
          dsimp only [Pt.U, Pt.locs, Pt.cells, Pt.slots] at X43 l43 y43 z43 st43 hQ43
          subst l43 y43 z43
          obtain ⟨rfl, N43q, e43⟩ := hQ43
          have N43 := Fr.app N41 N43q
          refine OEnds.tr (g' := (mkF m 256 #[.val (.int p0), .val (.int (2 : Int32)), .val (.int p2), .val (.int p3), .val (.int p4), .val (.ref b1), .val (.ref b8), .val (.ref b13), .val (.ref b15), .val (.ref b18), .val (.int (1 : Int32)), .val (.ref b23)] [(.int (fIN2 ((((((p0.toUInt32 >>> ((16 : Int32) &&& 31).toUInt32).toInt32) &&& (255 : Int32)).toUInt32.toUInt16.toUInt32.toInt32) ^^^ (1 : Int32)).toUInt32.toUInt16.toUInt32.toInt32) ((((p0.toUInt32 >>> ((16 : Int32) &&& 31).toUInt32).toInt32) &&& (255 : Int32)).toUInt32.toUInt16.toUInt32.toInt32)))])) st43 ?_
          refine OEnds.go (g' := (mkF m 259 #[.val (.int p0), .val (.int (2 : Int32)), .val (.int p2), .val (.int p3), .val (.int p4), .val (.ref b1), .val (.ref b8), .val (.ref b13), .val (.ref b15), .val (.ref b18), .val (.int (1 : Int32)), .val (.ref b23)] [])) (fun t k => XS.ifNo X43.here hx rfl (hb hby at_256) rfl ((if0 _ _).trans (teq (own_n3 _ (own_ch _) : ((fIN2 ((((((p0.toUInt32 >>> ((16 : Int32) &&& 31).toUInt32).toInt32) &&& (255 : Int32)).toUInt32.toUInt16.toUInt32.toInt32) ^^^ (1 : Int32)).toUInt32.toUInt16.toUInt32.toInt32) ((((p0.toUInt32 >>> ((16 : Int32) &&& 31).toUInt32).toInt32) &&& (255 : Int32)).toUInt32.toUInt16.toUInt32.toInt32)) = (0 : Int32)))).2) k) ?_
          refine OEnds.go (g' := (mkF m 260 #[.val (.int p0), .val (.int (2 : Int32)), .val (.int p2), .val (.int p3), .val (.int p4), .val (.ref b1), .val (.ref b8), .val (.ref b13), .val (.ref b15), .val (.ref b18), .val (.int (1 : Int32)), .val (.ref b23)] [(.int (1 : Int32))])) (fun t k => XS.iconst X43.here hx rfl (hb hby at_259) k) ?_
          refine OEnds.go (g' := (mkF m 264 #[.val (.int p0), .val (.int (2 : Int32)), .val (.int p2), .val (.int p3), .val (.int p4), .val (.ref b1), .val (.ref b8), .val (.ref b13), .val (.ref b15), .val (.ref b18), .val (.int (1 : Int32)), .val (.ref b23)] [(.int (1 : Int32))])) (fun t k => XS.goto X43.here hx rfl (pc0 := 260) (pc' := 264) rfl (hb hby at_260) (by decide) (by decide) k) ?_
          refine OEnds.go (g' := (mkF m 266 #[.val (.int p0), .val (.int (2 : Int32)), .val (.int p2), .val (.int p3), .val (.int p4), .val (.ref b1), .val (.ref b8), .val (.ref b13), .val (.ref b15), .val (.ref b18), .val (.int (1 : Int32)), .val (.ref b23)] [])) (fun t k => XS.istore X43.here hx rfl (hb hby at_264) rfl (l' := #[.val (.int p0), .val (.int (2 : Int32)), .val (.int p2), .val (.int p3), .val (.int p4), .val (.ref b1), .val (.ref b8), .val (.ref b13), .val (.ref b15), .val (.ref b18), .val (.int (1 : Int32)), .val (.ref b23)]) rfl k) ?_
          refine OEnds.go (g' := (mkF m 268 #[.val (.int p0), .val (.int (2 : Int32)), .val (.int p2), .val (.int p3), .val (.int p4), .val (.ref b1), .val (.ref b8), .val (.ref b13), .val (.ref b15), .val (.ref b18), .val (.int (1 : Int32)), .val (.ref b23)] [(.int (1 : Int32))])) (fun t k => XS.iload X43.here hx rfl (hb hby at_266) rfl k) ?_
          exact OEnds.outNW X43 Bd.notSynchronized hS (by rw [e43]; exact (Nat.le_trans (Nat.le_trans (Nat.le_trans (Nat.le_trans (Nat.le_trans (Nat.le_trans (Nat.le_trans (Nat.le_trans (Nat.le_trans (Nat.le_trans (Nat.le_trans hk E10.1) K11q.1) K12q.1) E13.1) K14q.1) E15.1) K16q.1) K17q.1) K18q.1) K22q.1) K23q.1)) hx (t := .boolean) Bd.returns (by simp) (hb hby at_268) ⟨rfl, N43⟩ (by decide) (by decide)
      · -- no
        refine OEnds.go (g' := (mkF m 266 #[.val (.int p0), .val (.int p1), .val (.int p2), .val (.int p3), .val (.int p4), .val (.ref b1), .val (.ref b8), .val (.ref b13), .val (.ref b15), .val (.ref b18), .val (.int (1 : Int32)), .val (.ref b23)] [])) (fun t k => XS.icmpYes X27.here hx rfl (pc0 := 224) (pc' := 266) rfl (hb hby at_224) rfl (flt c224_30).2.1 (by decide) (by decide) k) ?_
        refine OEnds.go (g' := (mkF m 268 #[.val (.int p0), .val (.int p1), .val (.int p2), .val (.int p3), .val (.int p4), .val (.ref b1), .val (.ref b8), .val (.ref b13), .val (.ref b15), .val (.ref b18), .val (.int (1 : Int32)), .val (.ref b23)] [(.int (1 : Int32))])) (fun t k => XS.iload X27.here hx rfl (hb hby at_266) rfl k) ?_
        exact OEnds.outNW X27 Bd.notSynchronized hS (by rw [e27]; exact (Nat.le_trans (Nat.le_trans (Nat.le_trans (Nat.le_trans (Nat.le_trans (Nat.le_trans (Nat.le_trans (Nat.le_trans (Nat.le_trans (Nat.le_trans (Nat.le_trans hk E10.1) K11q.1) K12q.1) E13.1) K14q.1) E15.1) K16q.1) K17q.1) K18q.1) K22q.1) K23q.1)) hx (t := .boolean) Bd.returns (by simp) (hb hby at_268) ⟨rfl, N27⟩ (by decide) (by decide)
  refine OEnds.go (g' := (mkF m 199 #[.val (.int p0), .val (.int p1), .val (.int p2), .val (.int p3), .val (.int p4), .val (.ref b1), .val (.ref b8), .val (.ref b13), .val (.ref b15), .val (.ref b18), .val (.int (1 : Int32)), .val (.ref b23)] [(.int p1), (.int (f15 p1))])) (fun t k => XS.iloadN X27.here hx rfl (hb hby at_198) rfl k) ?_
  refine OEnds.go (g' := (mkF m 200 #[.val (.int p0), .val (.int p1), .val (.int p2), .val (.int p3), .val (.int p4), .val (.ref b1), .val (.ref b8), .val (.ref b13), .val (.ref b15), .val (.ref b18), .val (.int (1 : Int32)), .val (.ref b23)] [(.int (3 : Int32)), (.int p1), (.int (f15 p1))])) (fun t k => XS.iconst X27.here hx rfl (hb hby at_199) k) ?_
  by_cases c200_44 : p1 < (3 : Int32)
  · -- yes
    refine OEnds.go (g' := (mkF m 207 #[.val (.int p0), .val (.int p1), .val (.int p2), .val (.int p3), .val (.int p4), .val (.ref b1), .val (.ref b8), .val (.ref b13), .val (.ref b15), .val (.ref b18), .val (.int (1 : Int32)), .val (.ref b23)] [(.int (f15 p1))])) (fun t k => XS.icmpYes X27.here hx rfl (pc0 := 200) (pc' := 207) rfl (hb hby at_200) rfl (tlt c200_44).1 (by decide) (by decide) k) ?_
    refine OEnds.go (g' := (mkF m 208 #[.val (.int p0), .val (.int p1), .val (.int p2), .val (.int p3), .val (.int p4), .val (.ref b1), .val (.ref b8), .val (.ref b13), .val (.ref b15), .val (.ref b18), .val (.int (1 : Int32)), .val (.ref b23)] [(.int (0 : Int32)), (.int (f15 p1))])) (fun t k => XS.iconst X27.here hx rfl (hb hby at_207) k) ?_
    rw [show jrm0_208_s0 p0 p1 p2 p3 p4 csv fm = (0 : Int32) from by rw [jrm0_208_s0, if_pos c200_44]] at J28
    exact J28
  · -- no
    refine OEnds.go (g' := (mkF m 203 #[.val (.int p0), .val (.int p1), .val (.int p2), .val (.int p3), .val (.int p4), .val (.ref b1), .val (.ref b8), .val (.ref b13), .val (.ref b15), .val (.ref b18), .val (.int (1 : Int32)), .val (.ref b23)] [(.int (f15 p1))])) (fun t k => XS.icmpNo X27.here hx rfl (hb hby at_200) rfl (flt c200_44).1 k) ?_
    refine OEnds.go (g' := (mkF m 204 #[.val (.int p0), .val (.int p1), .val (.int p2), .val (.int p3), .val (.int p4), .val (.ref b1), .val (.ref b8), .val (.ref b13), .val (.ref b15), .val (.ref b18), .val (.int (1 : Int32)), .val (.ref b23)] [(.int (1 : Int32)), (.int (f15 p1))])) (fun t k => XS.iconst X27.here hx rfl (hb hby at_203) k) ?_
    refine OEnds.go (g' := (mkF m 208 #[.val (.int p0), .val (.int p1), .val (.int p2), .val (.int p3), .val (.int p4), .val (.ref b1), .val (.ref b8), .val (.ref b13), .val (.ref b15), .val (.ref b18), .val (.int (1 : Int32)), .val (.ref b23)] [(.int (1 : Int32)), (.int (f15 p1))])) (fun t k => XS.goto X27.here hx rfl (pc0 := 204) (pc' := 208) rfl (hb hby at_204) (by decide) (by decide) k) ?_
    rw [show jrm0_208_s0 p0 p1 p2 p3 p4 csv fm = (1 : Int32) from by rw [jrm0_208_s0, if_neg c200_44]] at J28
    exact J28
set_option maxRecDepth 65536 in
set_option maxHeartbeats 40000000 in
theorem comes_1 {Post : Tables → Env → Array Value → State → Outcome → State → Prop} (hpost : ∀ tb e args s v u, (limb_1_1.after args s (.returned v) u = true ∧ limb_1_2.after args s (.returned v) u = true ∧ True) → ReturnedEndW s (.returned v) u (Jvm.fieldLocs frame_1_writes args s ++ Jvm.arrayLocs frame_1_arrays args s ++ Jvm.staticLocs frame_1_statics s) 32 1216 → Post tb e args s (.returned v) u) :
    ArmFor flags0 classFile x code maxLocals ret World_1 tables_1 room_1 Calls_1 rest_1 Pre_1 Post := by
  intro l hfl _ _ p e ha hc hk s m args below hf hA hF happ hP
  obtain ⟨hcalls, hrest, hpre⟩ := hP
  obtain ⟨-, -, -, hnamed, -, -, -, hat⟩ := (Spec.applies_iff hf).mp happ
  obtain ⟨hg, hn⟩ := and_e (Cond.before_iff.mp (show (Jvm.Cond.and given_1 narrow_1).before args s = true from hpre))
  obtain ⟨g1, g2⟩ := and_e hg
  obtain ⟨g3, g4⟩ := and_e g2
  obtain ⟨g5, g6⟩ := and_e g4
  obtain ⟨g7, g8⟩ := and_e g6
  obtain ⟨g9, g10⟩ := and_e g8
  obtain ⟨w0, w1, w2, w3, w4, rfl⟩ : ∃ w0 w1 w2 w3 w4 : Value, args = #[w0, w1, w2, w3, w4] := by
    have hs : args.size = 5 := by simpa [Cond.value, given_1] using g1
    obtain ⟨L⟩ := args
    match L, hs with
    | [w0, w1, w2, w3, w4], _ => exact ⟨w0, w1, w2, w3, w4, rfl⟩
  have hw := fun d (hd : d ∈ tables_1) => atoms_spec (ws := Jvm.Cond.code x code maxLocals ret :: tables_1) hat d (List.mem_cons_of_mem _ hd)
  have hfit : Fit s := fun {y c} hc i hi => by
    obtain ⟨ha, rfl⟩ := Array.getElem?_eq_some_iff.mp hc
    have q := List.all_eq_true.mp ((Array.all_eq_true_iff_forall_mem.mp hF) _ (Array.getElem_mem ha)) i (List.mem_range.mpr hi)
    simpa [Array.getElem?_eq_getElem hi] using q
  obtain ⟨hsets, hown0⟩ := atoms_of _ (rest_1_c_eq ▸ (show rest_1_c.before _ s = true from hrest))
  have hr0 := Cond.before_iff.mp hown0
  obtain ⟨i0, ei0⟩ := is_v g3
  obtain rfl : w0 = (.int i0) := Option.some.inj ei0
  obtain ⟨i1, ei1⟩ := is_v g5
  obtain rfl : w1 = (.int i1) := Option.some.inj ei1
  obtain ⟨i2, ei2⟩ := is_v g7
  obtain rfl : w2 = (.int i2) := Option.some.inj ei2
  obtain ⟨i3, ei3⟩ := is_v g9
  obtain rfl : w3 = (.int i3) := Option.some.inj ei3
  obtain ⟨i4, ei4⟩ := is_v g10
  obtain rfl : w4 = (.int i4) := Option.some.inj ei4
  obtain ⟨csv, ev_cs⟩ := is_v (Cond.before_iff.mp (hsets _ (List.mem_of_getElem? (i := 1) rfl)))
  have SC := Sta.start ev_cs (Or.inl (hsets _ (List.mem_of_getElem? (i := 0) rfl)))
  have hcs : ¬ csv = (0 : Int32) := own_ne0 ev_cs (Cond.before_iff.mp (hsets _ (List.mem_of_getElem? (i := 2) rfl)))
  obtain ⟨fm, ev_fm, hfm⟩ := isR_v (Cond.before_iff.mp (hsets _ (List.mem_of_getElem? (i := 8) rfl)))
  have SF := Sta.start ev_fm (Or.inl (hsets _ (List.mem_of_getElem? (i := 7) rfl)))
  obtain ⟨n, o, h1, h2, h3, _, L, rfl, ⟨rfl, N⟩, hq⟩ := rm0 l s _ hw tables_1 i0 i1 i2 i3 i4 csv fm s.heap s.heap.size (Nat.le_refl _) SC hcs SF hfm p e ha hc hk s m _ below hf ((Spec.applies_iff_loose hf).mp happ).1 ⟨rfl, State.Warmed39.refl s, rfl⟩ trivial
  refine ⟨n, _, h1, h2, h3, hpost _ _ _ _ _ _ ⟨Cond.after_iff.mpr rfl, Cond.after_iff.mpr (eq_i res_at (Term.int_eval (1)) rfl), trivial⟩ ⟨hq.1, hq.2.1, hq.2.2.1, (hq.2.2.2.sift fun y hy => Or.inr (N y hy)).mono (by decide) (by decide)⟩⟩
theorem main_1_1 : Claimed_1_1 := comes_1 fun _ _ _ _ _ _ h hF => ⟨h.1, hF⟩
theorem main_1_2 : Claimed_1_2 := comes_1 fun _ _ _ _ _ _ h hF => ⟨h.2.1, hF⟩
end Jvm.Pilot.@@N@@
namespace Jvm.Pilot.@@N@@
open Jvm Jvm.ClassFile Sem Op Lib Jvm.Free Jvm.Stand Jvm.Pilot.@@N@@.Jvm.D
/-! MADE BY PROGRAM (witnessworld.py) out of the Statement's table words and the real class files: 22 classes; the members and pool entries that the words name. The judged class is class 1, her method 1. -/
namespace start1
open Jvm.ClassFile
def u (s : String) : CpInfo := .utf8 (stringToUtf16 s)
/-- a pool by its gaps: so many unusable entries, then the entry; so many at the end -/
def gap : Nat → List CpInfo → List CpInfo
  | 0, r => r
  | n + 1, r => .unusable :: gap n r
def poolList (es : List (Nat × CpInfo)) (last : Nat) : List CpInfo := es.foldr (fun e r => gap e.1 (e.2 :: r)) (gap last [])
def pool (es : List (Nat × CpInfo)) (last : Nat) : Array CpInfo := ⟨poolList es last⟩
def fileOf (pool : Array CpInfo) (this : Nat) (attrs : Array Attribute := #[]) (ms : Array MethodInfo := #[]) (fl : Nat := 33) (sup : Nat := 0) (ifs : Array Nat := #[]) (fds : Array FieldInfo := #[]) : ClassFile where
  minorVersion := 0
  majorVersion := 65
  constantPool := pool
  accessFlags := fl
  thisClass := this
  superClass := sup
  interfaces := ifs
  fields := fds
  methods := ms
  attributes := attrs
def plain (name : String) (sup : Option ClassId) : Class where
  name := name
  kind := .ordinary
  loader := none
  accessFlags := 33
  super := sup
  interfaces := #[]
  cf := none
  fields := #[]
  methods := #[]
  instanceTypes := #[]
  staticTypes := #[]
  resolved := #[]
  callSites := []
  init := .initialized
  statics := none
  mirror := none

def pool0 : Array CpInfo := pool [(5, u "<init>"), (0, u "()V"), (1, .class_ 10), (1, u "java/lang/Object")] 113

def k0c0 : Code := { maxStack := 0, maxLocals := 1, code := object_method_1_code, exceptionTable := #[], attributes := #[] }
def k0m0 : Method := { name := "<init>", desc := "()V", sig := { parameters := [], returnType := none }, accessFlags := 1, code := some k0c0 }
/-- java/lang/Object -/
def k0 : Class := { plain "java/lang/Object" none with
  accessFlags := 33
  interfaces := #[]
  cf := some (fileOf pool0 8 #[] #[{ accessFlags := 1, nameIndex := 5, descriptorIndex := 6, attributes := #[] }] 33 0 #[] #[])
  fields := #[]
  methods := #[k0m0]
  instanceTypes := #[]
  staticTypes := #[]
  resolved := Array.replicate 124 none
  statics := none }

def pool1 : Array CpInfo := pool [(2, .class_ 4), (1, u "java/lang/Object"), (0, u "<init>"), (0, u "()V"), (0, .class_ 8), (0, u "com/example/shapewright/shapewright/reader/IdlScanner"), (0, .string 10), (0, u "f"), (0, .class_ 12), (0, u "java/lang/String"), (0, .methodref 11 14), (0, .nameAndType 5 15), (0, u "([C)V"), (0, .methodref 7 17), (0, .nameAndType 5 18), (0, u "(Ljava/lang/String;Ljava/lang/String;)V"), (0, .class_ 20), (0, u "com/example/shapewright/shapewright/reader/IdlScanner$Mark"), (0, .methodref 19 22), (0, .nameAndType 5 23), (0, u "(III)V"), (0, .methodref 7 25), (0, .nameAndType 26 27), (0, u "reset"), (0, u "(Lcom/example/shapewright/shapewright/reader/IdlScanner$Mark;)V"), (0, .methodref 7 29), (0, .nameAndType 30 31), (0, u "mark"), (0, u "()Lcom/example/shapewright/shapewright/reader/IdlScanner$Mark;"), (0, .methodref 19 33), (0, .nameAndType 34 35), (0, u "position"), (0, u "()I"), (0, .methodref 19 37), (0, .nameAndType 38 35), (0, u "line"), (0, .methodref 19 40), (0, .nameAndType 41 35), (0, u "column"), (0, .methodref 7 43), (0, .nameAndType 44 45), (0, u "atEnd"), (0, u "()Z"), (0, .methodref 7 47), (0, .nameAndType 48 49), (0, u "isNext"), (0, u "(C)Z"), (0, .class_ 51), (0, u "com/example/shapewright/shapewright/reader/IdlScannerResetPinLaw"), (2, u "law"), (0, u "(IIIII)Z")] 7

def k1m0 : Method := { name := "<init>", desc := "()V", sig := { parameters := [], returnType := none }, accessFlags := 1, code := none }
def k1c1 : Code := { maxStack := 6, maxLocals := 12, code := code, exceptionTable := #[], attributes := #[] }
def k1m1 : Method := { name := "law", desc := "(IIIII)Z", sig := { parameters := [.int, .int, .int, .int, .int], returnType := some .boolean }, accessFlags := 9, code := some k1c1 }
/-- com/example/shapewright/shapewright/reader/IdlScannerResetPinLaw -/
def k1 : Class := { plain "com/example/shapewright/shapewright/reader/IdlScannerResetPinLaw" (some 0) with
  accessFlags := 49
  interfaces := #[]
  cf := some (fileOf pool1 50 #[] #[{ accessFlags := 1, nameIndex := 5, descriptorIndex := 6, attributes := #[] }, { accessFlags := 9, nameIndex := 54, descriptorIndex := 55, attributes := #[] }] 49 2 #[] #[])
  fields := #[]
  methods := #[k1m0, k1m1]
  instanceTypes := #[]
  staticTypes := #[]
  resolved := Array.replicate 63 none
  statics := none }

def pool2 : Array CpInfo := pool [(1, .methodref 2 3), (0, .class_ 4), (0, .nameAndType 5 6), (0, u "java/lang/Object"), (0, u "<init>"), (0, u "()V"), (0, .fieldref 8 9), (0, .class_ 10), (0, .nameAndType 11 12), (0, u "com/example/shapewright/shapewright/reader/IdlScanner"), (0, u "line"), (0, u "I"), (0, .fieldref 8 14), (0, .nameAndType 15 12), (0, u "column"), (0, .fieldref 8 17), (0, .nameAndType 18 12), (0, u "whitespaceEnd"), (0, .fieldref 8 20), (0, .nameAndType 21 22), (0, u "path"), (0, u "Ljava/lang/String;"), (0, .fieldref 8 24), (0, .nameAndType 25 22), (0, u "text"), (0, .fieldref 8 27), (0, .nameAndType 28 12), (0, u "position"), (0, .methodref 30 31), (0, .class_ 32), (0, .nameAndType 33 34), (0, u "java/lang/String"), (0, u "length"), (0, u "()I"), (0, .methodref 30 36), (0, .nameAndType 37 38), (0, u "charAt"), (0, u "(I)C"), (2, u "isNext"), (0, u "(C)Z"), (3, u "()Z"), (11, u "mark"), (0, u "()Lcom/example/shapewright/shapewright/reader/IdlScanner$Mark;"), (4, .class_ 65), (0, u "com/example/shapewright/shapewright/reader/IdlScanner$Mark"), (0, .methodref 64 67), (0, .nameAndType 5 68), (0, u "(III)V"), (0, .methodref 64 70), (0, .nameAndType 28 34), (0, .methodref 64 72), (0, .nameAndType 11 34), (0, .methodref 64 74), (0, .nameAndType 15 34), (23, u "documentation"), (0, u "Ljava/lang/StringBuilder;"), (45, u "atEnd"), (106, u "documentationLastLine"), (5, u "documentationLocation"), (0, u "Lcom/example/shapewright/shapewright/model/SourceLocation;"), (52, .class_ 313), (0, u "com/example/shapewright/shapewright/reader/IdlScanner$Documentation"), (5, u "TEXT_BLOCK_QUOTES"), (1, u "(Ljava/lang/String;Ljava/lang/String;)V"), (4, u "reset"), (0, u "(Lcom/example/shapewright/shapewright/reader/IdlScanner$Mark;)V")] 65

def k2c0 : Code := { maxStack := 2, maxLocals := 3, code := prog_20_method_1_code, exceptionTable := #[], attributes := #[] }
def k2m0 : Method := { name := "<init>", desc := "(Ljava/lang/String;Ljava/lang/String;)V", sig := { parameters := [(.object "java/lang/String"), (.object "java/lang/String")], returnType := none }, accessFlags := 0, code := some k2c0 }
def k2c1 : Code := { maxStack := 2, maxLocals := 1, code := prog_20_method_2_code, exceptionTable := #[], attributes := #[] }
def k2m1 : Method := { name := "atEnd", desc := "()Z", sig := { parameters := [], returnType := some .boolean }, accessFlags := 0, code := some k2c1 }
def k2c2 : Code := { maxStack := 2, maxLocals := 2, code := prog_20_method_3_code, exceptionTable := #[], attributes := #[] }
def k2m2 : Method := { name := "isNext", desc := "(C)Z", sig := { parameters := [.char], returnType := some .boolean }, accessFlags := 0, code := some k2c2 }
def k2c3 : Code := { maxStack := 5, maxLocals := 1, code := prog_20_method_7_code, exceptionTable := #[], attributes := #[] }
def k2m3 : Method := { name := "mark", desc := "()Lcom/example/shapewright/shapewright/reader/IdlScanner$Mark;", sig := { parameters := [], returnType := some (.object "com/example/shapewright/shapewright/reader/IdlScanner$Mark") }, accessFlags := 0, code := some k2c3 }
def k2c4 : Code := { maxStack := 2, maxLocals := 2, code := prog_20_method_8_code, exceptionTable := #[], attributes := #[] }
def k2m4 : Method := { name := "reset", desc := "(Lcom/example/shapewright/shapewright/reader/IdlScanner$Mark;)V", sig := { parameters := [(.object "com/example/shapewright/shapewright/reader/IdlScanner$Mark")], returnType := none }, accessFlags := 0, code := some k2c4 }
/-- com/example/shapewright/shapewright/reader/IdlScanner -/
def k2 : Class := { plain "com/example/shapewright/shapewright/reader/IdlScanner" (some 0) with
  accessFlags := 48
  interfaces := #[]
  cf := some (fileOf pool2 8 #[.nestMembers #[64, 312]] #[{ accessFlags := 0, nameIndex := 5, descriptorIndex := 321, attributes := #[] }, { accessFlags := 0, nameIndex := 145, descriptorIndex := 46, attributes := #[] }, { accessFlags := 0, nameIndex := 41, descriptorIndex := 42, attributes := #[] }, { accessFlags := 0, nameIndex := 58, descriptorIndex := 59, attributes := #[] }, { accessFlags := 0, nameIndex := 326, descriptorIndex := 327, attributes := #[] }] 48 2 #[] #[{ accessFlags := 26, nameIndex := 319, descriptorIndex := 22, attributes := #[] }, { accessFlags := 18, nameIndex := 21, descriptorIndex := 22, attributes := #[] }, { accessFlags := 18, nameIndex := 25, descriptorIndex := 22, attributes := #[] }, { accessFlags := 2, nameIndex := 28, descriptorIndex := 12, attributes := #[] }, { accessFlags := 2, nameIndex := 11, descriptorIndex := 12, attributes := #[] }, { accessFlags := 2, nameIndex := 15, descriptorIndex := 12, attributes := #[] }, { accessFlags := 2, nameIndex := 98, descriptorIndex := 99, attributes := #[] }, { accessFlags := 2, nameIndex := 258, descriptorIndex := 259, attributes := #[] }, { accessFlags := 2, nameIndex := 252, descriptorIndex := 12, attributes := #[] }, { accessFlags := 2, nameIndex := 18, descriptorIndex := 12, attributes := #[] }])
  fields := #[{ name := "TEXT_BLOCK_QUOTES", type := (.object "java/lang/String"), accessFlags := 26, slot := 0, constantValue := 0 }, { name := "path", type := (.object "java/lang/String"), accessFlags := 18, slot := 0, constantValue := 0 }, { name := "text", type := (.object "java/lang/String"), accessFlags := 18, slot := 1, constantValue := 0 }, { name := "position", type := .int, accessFlags := 2, slot := 2, constantValue := 0 }, { name := "line", type := .int, accessFlags := 2, slot := 3, constantValue := 0 }, { name := "column", type := .int, accessFlags := 2, slot := 4, constantValue := 0 }, { name := "documentation", type := (.object "java/lang/StringBuilder"), accessFlags := 2, slot := 5, constantValue := 0 }, { name := "documentationLocation", type := (.object "com/example/shapewright/shapewright/model/SourceLocation"), accessFlags := 2, slot := 6, constantValue := 0 }, { name := "documentationLastLine", type := .int, accessFlags := 2, slot := 7, constantValue := 0 }, { name := "whitespaceEnd", type := .int, accessFlags := 2, slot := 8, constantValue := 0 }]
  methods := #[k2m0, k2m1, k2m2, k2m3, k2m4]
  instanceTypes := #[(.object "java/lang/String"), (.object "java/lang/String"), .int, .int, .int, (.object "java/lang/StringBuilder"), (.object "com/example/shapewright/shapewright/model/SourceLocation"), .int, .int]
  staticTypes := #[(.object "java/lang/String")]
  resolved := Array.replicate 393 none
  statics := none }

def pool3 : Array CpInfo := pool [(1, .class_ 2), (0, u "java/io/Serializable"), (0, .class_ 4), (0, u "java/lang/Object")] 2

/-- java/io/Serializable -/
def k3 : Class := { plain "java/io/Serializable" (some 0) with
  accessFlags := 1537
  interfaces := #[]
  cf := some (fileOf pool3 1 #[] #[] 1537 3 #[] #[])
  fields := #[]
  methods := #[]
  instanceTypes := #[]
  staticTypes := #[]
  resolved := Array.replicate 7 none
  statics := none }

def pool4 : Array CpInfo := pool [(1, .class_ 2), (0, u "java/lang/Comparable"), (0, .class_ 4), (0, u "java/lang/Object")] 7

/-- java/lang/Comparable -/
def k4 : Class := { plain "java/lang/Comparable" (some 0) with
  accessFlags := 1537
  interfaces := #[]
  cf := some (fileOf pool4 1 #[] #[] 1537 3 #[] #[])
  fields := #[]
  methods := #[]
  instanceTypes := #[]
  staticTypes := #[]
  resolved := Array.replicate 12 none
  statics := none }

def pool5 : Array CpInfo := pool [(2, .class_ 4), (1, u "java/lang/CharSequence"), (42, .class_ 48), (0, u "java/lang/CharSequence$1CodePointIterator"), (10, .class_ 60), (0, u "java/lang/CharSequence$1CharIterator"), (5, .class_ 67), (0, u "java/lang/Object")] 63

/-- java/lang/CharSequence -/
def k5 : Class := { plain "java/lang/CharSequence" (some 0) with
  accessFlags := 1537
  interfaces := #[]
  cf := some (fileOf pool5 2 #[.nestMembers #[47, 59]] #[] 1537 66 #[] #[])
  fields := #[]
  methods := #[]
  instanceTypes := #[]
  staticTypes := #[]
  resolved := Array.replicate 131 none
  statics := none }

def pool6 : Array CpInfo := pool [(1, .class_ 2), (0, u "java/lang/constant/Constable"), (0, .class_ 4), (0, u "java/lang/Object")] 6

/-- java/lang/constant/Constable -/
def k6 : Class := { plain "java/lang/constant/Constable" (some 0) with
  accessFlags := 1537
  interfaces := #[]
  cf := some (fileOf pool6 1 #[] #[] 1537 3 #[] #[])
  fields := #[]
  methods := #[]
  instanceTypes := #[]
  staticTypes := #[]
  resolved := Array.replicate 11 none
  statics := none }

def pool7 : Array CpInfo := pool [(1, .class_ 2), (0, u "java/lang/constant/ConstantDesc"), (0, .class_ 4), (0, u "java/lang/Object")] 32

/-- java/lang/constant/ConstantDesc -/
def k7 : Class := { plain "java/lang/constant/ConstantDesc" (some 0) with
  accessFlags := 1537
  interfaces := #[]
  cf := some (fileOf pool7 1 #[] #[] 1537 3 #[] #[])
  fields := #[]
  methods := #[]
  instanceTypes := #[]
  staticTypes := #[]
  resolved := Array.replicate 37 none
  statics := none }

def pool8 : Array CpInfo := pool [(1, .methodref 2 3), (0, .class_ 4), (0, .nameAndType 5 6), (0, u "java/lang/Object"), (0, u "<init>"), (0, u "()V"), (2, .fieldref 10 11), (0, .class_ 12), (0, .nameAndType 13 14), (0, u "java/lang/String"), (0, u "value"), (0, u "[B"), (0, .fieldref 10 16), (0, .nameAndType 17 18), (0, u "coder"), (0, u "B"), (2, u "hash"), (0, u "I"), (2, u "hashIsZero"), (0, u "Z"), (0, .methodref 10 28), (0, .nameAndType 5 29), (0, u "([CIILjava/lang/Void;)V"), (8, .fieldref 10 39), (0, .nameAndType 40 26), (0, u "COMPACT_STRINGS"), (1, .class_ 44), (1, u "java/lang/StringUTF16"), (0, u "compress"), (1, .methodref 42 48), (0, .nameAndType 49 50), (0, u "coderFromArrayLen"), (0, u "([BI)B"), (56, .class_ 109), (1, u "java/lang/StringLatin1"), (32, u "()Z"), (34, .methodref 42 178), (0, .nameAndType 45 179), (0, u "([CII)[B"), (154, u "()I"), (0, .methodref 10 336), (0, .nameAndType 17 337), (0, u "()B"), (25, u "([BI)C"), (27, u "(II)V"), (35, u "(I)C"), (64, .methodref 10 493), (0, .nameAndType 494 142), (0, u "isLatin1"), (0, .methodref 107 496), (0, .nameAndType 497 363), (0, u "charAt"), (3, u "checkIndex"), (5, u "length"), (67, .class_ 576), (0, u "java/lang/CharSequence"), (22, u "CASE_INSENSITIVE_ORDER"), (0, u "Ljava/util/Comparator;"), (409, u "([C)V"), (42, .fieldref 1054 1055), (0, .class_ 1056), (0, .nameAndType 1057 1058), (0, u "jdk/internal/util/Preconditions"), (0, u "SIOOBE_FORMATTER"), (0, u "Ljava/util/function/BiFunction;"), (0, .methodref 1054 1060), (0, .nameAndType 501 1061), (0, u "(IILjava/util/function/BiFunction;)I"), (39, u "serialPersistentFields"), (0, u "[Ljava/io/ObjectStreamField;"), (0, .class_ 1104), (0, u "java/lang/String$CaseInsensitiveComparator"), (1, .class_ 1107), (0, u "java/io/Serializable"), (0, .class_ 1109), (0, u "java/lang/Comparable"), (0, .class_ 1111), (0, u "java/lang/constant/Constable"), (0, .class_ 1113), (0, u "java/lang/constant/ConstantDesc"), (2, u "serialVersionUID"), (0, u "J"), (3, u "REPL"), (0, u "C"), (2, u "LATIN1"), (1, u "UTF16")] 323

def k8m0 : Method := { name := "<init>", desc := "()V", sig := { parameters := [], returnType := none }, accessFlags := 1, code := none }
def k8c1 : Code := { maxStack := 5, maxLocals := 2, code := jdk_42_method_3_code, exceptionTable := #[], attributes := #[] }
def k8m1 : Method := { name := "<init>", desc := "([C)V", sig := { parameters := [(.array .char)], returnType := none }, accessFlags := 1, code := some k8c1 }
def k8c2 : Code := { maxStack := 2, maxLocals := 1, code := jdk_42_method_54_code, exceptionTable := #[], attributes := #[] }
def k8m2 : Method := { name := "length", desc := "()I", sig := { parameters := [], returnType := some .int }, accessFlags := 1, code := some k8c2 }
def k8c3 : Code := { maxStack := 2, maxLocals := 2, code := jdk_42_method_56_code, exceptionTable := #[], attributes := #[] }
def k8m3 : Method := { name := "charAt", desc := "(I)C", sig := { parameters := [.int], returnType := some .char }, accessFlags := 1, code := some k8c3 }
def k8c4 : Code := { maxStack := 4, maxLocals := 6, code := jdk_42_method_149_code, exceptionTable := #[], attributes := #[] }
def k8m4 : Method := { name := "<init>", desc := "([CIILjava/lang/Void;)V", sig := { parameters := [(.array .char), .int, .int, (.object "java/lang/Void")], returnType := none }, accessFlags := 2, code := some k8c4 }
def k8c5 : Code := { maxStack := 1, maxLocals := 1, code := jdk_42_method_152_code, exceptionTable := #[], attributes := #[] }
def k8m5 : Method := { name := "coder", desc := "()B", sig := { parameters := [], returnType := some .byte }, accessFlags := 0, code := some k8c5 }
def k8c6 : Code := { maxStack := 1, maxLocals := 1, code := jdk_42_method_154_code, exceptionTable := #[], attributes := #[] }
def k8m6 : Method := { name := "isLatin1", desc := "()Z", sig := { parameters := [], returnType := some .boolean }, accessFlags := 0, code := some k8c6 }
def k8c7 : Code := { maxStack := 3, maxLocals := 2, code := jdk_42_method_155_code, exceptionTable := #[], attributes := #[] }
def k8m7 : Method := { name := "checkIndex", desc := "(II)V", sig := { parameters := [.int, .int], returnType := none }, accessFlags := 8, code := some k8c7 }
/-- java/lang/String -/
def k8 : Class := { plain "java/lang/String" (some 0) with
  accessFlags := 49
  interfaces := #[3, 4, 5, 6, 7]
  cf := some (fileOf pool8 10 #[.nestMembers #[1103]] #[{ accessFlags := 1, nameIndex := 5, descriptorIndex := 6, attributes := #[] }, { accessFlags := 1, nameIndex := 5, descriptorIndex := 1010, attributes := #[] }, { accessFlags := 1, nameIndex := 507, descriptorIndex := 334, attributes := #[] }, { accessFlags := 1, nameIndex := 497, descriptorIndex := 427, attributes := #[] }, { accessFlags := 2, nameIndex := 5, descriptorIndex := 29, attributes := #[] }, { accessFlags := 0, nameIndex := 17, descriptorIndex := 337, attributes := #[] }, { accessFlags := 0, nameIndex := 494, descriptorIndex := 142, attributes := #[] }, { accessFlags := 8, nameIndex := 501, descriptorIndex := 391, attributes := #[] }] 49 2 #[1106, 1108, 575, 1110, 1112] #[{ accessFlags := 18, nameIndex := 13, descriptorIndex := 14, attributes := #[] }, { accessFlags := 18, nameIndex := 17, descriptorIndex := 18, attributes := #[] }, { accessFlags := 2, nameIndex := 21, descriptorIndex := 22, attributes := #[] }, { accessFlags := 2, nameIndex := 25, descriptorIndex := 26, attributes := #[] }, { accessFlags := 26, nameIndex := 1116, descriptorIndex := 1117, attributes := #[] }, { accessFlags := 24, nameIndex := 40, descriptorIndex := 26, attributes := #[] }, { accessFlags := 26, nameIndex := 1101, descriptorIndex := 1102, attributes := #[] }, { accessFlags := 26, nameIndex := 1121, descriptorIndex := 1122, attributes := #[] }, { accessFlags := 25, nameIndex := 599, descriptorIndex := 600, attributes := #[] }, { accessFlags := 24, nameIndex := 1125, descriptorIndex := 18, attributes := #[] }, { accessFlags := 24, nameIndex := 1127, descriptorIndex := 18, attributes := #[] }])
  fields := #[{ name := "value", type := (.array .byte), accessFlags := 18, slot := 0, constantValue := 0 }, { name := "coder", type := .byte, accessFlags := 18, slot := 1, constantValue := 0 }, { name := "hash", type := .int, accessFlags := 2, slot := 2, constantValue := 0 }, { name := "hashIsZero", type := .boolean, accessFlags := 2, slot := 3, constantValue := 0 }, { name := "serialVersionUID", type := .long, accessFlags := 26, slot := 0, constantValue := 0 }, { name := "COMPACT_STRINGS", type := .boolean, accessFlags := 24, slot := 1, constantValue := 0 }, { name := "serialPersistentFields", type := (.array (.object "java/io/ObjectStreamField")), accessFlags := 26, slot := 2, constantValue := 0 }, { name := "REPL", type := .char, accessFlags := 26, slot := 3, constantValue := 0 }, { name := "CASE_INSENSITIVE_ORDER", type := (.object "java/util/Comparator"), accessFlags := 25, slot := 4, constantValue := 0 }, { name := "LATIN1", type := .byte, accessFlags := 24, slot := 5, constantValue := 0 }, { name := "UTF16", type := .byte, accessFlags := 24, slot := 6, constantValue := 0 }]
  methods := #[k8m0, k8m1, k8m2, k8m3, k8m4, k8m5, k8m6, k8m7]
  instanceTypes := #[(.array .byte), .byte, .int, .boolean]
  staticTypes := #[.long, .boolean, (.array (.object "java/io/ObjectStreamField")), .char, (.object "java/util/Comparator"), .byte, .byte]
  resolved := Array.replicate 1451 none
  statics := some 0 }

def pool9 : Array CpInfo := pool [(6, .class_ 8), (1, u "java/lang/Object"), (0, u "<init>"), (0, u "()V"), (1, .class_ 14), (1, u "java/lang/StringUTF16"), (31, u "$assertionsDisabled"), (0, u "Z"), (13, u "HI_BYTE_SHIFT"), (0, u "I"), (2, u "LO_BYTE_SHIFT"), (49, .methodref 12 116), (0, .nameAndType 117 118), (0, u "compress"), (0, u "([CI[BII)I"), (3, u "([CII)[B"), (138, u "coderFromArrayLen"), (0, u "([BI)B"), (106, .class_ 371), (1, u "java/lang/StringUTF16$LinesSpliterator"), (58, u "MAX_LENGTH"), (196, .class_ 628), (0, u "java/lang/StringUTF16$CodePointsSpliterator"), (0, .class_ 630), (0, u "java/lang/StringUTF16$CharsSpliterator")] 4

def k9m0 : Method := { name := "<init>", desc := "()V", sig := { parameters := [], returnType := none }, accessFlags := 0, code := none }
def k9c1 : Code := { maxStack := 2, maxLocals := 2, code := jdk_52_method_15_code, exceptionTable := #[], attributes := #[] }
def k9m1 : Method := { name := "coderFromArrayLen", desc := "([BI)B", sig := { parameters := [(.array .byte), .int], returnType := some .byte }, accessFlags := 8, code := some k9c1 }
def k9c2 : Code := { maxStack := 5, maxLocals := 6, code := jdk_52_method_16_code, exceptionTable := #[], attributes := #[] }
def k9m2 : Method := { name := "compress", desc := "([CII)[B", sig := { parameters := [(.array .char), .int, .int], returnType := some (.array .byte) }, accessFlags := 9, code := some k9c2 }
def k9c3 : Code := { maxStack := 3, maxLocals := 7, code := jdk_52_method_21_code, exceptionTable := #[], attributes := #[] }
def k9m3 : Method := { name := "compress", desc := "([CI[BII)I", sig := { parameters := [(.array .char), .int, (.array .byte), .int, .int], returnType := some .int }, accessFlags := 9, code := some k9c3 }
/-- java/lang/StringUTF16 -/
def k9 : Class := { plain "java/lang/StringUTF16" (some 0) with
  accessFlags := 48
  interfaces := #[]
  cf := some (fileOf pool9 12 #[.nestMembers #[627, 629, 369]] #[{ accessFlags := 0, nameIndex := 9, descriptorIndex := 10, attributes := #[] }, { accessFlags := 8, nameIndex := 261, descriptorIndex := 262, attributes := #[] }, { accessFlags := 9, nameIndex := 117, descriptorIndex := 122, attributes := #[] }, { accessFlags := 9, nameIndex := 117, descriptorIndex := 118, attributes := #[] }] 48 6 #[] #[{ accessFlags := 26, nameIndex := 61, descriptorIndex := 62, attributes := #[] }, { accessFlags := 26, nameIndex := 65, descriptorIndex := 62, attributes := #[] }, { accessFlags := 24, nameIndex := 430, descriptorIndex := 62, attributes := #[] }, { accessFlags := 4120, nameIndex := 46, descriptorIndex := 47, attributes := #[] }])
  fields := #[{ name := "HI_BYTE_SHIFT", type := .int, accessFlags := 26, slot := 0, constantValue := 0 }, { name := "LO_BYTE_SHIFT", type := .int, accessFlags := 26, slot := 1, constantValue := 0 }, { name := "MAX_LENGTH", type := .int, accessFlags := 24, slot := 2, constantValue := 0 }, { name := "$assertionsDisabled", type := .boolean, accessFlags := 4120, slot := 3, constantValue := 0 }]
  methods := #[k9m0, k9m1, k9m2, k9m3]
  instanceTypes := #[]
  staticTypes := #[.int, .int, .int, .boolean]
  resolved := Array.replicate 635 none
  statics := none }

def pool10 : Array CpInfo := pool [(1, .methodref 2 3), (0, .class_ 4), (0, .nameAndType 5 6), (0, u "java/lang/Object"), (0, u "<init>"), (0, u "()V"), (0, .class_ 8), (0, u "java/lang/Record")] 13

def k10c0 : Code := { maxStack := 1, maxLocals := 1, code := jdk_30_method_1_code, exceptionTable := #[], attributes := #[] }
def k10m0 : Method := { name := "<init>", desc := "()V", sig := { parameters := [], returnType := none }, accessFlags := 4, code := some k10c0 }
/-- java/lang/Record -/
def k10 : Class := { plain "java/lang/Record" (some 0) with
  accessFlags := 1057
  interfaces := #[]
  cf := some (fileOf pool10 7 #[] #[{ accessFlags := 4, nameIndex := 5, descriptorIndex := 6, attributes := #[] }] 1057 2 #[] #[])
  fields := #[]
  methods := #[k10m0]
  instanceTypes := #[]
  staticTypes := #[]
  resolved := Array.replicate 22 none
  statics := none }

def pool11 : Array CpInfo := pool [(1, .methodref 2 3), (0, .class_ 4), (0, .nameAndType 5 6), (0, u "java/lang/Record"), (0, u "<init>"), (0, u "()V"), (0, .fieldref 8 9), (0, .class_ 10), (0, .nameAndType 11 12), (0, u "com/example/shapewright/shapewright/reader/IdlScanner$Mark"), (0, u "position"), (0, u "I"), (0, .fieldref 8 14), (0, .nameAndType 15 12), (0, u "line"), (0, .fieldref 8 17), (0, .nameAndType 18 12), (0, u "column"), (12, u "(III)V"), (4, u "()I"), (4, .class_ 42), (0, u "com/example/shapewright/shapewright/reader/IdlScanner")] 21

def k11c0 : Code := { maxStack := 2, maxLocals := 4, code := prog_22_method_1_code, exceptionTable := #[], attributes := #[] }
def k11m0 : Method := { name := "<init>", desc := "(III)V", sig := { parameters := [.int, .int, .int], returnType := none }, accessFlags := 0, code := some k11c0 }
def k11c1 : Code := { maxStack := 1, maxLocals := 1, code := prog_22_method_5_code, exceptionTable := #[], attributes := #[] }
def k11m1 : Method := { name := "position", desc := "()I", sig := { parameters := [], returnType := some .int }, accessFlags := 1, code := some k11c1 }
def k11c2 : Code := { maxStack := 1, maxLocals := 1, code := prog_22_method_6_code, exceptionTable := #[], attributes := #[] }
def k11m2 : Method := { name := "line", desc := "()I", sig := { parameters := [], returnType := some .int }, accessFlags := 1, code := some k11c2 }
def k11c3 : Code := { maxStack := 1, maxLocals := 1, code := prog_22_method_7_code, exceptionTable := #[], attributes := #[] }
def k11m3 : Method := { name := "column", desc := "()I", sig := { parameters := [], returnType := some .int }, accessFlags := 1, code := some k11c3 }
/-- com/example/shapewright/shapewright/reader/IdlScanner$Mark -/
def k11 : Class := { plain "com/example/shapewright/shapewright/reader/IdlScanner$Mark" (some 10) with
  accessFlags := 48
  interfaces := #[]
  cf := some (fileOf pool11 8 #[.nestHost 41] #[{ accessFlags := 0, nameIndex := 5, descriptorIndex := 31, attributes := #[] }, { accessFlags := 1, nameIndex := 11, descriptorIndex := 36, attributes := #[] }, { accessFlags := 1, nameIndex := 15, descriptorIndex := 36, attributes := #[] }, { accessFlags := 1, nameIndex := 18, descriptorIndex := 36, attributes := #[] }] 48 2 #[] #[{ accessFlags := 18, nameIndex := 11, descriptorIndex := 12, attributes := #[] }, { accessFlags := 18, nameIndex := 15, descriptorIndex := 12, attributes := #[] }, { accessFlags := 18, nameIndex := 18, descriptorIndex := 12, attributes := #[] }])
  fields := #[{ name := "position", type := .int, accessFlags := 18, slot := 0, constantValue := 0 }, { name := "line", type := .int, accessFlags := 18, slot := 1, constantValue := 0 }, { name := "column", type := .int, accessFlags := 18, slot := 2, constantValue := 0 }]
  methods := #[k11m0, k11m1, k11m2, k11m3]
  instanceTypes := #[.int, .int, .int]
  staticTypes := #[]
  resolved := Array.replicate 64 none
  statics := none }

def pool12 : Array CpInfo := pool [(1, .class_ 2), (0, u "java/lang/String"), (1, .class_ 6), (1, u "java/lang/Object"), (0, u "<init>"), (0, u "()V"), (0, .methodref 1 10), (0, .nameAndType 11 12), (0, u "checkIndex"), (0, u "(II)V"), (1, .class_ 16), (1, u "java/lang/StringLatin1"), (36, u "([BI)C"), (67, u "$assertionsDisabled"), (0, u "Z"), (98, .class_ 223), (1, u "java/lang/StringLatin1$LinesSpliterator"), (28, u "charAt"), (137, .class_ 391), (0, u "java/lang/StringLatin1$CharsSpliterator")] 3

def k12m0 : Method := { name := "<init>", desc := "()V", sig := { parameters := [], returnType := none }, accessFlags := 0, code := none }
def k12c1 : Code := { maxStack := 2, maxLocals := 2, code := jdk_43_method_2_code, exceptionTable := #[], attributes := #[] }
def k12m1 : Method := { name := "charAt", desc := "([BI)C", sig := { parameters := [(.array .byte), .int], returnType := some .char }, accessFlags := 9, code := some k12c1 }
/-- java/lang/StringLatin1 -/
def k12 : Class := { plain "java/lang/StringLatin1" (some 0) with
  accessFlags := 48
  interfaces := #[]
  cf := some (fileOf pool12 14 #[.nestMembers #[390, 221]] #[{ accessFlags := 0, nameIndex := 7, descriptorIndex := 8, attributes := #[] }, { accessFlags := 9, nameIndex := 252, descriptorIndex := 53, attributes := #[] }] 48 4 #[] #[{ accessFlags := 4120, nameIndex := 121, descriptorIndex := 122, attributes := #[] }])
  fields := #[{ name := "$assertionsDisabled", type := .boolean, accessFlags := 4120, slot := 0, constantValue := 0 }]
  methods := #[k12m0, k12m1]
  instanceTypes := #[]
  staticTypes := #[.boolean]
  resolved := Array.replicate 395 none
  statics := none }

def pool13 : Array CpInfo := pool [(2, .class_ 4), (1, u "java/lang/Object"), (0, u "<init>"), (0, u "()V"), (17, .class_ 26), (1, u "jdk/internal/util/Preconditions"), (6, u "checkIndex"), (21, .class_ 56), (0, u "jdk/internal/util/Preconditions$4"), (57, .class_ 115), (0, u "jdk/internal/util/Preconditions$1"), (7, u "SIOOBE_FORMATTER"), (0, u "Ljava/util/function/BiFunction;"), (0, .class_ 126), (0, u "jdk/internal/util/Preconditions$2"), (3, u "AIOOBE_FORMATTER"), (0, .class_ 132), (0, u "jdk/internal/util/Preconditions$3"), (3, u "IOOBE_FORMATTER"), (41, u "(IILjava/util/function/BiFunction;)I")] 15

def k13m0 : Method := { name := "<init>", desc := "()V", sig := { parameters := [], returnType := none }, accessFlags := 1, code := none }
def k13c1 : Code := { maxStack := 3, maxLocals := 3, code := jdk_41_method_11_code, exceptionTable := #[], attributes := #[] }
def k13m1 : Method := { name := "checkIndex", desc := "(IILjava/util/function/BiFunction;)I", sig := { parameters := [.int, .int, (.object "java/util/function/BiFunction")], returnType := some .int }, accessFlags := 9, code := some k13c1 }
/-- jdk/internal/util/Preconditions -/
def k13 : Class := { plain "jdk/internal/util/Preconditions" (some 0) with
  accessFlags := 33
  interfaces := #[]
  cf := some (fileOf pool13 24 #[.nestMembers #[55, 131, 125, 114]] #[{ accessFlags := 1, nameIndex := 5, descriptorIndex := 6, attributes := #[] }, { accessFlags := 9, nameIndex := 33, descriptorIndex := 178, attributes := #[] }] 33 2 #[] #[{ accessFlags := 25, nameIndex := 123, descriptorIndex := 124, attributes := #[] }, { accessFlags := 25, nameIndex := 130, descriptorIndex := 124, attributes := #[] }, { accessFlags := 25, nameIndex := 136, descriptorIndex := 124, attributes := #[] }])
  fields := #[{ name := "SIOOBE_FORMATTER", type := (.object "java/util/function/BiFunction"), accessFlags := 25, slot := 0, constantValue := 0 }, { name := "AIOOBE_FORMATTER", type := (.object "java/util/function/BiFunction"), accessFlags := 25, slot := 1, constantValue := 0 }, { name := "IOOBE_FORMATTER", type := (.object "java/util/function/BiFunction"), accessFlags := 25, slot := 2, constantValue := 0 }]
  methods := #[k13m0, k13m1]
  instanceTypes := #[]
  staticTypes := #[(.object "java/util/function/BiFunction"), (.object "java/util/function/BiFunction"), (.object "java/util/function/BiFunction")]
  resolved := Array.replicate 194 none
  statics := some 1 }

def pool14 : Array CpInfo := pool [(9, u "<init>"), (6, .class_ 18), (1, u "java/lang/Object"), (0, u "()V"), (1, .class_ 23), (1, u "jdk/internal/util/ArraysSupport"), (0, u "LOG2_ARRAY_LONG_INDEX_SCALE"), (0, u "I"), (2, u "U"), (0, u "Ljdk/internal/misc/Unsafe;"), (8, u "BIG_ENDIAN"), (0, u "Z"), (8, u "LOG2_BYTE_BIT_SIZE"), (4, u "LOG2_ARRAY_INT_INDEX_SCALE"), (54, u "JLA"), (0, u "Ljdk/internal/access/JavaLangAccess;"), (11, u "LOG2_ARRAY_BOOLEAN_INDEX_SCALE"), (9, u "LOG2_ARRAY_BYTE_INDEX_SCALE"), (5, u "LOG2_ARRAY_CHAR_INDEX_SCALE"), (5, u "LOG2_ARRAY_SHORT_INDEX_SCALE"), (18, u "LOG2_ARRAY_FLOAT_INDEX_SCALE"), (24, u "LOG2_ARRAY_DOUBLE_INDEX_SCALE"), (89, u "T_BOOLEAN"), (2, u "T_CHAR"), (1, u "T_FLOAT"), (1, u "T_DOUBLE"), (1, u "T_BYTE"), (1, u "T_SHORT"), (1, u "T_INT"), (1, u "T_LONG"), (1, u "SOFT_MAX_ARRAY_LENGTH")] 83

def k14m0 : Method := { name := "<init>", desc := "()V", sig := { parameters := [], returnType := none }, accessFlags := 2, code := none }
/-- jdk/internal/util/ArraysSupport -/
def k14 : Class := { plain "jdk/internal/util/ArraysSupport" (some 0) with
  accessFlags := 33
  interfaces := #[]
  cf := some (fileOf pool14 21 #[] #[{ accessFlags := 2, nameIndex := 9, descriptorIndex := 19, attributes := #[] }] 33 16 #[] #[{ accessFlags := 24, nameIndex := 28, descriptorIndex := 29, attributes := #[] }, { accessFlags := 26, nameIndex := 38, descriptorIndex := 39, attributes := #[] }, { accessFlags := 25, nameIndex := 121, descriptorIndex := 25, attributes := #[] }, { accessFlags := 25, nameIndex := 131, descriptorIndex := 25, attributes := #[] }, { accessFlags := 25, nameIndex := 137, descriptorIndex := 25, attributes := #[] }, { accessFlags := 25, nameIndex := 143, descriptorIndex := 25, attributes := #[] }, { accessFlags := 25, nameIndex := 53, descriptorIndex := 25, attributes := #[] }, { accessFlags := 25, nameIndex := 24, descriptorIndex := 25, attributes := #[] }, { accessFlags := 25, nameIndex := 162, descriptorIndex := 25, attributes := #[] }, { accessFlags := 25, nameIndex := 187, descriptorIndex := 25, attributes := #[] }, { accessFlags := 26, nameIndex := 48, descriptorIndex := 25, attributes := #[] }, { accessFlags := 25, nameIndex := 277, descriptorIndex := 25, attributes := #[] }, { accessFlags := 25, nameIndex := 280, descriptorIndex := 25, attributes := #[] }, { accessFlags := 25, nameIndex := 282, descriptorIndex := 25, attributes := #[] }, { accessFlags := 25, nameIndex := 284, descriptorIndex := 25, attributes := #[] }, { accessFlags := 25, nameIndex := 286, descriptorIndex := 25, attributes := #[] }, { accessFlags := 25, nameIndex := 288, descriptorIndex := 25, attributes := #[] }, { accessFlags := 25, nameIndex := 290, descriptorIndex := 25, attributes := #[] }, { accessFlags := 25, nameIndex := 292, descriptorIndex := 25, attributes := #[] }, { accessFlags := 26, nameIndex := 108, descriptorIndex := 109, attributes := #[] }, { accessFlags := 25, nameIndex := 294, descriptorIndex := 25, attributes := #[] }])
  fields := #[{ name := "U", type := (.object "jdk/internal/misc/Unsafe"), accessFlags := 24, slot := 0, constantValue := 0 }, { name := "BIG_ENDIAN", type := .boolean, accessFlags := 26, slot := 1, constantValue := 0 }, { name := "LOG2_ARRAY_BOOLEAN_INDEX_SCALE", type := .int, accessFlags := 25, slot := 2, constantValue := 0 }, { name := "LOG2_ARRAY_BYTE_INDEX_SCALE", type := .int, accessFlags := 25, slot := 3, constantValue := 0 }, { name := "LOG2_ARRAY_CHAR_INDEX_SCALE", type := .int, accessFlags := 25, slot := 4, constantValue := 0 }, { name := "LOG2_ARRAY_SHORT_INDEX_SCALE", type := .int, accessFlags := 25, slot := 5, constantValue := 0 }, { name := "LOG2_ARRAY_INT_INDEX_SCALE", type := .int, accessFlags := 25, slot := 6, constantValue := 0 }, { name := "LOG2_ARRAY_LONG_INDEX_SCALE", type := .int, accessFlags := 25, slot := 7, constantValue := 0 }, { name := "LOG2_ARRAY_FLOAT_INDEX_SCALE", type := .int, accessFlags := 25, slot := 8, constantValue := 0 }, { name := "LOG2_ARRAY_DOUBLE_INDEX_SCALE", type := .int, accessFlags := 25, slot := 9, constantValue := 0 }, { name := "LOG2_BYTE_BIT_SIZE", type := .int, accessFlags := 26, slot := 10, constantValue := 0 }, { name := "T_BOOLEAN", type := .int, accessFlags := 25, slot := 11, constantValue := 0 }, { name := "T_CHAR", type := .int, accessFlags := 25, slot := 12, constantValue := 0 }, { name := "T_FLOAT", type := .int, accessFlags := 25, slot := 13, constantValue := 0 }, { name := "T_DOUBLE", type := .int, accessFlags := 25, slot := 14, constantValue := 0 }, { name := "T_BYTE", type := .int, accessFlags := 25, slot := 15, constantValue := 0 }, { name := "T_SHORT", type := .int, accessFlags := 25, slot := 16, constantValue := 0 }, { name := "T_INT", type := .int, accessFlags := 25, slot := 17, constantValue := 0 }, { name := "T_LONG", type := .int, accessFlags := 25, slot := 18, constantValue := 0 }, { name := "JLA", type := (.object "jdk/internal/access/JavaLangAccess"), accessFlags := 26, slot := 19, constantValue := 0 }, { name := "SOFT_MAX_ARRAY_LENGTH", type := .int, accessFlags := 25, slot := 20, constantValue := 0 }]
  methods := #[k14m0]
  instanceTypes := #[]
  staticTypes := #[(.object "jdk/internal/misc/Unsafe"), .boolean, .int, .int, .int, .int, .int, .int, .int, .int, .int, .int, .int, .int, .int, .int, .int, .int, .int, (.object "jdk/internal/access/JavaLangAccess"), .int]
  resolved := Array.replicate 378 none
  statics := none }

def pool15 : Array CpInfo := pool [(1, u "java/lang/Cloneable"), (0, .class_ 1), (0, u "java/lang/Object"), (0, .class_ 3)] 3

/-- java/lang/Cloneable -/
def k15 : Class := { plain "java/lang/Cloneable" (some 0) with
  accessFlags := 1537
  interfaces := #[]
  cf := some (fileOf pool15 2 #[] #[] 1537 4 #[] #[])
  fields := #[]
  methods := #[]
  instanceTypes := #[]
  staticTypes := #[]
  resolved := Array.replicate 8 none
  statics := none }

/-- the primitive byte -/
def k16 : Class := { plain "byte" none with kind := .primitive 'B', accessFlags := 0x411 }
/-- [B -/
def k17 : Class := { plain "[B" (some 0) with kind := .array 16 .byte, interfaces := #[15, 3], accessFlags := 1041 }

/-- the primitive char -/
def k18 : Class := { plain "char" none with kind := .primitive 'C', accessFlags := 0x411 }
/-- [C -/
def k19 : Class := { plain "[C" (some 0) with kind := .array 18 .char, interfaces := #[15, 3], accessFlags := 1041 }

/-- the primitive int -/
def k20 : Class := { plain "int" none with kind := .primitive 'I', accessFlags := 0x411 }
/-- [I -/
def k21 : Class := { plain "[I" (some 0) with kind := .array 20 .int, interfaces := #[15, 3], accessFlags := 1041 }

def heap : Heap := #[{ cls := 8, slots := #[.long 0, .int 1, .null, .int 0, .null, .int 0, .int 0], vm := .statics 8 },
  { cls := 13, slots := #[.null, .null, .null], vm := .statics 13 }]
def classes : Array Class := #[k0, k1, k2, k3, k4, k5, k6, k7, k8, k9, k10, k11, k12, k13, k14, k15, k16, k17, k18, k19, k20, k21]
def interned : List (Array UInt16 × Addr) := []
def slotsUsed : Nat := 10
def theMethod : MethodId := ⟨1, 1⟩
def args0 : Array Value := #[.int 4407873, .int 1, .int 2, .int 3, .int 1]
def aboutOver (below : List Frame) : State where
  vm := { classes := classes, interned := interned.toArray }
  heap := heap
  slotsUsed := slotsUsed
  threads := #[{ frames := .invoking theMethod args0 :: below }]
def below0 : List Frame := [.native { method := ⟨0, 0⟩, args := #[] }]
def about1 : State := aboutOver below0
def p0 : Program := .bare "" "" ""
def e0 : Env := launch0.env 0 0 0
theorem w_frames : about1.frames = Frame.invoking theMethod args0 :: below0 := rfl
set_option maxRecDepth 65536 in
theorem w_args : argsFit about1.vm theMethod args0 = true := by decide +kernel
set_option maxRecDepth 65536 in
theorem w_heap : heapFits about1 = true := by decide +kernel
set_option maxRecDepth 65536 in
theorem w_runnable : about1.curStatus? = some .runnable := by decide +kernel
set_option maxRecDepth 65536 in
theorem w_alone : about1.alone = true := by decide +kernel
set_option maxRecDepth 65536 in
theorem w_named : about1.methodNamed? x = some theMethod := by decide +kernel
set_option maxRecDepth 65536 in
theorem w_hears : about1.hears theMethod below0 = true := by decide +kernel
set_option maxRecDepth 65536 in
theorem w_ripe : about1.ripe theMethod args0 below0 = true := by decide +kernel
theorem w_running : about1.status = .running := rfl
set_option maxRecDepth 65536 in
theorem w_room : about1.hasRoom e0.platform room_1 = true :=
  launch0.hasRoom_least _ room_1 (by decide +kernel) (by decide +kernel) (by decide +kernel) (by decide +kernel) (by decide +kernel) (by decide +kernel)
theorem allAtoms_all (ts : List Jvm.Cond) (a : Array Jvm.Value) (st : Jvm.State) : (allAtoms ts).before a st = ts.all (fun c => c.before a st) := by
  induction ts with
  | nil => rfl
  | cons c t ih =>
    show (Jvm.Cond.and c (allAtoms t)).before a st = _
    rw [Jvm.Cond.before_and, ih, List.all_cons]
def words1 : List Jvm.Cond := Jvm.Cond.code x code maxLocals ret :: tables_1
/-- a 'code' word, met by the world's own term for the bytes: nothing is compared byte by byte -/
theorem code_word {y : MethodName} {bytes : ByteArray} {mx : Nat} {rt : Option FieldType} {a : Array Value} {s : State} {m : MethodId} {meth : Method} {c : Code} (h1 : s.methodNamed? y = some m) (h2 : s.vm.method? m = some meth) (h3 : meth.code = some c) (h4 : c.code = bytes)
    (h5 : (c.maxLocals == mx && c.exceptionTable.isEmpty && decide (c.maxStack ≤ mostOperands) && decide (meth.sig.returnType = rt) && !meth.locks && decide (parseMethodDescriptor y.desc = some meth.sig)) = true) : (Jvm.Cond.code y bytes mx rt).before a s = true := by
  simp only [Bool.and_eq_true, beq_iff_eq, Bool.not_eq_true', decide_eq_true_eq] at h5
  obtain ⟨⟨⟨⟨⟨g1, g2⟩, g3⟩, g4⟩, g5⟩, g6⟩ := h5
  simp [Cond.before, Cond.holds, Cond.value, h1, h2, h3, h4, g1, g2, g3, g4, g5, g6]
def isCode : Jvm.Cond → Bool
  | .code _ _ _ _ => true
  | _ => false
theorem all_split {L : List Jvm.Cond} {P : Jvm.Cond → Bool} (h1 : L.all (fun c => isCode c || P c) = true) (h2 : ∀ c ∈ L.filter isCode, P c = true) : L.all P = true := by
  refine List.all_eq_true.mpr fun c hc => ?_
  have h := List.all_eq_true.mp h1 c hc
  rcases Bool.eq_false_or_eq_true (isCode c) with hi | hi
  · exact h2 c (List.mem_filter.mpr ⟨hc, hi⟩)
  · simpa [hi] using h
set_option maxRecDepth 65536 in
theorem w_c0 : (Jvm.Cond.code x code maxLocals ret).before args0 about1 = true := code_word (m := ⟨1, 1⟩) (meth := k1m1) (c := k1c1) (by decide +kernel) rfl rfl rfl (by decide +kernel)
set_option maxRecDepth 65536 in
theorem w_c1 : (Jvm.Cond.code ({ cls := "java/lang/String", name := "<init>", desc := "([C)V" } : Jvm.MethodName) jdk_42_method_3_code (2 : Nat) (Option.none : Option Jvm.ClassFile.FieldType)).before args0 about1 = true := code_word (m := ⟨8, 1⟩) (meth := k8m1) (c := k8c1) (by decide +kernel) rfl rfl rfl (by decide +kernel)
set_option maxRecDepth 65536 in
theorem w_c2 : (Jvm.Cond.code ({ cls := "java/lang/String", name := "<init>", desc := "([CIILjava/lang/Void;)V" } : Jvm.MethodName) jdk_42_method_149_code (6 : Nat) (Option.none : Option Jvm.ClassFile.FieldType)).before args0 about1 = true := code_word (m := ⟨8, 4⟩) (meth := k8m4) (c := k8c4) (by decide +kernel) rfl rfl rfl (by decide +kernel)
set_option maxRecDepth 65536 in
theorem w_c3 : (Jvm.Cond.code ({ cls := "java/lang/Object", name := "<init>", desc := "()V" } : Jvm.MethodName) object_method_1_code (1 : Nat) (Option.none : Option Jvm.ClassFile.FieldType)).before args0 about1 = true := code_word (m := ⟨0, 0⟩) (meth := k0m0) (c := k0c0) (by decide +kernel) rfl rfl rfl (by decide +kernel)
set_option maxRecDepth 65536 in
theorem w_c4 : (Jvm.Cond.code ({ cls := "java/lang/StringUTF16", name := "compress", desc := "([CII)[B" } : Jvm.MethodName) jdk_52_method_16_code (6 : Nat) (Option.some (Jvm.ClassFile.FieldType.array Jvm.ClassFile.FieldType.byte))).before args0 about1 = true := code_word (m := ⟨9, 2⟩) (meth := k9m2) (c := k9c2) (by decide +kernel) rfl rfl rfl (by decide +kernel)
set_option maxRecDepth 65536 in
theorem w_c5 : (Jvm.Cond.code ({ cls := "java/lang/StringUTF16", name := "compress", desc := "([CI[BII)I" } : Jvm.MethodName) jdk_52_method_21_code (7 : Nat) (Option.some Jvm.ClassFile.FieldType.int)).before args0 about1 = true := code_word (m := ⟨9, 3⟩) (meth := k9m3) (c := k9c3) (by decide +kernel) rfl rfl rfl (by decide +kernel)
set_option maxRecDepth 65536 in
theorem w_c6 : (Jvm.Cond.code ({ cls := "java/lang/StringUTF16", name := "coderFromArrayLen", desc := "([BI)B" } : Jvm.MethodName) jdk_52_method_15_code (2 : Nat) (Option.some Jvm.ClassFile.FieldType.byte)).before args0 about1 = true := code_word (m := ⟨9, 1⟩) (meth := k9m1) (c := k9c1) (by decide +kernel) rfl rfl rfl (by decide +kernel)
set_option maxRecDepth 65536 in
theorem w_c7 : (Jvm.Cond.code ({ cls := "com/example/shapewright/shapewright/reader/IdlScanner", name := "<init>", desc := "(Ljava/lang/String;Ljava/lang/String;)V" } : Jvm.MethodName) prog_20_method_1_code (3 : Nat) (Option.none : Option Jvm.ClassFile.FieldType)).before args0 about1 = true := code_word (m := ⟨2, 0⟩) (meth := k2m0) (c := k2c0) (by decide +kernel) rfl rfl rfl (by decide +kernel)
set_option maxRecDepth 65536 in
theorem w_c8 : (Jvm.Cond.code ({ cls := "com/example/shapewright/shapewright/reader/IdlScanner$Mark", name := "<init>", desc := "(III)V" } : Jvm.MethodName) prog_22_method_1_code (4 : Nat) (Option.none : Option Jvm.ClassFile.FieldType)).before args0 about1 = true := code_word (m := ⟨11, 0⟩) (meth := k11m0) (c := k11c0) (by decide +kernel) rfl rfl rfl (by decide +kernel)
set_option maxRecDepth 65536 in
theorem w_c9 : (Jvm.Cond.code ({ cls := "java/lang/Record", name := "<init>", desc := "()V" } : Jvm.MethodName) jdk_30_method_1_code (1 : Nat) (Option.none : Option Jvm.ClassFile.FieldType)).before args0 about1 = true := code_word (m := ⟨10, 0⟩) (meth := k10m0) (c := k10c0) (by decide +kernel) rfl rfl rfl (by decide +kernel)
set_option maxRecDepth 65536 in
theorem w_c10 : (Jvm.Cond.code ({ cls := "com/example/shapewright/shapewright/reader/IdlScanner", name := "reset", desc := "(Lcom/example/shapewright/shapewright/reader/IdlScanner$Mark;)V" } : Jvm.MethodName) prog_20_method_8_code (2 : Nat) (Option.none : Option Jvm.ClassFile.FieldType)).before args0 about1 = true := code_word (m := ⟨2, 4⟩) (meth := k2m4) (c := k2c4) (by decide +kernel) rfl rfl rfl (by decide +kernel)
set_option maxRecDepth 65536 in
theorem w_c11 : (Jvm.Cond.code ({ cls := "com/example/shapewright/shapewright/reader/IdlScanner$Mark", name := "position", desc := "()I" } : Jvm.MethodName) prog_22_method_5_code (1 : Nat) (Option.some Jvm.ClassFile.FieldType.int)).before args0 about1 = true := code_word (m := ⟨11, 1⟩) (meth := k11m1) (c := k11c1) (by decide +kernel) rfl rfl rfl (by decide +kernel)
set_option maxRecDepth 65536 in
theorem w_c12 : (Jvm.Cond.code ({ cls := "com/example/shapewright/shapewright/reader/IdlScanner$Mark", name := "line", desc := "()I" } : Jvm.MethodName) prog_22_method_6_code (1 : Nat) (Option.some Jvm.ClassFile.FieldType.int)).before args0 about1 = true := code_word (m := ⟨11, 2⟩) (meth := k11m2) (c := k11c2) (by decide +kernel) rfl rfl rfl (by decide +kernel)
set_option maxRecDepth 65536 in
theorem w_c13 : (Jvm.Cond.code ({ cls := "com/example/shapewright/shapewright/reader/IdlScanner$Mark", name := "column", desc := "()I" } : Jvm.MethodName) prog_22_method_7_code (1 : Nat) (Option.some Jvm.ClassFile.FieldType.int)).before args0 about1 = true := code_word (m := ⟨11, 3⟩) (meth := k11m3) (c := k11c3) (by decide +kernel) rfl rfl rfl (by decide +kernel)
set_option maxRecDepth 65536 in
theorem w_c14 : (Jvm.Cond.code ({ cls := "com/example/shapewright/shapewright/reader/IdlScanner", name := "mark", desc := "()Lcom/example/shapewright/shapewright/reader/IdlScanner$Mark;" } : Jvm.MethodName) prog_20_method_7_code (1 : Nat) (Option.some (Jvm.ClassFile.FieldType.object "com/example/shapewright/shapewright/reader/IdlScanner$Mark"))).before args0 about1 = true := code_word (m := ⟨2, 3⟩) (meth := k2m3) (c := k2c3) (by decide +kernel) rfl rfl rfl (by decide +kernel)
set_option maxRecDepth 65536 in
theorem w_c15 : (Jvm.Cond.code ({ cls := "com/example/shapewright/shapewright/reader/IdlScanner", name := "atEnd", desc := "()Z" } : Jvm.MethodName) prog_20_method_2_code (1 : Nat) (Option.some Jvm.ClassFile.FieldType.boolean)).before args0 about1 = true := code_word (m := ⟨2, 1⟩) (meth := k2m1) (c := k2c1) (by decide +kernel) rfl rfl rfl (by decide +kernel)
set_option maxRecDepth 65536 in
theorem w_c16 : (Jvm.Cond.code ({ cls := "java/lang/String", name := "length", desc := "()I" } : Jvm.MethodName) jdk_42_method_54_code (1 : Nat) (Option.some Jvm.ClassFile.FieldType.int)).before args0 about1 = true := code_word (m := ⟨8, 2⟩) (meth := k8m2) (c := k8c2) (by decide +kernel) rfl rfl rfl (by decide +kernel)
set_option maxRecDepth 65536 in
theorem w_c17 : (Jvm.Cond.code ({ cls := "java/lang/String", name := "coder", desc := "()B" } : Jvm.MethodName) jdk_42_method_152_code (1 : Nat) (Option.some Jvm.ClassFile.FieldType.byte)).before args0 about1 = true := code_word (m := ⟨8, 5⟩) (meth := k8m5) (c := k8c5) (by decide +kernel) rfl rfl rfl (by decide +kernel)
set_option maxRecDepth 65536 in
theorem w_c18 : (Jvm.Cond.code ({ cls := "com/example/shapewright/shapewright/reader/IdlScanner", name := "isNext", desc := "(C)Z" } : Jvm.MethodName) prog_20_method_3_code (2 : Nat) (Option.some Jvm.ClassFile.FieldType.boolean)).before args0 about1 = true := code_word (m := ⟨2, 2⟩) (meth := k2m2) (c := k2c2) (by decide +kernel) rfl rfl rfl (by decide +kernel)
set_option maxRecDepth 65536 in
theorem w_c19 : (Jvm.Cond.code ({ cls := "java/lang/String", name := "charAt", desc := "(I)C" } : Jvm.MethodName) jdk_42_method_56_code (2 : Nat) (Option.some Jvm.ClassFile.FieldType.char)).before args0 about1 = true := code_word (m := ⟨8, 3⟩) (meth := k8m3) (c := k8c3) (by decide +kernel) rfl rfl rfl (by decide +kernel)
set_option maxRecDepth 65536 in
theorem w_c20 : (Jvm.Cond.code ({ cls := "java/lang/String", name := "isLatin1", desc := "()Z" } : Jvm.MethodName) jdk_42_method_154_code (1 : Nat) (Option.some Jvm.ClassFile.FieldType.boolean)).before args0 about1 = true := code_word (m := ⟨8, 6⟩) (meth := k8m6) (c := k8c6) (by decide +kernel) rfl rfl rfl (by decide +kernel)
set_option maxRecDepth 65536 in
theorem w_c21 : (Jvm.Cond.code ({ cls := "java/lang/StringLatin1", name := "charAt", desc := "([BI)C" } : Jvm.MethodName) jdk_43_method_2_code (2 : Nat) (Option.some Jvm.ClassFile.FieldType.char)).before args0 about1 = true := code_word (m := ⟨12, 1⟩) (meth := k12m1) (c := k12c1) (by decide +kernel) rfl rfl rfl (by decide +kernel)
set_option maxRecDepth 65536 in
theorem w_c22 : (Jvm.Cond.code ({ cls := "java/lang/String", name := "checkIndex", desc := "(II)V" } : Jvm.MethodName) jdk_42_method_155_code (2 : Nat) (Option.none : Option Jvm.ClassFile.FieldType)).before args0 about1 = true := code_word (m := ⟨8, 7⟩) (meth := k8m7) (c := k8c7) (by decide +kernel) rfl rfl rfl (by decide +kernel)
set_option maxRecDepth 65536 in
theorem w_c23 : (Jvm.Cond.code ({ cls := "jdk/internal/util/Preconditions", name := "checkIndex", desc := "(IILjava/util/function/BiFunction;)I" } : Jvm.MethodName) jdk_41_method_11_code (3 : Nat) (Option.some Jvm.ClassFile.FieldType.int)).before args0 about1 = true := code_word (m := ⟨13, 1⟩) (meth := k13m1) (c := k13c1) (by decide +kernel) rfl rfl rfl (by decide +kernel)
def codes1 : List Jvm.Cond := [Jvm.Cond.code x code maxLocals ret, Jvm.Cond.code ({ cls := "java/lang/String", name := "<init>", desc := "([C)V" } : Jvm.MethodName) jdk_42_method_3_code (2 : Nat) (Option.none : Option Jvm.ClassFile.FieldType), Jvm.Cond.code ({ cls := "java/lang/String", name := "<init>", desc := "([CIILjava/lang/Void;)V" } : Jvm.MethodName) jdk_42_method_149_code (6 : Nat) (Option.none : Option Jvm.ClassFile.FieldType), Jvm.Cond.code ({ cls := "java/lang/Object", name := "<init>", desc := "()V" } : Jvm.MethodName) object_method_1_code (1 : Nat) (Option.none : Option Jvm.ClassFile.FieldType), Jvm.Cond.code ({ cls := "java/lang/StringUTF16", name := "compress", desc := "([CII)[B" } : Jvm.MethodName) jdk_52_method_16_code (6 : Nat) (Option.some (Jvm.ClassFile.FieldType.array Jvm.ClassFile.FieldType.byte)), Jvm.Cond.code ({ cls := "java/lang/StringUTF16", name := "compress", desc := "([CI[BII)I" } : Jvm.MethodName) jdk_52_method_21_code (7 : Nat) (Option.some Jvm.ClassFile.FieldType.int), Jvm.Cond.code ({ cls := "java/lang/StringUTF16", name := "coderFromArrayLen", desc := "([BI)B" } : Jvm.MethodName) jdk_52_method_15_code (2 : Nat) (Option.some Jvm.ClassFile.FieldType.byte), Jvm.Cond.code ({ cls := "com/example/shapewright/shapewright/reader/IdlScanner", name := "<init>", desc := "(Ljava/lang/String;Ljava/lang/String;)V" } : Jvm.MethodName) prog_20_method_1_code (3 : Nat) (Option.none : Option Jvm.ClassFile.FieldType), Jvm.Cond.code ({ cls := "com/example/shapewright/shapewright/reader/IdlScanner$Mark", name := "<init>", desc := "(III)V" } : Jvm.MethodName) prog_22_method_1_code (4 : Nat) (Option.none : Option Jvm.ClassFile.FieldType), Jvm.Cond.code ({ cls := "java/lang/Record", name := "<init>", desc := "()V" } : Jvm.MethodName) jdk_30_method_1_code (1 : Nat) (Option.none : Option Jvm.ClassFile.FieldType), Jvm.Cond.code ({ cls := "com/example/shapewright/shapewright/reader/IdlScanner", name := "reset", desc := "(Lcom/example/shapewright/shapewright/reader/IdlScanner$Mark;)V" } : Jvm.MethodName) prog_20_method_8_code (2 : Nat) (Option.none : Option Jvm.ClassFile.FieldType), Jvm.Cond.code ({ cls := "com/example/shapewright/shapewright/reader/IdlScanner$Mark", name := "position", desc := "()I" } : Jvm.MethodName) prog_22_method_5_code (1 : Nat) (Option.some Jvm.ClassFile.FieldType.int), Jvm.Cond.code ({ cls := "com/example/shapewright/shapewright/reader/IdlScanner$Mark", name := "line", desc := "()I" } : Jvm.MethodName) prog_22_method_6_code (1 : Nat) (Option.some Jvm.ClassFile.FieldType.int), Jvm.Cond.code ({ cls := "com/example/shapewright/shapewright/reader/IdlScanner$Mark", name := "column", desc := "()I" } : Jvm.MethodName) prog_22_method_7_code (1 : Nat) (Option.some Jvm.ClassFile.FieldType.int), Jvm.Cond.code ({ cls := "com/example/shapewright/shapewright/reader/IdlScanner", name := "mark", desc := "()Lcom/example/shapewright/shapewright/reader/IdlScanner$Mark;" } : Jvm.MethodName) prog_20_method_7_code (1 : Nat) (Option.some (Jvm.ClassFile.FieldType.object "com/example/shapewright/shapewright/reader/IdlScanner$Mark")), Jvm.Cond.code ({ cls := "com/example/shapewright/shapewright/reader/IdlScanner", name := "atEnd", desc := "()Z" } : Jvm.MethodName) prog_20_method_2_code (1 : Nat) (Option.some Jvm.ClassFile.FieldType.boolean), Jvm.Cond.code ({ cls := "java/lang/String", name := "length", desc := "()I" } : Jvm.MethodName) jdk_42_method_54_code (1 : Nat) (Option.some Jvm.ClassFile.FieldType.int), Jvm.Cond.code ({ cls := "java/lang/String", name := "coder", desc := "()B" } : Jvm.MethodName) jdk_42_method_152_code (1 : Nat) (Option.some Jvm.ClassFile.FieldType.byte), Jvm.Cond.code ({ cls := "com/example/shapewright/shapewright/reader/IdlScanner", name := "isNext", desc := "(C)Z" } : Jvm.MethodName) prog_20_method_3_code (2 : Nat) (Option.some Jvm.ClassFile.FieldType.boolean), Jvm.Cond.code ({ cls := "java/lang/String", name := "charAt", desc := "(I)C" } : Jvm.MethodName) jdk_42_method_56_code (2 : Nat) (Option.some Jvm.ClassFile.FieldType.char), Jvm.Cond.code ({ cls := "java/lang/String", name := "isLatin1", desc := "()Z" } : Jvm.MethodName) jdk_42_method_154_code (1 : Nat) (Option.some Jvm.ClassFile.FieldType.boolean), Jvm.Cond.code ({ cls := "java/lang/StringLatin1", name := "charAt", desc := "([BI)C" } : Jvm.MethodName) jdk_43_method_2_code (2 : Nat) (Option.some Jvm.ClassFile.FieldType.char), Jvm.Cond.code ({ cls := "java/lang/String", name := "checkIndex", desc := "(II)V" } : Jvm.MethodName) jdk_42_method_155_code (2 : Nat) (Option.none : Option Jvm.ClassFile.FieldType), Jvm.Cond.code ({ cls := "jdk/internal/util/Preconditions", name := "checkIndex", desc := "(IILjava/util/function/BiFunction;)I" } : Jvm.MethodName) jdk_41_method_11_code (3 : Nat) (Option.some Jvm.ClassFile.FieldType.int)]
set_option maxRecDepth 65536 in
theorem codes_eq : words1.filter isCode = codes1 := rfl
theorem w_codes : ∀ c ∈ words1.filter isCode, c.before args0 about1 = true := by
  rw [codes_eq]
  intro c hc
  simp only [codes1, List.mem_cons, List.not_mem_nil, or_false] at hc
  rcases hc with rfl | rfl | rfl | rfl | rfl | rfl | rfl | rfl | rfl | rfl | rfl | rfl | rfl | rfl | rfl | rfl | rfl | rfl | rfl | rfl | rfl | rfl | rfl | rfl
  · exact w_c0
  · exact w_c1
  · exact w_c2
  · exact w_c3
  · exact w_c4
  · exact w_c5
  · exact w_c6
  · exact w_c7
  · exact w_c8
  · exact w_c9
  · exact w_c10
  · exact w_c11
  · exact w_c12
  · exact w_c13
  · exact w_c14
  · exact w_c15
  · exact w_c16
  · exact w_c17
  · exact w_c18
  · exact w_c19
  · exact w_c20
  · exact w_c21
  · exact w_c22
  · exact w_c23
set_option maxRecDepth 65536 in
theorem w_t1 : (words1.take 24).all (fun c => isCode c || c.before args0 about1) = true := by decide +kernel
set_option maxRecDepth 65536 in
theorem w_t2 : ((words1.drop 24).take 24).all (fun c => isCode c || c.before args0 about1) = true := by decide +kernel
set_option maxRecDepth 65536 in
theorem w_t3 : (((words1.drop 24).drop 24).take 24).all (fun c => isCode c || c.before args0 about1) = true := by decide +kernel
set_option maxRecDepth 65536 in
theorem w_t4 : ((((words1.drop 24).drop 24).drop 24).take 24).all (fun c => isCode c || c.before args0 about1) = true := by decide +kernel
set_option maxRecDepth 65536 in
theorem w_t5 : (((((words1.drop 24).drop 24).drop 24).drop 24).take 24).all (fun c => isCode c || c.before args0 about1) = true := by decide +kernel
set_option maxRecDepth 65536 in
theorem w_t6 : (((((words1.drop 24).drop 24).drop 24).drop 24).drop 24).all (fun c => isCode c || c.before args0 about1) = true := by decide +kernel
theorem w_tables : (allAtoms (Jvm.Cond.code x code maxLocals ret :: tables_1)).before args0 about1 = true := by
  rw [allAtoms_all]
  show words1.all (fun c => c.before args0 about1) = true
  refine all_split ?_ w_codes
  rw [← List.take_append_drop 24 words1, List.all_append, w_t1, ← List.take_append_drop 24 (words1.drop 24), List.all_append, w_t2, ← List.take_append_drop 24 ((words1.drop 24).drop 24), List.all_append, w_t3, ← List.take_append_drop 24 (((words1.drop 24).drop 24).drop 24), List.all_append, w_t4, ← List.take_append_drop 24 ((((words1.drop 24).drop 24).drop 24).drop 24), List.all_append, w_t5, w_t6]
  rfl
set_option maxRecDepth 65536 in
theorem w_rest : rest_1_c.before args0 about1 = true := by decide +kernel
set_option maxRecDepth 65536 in
theorem w_case : (Jvm.Cond.and given_1 narrow_1).before args0 about1 = true := by decide +kernel
theorem w_applies : (headSpec (Jvm.Cond.code x code maxLocals ret :: tables_1) room_1).applies x e0.platform about1 = true :=
  (Spec.applies_iff w_frames).mpr ⟨w_running, w_runnable, w_alone, w_named, w_hears, w_ripe, w_room, w_tables⟩
theorem atStart : AtStart classFile x code maxLocals ret World_1 tables_1 room_1 Calls_1 rest_1 Pre_1 launch0 p0 e0 about1 theMethod args0 below0 :=
  ⟨lists_1, trivial, launch0.admits_env _ _ _, launch0.least_env, fairChoices_fair.cas, fairChoices_fair.clock, w_frames, w_args, w_heap, w_applies, trivial, w_rest, w_case⟩
end start1
theorem witness_1 : WitnessClaimed_1 := ⟨start1.p0, start1.e0, start1.about1, start1.theMethod, start1.args0, start1.below0, start1.atStart⟩
end Jvm.Pilot.@@N@@
