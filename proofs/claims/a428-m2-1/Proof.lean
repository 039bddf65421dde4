import JvmDerived
import JvmDerived.Pilot.@@N@@Statement
import JvmDerived.Pilot.@@N@@Code
set_option linter.unusedVariables false
set_option linter.unusedSimpArgs false
namespace Jvm.RoadKit
open Sem ClassFile Op Lib Jvm.Stand Jvm.Free Jvm.LawKit
section New
variable {p : Program} {l : Launch} {e : Env} {R : Room} {s : State} {m : MethodId} {args : Array Value} {below : List Frame} {meth : Method} {c : Code} {T T' : State} {locs : List Loc} {cells slots : Nat}
theorem retI (X : Stand p l e R s m args below meth c T locs cells slots) (hx : p.tables.exec = Jvm.exec) {pc : Nat} {Ls : Array Slot} {z : Int32} {rest : List Value} (hret : meth.sig.returnType = some .int) (hd : decode c.code pc = .ok (.ireturn, 1)) {fs : List Frame}
    (hl : ∀ (f : JFrame) (acts : List Action), f.method = m → f.locked = none → f.entered = [] → (doReturn e (T.setTop f) acts (some (.int z))).1 = T.setFrames fs) : Steps p.tables e below (T.setTop (mkF m pc Ls (.int z :: rest))) (T.setFrames fs) := by
  have hm' : T.vm.method? m = some meth := X.method'
  have hn : narrow .int (.int z) = .int z := rfl
  show Steps p.tables e below (T.setTop { method := m, pc := pc, locals := Ls, stack := _ :: rest, locked := none }) _
  jvm_step X.here [X.here.top, hx, hd, hm', hret, hn]
  first | (intro acts; rw [hl _ acts rfl rfl rfl]) | rw [hl _ _ rfl rfl rfl]
  exact Steps.refl _
/-- from this frame the run comes to an end of which P holds -/
def OEnds (p : Program) (e : Env) (below : List Frame) (P : Outcome → State → Prop) (T : State) (g : JFrame) : Prop :=
  ∃ s₂ o, Steps p.tables e below (T.setTop g) s₂ ∧ s₂.status = .running ∧ Ended s₂ below o ∧ P o s₂
theorem OEnds.go {P : Outcome → State → Prop} {g g' : JFrame} (h : ∀ t, Steps p.tables e below (T'.setTop g') t → Steps p.tables e below (T.setTop g) t) (k : OEnds p e below P T' g') : OEnds p e below P T g := by
  obtain ⟨s₂, o, h1, h2⟩ := k
  exact ⟨s₂, o, h _ h1, h2⟩
theorem OEnds.tr {P : Outcome → State → Prop} {g g' : JFrame} (h : Steps p.tables e below (T.setTop g) (T'.setTop g')) (k : OEnds p e below P T' g') : OEnds p e below P T g :=
  OEnds.go (fun _ q => h.trans q) k
/-- what a contract of this family says of the end -/
def OEndP (s : State) (Q : Option Value → Heap → List Loc → Prop) (C N : Nat) (o : Outcome) (U' : State) : Prop := ∃ v L, o = .returned v ∧ Q v U'.heap L ∧ FrameEnd s o U' L C N
theorem OEnds.out (X : Stand p l e R s m args below meth c T locs cells slots) (hlocks : meth.locks = false) {v : Option Value} (hv : meth.sig.returnType = none → v = none) {Q : Option Value → Heap → List Loc → Prop} {C N : Nat} {g : JFrame}
    (hs : ∀ fs, (∀ (f : JFrame) (acts : List Action), f.method = m → f.locked = none → f.entered = [] → (doReturn e (T.setTop f) acts v).1 = T.setFrames fs) → Steps p.tables e below (T.setTop g) (T.setFrames fs))
    (hq : Q v T.heap locs) (hc : cells ≤ C) (hn : slots ≤ N) : OEnds p e below (OEndP s Q C N) T g := by
  obtain ⟨fs, hr, hrun, hended, hW, hsame⟩ := X.leave (v := v) hv hlocks
  exact ⟨_, _, hs fs hr, hrun, hended, _, _, rfl, hq, ⟨_, rfl⟩, hW, hsame.mono hc hn⟩
theorem OEnds.outN (X : Stand p l e R s m args below meth c T locs cells slots) (hlocks : meth.locks = false) (hx : p.tables.exec = Jvm.exec) {pc : Nat} {Ls : Array Slot} {z : Int32} {t : FieldType} {rest : List Value} (hret : meth.sig.returnType = some t) (ht : t = .boolean ∨ t = .byte ∨ t = .char ∨ t = .short)
    (hd : decode c.code pc = .ok (.ireturn, 1)) {Q : Option Value → Heap → List Loc → Prop} {C N : Nat} (hq : Q (some (.int (nar t z))) T.heap locs) (hc : cells ≤ C) (hn : slots ≤ N) : OEnds p e below (OEndP s Q C N) T (mkF m pc Ls (.int z :: rest)) :=
  OEnds.out X hlocks (fun h => by rw [hret] at h; cases h) (fun fs hr => retN X hx hret ht hd hr) hq hc hn
theorem OEnds.outI (X : Stand p l e R s m args below meth c T locs cells slots) (hlocks : meth.locks = false) (hx : p.tables.exec = Jvm.exec) {pc : Nat} {Ls : Array Slot} {z : Int32} {rest : List Value} (hret : meth.sig.returnType = some .int)
    (hd : decode c.code pc = .ok (.ireturn, 1)) {Q : Option Value → Heap → List Loc → Prop} {C N : Nat} (hq : Q (some (.int z)) T.heap locs) (hc : cells ≤ C) (hn : slots ≤ N) : OEnds p e below (OEndP s Q C N) T (mkF m pc Ls (.int z :: rest)) :=
  OEnds.out X hlocks (fun h => by rw [hret] at h; cases h) (fun fs hr => retI X hx hret hd hr) hq hc hn
theorem OEnds.outJ (X : Stand p l e R s m args below meth c T locs cells slots) (hlocks : meth.locks = false) (hx : p.tables.exec = Jvm.exec) {pc : Nat} {Ls : Array Slot} {z : Int64} {rest : List Value} (hret : meth.sig.returnType = some .long)
    (hd : decode c.code pc = .ok (.lreturn, 1)) {Q : Option Value → Heap → List Loc → Prop} {C N : Nat} (hq : Q (some (.long z)) T.heap locs) (hc : cells ≤ C) (hn : slots ≤ N) : OEnds p e below (OEndP s Q C N) T (mkF m pc Ls (.long z :: rest)) :=
  OEnds.out X hlocks (fun h => by rw [hret] at h; cases h) (fun fs hr => retOut X hx hret rfl (Or.inr (Or.inl ⟨rfl, rfl, z, rfl⟩)) hd hr) hq hc hn
theorem OEnds.outA (X : Stand p l e R s m args below meth c T locs cells slots) (hlocks : meth.locks = false) (hx : p.tables.exec = Jvm.exec) {pc : Nat} {Ls : Array Slot} {w : Value} {t : FieldType} {rest : List Value} (hret : meth.sig.returnType = some t) (ht : t.isReference = true) (hw : w.isRef = true)
    (hd : decode c.code pc = .ok (.areturn, 1)) {Q : Option Value → Heap → List Loc → Prop} {C N : Nat} (hq : Q (some w) T.heap locs) (hc : cells ≤ C) (hn : slots ≤ N) : OEnds p e below (OEndP s Q C N) T (mkF m pc Ls (w :: rest)) :=
  OEnds.out X hlocks (fun h => by rw [hret] at h; cases h) (fun fs hr => retOut X hx hret (by rcases ref_cases hw with rfl | ⟨a, rfl⟩ <;> cases t <;> first | rfl | cases ht) (Or.inr (Or.inr (Or.inr (Or.inr ⟨rfl, ht, hw⟩)))) hd hr) hq hc hn
theorem OEnds.outV (X : Stand p l e R s m args below meth c T locs cells slots) (hlocks : meth.locks = false) (hx : p.tables.exec = Jvm.exec) {pc : Nat} {Ls : Array Slot} (hret : meth.sig.returnType = none)
    (hd : decode c.code pc = .ok (.return_, 1)) {Q : Option Value → Heap → List Loc → Prop} {C N : Nat} (hq : Q none T.heap locs) (hc : cells ≤ C) (hn : slots ≤ N) : OEnds p e below (OEndP s Q C N) T (mkF m pc Ls []) :=
  OEnds.out X hlocks (fun _ => rfl) (fun fs hr => X.returnOut hx hret hd hr) hq hc hn
end New
end Jvm.RoadKit
namespace Jvm.RoadKit
open Sem ClassFile Op Lib Jvm.Stand Jvm.Free Jvm.LawKit
section NewW
variable {p : Program} {l : Launch} {e : Env} {R : Room} {s : State} {m : MethodId} {args : Array Value} {below : List Frame} {meth : Method} {c : Code} {T T' : State} {locs : List Loc} {cells slots : Nat} {vm0 : Vm} {k0 : Nat}
/-- what a contract says of the end, where String constants may have been resolved -/
def OEndPW (s : State) (Q : Option Value → Heap → List Loc → Prop) (C N : Nat) (o : Outcome) (U' : State) : Prop := ∃ v L, o = .returned v ∧ Q v U'.heap L ∧ ReturnedEndW s o U' L C N
theorem sbnW {U : State} (h : (s.setVm vm0).sameButNew ({ U with vm := (s.setVm vm0).vm } : State) locs cells slots) : s.sameButNew ({ U with vm := s.vm } : State) locs cells slots := by
  obtain ⟨h1, h2⟩ := h
  refine ⟨?_, h2⟩
  have := congrArg (fun x : State => ({ x with vm := s.vm } : State)) h1
  exact this
theorem OEnds.outW (X : Stand p l e R (s.setVm vm0) m args below meth c T locs cells slots) (hlocks : meth.locks = false) (hS : s.Since vm0 k0) (hk : k0 ≤ T.heap.size) {v : Option Value} (hv : meth.sig.returnType = none → v = none) {Q : Option Value → Heap → List Loc → Prop} {C N : Nat} {g : JFrame}
    (hs : ∀ fs, (∀ (f : JFrame) (acts : List Action), f.method = m → f.locked = none → f.entered = [] → (doReturn e (T.setTop f) acts v).1 = T.setFrames fs) → Steps p.tables e below (T.setTop g) (T.setFrames fs))
    (hq : Q v T.heap locs) (hc : cells ≤ C) (hn : slots ≤ N) : OEnds p e below (OEndPW s Q C N) T g := by
  obtain ⟨fs, hr, hrun, hended, hW, hsame⟩ := X.leave (v := v) hv hlocks
  have hS2 := hS.trans (hW.since (T.setFrames fs).heap.size) hk
  exact ⟨_, _, hs fs hr, hrun, hended, _, _, rfl, hq, ⟨_, rfl⟩, hS2.1, hS2.2, (sbnW hsame).mono hc hn⟩
theorem OEnds.outNW (X : Stand p l e R (s.setVm vm0) m args below meth c T locs cells slots) (hlocks : meth.locks = false) (hS : s.Since vm0 k0) (hk : k0 ≤ T.heap.size) (hx : p.tables.exec = Jvm.exec) {pc : Nat} {Ls : Array Slot} {z : Int32} {t : FieldType} {rest : List Value} (hret : meth.sig.returnType = some t) (ht : t = .boolean ∨ t = .byte ∨ t = .char ∨ t = .short)
    (hd : decode c.code pc = .ok (.ireturn, 1)) {Q : Option Value → Heap → List Loc → Prop} {C N : Nat} (hq : Q (some (.int (nar t z))) T.heap locs) (hc : cells ≤ C) (hn : slots ≤ N) : OEnds p e below (OEndPW s Q C N) T (mkF m pc Ls (.int z :: rest)) :=
  OEnds.outW X hlocks hS hk (fun h => by rw [hret] at h; cases h) (fun fs hr => retN X hx hret ht hd hr) hq hc hn
theorem OEnds.outIW (X : Stand p l e R (s.setVm vm0) m args below meth c T locs cells slots) (hlocks : meth.locks = false) (hS : s.Since vm0 k0) (hk : k0 ≤ T.heap.size) (hx : p.tables.exec = Jvm.exec) {pc : Nat} {Ls : Array Slot} {z : Int32} {rest : List Value} (hret : meth.sig.returnType = some .int)
    (hd : decode c.code pc = .ok (.ireturn, 1)) {Q : Option Value → Heap → List Loc → Prop} {C N : Nat} (hq : Q (some (.int z)) T.heap locs) (hc : cells ≤ C) (hn : slots ≤ N) : OEnds p e below (OEndPW s Q C N) T (mkF m pc Ls (.int z :: rest)) :=
  OEnds.outW X hlocks hS hk (fun h => by rw [hret] at h; cases h) (fun fs hr => retI X hx hret hd hr) hq hc hn
theorem OEnds.outJW (X : Stand p l e R (s.setVm vm0) m args below meth c T locs cells slots) (hlocks : meth.locks = false) (hS : s.Since vm0 k0) (hk : k0 ≤ T.heap.size) (hx : p.tables.exec = Jvm.exec) {pc : Nat} {Ls : Array Slot} {z : Int64} {rest : List Value} (hret : meth.sig.returnType = some .long)
    (hd : decode c.code pc = .ok (.lreturn, 1)) {Q : Option Value → Heap → List Loc → Prop} {C N : Nat} (hq : Q (some (.long z)) T.heap locs) (hc : cells ≤ C) (hn : slots ≤ N) : OEnds p e below (OEndPW s Q C N) T (mkF m pc Ls (.long z :: rest)) :=
  OEnds.outW X hlocks hS hk (fun h => by rw [hret] at h; cases h) (fun fs hr => retOut X hx hret rfl (Or.inr (Or.inl ⟨rfl, rfl, z, rfl⟩)) hd hr) hq hc hn
theorem OEnds.outAW (X : Stand p l e R (s.setVm vm0) m args below meth c T locs cells slots) (hlocks : meth.locks = false) (hS : s.Since vm0 k0) (hk : k0 ≤ T.heap.size) (hx : p.tables.exec = Jvm.exec) {pc : Nat} {Ls : Array Slot} {w : Value} {t : FieldType} {rest : List Value} (hret : meth.sig.returnType = some t) (ht : t.isReference = true) (hw : w.isRef = true)
    (hd : decode c.code pc = .ok (.areturn, 1)) {Q : Option Value → Heap → List Loc → Prop} {C N : Nat} (hq : Q (some w) T.heap locs) (hc : cells ≤ C) (hn : slots ≤ N) : OEnds p e below (OEndPW s Q C N) T (mkF m pc Ls (w :: rest)) :=
  OEnds.outW X hlocks hS hk (fun h => by rw [hret] at h; cases h) (fun fs hr => retOut X hx hret (by rcases ref_cases hw with rfl | ⟨a, rfl⟩ <;> cases t <;> first | rfl | cases ht) (Or.inr (Or.inr (Or.inr (Or.inr ⟨rfl, ht, hw⟩)))) hd hr) hq hc hn
theorem OEnds.outVW (X : Stand p l e R (s.setVm vm0) m args below meth c T locs cells slots) (hlocks : meth.locks = false) (hS : s.Since vm0 k0) (hk : k0 ≤ T.heap.size) (hx : p.tables.exec = Jvm.exec) {pc : Nat} {Ls : Array Slot} (hret : meth.sig.returnType = none)
    (hd : decode c.code pc = .ok (.return_, 1)) {Q : Option Value → Heap → List Loc → Prop} {C N : Nat} (hq : Q none T.heap locs) (hc : cells ≤ C) (hn : slots ≤ N) : OEnds p e below (OEndPW s Q C N) T (mkF m pc Ls []) :=
  OEnds.outW X hlocks hS hk (fun _ => rfl) (fun fs hr => X.returnOut hx hret hd hr) hq hc hn
end NewW
end Jvm.RoadKit
namespace Jvm.Pilot.@@N@@
open Jvm Jvm.ClassFile Sem Op Lib Jvm.Free Jvm.Stand Jvm.LawKit Jvm.RoadKit Bundle Jvm.Pilot.@@N@@.Jvm.D
theorem d1_0 : decode prog_11_method_4_code 0 = .ok (.aload_n 0, 1) := by decide +kernel
theorem d1_1 : decode prog_11_method_4_code 1 = .ok (.ldc 29, 2) := by decide +kernel
theorem d1_3 : decode prog_11_method_4_code 3 = .ok (.invokestatic 31, 3) := by decide +kernel
theorem d1_6 : decode prog_11_method_4_code 6 = .ok (.pop, 1) := by decide +kernel
theorem d1_7 : decode prog_11_method_4_code 7 = .ok (.aload_n 0, 1) := by decide +kernel
theorem d1_8 : decode prog_11_method_4_code 8 = .ok (.arraylength, 1) := by decide +kernel
theorem d1_9 : decode prog_11_method_4_code 9 = .ok (.ifCond .eq 17, 3) := by decide +kernel
theorem d1_12 : decode prog_11_method_4_code 12 = .ok (.getstatic 37, 3) := by decide +kernel
theorem d1_15 : decode prog_11_method_4_code 15 = .ok (.aload_n 0, 1) := by decide +kernel
theorem d1_16 : decode prog_11_method_4_code 16 = .ok (.iconst 0, 1) := by decide +kernel
theorem d1_17 : decode prog_11_method_4_code 17 = .ok (.baload, 1) := by decide +kernel
theorem d1_18 : decode prog_11_method_4_code 18 = .ok (.sipush 255, 3) := by decide +kernel
theorem d1_21 : decode prog_11_method_4_code 21 = .ok (.iand, 1) := by decide +kernel
theorem d1_22 : decode prog_11_method_4_code 22 = .ok (.baload, 1) := by decide +kernel
theorem d1_23 : decode prog_11_method_4_code 23 = .ok (.ifCond .eq 9, 3) := by decide +kernel
theorem d1_26 : decode prog_11_method_4_code 26 = .ok (.getstatic 3, 3) := by decide +kernel
theorem d1_29 : decode prog_11_method_4_code 29 = .ok (.goto 6, 3) := by decide +kernel
theorem d1_32 : decode prog_11_method_4_code 32 = .ok (.getstatic 7, 3) := by decide +kernel
theorem d1_35 : decode prog_11_method_4_code 35 = .ok (.areturn, 1) := by decide +kernel
theorem d2_0 : decode jdk_31_method_11_code 0 = .ok (.aload_n 0, 1) := by decide +kernel
theorem d2_1 : decode jdk_31_method_11_code 1 = .ok (.ifnonnull 12, 3) := by decide +kernel
theorem d2_13 : decode jdk_31_method_11_code 13 = .ok (.aload_n 0, 1) := by decide +kernel
theorem d2_14 : decode jdk_31_method_11_code 14 = .ok (.areturn, 1) := by decide +kernel
theorem d3_0 : decode method_2_code 0 = .ok (.iload_n 0, 1) := by decide +kernel
theorem d3_1 : decode method_2_code 1 = .ok (.bipush 32, 2) := by decide +kernel
theorem d3_3 : decode method_2_code 3 = .ok (.if_icmp .eq 21, 3) := by decide +kernel
theorem d3_6 : decode method_2_code 6 = .ok (.iload_n 0, 1) := by decide +kernel
theorem d3_7 : decode method_2_code 7 = .ok (.bipush 9, 2) := by decide +kernel
theorem d3_9 : decode method_2_code 9 = .ok (.if_icmp .eq 15, 3) := by decide +kernel
theorem d3_12 : decode method_2_code 12 = .ok (.iload_n 0, 1) := by decide +kernel
theorem d3_13 : decode method_2_code 13 = .ok (.bipush 10, 2) := by decide +kernel
theorem d3_15 : decode method_2_code 15 = .ok (.if_icmp .eq 9, 3) := by decide +kernel
theorem d3_18 : decode method_2_code 18 = .ok (.iload_n 0, 1) := by decide +kernel
theorem d3_19 : decode method_2_code 19 = .ok (.bipush 13, 2) := by decide +kernel
theorem d3_21 : decode method_2_code 21 = .ok (.if_icmp .ne 5, 3) := by decide +kernel
theorem d3_24 : decode method_2_code 24 = .ok (.iconst 1, 1) := by decide +kernel
theorem d3_25 : decode method_2_code 25 = .ok (.ireturn, 1) := by decide +kernel
theorem d3_26 : decode method_2_code 26 = .ok (.iload_n 0, 1) := by decide +kernel
theorem d3_27 : decode method_2_code 27 = .ok (.bipush 123, 2) := by decide +kernel
theorem d3_29 : decode method_2_code 29 = .ok (.if_icmp .eq 21, 3) := by decide +kernel
theorem d3_32 : decode method_2_code 32 = .ok (.iload_n 0, 1) := by decide +kernel
theorem d3_33 : decode method_2_code 33 = .ok (.bipush 91, 2) := by decide +kernel
theorem d3_35 : decode method_2_code 35 = .ok (.if_icmp .eq 15, 3) := by decide +kernel
theorem d3_38 : decode method_2_code 38 = .ok (.iload_n 0, 1) := by decide +kernel
theorem d3_39 : decode method_2_code 39 = .ok (.bipush 34, 2) := by decide +kernel
theorem d3_41 : decode method_2_code 41 = .ok (.if_icmp .eq 9, 3) := by decide +kernel
theorem d3_44 : decode method_2_code 44 = .ok (.iload_n 0, 1) := by decide +kernel
theorem d3_45 : decode method_2_code 45 = .ok (.bipush 45, 2) := by decide +kernel
theorem d3_47 : decode method_2_code 47 = .ok (.if_icmp .ne 5, 3) := by decide +kernel
theorem d3_50 : decode method_2_code 50 = .ok (.iconst 1, 1) := by decide +kernel
theorem d3_51 : decode method_2_code 51 = .ok (.ireturn, 1) := by decide +kernel
theorem d3_52 : decode method_2_code 52 = .ok (.iload_n 0, 1) := by decide +kernel
theorem d3_53 : decode method_2_code 53 = .ok (.bipush 48, 2) := by decide +kernel
theorem d3_55 : decode method_2_code 55 = .ok (.if_icmp .lt 11, 3) := by decide +kernel
theorem d3_58 : decode method_2_code 58 = .ok (.iload_n 0, 1) := by decide +kernel
theorem d3_59 : decode method_2_code 59 = .ok (.bipush 57, 2) := by decide +kernel
theorem d3_61 : decode method_2_code 61 = .ok (.if_icmp .gt 5, 3) := by decide +kernel
theorem d3_64 : decode method_2_code 64 = .ok (.iconst 1, 1) := by decide +kernel
theorem d3_65 : decode method_2_code 65 = .ok (.ireturn, 1) := by decide +kernel
theorem d3_66 : decode method_2_code 66 = .ok (.iload_n 0, 1) := by decide +kernel
theorem d3_67 : decode method_2_code 67 = .ok (.bipush 116, 2) := by decide +kernel
theorem d3_69 : decode method_2_code 69 = .ok (.if_icmp .eq 15, 3) := by decide +kernel
theorem d3_72 : decode method_2_code 72 = .ok (.iload_n 0, 1) := by decide +kernel
theorem d3_73 : decode method_2_code 73 = .ok (.bipush 102, 2) := by decide +kernel
theorem d3_75 : decode method_2_code 75 = .ok (.if_icmp .eq 9, 3) := by decide +kernel
theorem d3_78 : decode method_2_code 78 = .ok (.iload_n 0, 1) := by decide +kernel
theorem d3_79 : decode method_2_code 79 = .ok (.bipush 110, 2) := by decide +kernel
theorem d3_81 : decode method_2_code 81 = .ok (.if_icmp .ne 5, 3) := by decide +kernel
theorem d3_84 : decode method_2_code 84 = .ok (.iconst 1, 1) := by decide +kernel
theorem d3_85 : decode method_2_code 85 = .ok (.ireturn, 1) := by decide +kernel
theorem d3_86 : decode method_2_code 86 = .ok (.iload_n 0, 1) := by decide +kernel
theorem d3_87 : decode method_2_code 87 = .ok (.sipush 239, 3) := by decide +kernel
theorem d3_90 : decode method_2_code 90 = .ok (.if_icmp .ne 7, 3) := by decide +kernel
theorem d3_93 : decode method_2_code 93 = .ok (.iconst 1, 1) := by decide +kernel
theorem d3_94 : decode method_2_code 94 = .ok (.goto 4, 3) := by decide +kernel
theorem d3_97 : decode method_2_code 97 = .ok (.iconst 0, 1) := by decide +kernel
theorem d3_98 : decode method_2_code 98 = .ok (.ireturn, 1) := by decide +kernel
theorem pn_0 : plainName "java/util/Objects" = true := by first | (simp [plainName, overriddenIn]; done) | decide +kernel
theorem pn_1 : plainName "com/example/gata/gata/model/PayloadFormatOfPinLaw" = true := by first | (simp [plainName, overriddenIn]; done) | decide +kernel
theorem pn_2 : plainName "com/example/gata/gata/model/PayloadFormat" = true := by first | (simp [plainName, overriddenIn]; done) | decide +kernel
theorem pd_0 : parseMethodDescriptor "(Ljava/lang/Object;Ljava/lang/String;)Ljava/lang/Object;" = some ⟨[(.object "java/lang/Object"), (.object "java/lang/String")], some (.object "java/lang/Object")⟩ := by decide +kernel
theorem pd_1 : parseMethodDescriptor "([B)Lcom/example/gata/gata/model/PayloadFormat;" = some ⟨[(.array .byte)], some (.object "com/example/gata/gata/model/PayloadFormat")⟩ := by decide +kernel
theorem pd_2 : parseMethodDescriptor "(I)Z" = some ⟨[.int], some .boolean⟩ := by decide +kernel
theorem own_nat (c : Int32) (h0 : 0 ≤ c.toInt) : c = Int32.ofNat c.toInt.toNat := by
  apply Int32.toInt_inj.mp
  have h1 := c.toInt_lt
  rw [Int32.toInt_ofNat_of_lt (by omega)]
  omega
theorem own_fin {P : Int32 → Prop} (K : Nat) (h : ∀ n : Fin K, P (Int32.ofNat n.1)) (c : Int32) (h0 : 0 ≤ c.toInt) (h1 : c.toInt < K) : P c := by
  rw [own_nat c h0]; exact h ⟨c.toInt.toNat, by omega⟩
theorem own_fin' {P : Int32 → Prop} (K : Nat) (c : Int32) (h0 : 0 ≤ c.toInt) (h1 : c.toInt < K) (h : ∀ n : Fin K, P (Int32.ofNat n.1)) : P c := own_fin K h c h0 h1
theorem own_no {G : Prop} {x : Int32} (h : x = 1) (h' : x = 0) : G := absurd (h.symm.trans h') (by decide)
theorem own_eqint {args : Array Value} {Z : State} {t : Term} {n : Int32} (h : (Jvm.Cond.eq t (.int n)).value args Z none Z [] = some true) : t.eval args Z none [] Z = some (.int n) := by
  simp only [Cond.value, Term.eval] at h
  cases ht : t.eval args Z none [] Z with
  | none => simp [ht] at h
  | some x => cases x <;> simp [ht] at h ⊢; exact h
theorem own_len {args : Array Value} {Z : State} {t : Term} {x : Addr} {cl : Cell} {ty : FieldType} {n : Int32} (ht : t.eval args Z none [] Z = some (.ref x)) (A : Arr Z Z.heap x cl ty) (h : (Jvm.Cond.eq (.length t) (.int n)).value args Z none Z [] = some true) : cl.slots.size < 2 ^ 31 ∧ cl.slots.size.toInt32 = n := by
  have e := own_eqint h
  have ha : Z.arrayAt? x = some cl := A.fin (Vm.Alike.refl _)
  by_cases hl : cl.slots.size < 2 ^ 31
  · rw [len_f ht ha hl] at e
    exact ⟨hl, Value.int.inj (Option.some.inj e)⟩
  · simp [Term.eval, ht, ha, hl] at e
theorem own_elem {args : Array Value} {Z : State} {t u : Term} {x y : Addr} {cl : Cell} {j : Int32} (ht : t.eval args Z none [] Z = some (.ref x)) (hc : Z.heap[x]? = some cl) (hu : u.eval args Z none [] Z = some (.ref y)) (h : (Jvm.Cond.eq (.elem t (.int j)) u).value args Z none Z [] = some true) : cl.slots[j.toNatClampNeg]? = some (.ref y) := by
  obtain ⟨v, w, e1, e2, -⟩ := cmp_v (Or.inl h)
  cases hu.symm.trans e2
  obtain ⟨h1, h2⟩ := elem_in e1 ht (Term.int_eval j) hc
  have hr : v.isRef = true := by
    have := h
    cases v <;> simp [Cond.value, e1, e2, Value.isRef] at this ⊢
  have q := gotT (eq_R e1 e2 hr rfl) h
  rw [h2, q]
theorem own_fldI {args : Array Value} {Z : State} {t : Term} {x : Addr} {C n d : String} {v : Int32} (ht : t.eval args Z none [] Z = some (.ref x)) (h : (Jvm.Cond.eq (.field t C n d) (.int v)).value args Z none Z [] = some true) : Fld Z Z.heap x C n d (.int v) := by
  have e := own_eqint h
  rw [fld_at ht] at e
  exact Fld.start e
theorem own_catI (x : Int32) : (Value.int x).category = 1 := rfl
theorem own_catJ (x : Int64) : (Value.long x).category = 2 := rfl
theorem own_catR (x : Addr) : (Value.ref x).category = 1 := rfl
theorem own_catN : (Value.null).category = 1 := rfl
theorem own_cat {v : Value} (h : v.isRef = true) : v.category = 1 := by rcases ref_cases h with rfl | ⟨_, rfl⟩ <;> rfl
theorem own_wS {Z : State} {a0 : Array Value} (hw : ∀ d ∈ tables_1, d.before a0 Z = true) : ∀ a ∈ Bundle.stringAtoms, a.before a0 Z = true := by
  intro d hd
  simp only [Bundle.stringAtoms, List.mem_cons, List.not_mem_nil, or_false] at hd
  rcases hd with rfl | rfl | rfl | rfl | rfl | rfl | rfl
  · exact (hw _ (List.mem_of_getElem? (i := 7) rfl))
  · exact (hw _ (List.mem_of_getElem? (i := 8) rfl))
  · exact (hw _ (List.mem_of_getElem? (i := 1) rfl))
  · exact (hw _ (List.mem_of_getElem? (i := 9) rfl))
  · exact (hw _ (List.mem_of_getElem? (i := 10) rfl))
  · exact (hw _ (List.mem_of_getElem? (i := 11) rfl))
  · exact (hw _ (List.mem_of_getElem? (i := 12) rfl))
theorem ef_rm2 (m : MethodId) (x0 : Addr) (x1 : Addr) : entryFrame m #[(.ref x0), (.ref x1)] 2 = mkF m 0 #[.val (.ref x0), .val (.ref x1)] [] := by first | (simp [entryFrame, mkF, argsToLocals, Value.category]; done) | rfl
def Q_rm2 (Z : State) (a : Addr) (b : Addr) (h0 : Heap) (n0 : Nat) (v : Option Value) (h : Heap) (L : List Loc) : Prop := v = some (.ref a) ∧ Fr n0 L ∧ h = h0
set_option maxRecDepth 65536 in
set_option maxHeartbeats 40000000 in
theorem rm2 (l : Launch) (Z : State) (a0 : Array Value) (hw : ∀ d ∈ tables_1, d.before a0 Z = true) (ws : List Jvm.Cond) (a : Addr) (b : Addr) (h0 : Heap) (n0 : Nat) (Z0 : n0 ≤ h0.size) :
    MetFree l (⟨"java/util/Objects", "requireNonNull", "(Ljava/lang/Object;Ljava/lang/String;)Ljava/lang/Object;"⟩ : MethodName) (head1 (Jvm.Cond.code (⟨"java/util/Objects", "requireNonNull", "(Ljava/lang/Object;Ljava/lang/String;)Ljava/lang/Object;"⟩ : MethodName) jdk_31_method_11_code 2 (some (.object "java/lang/Object")) :: ws) ({ frames := 0, cells := 0, slots := 0, locals := 0 } : Room)) (fun aa_ U => aa_ = #[(.ref a), (.ref b)] ∧ Z.Warmed39 U.vm ∧ U.heap = h0) (fun _ _ _ _ _ => True) (fun _ U o U' => ∃ v L, o = .returned v ∧ Q_rm2 Z a b h0 n0 v U'.heap L ∧ FrameEnd U o U' L ({ frames := 0, cells := 0, slots := 0, locals := 0 } : Room).cells ({ frames := 0, cells := 0, slots := 0, locals := 0 } : Room).slots) := by
  refine MetFree.of_bodySF (plainFor_of_name pn_0) hisR ?_
  intro p e s m args below meth c s₁ Bd hml0 hP hK
  obtain ⟨rfl, hZ, hh⟩ := hP
  have hx := Bd.exec
  have hby := Bd.bytes
  have hml : c.maxLocals = 2 := hml0
  have hown : s.vm.findClass "java/util/Objects" = some m.cls := findClass_of_methodNamed Bd.named
  have hnm := (name_of_methodNamed Bd.named Bd.method).1
  have X0 : Stand p l e ({ frames := 0, cells := 0, slots := 0, locals := 0 } : Room) s m #[(.ref a), (.ref b)] below meth c s₁ [] 0 0 := Stand.of_body Bd
  have e0 : s₁.heap = h0 := by rw [← hh, Bd.state]; rfl
  have N0 := Fr.nil n0
  show OEnds p e below (OEndP s (Q_rm2 Z a b h0 n0) ({ frames := 0, cells := 0, slots := 0, locals := 0 } : Room).cells ({ frames := 0, cells := 0, slots := 0, locals := 0 } : Room).slots) s₁ (entryFrame m #[(.ref a), (.ref b)] 2)
  rw [ef_rm2 m a b]
  refine OEnds.go (g' := (mkF m 1 #[.val (.ref a), .val (.ref b)] [(.ref a)])) (fun t k => XS.aloadN X0.here hx rfl (hb hby d2_0) rfl rfl k) ?_
  refine OEnds.go (g' := (mkF m 13 #[.val (.ref a), .val (.ref b)] [])) (fun t k => XS.ifnonnullYes X0.here hx rfl (pc0 := 1) (pc' := 13) rfl (hb hby d2_1) rfl (by decide) (by decide) k) ?_
  refine OEnds.go (g' := (mkF m 14 #[.val (.ref a), .val (.ref b)] [(.ref a)])) (fun t k => XS.aloadN X0.here hx rfl (hb hby d2_13) rfl rfl k) ?_
  exact OEnds.outA X0 Bd.notSynchronized hx Bd.returns rfl rfl (hb hby d2_14) ⟨rfl, N0, e0⟩ (by decide) (by decide)
theorem ef_rm3 (m : MethodId) (x0 : Int32) : entryFrame m #[(.int x0)] 1 = mkF m 0 #[.val (.int x0)] [] := by first | (simp [entryFrame, mkF, argsToLocals, Value.category]; done) | rfl
def f3 (p0 : Int32) : Int32 := if p0 = (32 : Int32) then (1 : Int32) else if p0 = (9 : Int32) then (1 : Int32) else if p0 = (10 : Int32) then (1 : Int32) else if p0 = (13 : Int32) then (1 : Int32) else if p0 = (123 : Int32) then (1 : Int32) else if p0 = (91 : Int32) then (1 : Int32) else if p0 = (34 : Int32) then (1 : Int32) else if p0 = (45 : Int32) then (1 : Int32) else if p0 < (48 : Int32) then if p0 = (116 : Int32) then (1 : Int32) else if p0 = (102 : Int32) then (1 : Int32) else if p0 = (110 : Int32) then (1 : Int32) else if p0 = (239 : Int32) then (1 : Int32) else (0 : Int32) else if (57 : Int32) < p0 then if p0 = (116 : Int32) then (1 : Int32) else if p0 = (102 : Int32) then (1 : Int32) else if p0 = (110 : Int32) then (1 : Int32) else if p0 = (239 : Int32) then (1 : Int32) else (0 : Int32) else (1 : Int32)
def Q_rm3 (Z : State) (p0 : Int32) (h0 : Heap) (n0 : Nat) (v : Option Value) (h : Heap) (L : List Loc) : Prop := v = some (.int (f3 p0)) ∧ Fr n0 L ∧ h = h0
set_option maxRecDepth 65536 in
set_option maxHeartbeats 40000000 in
theorem rm3 (l : Launch) (Z : State) (a0 : Array Value) (hw : ∀ d ∈ tables_1, d.before a0 Z = true) (ws : List Jvm.Cond) (p0 : Int32) (h0 : Heap) (n0 : Nat) (Z0 : n0 ≤ h0.size) :
    MetFree l (⟨"com/example/gata/gata/model/PayloadFormatOfPinLaw", "beginsJson", "(I)Z"⟩ : MethodName) (head1 (Jvm.Cond.code (⟨"com/example/gata/gata/model/PayloadFormatOfPinLaw", "beginsJson", "(I)Z"⟩ : MethodName) method_2_code 1 (some .boolean) :: ws) ({ frames := 0, cells := 0, slots := 0, locals := 0 } : Room)) (fun aa_ U => aa_ = #[(.int p0)] ∧ Z.Warmed39 U.vm ∧ U.heap = h0) (fun _ _ _ _ _ => True) (fun _ U o U' => ∃ v L, o = .returned v ∧ Q_rm3 Z p0 h0 n0 v U'.heap L ∧ FrameEnd U o U' L ({ frames := 0, cells := 0, slots := 0, locals := 0 } : Room).cells ({ frames := 0, cells := 0, slots := 0, locals := 0 } : Room).slots) := by
  refine MetFree.of_bodySF (plainFor_of_name pn_1) hisR ?_
  intro p e s m args below meth c s₁ Bd hml0 hP hK
  obtain ⟨rfl, hZ, hh⟩ := hP
  have hx := Bd.exec
  have hby := Bd.bytes
  have hml : c.maxLocals = 1 := hml0
  have hown : s.vm.findClass "com/example/gata/gata/model/PayloadFormatOfPinLaw" = some m.cls := findClass_of_methodNamed Bd.named
  have hnm := (name_of_methodNamed Bd.named Bd.method).1
  have X0 : Stand p l e ({ frames := 0, cells := 0, slots := 0, locals := 0 } : Room) s m #[(.int p0)] below meth c s₁ [] 0 0 := Stand.of_body Bd
  have e0 : s₁.heap = h0 := by rw [← hh, Bd.state]; rfl
  have N0 := Fr.nil n0
  show OEnds p e below (OEndP s (Q_rm3 Z p0 h0 n0) ({ frames := 0, cells := 0, slots := 0, locals := 0 } : Room).cells ({ frames := 0, cells := 0, slots := 0, locals := 0 } : Room).slots) s₁ (entryFrame m #[(.int p0)] 1)
  rw [ef_rm3 m p0]
  refine OEnds.go (g' := (mkF m 1 #[.val (.int p0)] [(.int p0)])) (fun t k => XS.iloadN X0.here hx rfl (hb hby d3_0) rfl k) ?_
  refine OEnds.go (g' := (mkF m 3 #[.val (.int p0)] [(.int (32 : Int32)), (.int p0)])) (fun t k => XS.bipush X0.here hx rfl (hb hby d3_1) k) ?_
  by_cases c3_1 : p0 = (32 : Int32)
  · -- yes
    refine OEnds.go (g' := (mkF m 24 #[.val (.int p0)] [])) (fun t k => XS.icmpYes X0.here hx rfl (pc0 := 3) (pc' := 24) rfl (hb hby d3_3) rfl (teq c3_1).1 (by decide) (by decide) k) ?_
    refine OEnds.go (g' := (mkF m 25 #[.val (.int p0)] [(.int (1 : Int32))])) (fun t k => XS.iconst X0.here hx rfl (hb hby d3_24) k) ?_
    exact OEnds.outN X0 Bd.notSynchronized hx (t := .boolean) Bd.returns (by simp) (hb hby d3_25) ⟨by show (some (.int (1 : Int32)) : Option Value) = some (.int (f3 p0)); rw [f3, if_pos c3_1], N0, e0⟩ (by decide) (by decide)
  · -- no
    refine OEnds.go (g' := (mkF m 6 #[.val (.int p0)] [])) (fun t k => XS.icmpNo X0.here hx rfl (hb hby d3_3) rfl (feq c3_1).1 k) ?_
    refine OEnds.go (g' := (mkF m 7 #[.val (.int p0)] [(.int p0)])) (fun t k => XS.iloadN X0.here hx rfl (hb hby d3_6) rfl k) ?_
    refine OEnds.go (g' := (mkF m 9 #[.val (.int p0)] [(.int (9 : Int32)), (.int p0)])) (fun t k => XS.bipush X0.here hx rfl (hb hby d3_7) k) ?_
    by_cases c9_2 : p0 = (9 : Int32)
    · -- yes
      refine OEnds.go (g' := (mkF m 24 #[.val (.int p0)] [])) (fun t k => XS.icmpYes X0.here hx rfl (pc0 := 9) (pc' := 24) rfl (hb hby d3_9) rfl (teq c9_2).1 (by decide) (by decide) k) ?_
      refine OEnds.go (g' := (mkF m 25 #[.val (.int p0)] [(.int (1 : Int32))])) (fun t k => XS.iconst X0.here hx rfl (hb hby d3_24) k) ?_
      exact OEnds.outN X0 Bd.notSynchronized hx (t := .boolean) Bd.returns (by simp) (hb hby d3_25) ⟨by show (some (.int (1 : Int32)) : Option Value) = some (.int (f3 p0)); rw [f3, if_neg c3_1, if_pos c9_2], N0, e0⟩ (by decide) (by decide)
    · -- no
      refine OEnds.go (g' := (mkF m 12 #[.val (.int p0)] [])) (fun t k => XS.icmpNo X0.here hx rfl (hb hby d3_9) rfl (feq c9_2).1 k) ?_
      refine OEnds.go (g' := (mkF m 13 #[.val (.int p0)] [(.int p0)])) (fun t k => XS.iloadN X0.here hx rfl (hb hby d3_12) rfl k) ?_
      refine OEnds.go (g' := (mkF m 15 #[.val (.int p0)] [(.int (10 : Int32)), (.int p0)])) (fun t k => XS.bipush X0.here hx rfl (hb hby d3_13) k) ?_
      by_cases c15_3 : p0 = (10 : Int32)
      · -- yes
        refine OEnds.go (g' := (mkF m 24 #[.val (.int p0)] [])) (fun t k => XS.icmpYes X0.here hx rfl (pc0 := 15) (pc' := 24) rfl (hb hby d3_15) rfl (teq c15_3).1 (by decide) (by decide) k) ?_
        refine OEnds.go (g' := (mkF m 25 #[.val (.int p0)] [(.int (1 : Int32))])) (fun t k => XS.iconst X0.here hx rfl (hb hby d3_24) k) ?_
        exact OEnds.outN X0 Bd.notSynchronized hx (t := .boolean) Bd.returns (by simp) (hb hby d3_25) ⟨by show (some (.int (1 : Int32)) : Option Value) = some (.int (f3 p0)); rw [f3, if_neg c3_1, if_neg c9_2, if_pos c15_3], N0, e0⟩ (by decide) (by decide)
      · -- no
        refine OEnds.go (g' := (mkF m 18 #[.val (.int p0)] [])) (fun t k => XS.icmpNo X0.here hx rfl (hb hby d3_15) rfl (feq c15_3).1 k) ?_
        refine OEnds.go (g' := (mkF m 19 #[.val (.int p0)] [(.int p0)])) (fun t k => XS.iloadN X0.here hx rfl (hb hby d3_18) rfl k) ?_
        refine OEnds.go (g' := (mkF m 21 #[.val (.int p0)] [(.int (13 : Int32)), (.int p0)])) (fun t k => XS.bipush X0.here hx rfl (hb hby d3_19) k) ?_
        by_cases c21_4 : p0 = (13 : Int32)
        · -- yes
          refine OEnds.go (g' := (mkF m 24 #[.val (.int p0)] [])) (fun t k => XS.icmpNo X0.here hx rfl (hb hby d3_21) rfl (teq c21_4).2 k) ?_
          refine OEnds.go (g' := (mkF m 25 #[.val (.int p0)] [(.int (1 : Int32))])) (fun t k => XS.iconst X0.here hx rfl (hb hby d3_24) k) ?_
          exact OEnds.outN X0 Bd.notSynchronized hx (t := .boolean) Bd.returns (by simp) (hb hby d3_25) ⟨by show (some (.int (1 : Int32)) : Option Value) = some (.int (f3 p0)); rw [f3, if_neg c3_1, if_neg c9_2, if_neg c15_3, if_pos c21_4], N0, e0⟩ (by decide) (by decide)
        · -- no
          refine OEnds.go (g' := (mkF m 26 #[.val (.int p0)] [])) (fun t k => XS.icmpYes X0.here hx rfl (pc0 := 21) (pc' := 26) rfl (hb hby d3_21) rfl (feq c21_4).2 (by decide) (by decide) k) ?_
          refine OEnds.go (g' := (mkF m 27 #[.val (.int p0)] [(.int p0)])) (fun t k => XS.iloadN X0.here hx rfl (hb hby d3_26) rfl k) ?_
          refine OEnds.go (g' := (mkF m 29 #[.val (.int p0)] [(.int (123 : Int32)), (.int p0)])) (fun t k => XS.bipush X0.here hx rfl (hb hby d3_27) k) ?_
          by_cases c29_5 : p0 = (123 : Int32)
          · -- yes
            refine OEnds.go (g' := (mkF m 50 #[.val (.int p0)] [])) (fun t k => XS.icmpYes X0.here hx rfl (pc0 := 29) (pc' := 50) rfl (hb hby d3_29) rfl (teq c29_5).1 (by decide) (by decide) k) ?_
            refine OEnds.go (g' := (mkF m 51 #[.val (.int p0)] [(.int (1 : Int32))])) (fun t k => XS.iconst X0.here hx rfl (hb hby d3_50) k) ?_
            exact OEnds.outN X0 Bd.notSynchronized hx (t := .boolean) Bd.returns (by simp) (hb hby d3_51) ⟨by show (some (.int (1 : Int32)) : Option Value) = some (.int (f3 p0)); rw [f3, if_neg c3_1, if_neg c9_2, if_neg c15_3, if_neg c21_4, if_pos c29_5], N0, e0⟩ (by decide) (by decide)
          · -- no
            refine OEnds.go (g' := (mkF m 32 #[.val (.int p0)] [])) (fun t k => XS.icmpNo X0.here hx rfl (hb hby d3_29) rfl (feq c29_5).1 k) ?_
            refine OEnds.go (g' := (mkF m 33 #[.val (.int p0)] [(.int p0)])) (fun t k => XS.iloadN X0.here hx rfl (hb hby d3_32) rfl k) ?_
            refine OEnds.go (g' := (mkF m 35 #[.val (.int p0)] [(.int (91 : Int32)), (.int p0)])) (fun t k => XS.bipush X0.here hx rfl (hb hby d3_33) k) ?_
            by_cases c35_6 : p0 = (91 : Int32)
            · -- yes
              refine OEnds.go (g' := (mkF m 50 #[.val (.int p0)] [])) (fun t k => XS.icmpYes X0.here hx rfl (pc0 := 35) (pc' := 50) rfl (hb hby d3_35) rfl (teq c35_6).1 (by decide) (by decide) k) ?_
              refine OEnds.go (g' := (mkF m 51 #[.val (.int p0)] [(.int (1 : Int32))])) (fun t k => XS.iconst X0.here hx rfl (hb hby d3_50) k) ?_
              exact OEnds.outN X0 Bd.notSynchronized hx (t := .boolean) Bd.returns (by simp) (hb hby d3_51) ⟨by show (some (.int (1 : Int32)) : Option Value) = some (.int (f3 p0)); rw [f3, if_neg c3_1, if_neg c9_2, if_neg c15_3, if_neg c21_4, if_neg c29_5, if_pos c35_6], N0, e0⟩ (by decide) (by decide)
            · -- no
              refine OEnds.go (g' := (mkF m 38 #[.val (.int p0)] [])) (fun t k => XS.icmpNo X0.here hx rfl (hb hby d3_35) rfl (feq c35_6).1 k) ?_
              refine OEnds.go (g' := (mkF m 39 #[.val (.int p0)] [(.int p0)])) (fun t k => XS.iloadN X0.here hx rfl (hb hby d3_38) rfl k) ?_
              refine OEnds.go (g' := (mkF m 41 #[.val (.int p0)] [(.int (34 : Int32)), (.int p0)])) (fun t k => XS.bipush X0.here hx rfl (hb hby d3_39) k) ?_
              by_cases c41_7 : p0 = (34 : Int32)
              · -- yes
                refine OEnds.go (g' := (mkF m 50 #[.val (.int p0)] [])) (fun t k => XS.icmpYes X0.here hx rfl (pc0 := 41) (pc' := 50) rfl (hb hby d3_41) rfl (teq c41_7).1 (by decide) (by decide) k) ?_
                refine OEnds.go (g' := (mkF m 51 #[.val (.int p0)] [(.int (1 : Int32))])) (fun t k => XS.iconst X0.here hx rfl (hb hby d3_50) k) ?_
                exact OEnds.outN X0 Bd.notSynchronized hx (t := .boolean) Bd.returns (by simp) (hb hby d3_51) ⟨by show (some (.int (1 : Int32)) : Option Value) = some (.int (f3 p0)); rw [f3, if_neg c3_1, if_neg c9_2, if_neg c15_3, if_neg c21_4, if_neg c29_5, if_neg c35_6, if_pos c41_7], N0, e0⟩ (by decide) (by decide)
              · -- no
                refine OEnds.go (g' := (mkF m 44 #[.val (.int p0)] [])) (fun t k => XS.icmpNo X0.here hx rfl (hb hby d3_41) rfl (feq c41_7).1 k) ?_
                refine OEnds.go (g' := (mkF m 45 #[.val (.int p0)] [(.int p0)])) (fun t k => XS.iloadN X0.here hx rfl (hb hby d3_44) rfl k) ?_
                refine OEnds.go (g' := (mkF m 47 #[.val (.int p0)] [(.int (45 : Int32)), (.int p0)])) (fun t k => XS.bipush X0.here hx rfl (hb hby d3_45) k) ?_
                by_cases c47_8 : p0 = (45 : Int32)
                · -- yes
                  refine OEnds.go (g' := (mkF m 50 #[.val (.int p0)] [])) (fun t k => XS.icmpNo X0.here hx rfl (hb hby d3_47) rfl (teq c47_8).2 k) ?_
                  refine OEnds.go (g' := (mkF m 51 #[.val (.int p0)] [(.int (1 : Int32))])) (fun t k => XS.iconst X0.here hx rfl (hb hby d3_50) k) ?_
                  exact OEnds.outN X0 Bd.notSynchronized hx (t := .boolean) Bd.returns (by simp) (hb hby d3_51) ⟨by show (some (.int (1 : Int32)) : Option Value) = some (.int (f3 p0)); rw [f3, if_neg c3_1, if_neg c9_2, if_neg c15_3, if_neg c21_4, if_neg c29_5, if_neg c35_6, if_neg c41_7, if_pos c47_8], N0, e0⟩ (by decide) (by decide)
                · -- no
                  refine OEnds.go (g' := (mkF m 52 #[.val (.int p0)] [])) (fun t k => XS.icmpYes X0.here hx rfl (pc0 := 47) (pc' := 52) rfl (hb hby d3_47) rfl (feq c47_8).2 (by decide) (by decide) k) ?_
                  refine OEnds.go (g' := (mkF m 53 #[.val (.int p0)] [(.int p0)])) (fun t k => XS.iloadN X0.here hx rfl (hb hby d3_52) rfl k) ?_
                  refine OEnds.go (g' := (mkF m 55 #[.val (.int p0)] [(.int (48 : Int32)), (.int p0)])) (fun t k => XS.bipush X0.here hx rfl (hb hby d3_53) k) ?_
                  by_cases c55_9 : p0 < (48 : Int32)
                  · -- yes
                    refine OEnds.go (g' := (mkF m 66 #[.val (.int p0)] [])) (fun t k => XS.icmpYes X0.here hx rfl (pc0 := 55) (pc' := 66) rfl (hb hby d3_55) rfl (tlt c55_9).1 (by decide) (by decide) k) ?_
                    refine OEnds.go (g' := (mkF m 67 #[.val (.int p0)] [(.int p0)])) (fun t k => XS.iloadN X0.here hx rfl (hb hby d3_66) rfl k) ?_
                    refine OEnds.go (g' := (mkF m 69 #[.val (.int p0)] [(.int (116 : Int32)), (.int p0)])) (fun t k => XS.bipush X0.here hx rfl (hb hby d3_67) k) ?_
                    by_cases c69_10 : p0 = (116 : Int32)
                    · -- yes
                      refine OEnds.go (g' := (mkF m 84 #[.val (.int p0)] [])) (fun t k => XS.icmpYes X0.here hx rfl (pc0 := 69) (pc' := 84) rfl (hb hby d3_69) rfl (teq c69_10).1 (by decide) (by decide) k) ?_
                      refine OEnds.go (g' := (mkF m 85 #[.val (.int p0)] [(.int (1 : Int32))])) (fun t k => XS.iconst X0.here hx rfl (hb hby d3_84) k) ?_
                      exact OEnds.outN X0 Bd.notSynchronized hx (t := .boolean) Bd.returns (by simp) (hb hby d3_85) ⟨by show (some (.int (1 : Int32)) : Option Value) = some (.int (f3 p0)); rw [f3, if_neg c3_1, if_neg c9_2, if_neg c15_3, if_neg c21_4, if_neg c29_5, if_neg c35_6, if_neg c41_7, if_neg c47_8, if_pos c55_9, if_pos c69_10], N0, e0⟩ (by decide) (by decide)
                    · -- no
                      refine OEnds.go (g' := (mkF m 72 #[.val (.int p0)] [])) (fun t k => XS.icmpNo X0.here hx rfl (hb hby d3_69) rfl (feq c69_10).1 k) ?_
                      refine OEnds.go (g' := (mkF m 73 #[.val (.int p0)] [(.int p0)])) (fun t k => XS.iloadN X0.here hx rfl (hb hby d3_72) rfl k) ?_
                      refine OEnds.go (g' := (mkF m 75 #[.val (.int p0)] [(.int (102 : Int32)), (.int p0)])) (fun t k => XS.bipush X0.here hx rfl (hb hby d3_73) k) ?_
                      by_cases c75_11 : p0 = (102 : Int32)
                      · -- yes
                        refine OEnds.go (g' := (mkF m 84 #[.val (.int p0)] [])) (fun t k => XS.icmpYes X0.here hx rfl (pc0 := 75) (pc' := 84) rfl (hb hby d3_75) rfl (teq c75_11).1 (by decide) (by decide) k) ?_
                        refine OEnds.go (g' := (mkF m 85 #[.val (.int p0)] [(.int (1 : Int32))])) (fun t k => XS.iconst X0.here hx rfl (hb hby d3_84) k) ?_
                        exact OEnds.outN X0 Bd.notSynchronized hx (t := .boolean) Bd.returns (by simp) (hb hby d3_85) ⟨by show (some (.int (1 : Int32)) : Option Value) = some (.int (f3 p0)); rw [f3, if_neg c3_1, if_neg c9_2, if_neg c15_3, if_neg c21_4, if_neg c29_5, if_neg c35_6, if_neg c41_7, if_neg c47_8, if_pos c55_9, if_neg c69_10, if_pos c75_11], N0, e0⟩ (by decide) (by decide)
                      · -- no
                        refine OEnds.go (g' := (mkF m 78 #[.val (.int p0)] [])) (fun t k => XS.icmpNo X0.here hx rfl (hb hby d3_75) rfl (feq c75_11).1 k) ?_
                        refine OEnds.go (g' := (mkF m 79 #[.val (.int p0)] [(.int p0)])) (fun t k => XS.iloadN X0.here hx rfl (hb hby d3_78) rfl k) ?_
                        refine OEnds.go (g' := (mkF m 81 #[.val (.int p0)] [(.int (110 : Int32)), (.int p0)])) (fun t k => XS.bipush X0.here hx rfl (hb hby d3_79) k) ?_
                        by_cases c81_12 : p0 = (110 : Int32)
                        · -- yes
                          refine OEnds.go (g' := (mkF m 84 #[.val (.int p0)] [])) (fun t k => XS.icmpNo X0.here hx rfl (hb hby d3_81) rfl (teq c81_12).2 k) ?_
                          refine OEnds.go (g' := (mkF m 85 #[.val (.int p0)] [(.int (1 : Int32))])) (fun t k => XS.iconst X0.here hx rfl (hb hby d3_84) k) ?_
                          exact OEnds.outN X0 Bd.notSynchronized hx (t := .boolean) Bd.returns (by simp) (hb hby d3_85) ⟨by show (some (.int (1 : Int32)) : Option Value) = some (.int (f3 p0)); rw [f3, if_neg c3_1, if_neg c9_2, if_neg c15_3, if_neg c21_4, if_neg c29_5, if_neg c35_6, if_neg c41_7, if_neg c47_8, if_pos c55_9, if_neg c69_10, if_neg c75_11, if_pos c81_12], N0, e0⟩ (by decide) (by decide)
                        · -- no
                          refine OEnds.go (g' := (mkF m 86 #[.val (.int p0)] [])) (fun t k => XS.icmpYes X0.here hx rfl (pc0 := 81) (pc' := 86) rfl (hb hby d3_81) rfl (feq c81_12).2 (by decide) (by decide) k) ?_
                          refine OEnds.go (g' := (mkF m 87 #[.val (.int p0)] [(.int p0)])) (fun t k => XS.iloadN X0.here hx rfl (hb hby d3_86) rfl k) ?_
                          refine OEnds.go (g' := (mkF m 90 #[.val (.int p0)] [(.int (239 : Int32)), (.int p0)])) (fun t k => XS.sipush X0.here hx rfl (hb hby d3_87) k) ?_
                          by_cases c90_13 : p0 = (239 : Int32)
                          · -- yes
                            refine OEnds.go (g' := (mkF m 93 #[.val (.int p0)] [])) (fun t k => XS.icmpNo X0.here hx rfl (hb hby d3_90) rfl (teq c90_13).2 k) ?_
                            refine OEnds.go (g' := (mkF m 94 #[.val (.int p0)] [(.int (1 : Int32))])) (fun t k => XS.iconst X0.here hx rfl (hb hby d3_93) k) ?_
                            refine OEnds.go (g' := (mkF m 98 #[.val (.int p0)] [(.int (1 : Int32))])) (fun t k => XS.goto X0.here hx rfl (pc0 := 94) (pc' := 98) rfl (hb hby d3_94) (by decide) (by decide) k) ?_
                            exact OEnds.outN X0 Bd.notSynchronized hx (t := .boolean) Bd.returns (by simp) (hb hby d3_98) ⟨by show (some (.int (1 : Int32)) : Option Value) = some (.int (f3 p0)); rw [f3, if_neg c3_1, if_neg c9_2, if_neg c15_3, if_neg c21_4, if_neg c29_5, if_neg c35_6, if_neg c41_7, if_neg c47_8, if_pos c55_9, if_neg c69_10, if_neg c75_11, if_neg c81_12, if_pos c90_13], N0, e0⟩ (by decide) (by decide)
                          · -- no
                            refine OEnds.go (g' := (mkF m 97 #[.val (.int p0)] [])) (fun t k => XS.icmpYes X0.here hx rfl (pc0 := 90) (pc' := 97) rfl (hb hby d3_90) rfl (feq c90_13).2 (by decide) (by decide) k) ?_
                            refine OEnds.go (g' := (mkF m 98 #[.val (.int p0)] [(.int (0 : Int32))])) (fun t k => XS.iconst X0.here hx rfl (hb hby d3_97) k) ?_
                            exact OEnds.outN X0 Bd.notSynchronized hx (t := .boolean) Bd.returns (by simp) (hb hby d3_98) ⟨by show (some (.int (0 : Int32)) : Option Value) = some (.int (f3 p0)); rw [f3, if_neg c3_1, if_neg c9_2, if_neg c15_3, if_neg c21_4, if_neg c29_5, if_neg c35_6, if_neg c41_7, if_neg c47_8, if_pos c55_9, if_neg c69_10, if_neg c75_11, if_neg c81_12, if_neg c90_13], N0, e0⟩ (by decide) (by decide)
                  · -- no
                    refine OEnds.go (g' := (mkF m 58 #[.val (.int p0)] [])) (fun t k => XS.icmpNo X0.here hx rfl (hb hby d3_55) rfl (flt c55_9).1 k) ?_
                    refine OEnds.go (g' := (mkF m 59 #[.val (.int p0)] [(.int p0)])) (fun t k => XS.iloadN X0.here hx rfl (hb hby d3_58) rfl k) ?_
                    refine OEnds.go (g' := (mkF m 61 #[.val (.int p0)] [(.int (57 : Int32)), (.int p0)])) (fun t k => XS.bipush X0.here hx rfl (hb hby d3_59) k) ?_
                    by_cases c61_14 : (57 : Int32) < p0
                    · -- yes
                      refine OEnds.go (g' := (mkF m 66 #[.val (.int p0)] [])) (fun t k => XS.icmpYes X0.here hx rfl (pc0 := 61) (pc' := 66) rfl (hb hby d3_61) rfl (tlt c61_14).2.2.1 (by decide) (by decide) k) ?_
                      refine OEnds.go (g' := (mkF m 67 #[.val (.int p0)] [(.int p0)])) (fun t k => XS.iloadN X0.here hx rfl (hb hby d3_66) rfl k) ?_
                      refine OEnds.go (g' := (mkF m 69 #[.val (.int p0)] [(.int (116 : Int32)), (.int p0)])) (fun t k => XS.bipush X0.here hx rfl (hb hby d3_67) k) ?_
                      by_cases c69_15 : p0 = (116 : Int32)
                      · -- yes
                        refine OEnds.go (g' := (mkF m 84 #[.val (.int p0)] [])) (fun t k => XS.icmpYes X0.here hx rfl (pc0 := 69) (pc' := 84) rfl (hb hby d3_69) rfl (teq c69_15).1 (by decide) (by decide) k) ?_
                        refine OEnds.go (g' := (mkF m 85 #[.val (.int p0)] [(.int (1 : Int32))])) (fun t k => XS.iconst X0.here hx rfl (hb hby d3_84) k) ?_
                        exact OEnds.outN X0 Bd.notSynchronized hx (t := .boolean) Bd.returns (by simp) (hb hby d3_85) ⟨by show (some (.int (1 : Int32)) : Option Value) = some (.int (f3 p0)); rw [f3, if_neg c3_1, if_neg c9_2, if_neg c15_3, if_neg c21_4, if_neg c29_5, if_neg c35_6, if_neg c41_7, if_neg c47_8, if_neg c55_9, if_pos c61_14, if_pos c69_15], N0, e0⟩ (by decide) (by decide)
                      · -- no
                        refine OEnds.go (g' := (mkF m 72 #[.val (.int p0)] [])) (fun t k => XS.icmpNo X0.here hx rfl (hb hby d3_69) rfl (feq c69_15).1 k) ?_
                        refine OEnds.go (g' := (mkF m 73 #[.val (.int p0)] [(.int p0)])) (fun t k => XS.iloadN X0.here hx rfl (hb hby d3_72) rfl k) ?_
                        refine OEnds.go (g' := (mkF m 75 #[.val (.int p0)] [(.int (102 : Int32)), (.int p0)])) (fun t k => XS.bipush X0.here hx rfl (hb hby d3_73) k) ?_
                        by_cases c75_16 : p0 = (102 : Int32)
                        · -- yes
                          refine OEnds.go (g' := (mkF m 84 #[.val (.int p0)] [])) (fun t k => XS.icmpYes X0.here hx rfl (pc0 := 75) (pc' := 84) rfl (hb hby d3_75) rfl (teq c75_16).1 (by decide) (by decide) k) ?_
                          refine OEnds.go (g' := (mkF m 85 #[.val (.int p0)] [(.int (1 : Int32))])) (fun t k => XS.iconst X0.here hx rfl (hb hby d3_84) k) ?_
                          exact OEnds.outN X0 Bd.notSynchronized hx (t := .boolean) Bd.returns (by simp) (hb hby d3_85) ⟨by show (some (.int (1 : Int32)) : Option Value) = some (.int (f3 p0)); rw [f3, if_neg c3_1, if_neg c9_2, if_neg c15_3, if_neg c21_4, if_neg c29_5, if_neg c35_6, if_neg c41_7, if_neg c47_8, if_neg c55_9, if_pos c61_14, if_neg c69_15, if_pos c75_16], N0, e0⟩ (by decide) (by decide)
                        · -- no
                          refine OEnds.go (g' := (mkF m 78 #[.val (.int p0)] [])) (fun t k => XS.icmpNo X0.here hx rfl (hb hby d3_75) rfl (feq c75_16).1 k) ?_
                          refine OEnds.go (g' := (mkF m 79 #[.val (.int p0)] [(.int p0)])) (fun t k => XS.iloadN X0.here hx rfl (hb hby d3_78) rfl k) ?_
                          refine OEnds.go (g' := (mkF m 81 #[.val (.int p0)] [(.int (110 : Int32)), (.int p0)])) (fun t k => XS.bipush X0.here hx rfl (hb hby d3_79) k) ?_
                          by_cases c81_17 : p0 = (110 : Int32)
                          · -- yes
                            refine OEnds.go (g' := (mkF m 84 #[.val (.int p0)] [])) (fun t k => XS.icmpNo X0.here hx rfl (hb hby d3_81) rfl (teq c81_17).2 k) ?_
                            refine OEnds.go (g' := (mkF m 85 #[.val (.int p0)] [(.int (1 : Int32))])) (fun t k => XS.iconst X0.here hx rfl (hb hby d3_84) k) ?_
                            exact OEnds.outN X0 Bd.notSynchronized hx (t := .boolean) Bd.returns (by simp) (hb hby d3_85) ⟨by show (some (.int (1 : Int32)) : Option Value) = some (.int (f3 p0)); rw [f3, if_neg c3_1, if_neg c9_2, if_neg c15_3, if_neg c21_4, if_neg c29_5, if_neg c35_6, if_neg c41_7, if_neg c47_8, if_neg c55_9, if_pos c61_14, if_neg c69_15, if_neg c75_16, if_pos c81_17], N0, e0⟩ (by decide) (by decide)
                          · -- no
                            refine OEnds.go (g' := (mkF m 86 #[.val (.int p0)] [])) (fun t k => XS.icmpYes X0.here hx rfl (pc0 := 81) (pc' := 86) rfl (hb hby d3_81) rfl (feq c81_17).2 (by decide) (by decide) k) ?_
                            refine OEnds.go (g' := (mkF m 87 #[.val (.int p0)] [(.int p0)])) (fun t k => XS.iloadN X0.here hx rfl (hb hby d3_86) rfl k) ?_
                            refine OEnds.go (g' := (mkF m 90 #[.val (.int p0)] [(.int (239 : Int32)), (.int p0)])) (fun t k => XS.sipush X0.here hx rfl (hb hby d3_87) k) ?_
                            by_cases c90_18 : p0 = (239 : Int32)
                            · -- yes
                              refine OEnds.go (g' := (mkF m 93 #[.val (.int p0)] [])) (fun t k => XS.icmpNo X0.here hx rfl (hb hby d3_90) rfl (teq c90_18).2 k) ?_
                              refine OEnds.go (g' := (mkF m 94 #[.val (.int p0)] [(.int (1 : Int32))])) (fun t k => XS.iconst X0.here hx rfl (hb hby d3_93) k) ?_
                              refine OEnds.go (g' := (mkF m 98 #[.val (.int p0)] [(.int (1 : Int32))])) (fun t k => XS.goto X0.here hx rfl (pc0 := 94) (pc' := 98) rfl (hb hby d3_94) (by decide) (by decide) k) ?_
                              exact OEnds.outN X0 Bd.notSynchronized hx (t := .boolean) Bd.returns (by simp) (hb hby d3_98) ⟨by show (some (.int (1 : Int32)) : Option Value) = some (.int (f3 p0)); rw [f3, if_neg c3_1, if_neg c9_2, if_neg c15_3, if_neg c21_4, if_neg c29_5, if_neg c35_6, if_neg c41_7, if_neg c47_8, if_neg c55_9, if_pos c61_14, if_neg c69_15, if_neg c75_16, if_neg c81_17, if_pos c90_18], N0, e0⟩ (by decide) (by decide)
                            · -- no
                              refine OEnds.go (g' := (mkF m 97 #[.val (.int p0)] [])) (fun t k => XS.icmpYes X0.here hx rfl (pc0 := 90) (pc' := 97) rfl (hb hby d3_90) rfl (feq c90_18).2 (by decide) (by decide) k) ?_
                              refine OEnds.go (g' := (mkF m 98 #[.val (.int p0)] [(.int (0 : Int32))])) (fun t k => XS.iconst X0.here hx rfl (hb hby d3_97) k) ?_
                              exact OEnds.outN X0 Bd.notSynchronized hx (t := .boolean) Bd.returns (by simp) (hb hby d3_98) ⟨by show (some (.int (0 : Int32)) : Option Value) = some (.int (f3 p0)); rw [f3, if_neg c3_1, if_neg c9_2, if_neg c15_3, if_neg c21_4, if_neg c29_5, if_neg c35_6, if_neg c41_7, if_neg c47_8, if_neg c55_9, if_pos c61_14, if_neg c69_15, if_neg c75_16, if_neg c81_17, if_neg c90_18], N0, e0⟩ (by decide) (by decide)
                    · -- no
                      refine OEnds.go (g' := (mkF m 64 #[.val (.int p0)] [])) (fun t k => XS.icmpNo X0.here hx rfl (hb hby d3_61) rfl (flt c61_14).2.2.1 k) ?_
                      refine OEnds.go (g' := (mkF m 65 #[.val (.int p0)] [(.int (1 : Int32))])) (fun t k => XS.iconst X0.here hx rfl (hb hby d3_64) k) ?_
                      exact OEnds.outN X0 Bd.notSynchronized hx (t := .boolean) Bd.returns (by simp) (hb hby d3_65) ⟨by show (some (.int (1 : Int32)) : Option Value) = some (.int (f3 p0)); rw [f3, if_neg c3_1, if_neg c9_2, if_neg c15_3, if_neg c21_4, if_neg c29_5, if_neg c35_6, if_neg c41_7, if_neg c47_8, if_neg c55_9, if_neg c61_14], N0, e0⟩ (by decide) (by decide)
def own_BJ (Z : State) (h : Heap) (x : Addr) : Prop := ∃ cl : Cell, Arr Z h x cl .boolean ∧ cl.slots.size = 256 ∧ ∀ j : Int32, 0 ≤ j.toInt → j.toInt < 256 → cl.slots[j.toNatClampNeg]? = some (.int (f3 j))
theorem own_BJ.ext {Z : State} {h h' : Heap} {x : Addr} (F : own_BJ Z h x) (E : Ext h h') : own_BJ Z h' x := by
  obtain ⟨cl, A, r⟩ := F; exact ⟨cl, A.ext E, r⟩
theorem own_255 (x : Int32) : 0 ≤ (x &&& (255 : Int32)).toInt ∧ (x &&& (255 : Int32)).toInt < 256 := by
  have := c_mask x 255 8 (by decide) (by decide)
  omega
theorem own_in {x : Int32} {n : Nat} (hn : n = 256) (h : 0 ≤ x.toInt ∧ x.toInt < 256) : ¬ (x < 0 ∨ n ≤ x.toNatClampNeg) := by
  have e : (0 : Int32).toInt = 0 := by decide
  rw [Int32.lt_iff_toInt_lt]
  simp only [Int32.toNatClampNeg]
  omega
theorem own_ext0 (h : Heap) : Ext h h := ⟨Nat.le_refl _, fun _ _ q => q⟩
theorem own_ext {h h' h'' : Heap} (E : Ext h h') (E' : Ext h' h'') : Ext h h'' := ⟨Nat.le_trans E.1 E'.1, fun a c q => E'.2 a c (E.2 a c q)⟩
theorem ef_rmO0 (m : MethodId) (x0 : Addr) : entryFrame m #[(.ref x0)] 1 = mkF m 0 #[.val (.ref x0)] [] := by first | (simp [entryFrame, mkF, argsToLocals, Value.category]; done) | rfl
def Q_rmO0 (Z : State) (arr : Addr) (kk : ClassId) (jj : Addr) (cc : Addr) (bj : Addr) (h0 : Heap) (n0 : Nat) (v : Option Value) (h : Heap) (L : List Loc) : Prop := v = some (.ref jj) ∧ Fr n0 L ∧ Ext h0 h
set_option maxRecDepth 65536 in
set_option maxHeartbeats 40000000 in
theorem rmO0 (l : Launch) (Z : State) (a0 : Array Value) (hw : ∀ d ∈ tables_1, d.before a0 Z = true) (ws : List Jvm.Cond) (arr : Addr) (kk : ClassId) (jj : Addr) (cc : Addr) (bj : Addr) (h0 : Heap) (n0 : Nat) (Z0 : n0 ≤ h0.size) (SJ : Sta Z h0 "com/example/gata/gata/model/PayloadFormat" "JSON" "Lcom/example/gata/gata/model/PayloadFormat;" (.ref jj)) (SC : Sta Z h0 "com/example/gata/gata/model/PayloadFormat" "CBOR" "Lcom/example/gata/gata/model/PayloadFormat;" (.ref cc)) (SB : Sta Z h0 "com/example/gata/gata/model/PayloadFormat" "BEGINS_JSON" "[Z" (.ref bj)) (BJ : own_BJ Z h0 bj) (V0 : Arv Z h0 arr kk .byte (0 : Int32) [] (.int (0 : Int32))) :
    MetFree l (⟨"com/example/gata/gata/model/PayloadFormat", "of", "([B)Lcom/example/gata/gata/model/PayloadFormat;"⟩ : MethodName) (head1 (Jvm.Cond.code (⟨"com/example/gata/gata/model/PayloadFormat", "of", "([B)Lcom/example/gata/gata/model/PayloadFormat;"⟩ : MethodName) prog_11_method_4_code 1 (some (.object "com/example/gata/gata/model/PayloadFormat")) :: ws) ({ frames := 1, cells := 2, slots := 32, locals := 20 } : Room)) (fun aa_ U => aa_ = #[(.ref arr)] ∧ Z.Warmed39 U.vm ∧ U.heap = h0) (fun _ _ _ _ _ => True) (fun _ U o U' => ∃ v L, o = .returned v ∧ Q_rmO0 Z arr kk jj cc bj h0 n0 v U'.heap L ∧ ReturnedEndW U o U' L ({ frames := 1, cells := 2, slots := 32, locals := 20 } : Room).cells ({ frames := 1, cells := 2, slots := 32, locals := 20 } : Room).slots) := by
  refine MetFree.of_bodySF (plainFor_of_name pn_2) hisR ?_
  intro p e s m args below meth c s₁ Bd hml0 hP hK
  obtain ⟨rfl, hZ, hh⟩ := hP
  have hx := Bd.exec
  have hby := Bd.bytes
  have hml : c.maxLocals = 1 := hml0
  have hown : s.vm.findClass "com/example/gata/gata/model/PayloadFormat" = some m.cls := findClass_of_methodNamed Bd.named
  have hnm := (name_of_methodNamed Bd.named Bd.method).1
  have X0 : Stand p l e ({ frames := 1, cells := 2, slots := 32, locals := 20 } : Room) (s.setVm s.vm) m #[(.ref arr)] below meth c s₁ [] 0 0 := Stand.of_body Bd
  have e0 : s₁.heap = h0 := by rw [← hh, Bd.state]; rfl
  have N0 := Fr.nil n0
  show OEnds p e below (OEndPW s (Q_rmO0 Z arr kk jj cc bj h0 n0) ({ frames := 1, cells := 2, slots := 32, locals := 20 } : Room).cells ({ frames := 1, cells := 2, slots := 32, locals := 20 } : Room).slots) s₁ (entryFrame m #[(.ref arr)] 1)
  rw [ef_rmO0 m arr]
  have hS : s.Since s.vm h0.size := (State.WarmedH.refl s).since _
  have hk : h0.size ≤ h0.size := Nat.le_refl _
  refine OEnds.go (g' := (mkF m 1 #[.val (.ref arr)] [(.ref arr)])) (fun t k => XS.aloadN X0.here hx rfl (hb hby d1_0) rfl rfl k) ?_
  obtain ⟨b1, T1, h1, k1, X1, e1, E1, hS, hk, hZ, hown, st1⟩ := ldcS X0 hx hZ hown (hw _ (List.mem_of_getElem? (i := 6) rfl)) (own_wS hw) e0 hS hk (g := (mkF m 1 #[.val (.ref arr)] [(.ref arr)])) rfl (hb hby d1_1) (n := 28) (by decide) (by decide) (by decide) (by decide)
  have K1 : Keep h0 h1 [] := (Keep.refl h0 []).ext E1
  refine OEnds.go (g' := (mkF m 3 #[.val (.ref arr)] [(.ref b1), (.ref arr)])) st1 ?_
  obtain ⟨_, _, ⟨T2, L2, k2, n2⟩, -, X2, ⟨Lc2, hQ2, l2, y2, z2⟩, st2⟩ := Jvm.LawKit.callS X1 hx (y := (⟨"java/util/Objects", "requireNonNull", "(Ljava/lang/Object;Ljava/lang/String;)Ljava/lang/Object;"⟩ : MethodName)) hown (mvT hZ (hw _ (List.mem_of_getElem? (i := 13) rfl))) (mvT hZ (hw _ (List.mem_of_getElem? (i := 14) rfl))) (mvT hZ (hw _ (List.mem_of_getElem? (i := 15) rfl))) (mvT hZ (hw _ (List.mem_of_getElem? (i := 16) rfl))) (by decide) (backOf (W := 0) (rm2 l Z a0 hw [] arr b1 h1 n0 (Nat.le_trans Z0 E1.1)) hZ (hw _ (List.mem_of_getElem? (i := 16) rfl)) (hw _ (List.mem_of_getElem? (i := 15) rfl)) (by decide) (by decide)) (g := (mkF m 3 #[.val (.ref arr)] [(.ref b1), (.ref arr)])) rfl (by rw [hml]; rfl) (argsL := [(.ref arr), (.ref b1)]) (rest := []) (lenOf pd_0 rfl) rfl (by show 2 * 0 + _ ≤ _; exact Nat.le_of_eq rfl) (hb hby d1_3) (fun _ _ => ⟨rfl, e1, (by decide : 2 + 0 ≤ _), (by decide : 32 + 0 ≤ _)⟩)
  dsimp only [Pt.U, Pt.locs, Pt.cells, Pt.slots] at X2 l2 y2 z2 st2 hQ2
  subst l2 y2 z2
  obtain ⟨rfl, N2q, e2⟩ := hQ2
  have N2 := Fr.app N0 N2q
  refine OEnds.go (g' := (mkF m 6 #[.val (.ref arr)] [(.ref arr)])) st2 ?_
  refine OEnds.go (g' := (mkF m 7 #[.val (.ref arr)] [])) (fun t k => XS.pop X2.here hx rfl (hb hby d1_6) rfl rfl k) ?_
  refine OEnds.go (g' := (mkF m 8 #[.val (.ref arr)] [(.ref arr)])) (fun t k => XS.aloadN X2.here hx rfl (hb hby d1_7) rfl rfl k) ?_
  obtain ⟨cl3, Ar3, qa3, Sa3, Na3, Ha3, Ga3⟩ := @id _ (V0.ext E1)
  refine OEnds.go (g' := (mkF m 9 #[.val (.ref arr)] [(.int (0 : Int32))])) (fun t k => X2.arraylength hx (by rw [e2]; exact Ar3.1) (State.isArrayOf_alike hZ.alike Ar3.2.1) (g := (mkF m 8 #[.val (.ref arr)] [(.ref arr)])) rfl rfl (hb hby d1_8) t (by rw [len_of Sa3 Na3]; exact k)) ?_
  refine OEnds.go (g' := (mkF m 26 #[.val (.ref arr)] [])) (fun t k => XS.ifYes X2.here hx rfl (pc0 := 9) (pc' := 26) rfl (hb hby d1_9) rfl ((if0 _ _).trans (teq (by decide : ((0 : Int32) = (0 : Int32)))).1) (by decide) (by decide) k) ?_
  obtain ⟨T4, X4, e4, st4⟩ := getS2 X2 hx hZ hown (host := "") (Or.inl (hw _ (List.mem_of_getElem? (i := 26) rfl))) Via.refl e2 (SJ.ext E1) (g := (mkF m 26 #[.val (.ref arr)] [])) rfl (hb hby d1_26)
  refine OEnds.go (g' := (mkF m 29 #[.val (.ref arr)] [(.ref jj)])) st4 ?_
  refine OEnds.go (g' := (mkF m 35 #[.val (.ref arr)] [(.ref jj)])) (fun t k => XS.goto X4.here hx rfl (pc0 := 29) (pc' := 35) rfl (hb hby d1_29) (by decide) (by decide) k) ?_
  exact OEnds.outAW X4 Bd.notSynchronized hS (by rw [e4]; exact hk) hx Bd.returns rfl rfl (hb hby d1_35) (by rw [e4]; exact ⟨rfl, N2, (own_ext (own_ext0 h0) E1)⟩) (by decide) (by decide)
theorem ef_rmO1 (m : MethodId) (x0 : Addr) : entryFrame m #[(.ref x0)] 1 = mkF m 0 #[.val (.ref x0)] [] := by first | (simp [entryFrame, mkF, argsToLocals, Value.category]; done) | rfl
def Q_rmO1 (Z : State) (arr : Addr) (kk : ClassId) (x0 : Int32) (jj : Addr) (cc : Addr) (bj : Addr) (h0 : Heap) (n0 : Nat) (v : Option Value) (h : Heap) (L : List Loc) : Prop := v = some (if f3 (x0 &&& (255 : Int32)) = 0 then .ref cc else .ref jj) ∧ Fr n0 L ∧ Ext h0 h
set_option maxRecDepth 65536 in
set_option maxHeartbeats 40000000 in
theorem rmO1 (l : Launch) (Z : State) (a0 : Array Value) (hw : ∀ d ∈ tables_1, d.before a0 Z = true) (ws : List Jvm.Cond) (arr : Addr) (kk : ClassId) (x0 : Int32) (jj : Addr) (cc : Addr) (bj : Addr) (h0 : Heap) (n0 : Nat) (Z0 : n0 ≤ h0.size) (SJ : Sta Z h0 "com/example/gata/gata/model/PayloadFormat" "JSON" "Lcom/example/gata/gata/model/PayloadFormat;" (.ref jj)) (SC : Sta Z h0 "com/example/gata/gata/model/PayloadFormat" "CBOR" "Lcom/example/gata/gata/model/PayloadFormat;" (.ref cc)) (SB : Sta Z h0 "com/example/gata/gata/model/PayloadFormat" "BEGINS_JSON" "[Z" (.ref bj)) (BJ : own_BJ Z h0 bj) (V0 : Arv Z h0 arr kk .byte (1 : Int32) [(.int x0)] (.int (0 : Int32))) :
    MetFree l (⟨"com/example/gata/gata/model/PayloadFormat", "of", "([B)Lcom/example/gata/gata/model/PayloadFormat;"⟩ : MethodName) (head1 (Jvm.Cond.code (⟨"com/example/gata/gata/model/PayloadFormat", "of", "([B)Lcom/example/gata/gata/model/PayloadFormat;"⟩ : MethodName) prog_11_method_4_code 1 (some (.object "com/example/gata/gata/model/PayloadFormat")) :: ws) ({ frames := 1, cells := 2, slots := 32, locals := 20 } : Room)) (fun aa_ U => aa_ = #[(.ref arr)] ∧ Z.Warmed39 U.vm ∧ U.heap = h0) (fun _ _ _ _ _ => True) (fun _ U o U' => ∃ v L, o = .returned v ∧ Q_rmO1 Z arr kk x0 jj cc bj h0 n0 v U'.heap L ∧ ReturnedEndW U o U' L ({ frames := 1, cells := 2, slots := 32, locals := 20 } : Room).cells ({ frames := 1, cells := 2, slots := 32, locals := 20 } : Room).slots) := by
  refine MetFree.of_bodySF (plainFor_of_name pn_2) hisR ?_
  intro p e s m args below meth c s₁ Bd hml0 hP hK
  obtain ⟨rfl, hZ, hh⟩ := hP
  have hx := Bd.exec
  have hby := Bd.bytes
  have hml : c.maxLocals = 1 := hml0
  have hown : s.vm.findClass "com/example/gata/gata/model/PayloadFormat" = some m.cls := findClass_of_methodNamed Bd.named
  have hnm := (name_of_methodNamed Bd.named Bd.method).1
  have X0 : Stand p l e ({ frames := 1, cells := 2, slots := 32, locals := 20 } : Room) (s.setVm s.vm) m #[(.ref arr)] below meth c s₁ [] 0 0 := Stand.of_body Bd
  have e0 : s₁.heap = h0 := by rw [← hh, Bd.state]; rfl
  have N0 := Fr.nil n0
  show OEnds p e below (OEndPW s (Q_rmO1 Z arr kk x0 jj cc bj h0 n0) ({ frames := 1, cells := 2, slots := 32, locals := 20 } : Room).cells ({ frames := 1, cells := 2, slots := 32, locals := 20 } : Room).slots) s₁ (entryFrame m #[(.ref arr)] 1)
  rw [ef_rmO1 m arr]
  have hS : s.Since s.vm h0.size := (State.WarmedH.refl s).since _
  have hk : h0.size ≤ h0.size := Nat.le_refl _
  refine OEnds.go (g' := (mkF m 1 #[.val (.ref arr)] [(.ref arr)])) (fun t k => XS.aloadN X0.here hx rfl (hb hby d1_0) rfl rfl k) ?_
  obtain ⟨b1, T1, h1, k1, X1, e1, E1, hS, hk, hZ, hown, st1⟩ := ldcS X0 hx hZ hown (hw _ (List.mem_of_getElem? (i := 6) rfl)) (own_wS hw) e0 hS hk (g := (mkF m 1 #[.val (.ref arr)] [(.ref arr)])) rfl (hb hby d1_1) (n := 28) (by decide) (by decide) (by decide) (by decide)
  have K1 : Keep h0 h1 [] := (Keep.refl h0 []).ext E1
  refine OEnds.go (g' := (mkF m 3 #[.val (.ref arr)] [(.ref b1), (.ref arr)])) st1 ?_
  obtain ⟨_, _, ⟨T2, L2, k2, n2⟩, -, X2, ⟨Lc2, hQ2, l2, y2, z2⟩, st2⟩ := Jvm.LawKit.callS X1 hx (y := (⟨"java/util/Objects", "requireNonNull", "(Ljava/lang/Object;Ljava/lang/String;)Ljava/lang/Object;"⟩ : MethodName)) hown (mvT hZ (hw _ (List.mem_of_getElem? (i := 13) rfl))) (mvT hZ (hw _ (List.mem_of_getElem? (i := 14) rfl))) (mvT hZ (hw _ (List.mem_of_getElem? (i := 15) rfl))) (mvT hZ (hw _ (List.mem_of_getElem? (i := 16) rfl))) (by decide) (backOf (W := 0) (rm2 l Z a0 hw [] arr b1 h1 n0 (Nat.le_trans Z0 E1.1)) hZ (hw _ (List.mem_of_getElem? (i := 16) rfl)) (hw _ (List.mem_of_getElem? (i := 15) rfl)) (by decide) (by decide)) (g := (mkF m 3 #[.val (.ref arr)] [(.ref b1), (.ref arr)])) rfl (by rw [hml]; rfl) (argsL := [(.ref arr), (.ref b1)]) (rest := []) (lenOf pd_0 rfl) rfl (by show 2 * 0 + _ ≤ _; exact Nat.le_of_eq rfl) (hb hby d1_3) (fun _ _ => ⟨rfl, e1, (by decide : 2 + 0 ≤ _), (by decide : 32 + 0 ≤ _)⟩)
  dsimp only [Pt.U, Pt.locs, Pt.cells, Pt.slots] at X2 l2 y2 z2 st2 hQ2
  subst l2 y2 z2
  obtain ⟨rfl, N2q, e2⟩ := hQ2
  have N2 := Fr.app N0 N2q
  refine OEnds.go (g' := (mkF m 6 #[.val (.ref arr)] [(.ref arr)])) st2 ?_
  refine OEnds.go (g' := (mkF m 7 #[.val (.ref arr)] [])) (fun t k => XS.pop X2.here hx rfl (hb hby d1_6) rfl rfl k) ?_
  refine OEnds.go (g' := (mkF m 8 #[.val (.ref arr)] [(.ref arr)])) (fun t k => XS.aloadN X2.here hx rfl (hb hby d1_7) rfl rfl k) ?_
  obtain ⟨cl3, Ar3, qa3, Sa3, Na3, Ha3, Ga3⟩ := @id _ (V0.ext E1)
  refine OEnds.go (g' := (mkF m 9 #[.val (.ref arr)] [(.int (1 : Int32))])) (fun t k => X2.arraylength hx (by rw [e2]; exact Ar3.1) (State.isArrayOf_alike hZ.alike Ar3.2.1) (g := (mkF m 8 #[.val (.ref arr)] [(.ref arr)])) rfl rfl (hb hby d1_8) t (by rw [len_of Sa3 Na3]; exact k)) ?_
  refine OEnds.go (g' := (mkF m 12 #[.val (.ref arr)] [])) (fun t k => XS.ifNo X2.here hx rfl (hb hby d1_9) rfl ((if0 _ _).trans (feq (by decide : ¬ ((1 : Int32) = (0 : Int32)))).1) k) ?_
  obtain ⟨T4, X4, e4, st4⟩ := getS2 X2 hx hZ hown (host := "") (Or.inl (hw _ (List.mem_of_getElem? (i := 17) rfl))) Via.refl e2 (SB.ext E1) (g := (mkF m 12 #[.val (.ref arr)] [])) rfl (hb hby d1_12)
  refine OEnds.go (g' := (mkF m 15 #[.val (.ref arr)] [(.ref bj)])) st4 ?_
  refine OEnds.go (g' := (mkF m 16 #[.val (.ref arr)] [(.ref arr), (.ref bj)])) (fun t k => XS.aloadN X4.here hx rfl (hb hby d1_15) rfl rfl k) ?_
  refine OEnds.go (g' := (mkF m 17 #[.val (.ref arr)] [(.int (0 : Int32)), (.ref arr), (.ref bj)])) (fun t k => XS.iconst X4.here hx rfl (hb hby d1_16) k) ?_
  obtain ⟨cl5, Ar5, qa5, Sa5, Na5, Ha5, Ga5⟩ := @id _ (V0.ext E1)
  have hin5 : ¬ ((0 : Int32) < 0 ∨ cl5.slots.size ≤ ((0 : Int32)).toNatClampNeg) := inb_of Sa5 ⟨by decide, by decide⟩
  have hat5 : cl5.slots[((0 : Int32)).toNatClampNeg]? = some (.int x0) := Has.at Ha5 hin5 rfl
  refine OEnds.go (g' := (mkF m 18 #[.val (.ref arr)] [(.int x0), (.ref bj)])) (X4.baloadBytes hx (j := (0 : Int32)) (v := (.int x0)) (by rw [e4]; exact Ar5.1) (State.isArrayOf_alike hZ.alike Ar5.2.1) Ar5.2.2 hin5 hat5 (g := (mkF m 17 #[.val (.ref arr)] [(.int (0 : Int32)), (.ref arr), (.ref bj)])) rfl rfl (hb hby d1_17)) ?_
  refine OEnds.go (g' := (mkF m 21 #[.val (.ref arr)] [(.int (255 : Int32)), (.int x0), (.ref bj)])) (fun t k => XS.sipush X4.here hx rfl (hb hby d1_18) k) ?_
  refine OEnds.go (g' := (mkF m 22 #[.val (.ref arr)] [(.int (x0 &&& (255 : Int32))), (.ref bj)])) (fun t k => XS.iand X4.here hx rfl (hb hby d1_21) rfl k) ?_
  obtain ⟨cl6, Ar6, hz6, ha6⟩ := @id _ (BJ.ext E1)
  refine OEnds.go (g' := (mkF m 23 #[.val (.ref arr)] [(.int (f3 (x0 &&& (255 : Int32))))])) (X4.baloadBooleans hx (j := (x0 &&& (255 : Int32))) (v := (.int (f3 (x0 &&& (255 : Int32))))) (by rw [e4]; exact Ar6.1) (State.isArrayOf_alike hZ.alike Ar6.2.1) Ar6.2.2 (own_in hz6 (own_255 _)) (ha6 _ (own_255 _).1 (own_255 _).2) (g := (mkF m 22 #[.val (.ref arr)] [(.int (x0 &&& (255 : Int32))), (.ref bj)])) rfl rfl (hb hby d1_22)) ?_
  by_cases c23_7 : (f3 (x0 &&& (255 : Int32))) = (0 : Int32)
  · -- yes
    refine OEnds.go (g' := (mkF m 32 #[.val (.ref arr)] [])) (fun t k => XS.ifYes X4.here hx rfl (pc0 := 23) (pc' := 32) rfl (hb hby d1_23) rfl ((if0 _ _).trans (teq c23_7).1) (by decide) (by decide) k) ?_
    obtain ⟨T8, X8, e8, st8⟩ := getS2 X4 hx hZ hown (host := "") (Or.inl (hw _ (List.mem_of_getElem? (i := 19) rfl))) Via.refl e4 (SC.ext E1) (g := (mkF m 32 #[.val (.ref arr)] [])) rfl (hb hby d1_32)
    refine OEnds.go (g' := (mkF m 35 #[.val (.ref arr)] [(.ref cc)])) st8 ?_
    exact OEnds.outAW X8 Bd.notSynchronized hS (by rw [e8]; exact hk) hx Bd.returns rfl rfl (hb hby d1_35) (by rw [e8]; exact ⟨(by rw [if_pos c23_7]), N2, (own_ext (own_ext0 h0) E1)⟩) (by decide) (by decide)
  · -- no
    refine OEnds.go (g' := (mkF m 26 #[.val (.ref arr)] [])) (fun t k => XS.ifNo X4.here hx rfl (hb hby d1_23) rfl ((if0 _ _).trans (feq c23_7).1) k) ?_
    obtain ⟨T9, X9, e9, st9⟩ := getS2 X4 hx hZ hown (host := "") (Or.inl (hw _ (List.mem_of_getElem? (i := 26) rfl))) Via.refl e4 (SJ.ext E1) (g := (mkF m 26 #[.val (.ref arr)] [])) rfl (hb hby d1_26)
    refine OEnds.go (g' := (mkF m 29 #[.val (.ref arr)] [(.ref jj)])) st9 ?_
    refine OEnds.go (g' := (mkF m 35 #[.val (.ref arr)] [(.ref jj)])) (fun t k => XS.goto X9.here hx rfl (pc0 := 29) (pc' := 35) rfl (hb hby d1_29) (by decide) (by decide) k) ?_
    exact OEnds.outAW X9 Bd.notSynchronized hS (by rw [e9]; exact hk) hx Bd.returns rfl rfl (hb hby d1_35) (by rw [e9]; exact ⟨(by rw [if_neg c23_7]), N2, (own_ext (own_ext0 h0) E1)⟩) (by decide) (by decide)
theorem ef_rmO2 (m : MethodId) (x0 : Addr) : entryFrame m #[(.ref x0)] 1 = mkF m 0 #[.val (.ref x0)] [] := by first | (simp [entryFrame, mkF, argsToLocals, Value.category]; done) | rfl
def Q_rmO2 (Z : State) (arr : Addr) (kk : ClassId) (x0 : Int32) (x1 : Int32) (jj : Addr) (cc : Addr) (bj : Addr) (h0 : Heap) (n0 : Nat) (v : Option Value) (h : Heap) (L : List Loc) : Prop := v = some (if f3 (x0 &&& (255 : Int32)) = 0 then .ref cc else .ref jj) ∧ Fr n0 L ∧ Ext h0 h
set_option maxRecDepth 65536 in
set_option maxHeartbeats 40000000 in
theorem rmO2 (l : Launch) (Z : State) (a0 : Array Value) (hw : ∀ d ∈ tables_1, d.before a0 Z = true) (ws : List Jvm.Cond) (arr : Addr) (kk : ClassId) (x0 : Int32) (x1 : Int32) (jj : Addr) (cc : Addr) (bj : Addr) (h0 : Heap) (n0 : Nat) (Z0 : n0 ≤ h0.size) (SJ : Sta Z h0 "com/example/gata/gata/model/PayloadFormat" "JSON" "Lcom/example/gata/gata/model/PayloadFormat;" (.ref jj)) (SC : Sta Z h0 "com/example/gata/gata/model/PayloadFormat" "CBOR" "Lcom/example/gata/gata/model/PayloadFormat;" (.ref cc)) (SB : Sta Z h0 "com/example/gata/gata/model/PayloadFormat" "BEGINS_JSON" "[Z" (.ref bj)) (BJ : own_BJ Z h0 bj) (V0 : Arv Z h0 arr kk .byte (2 : Int32) [(.int x0), (.int x1)] (.int (0 : Int32))) :
    MetFree l (⟨"com/example/gata/gata/model/PayloadFormat", "of", "([B)Lcom/example/gata/gata/model/PayloadFormat;"⟩ : MethodName) (head1 (Jvm.Cond.code (⟨"com/example/gata/gata/model/PayloadFormat", "of", "([B)Lcom/example/gata/gata/model/PayloadFormat;"⟩ : MethodName) prog_11_method_4_code 1 (some (.object "com/example/gata/gata/model/PayloadFormat")) :: ws) ({ frames := 1, cells := 2, slots := 32, locals := 20 } : Room)) (fun aa_ U => aa_ = #[(.ref arr)] ∧ Z.Warmed39 U.vm ∧ U.heap = h0) (fun _ _ _ _ _ => True) (fun _ U o U' => ∃ v L, o = .returned v ∧ Q_rmO2 Z arr kk x0 x1 jj cc bj h0 n0 v U'.heap L ∧ ReturnedEndW U o U' L ({ frames := 1, cells := 2, slots := 32, locals := 20 } : Room).cells ({ frames := 1, cells := 2, slots := 32, locals := 20 } : Room).slots) := by
  refine MetFree.of_bodySF (plainFor_of_name pn_2) hisR ?_
  intro p e s m args below meth c s₁ Bd hml0 hP hK
  obtain ⟨rfl, hZ, hh⟩ := hP
  have hx := Bd.exec
  have hby := Bd.bytes
  have hml : c.maxLocals = 1 := hml0
  have hown : s.vm.findClass "com/example/gata/gata/model/PayloadFormat" = some m.cls := findClass_of_methodNamed Bd.named
  have hnm := (name_of_methodNamed Bd.named Bd.method).1
  have X0 : Stand p l e ({ frames := 1, cells := 2, slots := 32, locals := 20 } : Room) (s.setVm s.vm) m #[(.ref arr)] below meth c s₁ [] 0 0 := Stand.of_body Bd
  have e0 : s₁.heap = h0 := by rw [← hh, Bd.state]; rfl
  have N0 := Fr.nil n0
  show OEnds p e below (OEndPW s (Q_rmO2 Z arr kk x0 x1 jj cc bj h0 n0) ({ frames := 1, cells := 2, slots := 32, locals := 20 } : Room).cells ({ frames := 1, cells := 2, slots := 32, locals := 20 } : Room).slots) s₁ (entryFrame m #[(.ref arr)] 1)
  rw [ef_rmO2 m arr]
  have hS : s.Since s.vm h0.size := (State.WarmedH.refl s).since _
  have hk : h0.size ≤ h0.size := Nat.le_refl _
  refine OEnds.go (g' := (mkF m 1 #[.val (.ref arr)] [(.ref arr)])) (fun t k => XS.aloadN X0.here hx rfl (hb hby d1_0) rfl rfl k) ?_
  obtain ⟨b1, T1, h1, k1, X1, e1, E1, hS, hk, hZ, hown, st1⟩ := ldcS X0 hx hZ hown (hw _ (List.mem_of_getElem? (i := 6) rfl)) (own_wS hw) e0 hS hk (g := (mkF m 1 #[.val (.ref arr)] [(.ref arr)])) rfl (hb hby d1_1) (n := 28) (by decide) (by decide) (by decide) (by decide)
  have K1 : Keep h0 h1 [] := (Keep.refl h0 []).ext E1
  refine OEnds.go (g' := (mkF m 3 #[.val (.ref arr)] [(.ref b1), (.ref arr)])) st1 ?_
  obtain ⟨_, _, ⟨T2, L2, k2, n2⟩, -, X2, ⟨Lc2, hQ2, l2, y2, z2⟩, st2⟩ := Jvm.LawKit.callS X1 hx (y := (⟨"java/util/Objects", "requireNonNull", "(Ljava/lang/Object;Ljava/lang/String;)Ljava/lang/Object;"⟩ : MethodName)) hown (mvT hZ (hw _ (List.mem_of_getElem? (i := 13) rfl))) (mvT hZ (hw _ (List.mem_of_getElem? (i := 14) rfl))) (mvT hZ (hw _ (List.mem_of_getElem? (i := 15) rfl))) (mvT hZ (hw _ (List.mem_of_getElem? (i := 16) rfl))) (by decide) (backOf (W := 0) (rm2 l Z a0 hw [] arr b1 h1 n0 (Nat.le_trans Z0 E1.1)) hZ (hw _ (List.mem_of_getElem? (i := 16) rfl)) (hw _ (List.mem_of_getElem? (i := 15) rfl)) (by decide) (by decide)) (g := (mkF m 3 #[.val (.ref arr)] [(.ref b1), (.ref arr)])) rfl (by rw [hml]; rfl) (argsL := [(.ref arr), (.ref b1)]) (rest := []) (lenOf pd_0 rfl) rfl (by show 2 * 0 + _ ≤ _; exact Nat.le_of_eq rfl) (hb hby d1_3) (fun _ _ => ⟨rfl, e1, (by decide : 2 + 0 ≤ _), (by decide : 32 + 0 ≤ _)⟩)
  dsimp only [Pt.U, Pt.locs, Pt.cells, Pt.slots] at X2 l2 y2 z2 st2 hQ2
  subst l2 y2 z2
  obtain ⟨rfl, N2q, e2⟩ := hQ2
  have N2 := Fr.app N0 N2q
  refine OEnds.go (g' := (mkF m 6 #[.val (.ref arr)] [(.ref arr)])) st2 ?_
  refine OEnds.go (g' := (mkF m 7 #[.val (.ref arr)] [])) (fun t k => XS.pop X2.here hx rfl (hb hby d1_6) rfl rfl k) ?_
  refine OEnds.go (g' := (mkF m 8 #[.val (.ref arr)] [(.ref arr)])) (fun t k => XS.aloadN X2.here hx rfl (hb hby d1_7) rfl rfl k) ?_
  obtain ⟨cl3, Ar3, qa3, Sa3, Na3, Ha3, Ga3⟩ := @id _ (V0.ext E1)
  refine OEnds.go (g' := (mkF m 9 #[.val (.ref arr)] [(.int (2 : Int32))])) (fun t k => X2.arraylength hx (by rw [e2]; exact Ar3.1) (State.isArrayOf_alike hZ.alike Ar3.2.1) (g := (mkF m 8 #[.val (.ref arr)] [(.ref arr)])) rfl rfl (hb hby d1_8) t (by rw [len_of Sa3 Na3]; exact k)) ?_
  refine OEnds.go (g' := (mkF m 12 #[.val (.ref arr)] [])) (fun t k => XS.ifNo X2.here hx rfl (hb hby d1_9) rfl ((if0 _ _).trans (feq (by decide : ¬ ((2 : Int32) = (0 : Int32)))).1) k) ?_
  obtain ⟨T4, X4, e4, st4⟩ := getS2 X2 hx hZ hown (host := "") (Or.inl (hw _ (List.mem_of_getElem? (i := 17) rfl))) Via.refl e2 (SB.ext E1) (g := (mkF m 12 #[.val (.ref arr)] [])) rfl (hb hby d1_12)
  refine OEnds.go (g' := (mkF m 15 #[.val (.ref arr)] [(.ref bj)])) st4 ?_
  refine OEnds.go (g' := (mkF m 16 #[.val (.ref arr)] [(.ref arr), (.ref bj)])) (fun t k => XS.aloadN X4.here hx rfl (hb hby d1_15) rfl rfl k) ?_
  refine OEnds.go (g' := (mkF m 17 #[.val (.ref arr)] [(.int (0 : Int32)), (.ref arr), (.ref bj)])) (fun t k => XS.iconst X4.here hx rfl (hb hby d1_16) k) ?_
  obtain ⟨cl5, Ar5, qa5, Sa5, Na5, Ha5, Ga5⟩ := @id _ (V0.ext E1)
  have hin5 : ¬ ((0 : Int32) < 0 ∨ cl5.slots.size ≤ ((0 : Int32)).toNatClampNeg) := inb_of Sa5 ⟨by decide, by decide⟩
  have hat5 : cl5.slots[((0 : Int32)).toNatClampNeg]? = some (.int x0) := Has.at Ha5 hin5 rfl
  refine OEnds.go (g' := (mkF m 18 #[.val (.ref arr)] [(.int x0), (.ref bj)])) (X4.baloadBytes hx (j := (0 : Int32)) (v := (.int x0)) (by rw [e4]; exact Ar5.1) (State.isArrayOf_alike hZ.alike Ar5.2.1) Ar5.2.2 hin5 hat5 (g := (mkF m 17 #[.val (.ref arr)] [(.int (0 : Int32)), (.ref arr), (.ref bj)])) rfl rfl (hb hby d1_17)) ?_
  refine OEnds.go (g' := (mkF m 21 #[.val (.ref arr)] [(.int (255 : Int32)), (.int x0), (.ref bj)])) (fun t k => XS.sipush X4.here hx rfl (hb hby d1_18) k) ?_
  refine OEnds.go (g' := (mkF m 22 #[.val (.ref arr)] [(.int (x0 &&& (255 : Int32))), (.ref bj)])) (fun t k => XS.iand X4.here hx rfl (hb hby d1_21) rfl k) ?_
  obtain ⟨cl6, Ar6, hz6, ha6⟩ := @id _ (BJ.ext E1)
  refine OEnds.go (g' := (mkF m 23 #[.val (.ref arr)] [(.int (f3 (x0 &&& (255 : Int32))))])) (X4.baloadBooleans hx (j := (x0 &&& (255 : Int32))) (v := (.int (f3 (x0 &&& (255 : Int32))))) (by rw [e4]; exact Ar6.1) (State.isArrayOf_alike hZ.alike Ar6.2.1) Ar6.2.2 (own_in hz6 (own_255 _)) (ha6 _ (own_255 _).1 (own_255 _).2) (g := (mkF m 22 #[.val (.ref arr)] [(.int (x0 &&& (255 : Int32))), (.ref bj)])) rfl rfl (hb hby d1_22)) ?_
  by_cases c23_7 : (f3 (x0 &&& (255 : Int32))) = (0 : Int32)
  · -- yes
    refine OEnds.go (g' := (mkF m 32 #[.val (.ref arr)] [])) (fun t k => XS.ifYes X4.here hx rfl (pc0 := 23) (pc' := 32) rfl (hb hby d1_23) rfl ((if0 _ _).trans (teq c23_7).1) (by decide) (by decide) k) ?_
    obtain ⟨T8, X8, e8, st8⟩ := getS2 X4 hx hZ hown (host := "") (Or.inl (hw _ (List.mem_of_getElem? (i := 19) rfl))) Via.refl e4 (SC.ext E1) (g := (mkF m 32 #[.val (.ref arr)] [])) rfl (hb hby d1_32)
    refine OEnds.go (g' := (mkF m 35 #[.val (.ref arr)] [(.ref cc)])) st8 ?_
    exact OEnds.outAW X8 Bd.notSynchronized hS (by rw [e8]; exact hk) hx Bd.returns rfl rfl (hb hby d1_35) (by rw [e8]; exact ⟨(by rw [if_pos c23_7]), N2, (own_ext (own_ext0 h0) E1)⟩) (by decide) (by decide)
  · -- no
    refine OEnds.go (g' := (mkF m 26 #[.val (.ref arr)] [])) (fun t k => XS.ifNo X4.here hx rfl (hb hby d1_23) rfl ((if0 _ _).trans (feq c23_7).1) k) ?_
    obtain ⟨T9, X9, e9, st9⟩ := getS2 X4 hx hZ hown (host := "") (Or.inl (hw _ (List.mem_of_getElem? (i := 26) rfl))) Via.refl e4 (SJ.ext E1) (g := (mkF m 26 #[.val (.ref arr)] [])) rfl (hb hby d1_26)
    refine OEnds.go (g' := (mkF m 29 #[.val (.ref arr)] [(.ref jj)])) st9 ?_
    refine OEnds.go (g' := (mkF m 35 #[.val (.ref arr)] [(.ref jj)])) (fun t k => XS.goto X9.here hx rfl (pc0 := 29) (pc' := 35) rfl (hb hby d1_29) (by decide) (by decide) k) ?_
    exact OEnds.outAW X9 Bd.notSynchronized hS (by rw [e9]; exact hk) hx Bd.returns rfl rfl (hb hby d1_35) (by rw [e9]; exact ⟨(by rw [if_neg c23_7]), N2, (own_ext (own_ext0 h0) E1)⟩) (by decide) (by decide)
theorem own_i2b (x : Int32) : (x.toInt8.toInt32).toInt8.toInt32 &&& (255 : Int32) = x &&& (255 : Int32) := by
  apply Int32.toInt_inj.mp
  have h1 := c_mask x 255 8 (by decide) (by decide)
  have h2 := c_mask (x.toInt8.toInt32).toInt8.toInt32 255 8 (by decide) (by decide)
  have h3 := c_i2b x
  have h4 := c_i2b x.toInt8.toInt32
  omega
theorem own_iref {P : Prop} [Decidable P] {a b : Addr} : (if P then Value.ref a else Value.ref b).isRef = true := by split <;> rfl
theorem own_BJ.other {Z : State} {h h' : Heap} {x a : Addr} {sl : Nat} {v : Value} (F : own_BJ Z h x) (W : Wr h h' a sl v) (q : x ≠ a) : own_BJ Z h' x := by
  obtain ⟨cl, A, r⟩ := F; exact ⟨cl, A.other W q, r⟩
theorem own_BJ.lt {Z : State} {h : Heap} {x : Addr} (F : own_BJ Z h x) : x < h.size := by obtain ⟨cl, A, -⟩ := F; exact A.lt
theorem own_w2 {args : Array Value} {Z : State} {E : Term} {idx : List Nat} {j x a b v : Int32} (hi : (Term.index 0).eval args Z none idx Z = some (.int j)) (he : E.eval args Z none idx Z = some (.int x))
    (h : (Jvm.Cond.or (.lt (.index 0) (.int a)) (.or (.le (.int b) (.index 0)) (.eq E (.int v)))).value args Z none Z idx = some true) : j < a ∨ b ≤ j ∨ x = v := by
  have h1 : (Jvm.Cond.lt (.index 0) (.int a)).value args Z none Z idx = some (decide (j < a)) := by simp [Cond.value, hi, Term.int_eval]
  have h2 : (Jvm.Cond.le (.int b) (.index 0)).value args Z none Z idx = some (decide (b ≤ j)) := by simp [Cond.value, hi, Term.int_eval]
  have h3 : (Jvm.Cond.eq E (.int v)).value args Z none Z idx = some (decide (x = v)) := by simp [Cond.value, he, Term.int_eval]
  have h4 : (Jvm.Cond.or (.le (.int b) (.index 0)) (.eq E (.int v))).value args Z none Z idx = some (decide (b ≤ j ∨ x = v)) := by
    by_cases q : b ≤ j <;> simp [Cond.value, hi, he, Term.int_eval, q]
  exact or_e2 h1 h4 h
theorem own_w1 {args : Array Value} {Z : State} {E : Term} {idx : List Nat} {j x b v : Int32} (hi : (Term.index 0).eval args Z none idx Z = some (.int j)) (he : E.eval args Z none idx Z = some (.int x))
    (h : (Jvm.Cond.or (.le (.int b) (.index 0)) (.eq E (.int v))).value args Z none Z idx = some true) : b ≤ j ∨ x = v := by
  have h2 : (Jvm.Cond.le (.int b) (.index 0)).value args Z none Z idx = some (decide (b ≤ j)) := by simp [Cond.value, hi, Term.int_eval]
  have h3 : (Jvm.Cond.eq E (.int v)).value args Z none Z idx = some (decide (x = v)) := by simp [Cond.value, he, Term.int_eval]
  exact or_e2 h2 h3 h
theorem own_w0 {args : Array Value} {Z : State} {E : Term} {idx : List Nat} {j x a v : Int32} (hi : (Term.index 0).eval args Z none idx Z = some (.int j)) (he : E.eval args Z none idx Z = some (.int x))
    (h : (Jvm.Cond.or (.lt (.index 0) (.int a)) (.eq E (.int v))).value args Z none Z idx = some true) : j < a ∨ x = v := by
  have h1 : (Jvm.Cond.lt (.index 0) (.int a)).value args Z none Z idx = some (decide (j < a)) := by simp [Cond.value, hi, Term.int_eval]
  have h3 : (Jvm.Cond.eq E (.int v)).value args Z none Z idx = some (decide (x = v)) := by simp [Cond.value, he, Term.int_eval]
  exact or_e2 h1 h3 h
theorem own_elemI {args : Array Value} {Z : State} {t : Term} {x : Addr} {cl : Cell} {j v : Int32} (ht : t.eval args Z none [] Z = some (.ref x)) (hc : Z.heap[x]? = some cl) (h : (Jvm.Cond.eq (.elem t (.int j)) (.int v)).value args Z none Z [] = some true) : cl.slots[j.toNatClampNeg]? = some (.int v) := by
  have e : (Term.elem t (.int j)).eval args Z none [] Z = some (.int v) := by
    simp only [Cond.value, Term.int_eval] at h
    cases hq : (Term.elem t (.int j)).eval args Z none [] Z with
    | none => simp [hq] at h
    | some x => cases x <;> simp [hq] at h ⊢; exact h
  exact (elem_in e ht (Term.int_eval j) hc).2
theorem own_256 {n : Nat} (h : n < 2 ^ 31) (e : n.toInt32 = 256) : n = 256 := by
  have := len_toInt h
  rw [e] at this
  have e2 : (256 : Int32).toInt = 256 := by decide
  omega
theorem own_nn {j : Int32} (h : 0 ≤ j.toInt) : ¬ j < 0 := by
  have e : (0 : Int32).toInt = 0 := by decide
  rw [Int32.lt_iff_toInt_lt]; omega
theorem own_nn0 {j : Int32} (h : 0 ≤ j.toInt) : ¬ j < 0 := own_nn h
theorem own_256j {j : Int32} (h : j.toInt < 256) : j < 256 := by
  have e : (256 : Int32).toInt = 256 := by decide
  rw [Int32.lt_iff_toInt_lt]; omega
theorem own_nle {a j : Int32} (h : a ≤ j) (h' : j < a) : False := by
  rw [Int32.le_iff_toInt_le] at h; rw [Int32.lt_iff_toInt_lt] at h'; omega
theorem own_n (n : Int32) (a b : Int32) (h1 : ¬ n < a) (h2 : n < b) (h : a.toInt + 1 = b.toInt) : n = a := by
  apply Int32.toInt_inj.mp
  rw [Int32.lt_iff_toInt_lt] at h1 h2
  omega
theorem own_val (f : Int32 → Int32) (lo hi v : Int32) (h : ∀ n : Fin 256, ¬ Int32.ofNat n.1 < lo → Int32.ofNat n.1 < hi → (some (Value.int v) : Option Value) = some (.int (f (Int32.ofNat n.1)))) (j : Int32) (h1 : ¬ j < lo) (h2 : j < hi) (hl : 0 ≤ lo.toInt := by decide) (hh : hi.toInt ≤ 256 := by decide) : (some (Value.int v) : Option Value) = some (.int (f j)) := by
  have a1 : 0 ≤ j.toInt := by rw [Int32.lt_iff_toInt_lt] at h1; omega
  have a2 : j.toInt < 256 := by rw [Int32.lt_iff_toInt_lt] at h2; omega
  exact own_fin (P := fun j => ¬ j < lo → j < hi → (some (Value.int v) : Option Value) = some (.int (f j))) 256 h j a1 a2 h1 h2
theorem ef_rm0 (m : MethodId) (x0 : Int32) (x1 : Int32) (x2 : Int32) : entryFrame m #[(.int x0), (.int x1), (.int x2)] maxLocals = mkF m 0 #[.val (.int x0), .val (.int x1), .val (.int x2), .unset, .unset, .unset, .unset] [] := by first | (simp [entryFrame, mkF, argsToLocals, Value.category, maxLocals]; done) | rfl
def Q_rm0 (Z : State) (p0 : Int32) (p1 : Int32) (p2 : Int32) (jj : Addr) (cc : Addr) (bj : Addr) (h0 : Heap) (n0 : Nat) (v : Option Value) (h : Heap) (L : List Loc) : Prop := v = some (.int 1) ∧ Fr n0 L
set_option maxRecDepth 65536 in
set_option maxHeartbeats 40000000 in
theorem rm0 (l : Launch) (Z : State) (a0 : Array Value) (hw : ∀ d ∈ tables_1, d.before a0 Z = true) (ws : List Jvm.Cond) (p0 : Int32) (p1 : Int32) (p2 : Int32) (jj : Addr) (cc : Addr) (bj : Addr) (h0 : Heap) (n0 : Nat) (Z0 : n0 ≤ h0.size) (SJ : Sta Z h0 "com/example/gata/gata/model/PayloadFormat" "JSON" "Lcom/example/gata/gata/model/PayloadFormat;" (.ref jj)) (SC : Sta Z h0 "com/example/gata/gata/model/PayloadFormat" "CBOR" "Lcom/example/gata/gata/model/PayloadFormat;" (.ref cc)) (SB : Sta Z h0 "com/example/gata/gata/model/PayloadFormat" "BEGINS_JSON" "[Z" (.ref bj)) (BJ : own_BJ Z h0 bj) :
    MetFree l x (head1 (Jvm.Cond.code x code maxLocals ret :: ws) room_1) (fun aa_ U => aa_ = #[(.int p0), (.int p1), (.int p2)] ∧ Z.Warmed39 U.vm ∧ U.heap = h0) (fun _ _ _ _ _ => True) (fun _ U o U' => ∃ v L, o = .returned v ∧ Q_rm0 Z p0 p1 p2 jj cc bj h0 n0 v U'.heap L ∧ ReturnedEndW U o U' L room_1.cells room_1.slots) := by
  refine MetFree.of_bodySF (plainFor_of_name pn_1) hisR ?_
  intro p e s m args below meth c s₁ Bd hml0 hP hK
  obtain ⟨rfl, hZ, hh⟩ := hP
  have hx := Bd.exec
  have hby := Bd.bytes
  have hml : c.maxLocals = 7 := hml0
  have hown : s.vm.findClass "com/example/gata/gata/model/PayloadFormatOfPinLaw" = some m.cls := findClass_of_methodNamed Bd.named
  have hnm := (name_of_methodNamed Bd.named Bd.method).1
  have X0 : Stand p l e room_1 (s.setVm s.vm) m #[(.int p0), (.int p1), (.int p2)] below meth c s₁ [] 0 0 := Stand.of_body Bd
  have e0 : s₁.heap = h0 := by rw [← hh, Bd.state]; rfl
  have N0 := Fr.nil n0
  show OEnds p e below (OEndPW s (Q_rm0 Z p0 p1 p2 jj cc bj h0 n0) room_1.cells room_1.slots) s₁ (entryFrame m #[(.int p0), (.int p1), (.int p2)] maxLocals)
  rw [ef_rm0 m p0 p1 p2]
  have hS : s.Since s.vm h0.size := (State.WarmedH.refl s).since _
  have hk : h0.size ≤ h0.size := Nat.le_refl _
  refine OEnds.go (g' := (mkF m 1 #[.val (.int p0), .val (.int p1), .val (.int p2), .unset, .unset, .unset, .unset] [(.int p2)])) (fun t k => XS.iloadN X0.here hx rfl (hb hby at_0) rfl k) ?_
  refine OEnds.go (g' := (mkF m 3 #[.val (.int p0), .val (.int p1), .val (.int p2), .unset, .unset, .unset, .unset] [(.int (2147483647 : Int32)), (.int p2)])) (X0.ldcInt hx hown (mvT hZ (hw _ (List.mem_of_getElem? (i := 0) rfl))) (g := (mkF m 1 #[.val (.int p0), .val (.int p1), .val (.int p2), .unset, .unset, .unset, .unset] [(.int p2)])) rfl (hb hby at_1)) ?_
  refine OEnds.go (g' := (mkF m 4 #[.val (.int p0), .val (.int p1), .val (.int p2), .unset, .unset, .unset, .unset] [(.int (p2 &&& (2147483647 : Int32)))])) (fun t k => XS.iand X0.here hx rfl (hb hby at_3) rfl k) ?_
  refine OEnds.go (g' := (mkF m 5 #[.val (.int p0), .val (.int p1), .val (.int p2), .unset, .unset, .unset, .unset] [(.int (3 : Int32)), (.int (p2 &&& (2147483647 : Int32)))])) (fun t k => XS.iconst X0.here hx rfl (hb hby at_4) k) ?_
  refine OEnds.go (g' := (mkF m 6 #[.val (.int p0), .val (.int p1), .val (.int p2), .unset, .unset, .unset, .unset] [(.int ((p2 &&& (2147483647 : Int32)) % (3 : Int32)))])) (fun t k => iremM X0 hx rfl (hb hby at_5) rfl (by decide) k) ?_
  refine OEnds.go (g' := (mkF m 7 #[.val (.int p0), .val (.int p1), .val (.int p2), .val (.int ((p2 &&& (2147483647 : Int32)) % (3 : Int32))), .unset, .unset, .unset] [])) (fun t k => XS.istoreN X0.here hx rfl (hb hby at_6) rfl (l' := #[.val (.int p0), .val (.int p1), .val (.int p2), .val (.int ((p2 &&& (2147483647 : Int32)) % (3 : Int32))), .unset, .unset, .unset]) rfl k) ?_
  refine OEnds.go (g' := (mkF m 8 #[.val (.int p0), .val (.int p1), .val (.int p2), .val (.int ((p2 &&& (2147483647 : Int32)) % (3 : Int32))), .unset, .unset, .unset] [(.int ((p2 &&& (2147483647 : Int32)) % (3 : Int32)))])) (fun t k => XS.iloadN X0.here hx rfl (hb hby at_7) rfl k) ?_
  by_cases c8_1 : ((p2 &&& (2147483647 : Int32)) % (3 : Int32)) = (0 : Int32)
  · -- yes
    refine OEnds.go (g' := (mkF m 11 #[.val (.int p0), .val (.int p1), .val (.int p2), .val (.int ((p2 &&& (2147483647 : Int32)) % (3 : Int32))), .unset, .unset, .unset] [])) (fun t k => XS.ifNo X0.here hx rfl (hb hby at_8) rfl ((if0 _ _).trans (teq c8_1).2) k) ?_
    refine OEnds.go (g' := (mkF m 12 #[.val (.int p0), .val (.int p1), .val (.int p2), .val (.int ((p2 &&& (2147483647 : Int32)) % (3 : Int32))), .unset, .unset, .unset] [(.int (0 : Int32))])) (fun t k => XS.iconst X0.here hx rfl (hb hby at_11) k) ?_
    obtain ⟨T2, h2, k2, X2, e2, E2, A2, st2⟩ := newP X0 hx hZ (hw _ (List.mem_of_getElem? (i := 1) rfl)) e0 (g := (mkF m 12 #[.val (.int p0), .val (.int p1), .val (.int p2), .val (.int ((p2 &&& (2147483647 : Int32)) % (3 : Int32))), .unset, .unset, .unset] [(.int (0 : Int32))])) rfl (hb hby at_12) rfl (by decide) (cap := 0) (by decide) (by decide) (by decide) (by decide)
    obtain ⟨b2, g2⟩ : ∃ z, z = h0.size := ⟨_, rfl⟩
    rw [← g2] at A2 st2
    have g_b2 : n0 ≤ b2 := Nat.le_trans Z0 (Nat.le_of_eq g2.symm)
    have V_b2 : Arv Z h2 b2 k2 .byte (0 : Int32) [] (.int (0 : Int32)) := Arv.new A2 (by decide)
    refine OEnds.go (g' := (mkF m 14 #[.val (.int p0), .val (.int p1), .val (.int p2), .val (.int ((p2 &&& (2147483647 : Int32)) % (3 : Int32))), .unset, .unset, .unset] [(.ref b2)])) st2 ?_
    refine OEnds.go (g' := (mkF m 16 #[.val (.int p0), .val (.int p1), .val (.int p2), .val (.int ((p2 &&& (2147483647 : Int32)) % (3 : Int32))), .val (.ref b2), .unset, .unset] [])) (fun t k => XS.astore X2.here hx rfl (hb hby at_14) rfl rfl (l' := #[.val (.int p0), .val (.int p1), .val (.int p2), .val (.int ((p2 &&& (2147483647 : Int32)) % (3 : Int32))), .val (.ref b2), .unset, .unset]) rfl k) ?_
    refine OEnds.go (g' := (mkF m 52 #[.val (.int p0), .val (.int p1), .val (.int p2), .val (.int ((p2 &&& (2147483647 : Int32)) % (3 : Int32))), .val (.ref b2), .unset, .unset] [])) (fun t k => XS.goto X2.here hx rfl (pc0 := 16) (pc' := 52) rfl (hb hby at_16) (by decide) (by decide) k) ?_
    refine OEnds.go (g' := (mkF m 54 #[.val (.int p0), .val (.int p1), .val (.int p2), .val (.int ((p2 &&& (2147483647 : Int32)) % (3 : Int32))), .val (.ref b2), .unset, .unset] [(.ref b2)])) (fun t k => XS.aload X2.here hx rfl (hb hby at_52) rfl rfl k) ?_
    obtain ⟨_, _, ⟨T3, L3, k3, n3⟩, -, X3, hS3, hgr3, ⟨Lc3, hQ3, l3, y3, z3⟩, st3⟩ := callSS X2 hx (y := (⟨"com/example/gata/gata/model/PayloadFormat", "of", "([B)Lcom/example/gata/gata/model/PayloadFormat;"⟩ : MethodName)) hown (mvT hZ (hw _ (List.mem_of_getElem? (i := 2) rfl))) (mvT hZ (hw _ (List.mem_of_getElem? (i := 3) rfl))) (mvT hZ (hw _ (List.mem_of_getElem? (i := 4) rfl))) (mvT hZ (hw _ (List.mem_of_getElem? (i := 5) rfl))) (by decide) (backOfS (W := 0) (rmO0 l Z a0 hw [] b2 k2  jj cc bj h2 n0 (Nat.le_trans Z0 E2.1) (SJ.ext E2) (SC.ext E2) (SB.ext E2) (BJ.ext E2) V_b2) hZ (hw _ (List.mem_of_getElem? (i := 5) rfl)) (hw _ (List.mem_of_getElem? (i := 4) rfl)) (by decide) (by decide)) (g := (mkF m 54 #[.val (.int p0), .val (.int p1), .val (.int p2), .val (.int ((p2 &&& (2147483647 : Int32)) % (3 : Int32))), .val (.ref b2), .unset, .unset] [(.ref b2)])) rfl (by rw [hml]; rfl) (argsL := [(.ref b2)]) (rest := []) (lenOf pd_1 rfl) rfl (by show 2 * 0 + _ ≤ _; exact Nat.le_of_eq rfl) (hb hby at_54) (fun _ _ => ⟨rfl, e2, (by decide : 1 + 2 ≤ _), (by decide : 0 + 32 ≤ _)⟩)
    dsimp only [Pt.U, Pt.locs, Pt.cells, Pt.slots] at X3 l3 y3 z3 st3 hQ3 hS3 hgr3
    subst l3 y3 z3
    obtain ⟨X3, hS, hZ, hown⟩ := rebS hS (by rw [e2]; exact (Nat.le_trans hk E2.1)) X3 hS3 hgr3 hZ hown
    have hk : T3.heap.size ≤ T3.heap.size := Nat.le_refl _
    obtain ⟨rfl, N3q, E3q⟩ := hQ3
    have N3 := Fr.app N0 N3q
    refine OEnds.tr (g' := (mkF m 57 #[.val (.int p0), .val (.int p1), .val (.int p2), .val (.int ((p2 &&& (2147483647 : Int32)) % (3 : Int32))), .val (.ref b2), .unset, .unset] [(.ref jj)])) st3 ?_
    refine OEnds.go (g' := (mkF m 59 #[.val (.int p0), .val (.int p1), .val (.int p2), .val (.int ((p2 &&& (2147483647 : Int32)) % (3 : Int32))), .val (.ref b2), .val (.ref jj), .unset] [])) (fun t k => XS.astore X3.here hx rfl (hb hby at_57) rfl rfl (l' := #[.val (.int p0), .val (.int p1), .val (.int p2), .val (.int ((p2 &&& (2147483647 : Int32)) % (3 : Int32))), .val (.ref b2), .val (.ref jj), .unset]) rfl k) ?_
    refine OEnds.go (g' := (mkF m 60 #[.val (.int p0), .val (.int p1), .val (.int p2), .val (.int ((p2 &&& (2147483647 : Int32)) % (3 : Int32))), .val (.ref b2), .val (.ref jj), .unset] [(.int ((p2 &&& (2147483647 : Int32)) % (3 : Int32)))])) (fun t k => XS.iloadN X3.here hx rfl (hb hby at_59) rfl k) ?_
    refine OEnds.go (g' := (mkF m 63 #[.val (.int p0), .val (.int p1), .val (.int p2), .val (.int ((p2 &&& (2147483647 : Int32)) % (3 : Int32))), .val (.ref b2), .val (.ref jj), .unset] [])) (fun t k => XS.ifNo X3.here hx rfl (hb hby at_60) rfl ((if0 _ _).trans (teq c8_1).2) k) ?_
    obtain ⟨T4, X4, e4, st4⟩ := getS2 X3 hx hZ hown (host := "") (Or.inl (hw _ (List.mem_of_getElem? (i := 28) rfl))) Via.refl rfl ((SJ.ext E2).ext E3q) (g := (mkF m 63 #[.val (.int p0), .val (.int p1), .val (.int p2), .val (.int ((p2 &&& (2147483647 : Int32)) % (3 : Int32))), .val (.ref b2), .val (.ref jj), .unset] [])) rfl (hb hby at_63)
    refine OEnds.go (g' := (mkF m 66 #[.val (.int p0), .val (.int p1), .val (.int p2), .val (.int ((p2 &&& (2147483647 : Int32)) % (3 : Int32))), .val (.ref b2), .val (.ref jj), .unset] [(.ref jj)])) st4 ?_
    refine OEnds.go (g' := (mkF m 68 #[.val (.int p0), .val (.int p1), .val (.int p2), .val (.int ((p2 &&& (2147483647 : Int32)) % (3 : Int32))), .val (.ref b2), .val (.ref jj), .val (.ref jj)] [])) (fun t k => XS.astore X4.here hx rfl (hb hby at_66) rfl rfl (l' := #[.val (.int p0), .val (.int p1), .val (.int p2), .val (.int ((p2 &&& (2147483647 : Int32)) % (3 : Int32))), .val (.ref b2), .val (.ref jj), .val (.ref jj)]) rfl k) ?_
    refine OEnds.go (g' := (mkF m 95 #[.val (.int p0), .val (.int p1), .val (.int p2), .val (.int ((p2 &&& (2147483647 : Int32)) % (3 : Int32))), .val (.ref b2), .val (.ref jj), .val (.ref jj)] [])) (fun t k => XS.goto X4.here hx rfl (pc0 := 68) (pc' := 95) rfl (hb hby at_68) (by decide) (by decide) k) ?_
    refine OEnds.go (g' := (mkF m 97 #[.val (.int p0), .val (.int p1), .val (.int p2), .val (.int ((p2 &&& (2147483647 : Int32)) % (3 : Int32))), .val (.ref b2), .val (.ref jj), .val (.ref jj)] [(.ref jj)])) (fun t k => XS.aload X4.here hx rfl (hb hby at_95) rfl rfl k) ?_
    refine OEnds.go (g' := (mkF m 99 #[.val (.int p0), .val (.int p1), .val (.int p2), .val (.int ((p2 &&& (2147483647 : Int32)) % (3 : Int32))), .val (.ref b2), .val (.ref jj), .val (.ref jj)] [(.ref jj), (.ref jj)])) (fun t k => XS.aload X4.here hx rfl (hb hby at_97) rfl rfl k) ?_
    refine OEnds.go (g' := (mkF m 102 #[.val (.int p0), .val (.int p1), .val (.int p2), .val (.int ((p2 &&& (2147483647 : Int32)) % (3 : Int32))), .val (.ref b2), .val (.ref jj), .val (.ref jj)] [])) (fun t k => Jvm.RoadKit.acmp (g := (mkF m 99 #[.val (.int p0), .val (.int p1), .val (.int p2), .val (.int ((p2 &&& (2147483647 : Int32)) % (3 : Int32))), .val (.ref b2), .val (.ref jj), .val (.ref jj)] [(.ref jj), (.ref jj)])) X4 hx rfl rfl rfl (pc0 := 99) (pc' := 102) (same := true) rfl (hb hby at_99) rfl (decide_eq_true rfl) (by decide) (by decide) k) ?_
    refine OEnds.go (g' := (mkF m 103 #[.val (.int p0), .val (.int p1), .val (.int p2), .val (.int ((p2 &&& (2147483647 : Int32)) % (3 : Int32))), .val (.ref b2), .val (.ref jj), .val (.ref jj)] [(.int (1 : Int32))])) (fun t k => XS.iconst X4.here hx rfl (hb hby at_102) k) ?_
    refine OEnds.go (g' := (mkF m 107 #[.val (.int p0), .val (.int p1), .val (.int p2), .val (.int ((p2 &&& (2147483647 : Int32)) % (3 : Int32))), .val (.ref b2), .val (.ref jj), .val (.ref jj)] [(.int (1 : Int32))])) (fun t k => XS.goto X4.here hx rfl (pc0 := 103) (pc' := 107) rfl (hb hby at_103) (by decide) (by decide) k) ?_
    exact OEnds.outNW X4 Bd.notSynchronized hS (by rw [e4]; exact hk) hx (t := .boolean) Bd.returns (by simp) (hb hby at_107) ⟨rfl, N3⟩ (by decide) (by decide)
  · -- no
    refine OEnds.go (g' := (mkF m 19 #[.val (.int p0), .val (.int p1), .val (.int p2), .val (.int ((p2 &&& (2147483647 : Int32)) % (3 : Int32))), .unset, .unset, .unset] [])) (fun t k => XS.ifYes X0.here hx rfl (pc0 := 8) (pc' := 19) rfl (hb hby at_8) rfl ((if0 _ _).trans (feq c8_1).2) (by decide) (by decide) k) ?_
    refine OEnds.go (g' := (mkF m 20 #[.val (.int p0), .val (.int p1), .val (.int p2), .val (.int ((p2 &&& (2147483647 : Int32)) % (3 : Int32))), .unset, .unset, .unset] [(.int ((p2 &&& (2147483647 : Int32)) % (3 : Int32)))])) (fun t k => XS.iloadN X0.here hx rfl (hb hby at_19) rfl k) ?_
    refine OEnds.go (g' := (mkF m 21 #[.val (.int p0), .val (.int p1), .val (.int p2), .val (.int ((p2 &&& (2147483647 : Int32)) % (3 : Int32))), .unset, .unset, .unset] [(.int (1 : Int32)), (.int ((p2 &&& (2147483647 : Int32)) % (3 : Int32)))])) (fun t k => XS.iconst X0.here hx rfl (hb hby at_20) k) ?_
    by_cases c21_5 : ((p2 &&& (2147483647 : Int32)) % (3 : Int32)) = (1 : Int32)
    · -- yes
      refine OEnds.go (g' := (mkF m 24 #[.val (.int p0), .val (.int p1), .val (.int p2), .val (.int ((p2 &&& (2147483647 : Int32)) % (3 : Int32))), .unset, .unset, .unset] [])) (fun t k => XS.icmpNo X0.here hx rfl (hb hby at_21) rfl (teq c21_5).2 k) ?_
      refine OEnds.go (g' := (mkF m 25 #[.val (.int p0), .val (.int p1), .val (.int p2), .val (.int ((p2 &&& (2147483647 : Int32)) % (3 : Int32))), .unset, .unset, .unset] [(.int (1 : Int32))])) (fun t k => XS.iconst X0.here hx rfl (hb hby at_24) k) ?_
      obtain ⟨T6, h6, k6, X6, e6, E6, A6, st6⟩ := newP X0 hx hZ (hw _ (List.mem_of_getElem? (i := 1) rfl)) e0 (g := (mkF m 25 #[.val (.int p0), .val (.int p1), .val (.int p2), .val (.int ((p2 &&& (2147483647 : Int32)) % (3 : Int32))), .unset, .unset, .unset] [(.int (1 : Int32))])) rfl (hb hby at_25) rfl (by decide) (cap := 1) (by decide) (by decide) (by decide) (by decide)
      obtain ⟨b6, g6⟩ : ∃ z, z = h0.size := ⟨_, rfl⟩
      rw [← g6] at A6 st6
      have g_b6 : n0 ≤ b6 := Nat.le_trans Z0 (Nat.le_of_eq g6.symm)
      have V_b6 : Arv Z h6 b6 k6 .byte (1 : Int32) [(.int (0 : Int32))] (.int (0 : Int32)) := (Arv.new A6 (by decide)).pad (pad_rep [] (.int (0 : Int32)) 1)
      refine OEnds.go (g' := (mkF m 27 #[.val (.int p0), .val (.int p1), .val (.int p2), .val (.int ((p2 &&& (2147483647 : Int32)) % (3 : Int32))), .unset, .unset, .unset] [(.ref b6)])) st6 ?_
      refine OEnds.go (g' := (mkF m 28 #[.val (.int p0), .val (.int p1), .val (.int p2), .val (.int ((p2 &&& (2147483647 : Int32)) % (3 : Int32))), .unset, .unset, .unset] [(.ref b6), (.ref b6)])) (fun t k => XS.dup X6.here hx rfl (hb hby at_27) rfl rfl k) ?_
      refine OEnds.go (g' := (mkF m 29 #[.val (.int p0), .val (.int p1), .val (.int p2), .val (.int ((p2 &&& (2147483647 : Int32)) % (3 : Int32))), .unset, .unset, .unset] [(.int (0 : Int32)), (.ref b6), (.ref b6)])) (fun t k => XS.iconst X6.here hx rfl (hb hby at_28) k) ?_
      refine OEnds.go (g' := (mkF m 30 #[.val (.int p0), .val (.int p1), .val (.int p2), .val (.int ((p2 &&& (2147483647 : Int32)) % (3 : Int32))), .unset, .unset, .unset] [(.int p0), (.int (0 : Int32)), (.ref b6), (.ref b6)])) (fun t k => XS.iloadN X6.here hx rfl (hb hby at_29) rfl k) ?_
      refine OEnds.go (g' := (mkF m 31 #[.val (.int p0), .val (.int p1), .val (.int p2), .val (.int ((p2 &&& (2147483647 : Int32)) % (3 : Int32))), .unset, .unset, .unset] [(.int (p0.toInt8.toInt32)), (.int (0 : Int32)), (.ref b6), (.ref b6)])) (fun t k => XS.i2b X6.here hx rfl (hb hby at_30) rfl k) ?_
      obtain ⟨cl7, Ar7, qa7, Sa7, Na7, Ha7, Ga7⟩ := @id _ V_b6
      have hin7 : ¬ ((0 : Int32) < 0 ∨ cl7.slots.size ≤ ((0 : Int32)).toNatClampNeg) := inb_of Sa7 ⟨by decide, by decide⟩
      obtain ⟨T8, h8, X8, e8, W8, st8⟩ := stB X6 hx hZ e6 Ar7 (j := (0 : Int32)) hin7 (g := (mkF m 31 #[.val (.int p0), .val (.int p1), .val (.int p2), .val (.int ((p2 &&& (2147483647 : Int32)) % (3 : Int32))), .unset, .unset, .unset] [(.int (p0.toInt8.toInt32)), (.int (0 : Int32)), (.ref b6), (.ref b6)])) rfl rfl (hb hby at_31)
      have N8 := Fr.snoc X8 N0 g_b6
      have V8_b6 : Arv Z h8 b6 k6 .byte (1 : Int32) [(.int ((p0.toInt8.toInt32).toInt8.toInt32))] (.int (0 : Int32)) := Arv.set Ar7 qa7 Sa7 Na7 Ha7 Ga7 (fits_nar_byte _) W8 0 rfl (Nat.le_of_ble_eq_true rfl)
      refine OEnds.go (g' := (mkF m 32 #[.val (.int p0), .val (.int p1), .val (.int p2), .val (.int ((p2 &&& (2147483647 : Int32)) % (3 : Int32))), .unset, .unset, .unset] [(.ref b6)])) st8 ?_
      refine OEnds.go (g' := (mkF m 34 #[.val (.int p0), .val (.int p1), .val (.int p2), .val (.int ((p2 &&& (2147483647 : Int32)) % (3 : Int32))), .val (.ref b6), .unset, .unset] [])) (fun t k => XS.astore X8.here hx rfl (hb hby at_32) rfl rfl (l' := #[.val (.int p0), .val (.int p1), .val (.int p2), .val (.int ((p2 &&& (2147483647 : Int32)) % (3 : Int32))), .val (.ref b6), .unset, .unset]) rfl k) ?_
      refine OEnds.go (g' := (mkF m 52 #[.val (.int p0), .val (.int p1), .val (.int p2), .val (.int ((p2 &&& (2147483647 : Int32)) % (3 : Int32))), .val (.ref b6), .unset, .unset] [])) (fun t k => XS.goto X8.here hx rfl (pc0 := 34) (pc' := 52) rfl (hb hby at_34) (by decide) (by decide) k) ?_
      refine OEnds.go (g' := (mkF m 54 #[.val (.int p0), .val (.int p1), .val (.int p2), .val (.int ((p2 &&& (2147483647 : Int32)) % (3 : Int32))), .val (.ref b6), .unset, .unset] [(.ref b6)])) (fun t k => XS.aload X8.here hx rfl (hb hby at_52) rfl rfl k) ?_
      obtain ⟨_, _, ⟨T9, L9, k9, n9⟩, -, X9, hS9, hgr9, ⟨Lc9, hQ9, l9, y9, z9⟩, st9⟩ := callSS X8 hx (y := (⟨"com/example/gata/gata/model/PayloadFormat", "of", "([B)Lcom/example/gata/gata/model/PayloadFormat;"⟩ : MethodName)) hown (mvT hZ (hw _ (List.mem_of_getElem? (i := 2) rfl))) (mvT hZ (hw _ (List.mem_of_getElem? (i := 3) rfl))) (mvT hZ (hw _ (List.mem_of_getElem? (i := 4) rfl))) (mvT hZ (hw _ (List.mem_of_getElem? (i := 5) rfl))) (by decide) (backOfS (W := 0) (rmO1 l Z a0 hw [] b6 k6 ((p0.toInt8.toInt32).toInt8.toInt32) jj cc bj h8 n0 (Nat.le_trans (Nat.le_trans Z0 E6.1) (Nat.le_of_eq W8.size.symm)) ((SJ.ext E6).wr W8) ((SC.ext E6).wr W8) ((SB.ext E6).wr W8) ((BJ.ext E6).other W8 (Nat.ne_of_lt (Nat.lt_of_lt_of_le BJ.lt (Nat.le_of_eq g6.symm)))) V8_b6) hZ (hw _ (List.mem_of_getElem? (i := 5) rfl)) (hw _ (List.mem_of_getElem? (i := 4) rfl)) (by decide) (by decide)) (g := (mkF m 54 #[.val (.int p0), .val (.int p1), .val (.int p2), .val (.int ((p2 &&& (2147483647 : Int32)) % (3 : Int32))), .val (.ref b6), .unset, .unset] [(.ref b6)])) rfl (by rw [hml]; rfl) (argsL := [(.ref b6)]) (rest := []) (lenOf pd_1 rfl) rfl (by show 2 * 0 + _ ≤ _; exact Nat.le_of_eq rfl) (hb hby at_54) (fun _ _ => ⟨rfl, e8, (by decide : 1 + 2 ≤ _), (by decide : 1 + 32 ≤ _)⟩)
      dsimp only [Pt.U, Pt.locs, Pt.cells, Pt.slots] at X9 l9 y9 z9 st9 hQ9 hS9 hgr9
      subst l9 y9 z9
      obtain ⟨X9, hS, hZ, hown⟩ := rebS hS (by rw [e8]; exact (Nat.le_trans (Nat.le_trans hk E6.1) (Nat.le_of_eq W8.size.symm))) X9 hS9 hgr9 hZ hown
      have hk : T9.heap.size ≤ T9.heap.size := Nat.le_refl _
      obtain ⟨rfl, N9q, E9q⟩ := hQ9
      have N9 := Fr.app N8 N9q
      refine OEnds.tr (g' := (mkF m 57 #[.val (.int p0), .val (.int p1), .val (.int p2), .val (.int ((p2 &&& (2147483647 : Int32)) % (3 : Int32))), .val (.ref b6), .unset, .unset] [(if f3 (((p0.toInt8.toInt32).toInt8.toInt32) &&& (255 : Int32)) = 0 then .ref cc else .ref jj)])) st9 ?_
      refine OEnds.go (g' := (mkF m 59 #[.val (.int p0), .val (.int p1), .val (.int p2), .val (.int ((p2 &&& (2147483647 : Int32)) % (3 : Int32))), .val (.ref b6), .val (if f3 (((p0.toInt8.toInt32).toInt8.toInt32) &&& (255 : Int32)) = 0 then .ref cc else .ref jj), .unset] [])) (fun t k => XS.astore X9.here hx rfl (hb hby at_57) rfl own_iref (l' := #[.val (.int p0), .val (.int p1), .val (.int p2), .val (.int ((p2 &&& (2147483647 : Int32)) % (3 : Int32))), .val (.ref b6), .val (if f3 (((p0.toInt8.toInt32).toInt8.toInt32) &&& (255 : Int32)) = 0 then .ref cc else .ref jj), .unset]) (XS.store1 rfl (Or.inl rfl) (own_cat own_iref)) k) ?_
      refine OEnds.go (g' := (mkF m 60 #[.val (.int p0), .val (.int p1), .val (.int p2), .val (.int ((p2 &&& (2147483647 : Int32)) % (3 : Int32))), .val (.ref b6), .val (if f3 (((p0.toInt8.toInt32).toInt8.toInt32) &&& (255 : Int32)) = 0 then .ref cc else .ref jj), .unset] [(.int ((p2 &&& (2147483647 : Int32)) % (3 : Int32)))])) (fun t k => XS.iloadN X9.here hx rfl (hb hby at_59) rfl k) ?_
      refine OEnds.go (g' := (mkF m 71 #[.val (.int p0), .val (.int p1), .val (.int p2), .val (.int ((p2 &&& (2147483647 : Int32)) % (3 : Int32))), .val (.ref b6), .val (if f3 (((p0.toInt8.toInt32).toInt8.toInt32) &&& (255 : Int32)) = 0 then .ref cc else .ref jj), .unset] [])) (fun t k => XS.ifYes X9.here hx rfl (pc0 := 60) (pc' := 71) rfl (hb hby at_60) rfl ((if0 _ _).trans (feq c8_1).2) (by decide) (by decide) k) ?_
      refine OEnds.go (g' := (mkF m 72 #[.val (.int p0), .val (.int p1), .val (.int p2), .val (.int ((p2 &&& (2147483647 : Int32)) % (3 : Int32))), .val (.ref b6), .val (if f3 (((p0.toInt8.toInt32).toInt8.toInt32) &&& (255 : Int32)) = 0 then .ref cc else .ref jj), .unset] [(.int p0)])) (fun t k => XS.iloadN X9.here hx rfl (hb hby at_71) rfl k) ?_
      refine OEnds.go (g' := (mkF m 75 #[.val (.int p0), .val (.int p1), .val (.int p2), .val (.int ((p2 &&& (2147483647 : Int32)) % (3 : Int32))), .val (.ref b6), .val (if f3 (((p0.toInt8.toInt32).toInt8.toInt32) &&& (255 : Int32)) = 0 then .ref cc else .ref jj), .unset] [(.int (255 : Int32)), (.int p0)])) (fun t k => XS.sipush X9.here hx rfl (hb hby at_72) k) ?_
      refine OEnds.go (g' := (mkF m 76 #[.val (.int p0), .val (.int p1), .val (.int p2), .val (.int ((p2 &&& (2147483647 : Int32)) % (3 : Int32))), .val (.ref b6), .val (if f3 (((p0.toInt8.toInt32).toInt8.toInt32) &&& (255 : Int32)) = 0 then .ref cc else .ref jj), .unset] [(.int (p0 &&& (255 : Int32)))])) (fun t k => XS.iand X9.here hx rfl (hb hby at_75) rfl k) ?_
      obtain ⟨_, _, ⟨T10, L10, k10, n10⟩, -, X10, ⟨Lc10, hQ10, l10, y10, z10⟩, st10⟩ := Jvm.LawKit.callS X9 hx (y := (⟨"com/example/gata/gata/model/PayloadFormatOfPinLaw", "beginsJson", "(I)Z"⟩ : MethodName)) hown (mvT hZ (hw _ (List.mem_of_getElem? (i := 21) rfl))) (mvT hZ (hw _ (List.mem_of_getElem? (i := 22) rfl))) (mvT hZ (hw _ (List.mem_of_getElem? (i := 23) rfl))) (mvT hZ (hw _ (List.mem_of_getElem? (i := 24) rfl))) (by decide) (backOf (W := 0) (rm3 l Z a0 hw [] (p0 &&& (255 : Int32)) T9.heap n0 (Nat.le_trans (Nat.le_trans (Nat.le_trans Z0 E6.1) (Nat.le_of_eq W8.size.symm)) E9q.1)) hZ (hw _ (List.mem_of_getElem? (i := 24) rfl)) (hw _ (List.mem_of_getElem? (i := 23) rfl)) (by decide) (by decide)) (g := (mkF m 76 #[.val (.int p0), .val (.int p1), .val (.int p2), .val (.int ((p2 &&& (2147483647 : Int32)) % (3 : Int32))), .val (.ref b6), .val (if f3 (((p0.toInt8.toInt32).toInt8.toInt32) &&& (255 : Int32)) = 0 then .ref cc else .ref jj), .unset] [(.int (p0 &&& (255 : Int32)))])) rfl (by rw [hml]; rfl) (argsL := [(.int (p0 &&& (255 : Int32)))]) (rest := []) (lenOf pd_2 rfl) rfl (by show 2 * 0 + _ ≤ _; exact Nat.le_of_eq rfl) (hb hby at_76) (fun _ _ => ⟨rfl, rfl, (by decide : 3 + 0 ≤ _), (by decide : 33 + 0 ≤ _)⟩)
      dsimp only [Pt.U, Pt.locs, Pt.cells, Pt.slots] at X10 l10 y10 z10 st10 hQ10
      subst l10 y10 z10
      obtain ⟨rfl, N10q, e10⟩ := hQ10
      have N10 := Fr.app N9 N10q
      refine OEnds.go (g' := (mkF m 79 #[.val (.int p0), .val (.int p1), .val (.int p2), .val (.int ((p2 &&& (2147483647 : Int32)) % (3 : Int32))), .val (.ref b6), .val (if f3 (((p0.toInt8.toInt32).toInt8.toInt32) &&& (255 : Int32)) = 0 then .ref cc else .ref jj), .unset] [(.int (f3 (p0 &&& (255 : Int32))))])) st10 ?_
      by_cases c79_11 : (f3 (p0 &&& (255 : Int32))) = (0 : Int32)
      · -- yes
        refine OEnds.go (g' := (mkF m 90 #[.val (.int p0), .val (.int p1), .val (.int p2), .val (.int ((p2 &&& (2147483647 : Int32)) % (3 : Int32))), .val (.ref b6), .val (if f3 (((p0.toInt8.toInt32).toInt8.toInt32) &&& (255 : Int32)) = 0 then .ref cc else .ref jj), .unset] [])) (fun t k => XS.ifYes X10.here hx rfl (pc0 := 79) (pc' := 90) rfl (hb hby at_79) rfl ((if0 _ _).trans (teq c79_11).1) (by decide) (by decide) k) ?_
        obtain ⟨T12, X12, e12, st12⟩ := getS2 X10 hx hZ hown (host := "") (Or.inl (hw _ (List.mem_of_getElem? (i := 25) rfl))) Via.refl e10 (((SC.ext E6).wr W8).ext E9q) (g := (mkF m 90 #[.val (.int p0), .val (.int p1), .val (.int p2), .val (.int ((p2 &&& (2147483647 : Int32)) % (3 : Int32))), .val (.ref b6), .val (if f3 (((p0.toInt8.toInt32).toInt8.toInt32) &&& (255 : Int32)) = 0 then .ref cc else .ref jj), .unset] [])) rfl (hb hby at_90)
        refine OEnds.go (g' := (mkF m 93 #[.val (.int p0), .val (.int p1), .val (.int p2), .val (.int ((p2 &&& (2147483647 : Int32)) % (3 : Int32))), .val (.ref b6), .val (if f3 (((p0.toInt8.toInt32).toInt8.toInt32) &&& (255 : Int32)) = 0 then .ref cc else .ref jj), .unset] [(.ref cc)])) st12 ?_
        refine OEnds.go (g' := (mkF m 95 #[.val (.int p0), .val (.int p1), .val (.int p2), .val (.int ((p2 &&& (2147483647 : Int32)) % (3 : Int32))), .val (.ref b6), .val (if f3 (((p0.toInt8.toInt32).toInt8.toInt32) &&& (255 : Int32)) = 0 then .ref cc else .ref jj), .val (.ref cc)] [])) (fun t k => XS.astore X12.here hx rfl (hb hby at_93) rfl rfl (l' := #[.val (.int p0), .val (.int p1), .val (.int p2), .val (.int ((p2 &&& (2147483647 : Int32)) % (3 : Int32))), .val (.ref b6), .val (if f3 (((p0.toInt8.toInt32).toInt8.toInt32) &&& (255 : Int32)) = 0 then .ref cc else .ref jj), .val (.ref cc)]) rfl k) ?_
        refine OEnds.go (g' := (mkF m 97 #[.val (.int p0), .val (.int p1), .val (.int p2), .val (.int ((p2 &&& (2147483647 : Int32)) % (3 : Int32))), .val (.ref b6), .val (if f3 (((p0.toInt8.toInt32).toInt8.toInt32) &&& (255 : Int32)) = 0 then .ref cc else .ref jj), .val (.ref cc)] [(if f3 (((p0.toInt8.toInt32).toInt8.toInt32) &&& (255 : Int32)) = 0 then .ref cc else .ref jj)])) (fun t k => XS.aload X12.here hx rfl (hb hby at_95) rfl own_iref k) ?_
        refine OEnds.go (g' := (mkF m 99 #[.val (.int p0), .val (.int p1), .val (.int p2), .val (.int ((p2 &&& (2147483647 : Int32)) % (3 : Int32))), .val (.ref b6), .val (if f3 (((p0.toInt8.toInt32).toInt8.toInt32) &&& (255 : Int32)) = 0 then .ref cc else .ref jj), .val (.ref cc)] [(.ref cc), (if f3 (((p0.toInt8.toInt32).toInt8.toInt32) &&& (255 : Int32)) = 0 then .ref cc else .ref jj)])) (fun t k => XS.aload X12.here hx rfl (hb hby at_97) rfl rfl k) ?_
        refine OEnds.go (g' := (mkF m 102 #[.val (.int p0), .val (.int p1), .val (.int p2), .val (.int ((p2 &&& (2147483647 : Int32)) % (3 : Int32))), .val (.ref b6), .val (if f3 (((p0.toInt8.toInt32).toInt8.toInt32) &&& (255 : Int32)) = 0 then .ref cc else .ref jj), .val (.ref cc)] [])) (fun t k => Jvm.RoadKit.acmp (g := (mkF m 99 #[.val (.int p0), .val (.int p1), .val (.int p2), .val (.int ((p2 &&& (2147483647 : Int32)) % (3 : Int32))), .val (.ref b6), .val (if f3 (((p0.toInt8.toInt32).toInt8.toInt32) &&& (255 : Int32)) = 0 then .ref cc else .ref jj), .val (.ref cc)] [(.ref cc), (if f3 (((p0.toInt8.toInt32).toInt8.toInt32) &&& (255 : Int32)) = 0 then .ref cc else .ref jj)])) X12 hx rfl own_iref rfl (pc0 := 99) (pc' := 102) (same := true) rfl (hb hby at_99) rfl (decide_eq_true (by rw [own_i2b, if_pos c79_11])) (by decide) (by decide) k) ?_
        refine OEnds.go (g' := (mkF m 103 #[.val (.int p0), .val (.int p1), .val (.int p2), .val (.int ((p2 &&& (2147483647 : Int32)) % (3 : Int32))), .val (.ref b6), .val (if f3 (((p0.toInt8.toInt32).toInt8.toInt32) &&& (255 : Int32)) = 0 then .ref cc else .ref jj), .val (.ref cc)] [(.int (1 : Int32))])) (fun t k => XS.iconst X12.here hx rfl (hb hby at_102) k) ?_
        refine OEnds.go (g' := (mkF m 107 #[.val (.int p0), .val (.int p1), .val (.int p2), .val (.int ((p2 &&& (2147483647 : Int32)) % (3 : Int32))), .val (.ref b6), .val (if f3 (((p0.toInt8.toInt32).toInt8.toInt32) &&& (255 : Int32)) = 0 then .ref cc else .ref jj), .val (.ref cc)] [(.int (1 : Int32))])) (fun t k => XS.goto X12.here hx rfl (pc0 := 103) (pc' := 107) rfl (hb hby at_103) (by decide) (by decide) k) ?_
        exact OEnds.outNW X12 Bd.notSynchronized hS (by rw [e12]; exact hk) hx (t := .boolean) Bd.returns (by simp) (hb hby at_107) ⟨rfl, N10⟩ (by decide) (by decide)
      · -- no
        refine OEnds.go (g' := (mkF m 82 #[.val (.int p0), .val (.int p1), .val (.int p2), .val (.int ((p2 &&& (2147483647 : Int32)) % (3 : Int32))), .val (.ref b6), .val (if f3 (((p0.toInt8.toInt32).toInt8.toInt32) &&& (255 : Int32)) = 0 then .ref cc else .ref jj), .unset] [])) (fun t k => XS.ifNo X10.here hx rfl (hb hby at_79) rfl ((if0 _ _).trans (feq c79_11).1) k) ?_
        obtain ⟨T13, X13, e13, st13⟩ := getS2 X10 hx hZ hown (host := "") (Or.inl (hw _ (List.mem_of_getElem? (i := 28) rfl))) Via.refl e10 (((SJ.ext E6).wr W8).ext E9q) (g := (mkF m 82 #[.val (.int p0), .val (.int p1), .val (.int p2), .val (.int ((p2 &&& (2147483647 : Int32)) % (3 : Int32))), .val (.ref b6), .val (if f3 (((p0.toInt8.toInt32).toInt8.toInt32) &&& (255 : Int32)) = 0 then .ref cc else .ref jj), .unset] [])) rfl (hb hby at_82)
        refine OEnds.go (g' := (mkF m 85 #[.val (.int p0), .val (.int p1), .val (.int p2), .val (.int ((p2 &&& (2147483647 : Int32)) % (3 : Int32))), .val (.ref b6), .val (if f3 (((p0.toInt8.toInt32).toInt8.toInt32) &&& (255 : Int32)) = 0 then .ref cc else .ref jj), .unset] [(.ref jj)])) st13 ?_
        refine OEnds.go (g' := (mkF m 87 #[.val (.int p0), .val (.int p1), .val (.int p2), .val (.int ((p2 &&& (2147483647 : Int32)) % (3 : Int32))), .val (.ref b6), .val (if f3 (((p0.toInt8.toInt32).toInt8.toInt32) &&& (255 : Int32)) = 0 then .ref cc else .ref jj), .val (.ref jj)] [])) (fun t k => XS.astore X13.here hx rfl (hb hby at_85) rfl rfl (l' := #[.val (.int p0), .val (.int p1), .val (.int p2), .val (.int ((p2 &&& (2147483647 : Int32)) % (3 : Int32))), .val (.ref b6), .val (if f3 (((p0.toInt8.toInt32).toInt8.toInt32) &&& (255 : Int32)) = 0 then .ref cc else .ref jj), .val (.ref jj)]) rfl k) ?_
        refine OEnds.go (g' := (mkF m 95 #[.val (.int p0), .val (.int p1), .val (.int p2), .val (.int ((p2 &&& (2147483647 : Int32)) % (3 : Int32))), .val (.ref b6), .val (if f3 (((p0.toInt8.toInt32).toInt8.toInt32) &&& (255 : Int32)) = 0 then .ref cc else .ref jj), .val (.ref jj)] [])) (fun t k => XS.goto X13.here hx rfl (pc0 := 87) (pc' := 95) rfl (hb hby at_87) (by decide) (by decide) k) ?_
        refine OEnds.go (g' := (mkF m 97 #[.val (.int p0), .val (.int p1), .val (.int p2), .val (.int ((p2 &&& (2147483647 : Int32)) % (3 : Int32))), .val (.ref b6), .val (if f3 (((p0.toInt8.toInt32).toInt8.toInt32) &&& (255 : Int32)) = 0 then .ref cc else .ref jj), .val (.ref jj)] [(if f3 (((p0.toInt8.toInt32).toInt8.toInt32) &&& (255 : Int32)) = 0 then .ref cc else .ref jj)])) (fun t k => XS.aload X13.here hx rfl (hb hby at_95) rfl own_iref k) ?_
        refine OEnds.go (g' := (mkF m 99 #[.val (.int p0), .val (.int p1), .val (.int p2), .val (.int ((p2 &&& (2147483647 : Int32)) % (3 : Int32))), .val (.ref b6), .val (if f3 (((p0.toInt8.toInt32).toInt8.toInt32) &&& (255 : Int32)) = 0 then .ref cc else .ref jj), .val (.ref jj)] [(.ref jj), (if f3 (((p0.toInt8.toInt32).toInt8.toInt32) &&& (255 : Int32)) = 0 then .ref cc else .ref jj)])) (fun t k => XS.aload X13.here hx rfl (hb hby at_97) rfl rfl k) ?_
        refine OEnds.go (g' := (mkF m 102 #[.val (.int p0), .val (.int p1), .val (.int p2), .val (.int ((p2 &&& (2147483647 : Int32)) % (3 : Int32))), .val (.ref b6), .val (if f3 (((p0.toInt8.toInt32).toInt8.toInt32) &&& (255 : Int32)) = 0 then .ref cc else .ref jj), .val (.ref jj)] [])) (fun t k => Jvm.RoadKit.acmp (g := (mkF m 99 #[.val (.int p0), .val (.int p1), .val (.int p2), .val (.int ((p2 &&& (2147483647 : Int32)) % (3 : Int32))), .val (.ref b6), .val (if f3 (((p0.toInt8.toInt32).toInt8.toInt32) &&& (255 : Int32)) = 0 then .ref cc else .ref jj), .val (.ref jj)] [(.ref jj), (if f3 (((p0.toInt8.toInt32).toInt8.toInt32) &&& (255 : Int32)) = 0 then .ref cc else .ref jj)])) X13 hx rfl own_iref rfl (pc0 := 99) (pc' := 102) (same := true) rfl (hb hby at_99) rfl (decide_eq_true (by rw [own_i2b, if_neg c79_11])) (by decide) (by decide) k) ?_
        refine OEnds.go (g' := (mkF m 103 #[.val (.int p0), .val (.int p1), .val (.int p2), .val (.int ((p2 &&& (2147483647 : Int32)) % (3 : Int32))), .val (.ref b6), .val (if f3 (((p0.toInt8.toInt32).toInt8.toInt32) &&& (255 : Int32)) = 0 then .ref cc else .ref jj), .val (.ref jj)] [(.int (1 : Int32))])) (fun t k => XS.iconst X13.here hx rfl (hb hby at_102) k) ?_
        refine OEnds.go (g' := (mkF m 107 #[.val (.int p0), .val (.int p1), .val (.int p2), .val (.int ((p2 &&& (2147483647 : Int32)) % (3 : Int32))), .val (.ref b6), .val (if f3 (((p0.toInt8.toInt32).toInt8.toInt32) &&& (255 : Int32)) = 0 then .ref cc else .ref jj), .val (.ref jj)] [(.int (1 : Int32))])) (fun t k => XS.goto X13.here hx rfl (pc0 := 103) (pc' := 107) rfl (hb hby at_103) (by decide) (by decide) k) ?_
        exact OEnds.outNW X13 Bd.notSynchronized hS (by rw [e13]; exact hk) hx (t := .boolean) Bd.returns (by simp) (hb hby at_107) ⟨rfl, N10⟩ (by decide) (by decide)
    · -- no
      refine OEnds.go (g' := (mkF m 37 #[.val (.int p0), .val (.int p1), .val (.int p2), .val (.int ((p2 &&& (2147483647 : Int32)) % (3 : Int32))), .unset, .unset, .unset] [])) (fun t k => XS.icmpYes X0.here hx rfl (pc0 := 21) (pc' := 37) rfl (hb hby at_21) rfl (feq c21_5).2 (by decide) (by decide) k) ?_
      refine OEnds.go (g' := (mkF m 38 #[.val (.int p0), .val (.int p1), .val (.int p2), .val (.int ((p2 &&& (2147483647 : Int32)) % (3 : Int32))), .unset, .unset, .unset] [(.int (2 : Int32))])) (fun t k => XS.iconst X0.here hx rfl (hb hby at_37) k) ?_
      obtain ⟨T14, h14, k14, X14, e14, E14, A14, st14⟩ := newP X0 hx hZ (hw _ (List.mem_of_getElem? (i := 1) rfl)) e0 (g := (mkF m 38 #[.val (.int p0), .val (.int p1), .val (.int p2), .val (.int ((p2 &&& (2147483647 : Int32)) % (3 : Int32))), .unset, .unset, .unset] [(.int (2 : Int32))])) rfl (hb hby at_38) rfl (by decide) (cap := 2) (by decide) (by decide) (by decide) (by decide)
      obtain ⟨b14, g14⟩ : ∃ z, z = h0.size := ⟨_, rfl⟩
      rw [← g14] at A14 st14
      have g_b14 : n0 ≤ b14 := Nat.le_trans Z0 (Nat.le_of_eq g14.symm)
      have V_b14 : Arv Z h14 b14 k14 .byte (2 : Int32) [(.int (0 : Int32)), (.int (0 : Int32))] (.int (0 : Int32)) := (Arv.new A14 (by decide)).pad (pad_rep [] (.int (0 : Int32)) 2)
      refine OEnds.go (g' := (mkF m 40 #[.val (.int p0), .val (.int p1), .val (.int p2), .val (.int ((p2 &&& (2147483647 : Int32)) % (3 : Int32))), .unset, .unset, .unset] [(.ref b14)])) st14 ?_
      refine OEnds.go (g' := (mkF m 41 #[.val (.int p0), .val (.int p1), .val (.int p2), .val (.int ((p2 &&& (2147483647 : Int32)) % (3 : Int32))), .unset, .unset, .unset] [(.ref b14), (.ref b14)])) (fun t k => XS.dup X14.here hx rfl (hb hby at_40) rfl rfl k) ?_
      refine OEnds.go (g' := (mkF m 42 #[.val (.int p0), .val (.int p1), .val (.int p2), .val (.int ((p2 &&& (2147483647 : Int32)) % (3 : Int32))), .unset, .unset, .unset] [(.int (0 : Int32)), (.ref b14), (.ref b14)])) (fun t k => XS.iconst X14.here hx rfl (hb hby at_41) k) ?_
      refine OEnds.go (g' := (mkF m 43 #[.val (.int p0), .val (.int p1), .val (.int p2), .val (.int ((p2 &&& (2147483647 : Int32)) % (3 : Int32))), .unset, .unset, .unset] [(.int p0), (.int (0 : Int32)), (.ref b14), (.ref b14)])) (fun t k => XS.iloadN X14.here hx rfl (hb hby at_42) rfl k) ?_
      refine OEnds.go (g' := (mkF m 44 #[.val (.int p0), .val (.int p1), .val (.int p2), .val (.int ((p2 &&& (2147483647 : Int32)) % (3 : Int32))), .unset, .unset, .unset] [(.int (p0.toInt8.toInt32)), (.int (0 : Int32)), (.ref b14), (.ref b14)])) (fun t k => XS.i2b X14.here hx rfl (hb hby at_43) rfl k) ?_
      obtain ⟨cl15, Ar15, qa15, Sa15, Na15, Ha15, Ga15⟩ := @id _ V_b14
      have hin15 : ¬ ((0 : Int32) < 0 ∨ cl15.slots.size ≤ ((0 : Int32)).toNatClampNeg) := inb_of Sa15 ⟨by decide, by decide⟩
      obtain ⟨T16, h16, X16, e16, W16, st16⟩ := stB X14 hx hZ e14 Ar15 (j := (0 : Int32)) hin15 (g := (mkF m 44 #[.val (.int p0), .val (.int p1), .val (.int p2), .val (.int ((p2 &&& (2147483647 : Int32)) % (3 : Int32))), .unset, .unset, .unset] [(.int (p0.toInt8.toInt32)), (.int (0 : Int32)), (.ref b14), (.ref b14)])) rfl rfl (hb hby at_44)
      have N16 := Fr.snoc X16 N0 g_b14
      have V16_b14 : Arv Z h16 b14 k14 .byte (2 : Int32) [(.int ((p0.toInt8.toInt32).toInt8.toInt32)), (.int (0 : Int32))] (.int (0 : Int32)) := Arv.set Ar15 qa15 Sa15 Na15 Ha15 Ga15 (fits_nar_byte _) W16 0 rfl (Nat.le_of_ble_eq_true rfl)
      refine OEnds.go (g' := (mkF m 45 #[.val (.int p0), .val (.int p1), .val (.int p2), .val (.int ((p2 &&& (2147483647 : Int32)) % (3 : Int32))), .unset, .unset, .unset] [(.ref b14)])) st16 ?_
      refine OEnds.go (g' := (mkF m 46 #[.val (.int p0), .val (.int p1), .val (.int p2), .val (.int ((p2 &&& (2147483647 : Int32)) % (3 : Int32))), .unset, .unset, .unset] [(.ref b14), (.ref b14)])) (fun t k => XS.dup X16.here hx rfl (hb hby at_45) rfl rfl k) ?_
      refine OEnds.go (g' := (mkF m 47 #[.val (.int p0), .val (.int p1), .val (.int p2), .val (.int ((p2 &&& (2147483647 : Int32)) % (3 : Int32))), .unset, .unset, .unset] [(.int (1 : Int32)), (.ref b14), (.ref b14)])) (fun t k => XS.iconst X16.here hx rfl (hb hby at_46) k) ?_
      refine OEnds.go (g' := (mkF m 48 #[.val (.int p0), .val (.int p1), .val (.int p2), .val (.int ((p2 &&& (2147483647 : Int32)) % (3 : Int32))), .unset, .unset, .unset] [(.int p1), (.int (1 : Int32)), (.ref b14), (.ref b14)])) (fun t k => XS.iloadN X16.here hx rfl (hb hby at_47) rfl k) ?_
      refine OEnds.go (g' := (mkF m 49 #[.val (.int p0), .val (.int p1), .val (.int p2), .val (.int ((p2 &&& (2147483647 : Int32)) % (3 : Int32))), .unset, .unset, .unset] [(.int (p1.toInt8.toInt32)), (.int (1 : Int32)), (.ref b14), (.ref b14)])) (fun t k => XS.i2b X16.here hx rfl (hb hby at_48) rfl k) ?_
      obtain ⟨cl17, Ar17, qa17, Sa17, Na17, Ha17, Ga17⟩ := @id _ V16_b14
      have hin17 : ¬ ((1 : Int32) < 0 ∨ cl17.slots.size ≤ ((1 : Int32)).toNatClampNeg) := inb_of Sa17 ⟨by decide, by decide⟩
      obtain ⟨T18, h18, X18, e18, W18, st18⟩ := stB X16 hx hZ e16 Ar17 (j := (1 : Int32)) hin17 (g := (mkF m 49 #[.val (.int p0), .val (.int p1), .val (.int p2), .val (.int ((p2 &&& (2147483647 : Int32)) % (3 : Int32))), .unset, .unset, .unset] [(.int (p1.toInt8.toInt32)), (.int (1 : Int32)), (.ref b14), (.ref b14)])) rfl rfl (hb hby at_49)
      have N18 := Fr.snoc X18 N16 g_b14
      have V18_b14 : Arv Z h18 b14 k14 .byte (2 : Int32) [(.int ((p0.toInt8.toInt32).toInt8.toInt32)), (.int ((p1.toInt8.toInt32).toInt8.toInt32))] (.int (0 : Int32)) := Arv.set Ar17 qa17 Sa17 Na17 Ha17 Ga17 (fits_nar_byte _) W18 1 rfl (Nat.le_of_ble_eq_true rfl)
      refine OEnds.go (g' := (mkF m 50 #[.val (.int p0), .val (.int p1), .val (.int p2), .val (.int ((p2 &&& (2147483647 : Int32)) % (3 : Int32))), .unset, .unset, .unset] [(.ref b14)])) st18 ?_
      refine OEnds.go (g' := (mkF m 52 #[.val (.int p0), .val (.int p1), .val (.int p2), .val (.int ((p2 &&& (2147483647 : Int32)) % (3 : Int32))), .val (.ref b14), .unset, .unset] [])) (fun t k => XS.astore X18.here hx rfl (hb hby at_50) rfl rfl (l' := #[.val (.int p0), .val (.int p1), .val (.int p2), .val (.int ((p2 &&& (2147483647 : Int32)) % (3 : Int32))), .val (.ref b14), .unset, .unset]) rfl k) ?_
      refine OEnds.go (g' := (mkF m 54 #[.val (.int p0), .val (.int p1), .val (.int p2), .val (.int ((p2 &&& (2147483647 : Int32)) % (3 : Int32))), .val (.ref b14), .unset, .unset] [(.ref b14)])) (fun t k => XS.aload X18.here hx rfl (hb hby at_52) rfl rfl k) ?_
      obtain ⟨_, _, ⟨T19, L19, k19, n19⟩, -, X19, hS19, hgr19, ⟨Lc19, hQ19, l19, y19, z19⟩, st19⟩ := callSS X18 hx (y := (⟨"com/example/gata/gata/model/PayloadFormat", "of", "([B)Lcom/example/gata/gata/model/PayloadFormat;"⟩ : MethodName)) hown (mvT hZ (hw _ (List.mem_of_getElem? (i := 2) rfl))) (mvT hZ (hw _ (List.mem_of_getElem? (i := 3) rfl))) (mvT hZ (hw _ (List.mem_of_getElem? (i := 4) rfl))) (mvT hZ (hw _ (List.mem_of_getElem? (i := 5) rfl))) (by decide) (backOfS (W := 0) (rmO2 l Z a0 hw [] b14 k14 ((p0.toInt8.toInt32).toInt8.toInt32) ((p1.toInt8.toInt32).toInt8.toInt32) jj cc bj h18 n0 (Nat.le_trans (Nat.le_trans (Nat.le_trans Z0 E14.1) (Nat.le_of_eq W16.size.symm)) (Nat.le_of_eq W18.size.symm)) (((SJ.ext E14).wr W16).wr W18) (((SC.ext E14).wr W16).wr W18) (((SB.ext E14).wr W16).wr W18) (((BJ.ext E14).other W16 (Nat.ne_of_lt (Nat.lt_of_lt_of_le BJ.lt (Nat.le_of_eq g14.symm)))).other W18 (Nat.ne_of_lt (Nat.lt_of_lt_of_le BJ.lt (Nat.le_of_eq g14.symm)))) V18_b14) hZ (hw _ (List.mem_of_getElem? (i := 5) rfl)) (hw _ (List.mem_of_getElem? (i := 4) rfl)) (by decide) (by decide)) (g := (mkF m 54 #[.val (.int p0), .val (.int p1), .val (.int p2), .val (.int ((p2 &&& (2147483647 : Int32)) % (3 : Int32))), .val (.ref b14), .unset, .unset] [(.ref b14)])) rfl (by rw [hml]; rfl) (argsL := [(.ref b14)]) (rest := []) (lenOf pd_1 rfl) rfl (by show 2 * 0 + _ ≤ _; exact Nat.le_of_eq rfl) (hb hby at_54) (fun _ _ => ⟨rfl, e18, (by decide : 1 + 2 ≤ _), (by decide : 2 + 32 ≤ _)⟩)
      dsimp only [Pt.U, Pt.locs, Pt.cells, Pt.slots] at X19 l19 y19 z19 st19 hQ19 hS19 hgr19
      subst l19 y19 z19
      obtain ⟨X19, hS, hZ, hown⟩ := rebS hS (by rw [e18]; exact (Nat.le_trans (Nat.le_trans (Nat.le_trans hk E14.1) (Nat.le_of_eq W16.size.symm)) (Nat.le_of_eq W18.size.symm))) X19 hS19 hgr19 hZ hown
      have hk : T19.heap.size ≤ T19.heap.size := Nat.le_refl _
      obtain ⟨rfl, N19q, E19q⟩ := hQ19
      have N19 := Fr.app N18 N19q
      refine OEnds.tr (g' := (mkF m 57 #[.val (.int p0), .val (.int p1), .val (.int p2), .val (.int ((p2 &&& (2147483647 : Int32)) % (3 : Int32))), .val (.ref b14), .unset, .unset] [(if f3 (((p0.toInt8.toInt32).toInt8.toInt32) &&& (255 : Int32)) = 0 then .ref cc else .ref jj)])) st19 ?_
      refine OEnds.go (g' := (mkF m 59 #[.val (.int p0), .val (.int p1), .val (.int p2), .val (.int ((p2 &&& (2147483647 : Int32)) % (3 : Int32))), .val (.ref b14), .val (if f3 (((p0.toInt8.toInt32).toInt8.toInt32) &&& (255 : Int32)) = 0 then .ref cc else .ref jj), .unset] [])) (fun t k => XS.astore X19.here hx rfl (hb hby at_57) rfl own_iref (l' := #[.val (.int p0), .val (.int p1), .val (.int p2), .val (.int ((p2 &&& (2147483647 : Int32)) % (3 : Int32))), .val (.ref b14), .val (if f3 (((p0.toInt8.toInt32).toInt8.toInt32) &&& (255 : Int32)) = 0 then .ref cc else .ref jj), .unset]) (XS.store1 rfl (Or.inl rfl) (own_cat own_iref)) k) ?_
      refine OEnds.go (g' := (mkF m 60 #[.val (.int p0), .val (.int p1), .val (.int p2), .val (.int ((p2 &&& (2147483647 : Int32)) % (3 : Int32))), .val (.ref b14), .val (if f3 (((p0.toInt8.toInt32).toInt8.toInt32) &&& (255 : Int32)) = 0 then .ref cc else .ref jj), .unset] [(.int ((p2 &&& (2147483647 : Int32)) % (3 : Int32)))])) (fun t k => XS.iloadN X19.here hx rfl (hb hby at_59) rfl k) ?_
      refine OEnds.go (g' := (mkF m 71 #[.val (.int p0), .val (.int p1), .val (.int p2), .val (.int ((p2 &&& (2147483647 : Int32)) % (3 : Int32))), .val (.ref b14), .val (if f3 (((p0.toInt8.toInt32).toInt8.toInt32) &&& (255 : Int32)) = 0 then .ref cc else .ref jj), .unset] [])) (fun t k => XS.ifYes X19.here hx rfl (pc0 := 60) (pc' := 71) rfl (hb hby at_60) rfl ((if0 _ _).trans (feq c8_1).2) (by decide) (by decide) k) ?_
      refine OEnds.go (g' := (mkF m 72 #[.val (.int p0), .val (.int p1), .val (.int p2), .val (.int ((p2 &&& (2147483647 : Int32)) % (3 : Int32))), .val (.ref b14), .val (if f3 (((p0.toInt8.toInt32).toInt8.toInt32) &&& (255 : Int32)) = 0 then .ref cc else .ref jj), .unset] [(.int p0)])) (fun t k => XS.iloadN X19.here hx rfl (hb hby at_71) rfl k) ?_
      refine OEnds.go (g' := (mkF m 75 #[.val (.int p0), .val (.int p1), .val (.int p2), .val (.int ((p2 &&& (2147483647 : Int32)) % (3 : Int32))), .val (.ref b14), .val (if f3 (((p0.toInt8.toInt32).toInt8.toInt32) &&& (255 : Int32)) = 0 then .ref cc else .ref jj), .unset] [(.int (255 : Int32)), (.int p0)])) (fun t k => XS.sipush X19.here hx rfl (hb hby at_72) k) ?_
      refine OEnds.go (g' := (mkF m 76 #[.val (.int p0), .val (.int p1), .val (.int p2), .val (.int ((p2 &&& (2147483647 : Int32)) % (3 : Int32))), .val (.ref b14), .val (if f3 (((p0.toInt8.toInt32).toInt8.toInt32) &&& (255 : Int32)) = 0 then .ref cc else .ref jj), .unset] [(.int (p0 &&& (255 : Int32)))])) (fun t k => XS.iand X19.here hx rfl (hb hby at_75) rfl k) ?_
      obtain ⟨_, _, ⟨T20, L20, k20, n20⟩, -, X20, ⟨Lc20, hQ20, l20, y20, z20⟩, st20⟩ := Jvm.LawKit.callS X19 hx (y := (⟨"com/example/gata/gata/model/PayloadFormatOfPinLaw", "beginsJson", "(I)Z"⟩ : MethodName)) hown (mvT hZ (hw _ (List.mem_of_getElem? (i := 21) rfl))) (mvT hZ (hw _ (List.mem_of_getElem? (i := 22) rfl))) (mvT hZ (hw _ (List.mem_of_getElem? (i := 23) rfl))) (mvT hZ (hw _ (List.mem_of_getElem? (i := 24) rfl))) (by decide) (backOf (W := 0) (rm3 l Z a0 hw [] (p0 &&& (255 : Int32)) T19.heap n0 (Nat.le_trans (Nat.le_trans (Nat.le_trans (Nat.le_trans Z0 E14.1) (Nat.le_of_eq W16.size.symm)) (Nat.le_of_eq W18.size.symm)) E19q.1)) hZ (hw _ (List.mem_of_getElem? (i := 24) rfl)) (hw _ (List.mem_of_getElem? (i := 23) rfl)) (by decide) (by decide)) (g := (mkF m 76 #[.val (.int p0), .val (.int p1), .val (.int p2), .val (.int ((p2 &&& (2147483647 : Int32)) % (3 : Int32))), .val (.ref b14), .val (if f3 (((p0.toInt8.toInt32).toInt8.toInt32) &&& (255 : Int32)) = 0 then .ref cc else .ref jj), .unset] [(.int (p0 &&& (255 : Int32)))])) rfl (by rw [hml]; rfl) (argsL := [(.int (p0 &&& (255 : Int32)))]) (rest := []) (lenOf pd_2 rfl) rfl (by show 2 * 0 + _ ≤ _; exact Nat.le_of_eq rfl) (hb hby at_76) (fun _ _ => ⟨rfl, rfl, (by decide : 3 + 0 ≤ _), (by decide : 34 + 0 ≤ _)⟩)
      dsimp only [Pt.U, Pt.locs, Pt.cells, Pt.slots] at X20 l20 y20 z20 st20 hQ20
      subst l20 y20 z20
      obtain ⟨rfl, N20q, e20⟩ := hQ20
      have N20 := Fr.app N19 N20q
      refine OEnds.go (g' := (mkF m 79 #[.val (.int p0), .val (.int p1), .val (.int p2), .val (.int ((p2 &&& (2147483647 : Int32)) % (3 : Int32))), .val (.ref b14), .val (if f3 (((p0.toInt8.toInt32).toInt8.toInt32) &&& (255 : Int32)) = 0 then .ref cc else .ref jj), .unset] [(.int (f3 (p0 &&& (255 : Int32))))])) st20 ?_
      by_cases c79_21 : (f3 (p0 &&& (255 : Int32))) = (0 : Int32)
      · -- yes
        refine OEnds.go (g' := (mkF m 90 #[.val (.int p0), .val (.int p1), .val (.int p2), .val (.int ((p2 &&& (2147483647 : Int32)) % (3 : Int32))), .val (.ref b14), .val (if f3 (((p0.toInt8.toInt32).toInt8.toInt32) &&& (255 : Int32)) = 0 then .ref cc else .ref jj), .unset] [])) (fun t k => XS.ifYes X20.here hx rfl (pc0 := 79) (pc' := 90) rfl (hb hby at_79) rfl ((if0 _ _).trans (teq c79_21).1) (by decide) (by decide) k) ?_
        obtain ⟨T22, X22, e22, st22⟩ := getS2 X20 hx hZ hown (host := "") (Or.inl (hw _ (List.mem_of_getElem? (i := 25) rfl))) Via.refl e20 ((((SC.ext E14).wr W16).wr W18).ext E19q) (g := (mkF m 90 #[.val (.int p0), .val (.int p1), .val (.int p2), .val (.int ((p2 &&& (2147483647 : Int32)) % (3 : Int32))), .val (.ref b14), .val (if f3 (((p0.toInt8.toInt32).toInt8.toInt32) &&& (255 : Int32)) = 0 then .ref cc else .ref jj), .unset] [])) rfl (hb hby at_90)
        refine OEnds.go (g' := (mkF m 93 #[.val (.int p0), .val (.int p1), .val (.int p2), .val (.int ((p2 &&& (2147483647 : Int32)) % (3 : Int32))), .val (.ref b14), .val (if f3 (((p0.toInt8.toInt32).toInt8.toInt32) &&& (255 : Int32)) = 0 then .ref cc else .ref jj), .unset] [(.ref cc)])) st22 ?_
        refine OEnds.go (g' := (mkF m 95 #[.val (.int p0), .val (.int p1), .val (.int p2), .val (.int ((p2 &&& (2147483647 : Int32)) % (3 : Int32))), .val (.ref b14), .val (if f3 (((p0.toInt8.toInt32).toInt8.toInt32) &&& (255 : Int32)) = 0 then .ref cc else .ref jj), .val (.ref cc)] [])) (fun t k => XS.astore X22.here hx rfl (hb hby at_93) rfl rfl (l' := #[.val (.int p0), .val (.int p1), .val (.int p2), .val (.int ((p2 &&& (2147483647 : Int32)) % (3 : Int32))), .val (.ref b14), .val (if f3 (((p0.toInt8.toInt32).toInt8.toInt32) &&& (255 : Int32)) = 0 then .ref cc else .ref jj), .val (.ref cc)]) rfl k) ?_
        refine OEnds.go (g' := (mkF m 97 #[.val (.int p0), .val (.int p1), .val (.int p2), .val (.int ((p2 &&& (2147483647 : Int32)) % (3 : Int32))), .val (.ref b14), .val (if f3 (((p0.toInt8.toInt32).toInt8.toInt32) &&& (255 : Int32)) = 0 then .ref cc else .ref jj), .val (.ref cc)] [(if f3 (((p0.toInt8.toInt32).toInt8.toInt32) &&& (255 : Int32)) = 0 then .ref cc else .ref jj)])) (fun t k => XS.aload X22.here hx rfl (hb hby at_95) rfl own_iref k) ?_
        refine OEnds.go (g' := (mkF m 99 #[.val (.int p0), .val (.int p1), .val (.int p2), .val (.int ((p2 &&& (2147483647 : Int32)) % (3 : Int32))), .val (.ref b14), .val (if f3 (((p0.toInt8.toInt32).toInt8.toInt32) &&& (255 : Int32)) = 0 then .ref cc else .ref jj), .val (.ref cc)] [(.ref cc), (if f3 (((p0.toInt8.toInt32).toInt8.toInt32) &&& (255 : Int32)) = 0 then .ref cc else .ref jj)])) (fun t k => XS.aload X22.here hx rfl (hb hby at_97) rfl rfl k) ?_
        refine OEnds.go (g' := (mkF m 102 #[.val (.int p0), .val (.int p1), .val (.int p2), .val (.int ((p2 &&& (2147483647 : Int32)) % (3 : Int32))), .val (.ref b14), .val (if f3 (((p0.toInt8.toInt32).toInt8.toInt32) &&& (255 : Int32)) = 0 then .ref cc else .ref jj), .val (.ref cc)] [])) (fun t k => Jvm.RoadKit.acmp (g := (mkF m 99 #[.val (.int p0), .val (.int p1), .val (.int p2), .val (.int ((p2 &&& (2147483647 : Int32)) % (3 : Int32))), .val (.ref b14), .val (if f3 (((p0.toInt8.toInt32).toInt8.toInt32) &&& (255 : Int32)) = 0 then .ref cc else .ref jj), .val (.ref cc)] [(.ref cc), (if f3 (((p0.toInt8.toInt32).toInt8.toInt32) &&& (255 : Int32)) = 0 then .ref cc else .ref jj)])) X22 hx rfl own_iref rfl (pc0 := 99) (pc' := 102) (same := true) rfl (hb hby at_99) rfl (decide_eq_true (by rw [own_i2b, if_pos c79_21])) (by decide) (by decide) k) ?_
        refine OEnds.go (g' := (mkF m 103 #[.val (.int p0), .val (.int p1), .val (.int p2), .val (.int ((p2 &&& (2147483647 : Int32)) % (3 : Int32))), .val (.ref b14), .val (if f3 (((p0.toInt8.toInt32).toInt8.toInt32) &&& (255 : Int32)) = 0 then .ref cc else .ref jj), .val (.ref cc)] [(.int (1 : Int32))])) (fun t k => XS.iconst X22.here hx rfl (hb hby at_102) k) ?_
        refine OEnds.go (g' := (mkF m 107 #[.val (.int p0), .val (.int p1), .val (.int p2), .val (.int ((p2 &&& (2147483647 : Int32)) % (3 : Int32))), .val (.ref b14), .val (if f3 (((p0.toInt8.toInt32).toInt8.toInt32) &&& (255 : Int32)) = 0 then .ref cc else .ref jj), .val (.ref cc)] [(.int (1 : Int32))])) (fun t k => XS.goto X22.here hx rfl (pc0 := 103) (pc' := 107) rfl (hb hby at_103) (by decide) (by decide) k) ?_
        exact OEnds.outNW X22 Bd.notSynchronized hS (by rw [e22]; exact hk) hx (t := .boolean) Bd.returns (by simp) (hb hby at_107) ⟨rfl, N20⟩ (by decide) (by decide)
      · -- no
        refine OEnds.go (g' := (mkF m 82 #[.val (.int p0), .val (.int p1), .val (.int p2), .val (.int ((p2 &&& (2147483647 : Int32)) % (3 : Int32))), .val (.ref b14), .val (if f3 (((p0.toInt8.toInt32).toInt8.toInt32) &&& (255 : Int32)) = 0 then .ref cc else .ref jj), .unset] [])) (fun t k => XS.ifNo X20.here hx rfl (hb hby at_79) rfl ((if0 _ _).trans (feq c79_21).1) k) ?_
        obtain ⟨T23, X23, e23, st23⟩ := getS2 X20 hx hZ hown (host := "") (Or.inl (hw _ (List.mem_of_getElem? (i := 28) rfl))) Via.refl e20 ((((SJ.ext E14).wr W16).wr W18).ext E19q) (g := (mkF m 82 #[.val (.int p0), .val (.int p1), .val (.int p2), .val (.int ((p2 &&& (2147483647 : Int32)) % (3 : Int32))), .val (.ref b14), .val (if f3 (((p0.toInt8.toInt32).toInt8.toInt32) &&& (255 : Int32)) = 0 then .ref cc else .ref jj), .unset] [])) rfl (hb hby at_82)
        refine OEnds.go (g' := (mkF m 85 #[.val (.int p0), .val (.int p1), .val (.int p2), .val (.int ((p2 &&& (2147483647 : Int32)) % (3 : Int32))), .val (.ref b14), .val (if f3 (((p0.toInt8.toInt32).toInt8.toInt32) &&& (255 : Int32)) = 0 then .ref cc else .ref jj), .unset] [(.ref jj)])) st23 ?_
        refine OEnds.go (g' := (mkF m 87 #[.val (.int p0), .val (.int p1), .val (.int p2), .val (.int ((p2 &&& (2147483647 : Int32)) % (3 : Int32))), .val (.ref b14), .val (if f3 (((p0.toInt8.toInt32).toInt8.toInt32) &&& (255 : Int32)) = 0 then .ref cc else .ref jj), .val (.ref jj)] [])) (fun t k => XS.astore X23.here hx rfl (hb hby at_85) rfl rfl (l' := #[.val (.int p0), .val (.int p1), .val (.int p2), .val (.int ((p2 &&& (2147483647 : Int32)) % (3 : Int32))), .val (.ref b14), .val (if f3 (((p0.toInt8.toInt32).toInt8.toInt32) &&& (255 : Int32)) = 0 then .ref cc else .ref jj), .val (.ref jj)]) rfl k) ?_
        refine OEnds.go (g' := (mkF m 95 #[.val (.int p0), .val (.int p1), .val (.int p2), .val (.int ((p2 &&& (2147483647 : Int32)) % (3 : Int32))), .val (.ref b14), .val (if f3 (((p0.toInt8.toInt32).toInt8.toInt32) &&& (255 : Int32)) = 0 then .ref cc else .ref jj), .val (.ref jj)] [])) (fun t k => XS.goto X23.here hx rfl (pc0 := 87) (pc' := 95) rfl (hb hby at_87) (by decide) (by decide) k) ?_
        refine OEnds.go (g' := (mkF m 97 #[.val (.int p0), .val (.int p1), .val (.int p2), .val (.int ((p2 &&& (2147483647 : Int32)) % (3 : Int32))), .val (.ref b14), .val (if f3 (((p0.toInt8.toInt32).toInt8.toInt32) &&& (255 : Int32)) = 0 then .ref cc else .ref jj), .val (.ref jj)] [(if f3 (((p0.toInt8.toInt32).toInt8.toInt32) &&& (255 : Int32)) = 0 then .ref cc else .ref jj)])) (fun t k => XS.aload X23.here hx rfl (hb hby at_95) rfl own_iref k) ?_
        refine OEnds.go (g' := (mkF m 99 #[.val (.int p0), .val (.int p1), .val (.int p2), .val (.int ((p2 &&& (2147483647 : Int32)) % (3 : Int32))), .val (.ref b14), .val (if f3 (((p0.toInt8.toInt32).toInt8.toInt32) &&& (255 : Int32)) = 0 then .ref cc else .ref jj), .val (.ref jj)] [(.ref jj), (if f3 (((p0.toInt8.toInt32).toInt8.toInt32) &&& (255 : Int32)) = 0 then .ref cc else .ref jj)])) (fun t k => XS.aload X23.here hx rfl (hb hby at_97) rfl rfl k) ?_
        refine OEnds.go (g' := (mkF m 102 #[.val (.int p0), .val (.int p1), .val (.int p2), .val (.int ((p2 &&& (2147483647 : Int32)) % (3 : Int32))), .val (.ref b14), .val (if f3 (((p0.toInt8.toInt32).toInt8.toInt32) &&& (255 : Int32)) = 0 then .ref cc else .ref jj), .val (.ref jj)] [])) (fun t k => Jvm.RoadKit.acmp (g := (mkF m 99 #[.val (.int p0), .val (.int p1), .val (.int p2), .val (.int ((p2 &&& (2147483647 : Int32)) % (3 : Int32))), .val (.ref b14), .val (if f3 (((p0.toInt8.toInt32).toInt8.toInt32) &&& (255 : Int32)) = 0 then .ref cc else .ref jj), .val (.ref jj)] [(.ref jj), (if f3 (((p0.toInt8.toInt32).toInt8.toInt32) &&& (255 : Int32)) = 0 then .ref cc else .ref jj)])) X23 hx rfl own_iref rfl (pc0 := 99) (pc' := 102) (same := true) rfl (hb hby at_99) rfl (decide_eq_true (by rw [own_i2b, if_neg c79_21])) (by decide) (by decide) k) ?_
        refine OEnds.go (g' := (mkF m 103 #[.val (.int p0), .val (.int p1), .val (.int p2), .val (.int ((p2 &&& (2147483647 : Int32)) % (3 : Int32))), .val (.ref b14), .val (if f3 (((p0.toInt8.toInt32).toInt8.toInt32) &&& (255 : Int32)) = 0 then .ref cc else .ref jj), .val (.ref jj)] [(.int (1 : Int32))])) (fun t k => XS.iconst X23.here hx rfl (hb hby at_102) k) ?_
        refine OEnds.go (g' := (mkF m 107 #[.val (.int p0), .val (.int p1), .val (.int p2), .val (.int ((p2 &&& (2147483647 : Int32)) % (3 : Int32))), .val (.ref b14), .val (if f3 (((p0.toInt8.toInt32).toInt8.toInt32) &&& (255 : Int32)) = 0 then .ref cc else .ref jj), .val (.ref jj)] [(.int (1 : Int32))])) (fun t k => XS.goto X23.here hx rfl (pc0 := 103) (pc' := 107) rfl (hb hby at_103) (by decide) (by decide) k) ?_
        exact OEnds.outNW X23 Bd.notSynchronized hS (by rw [e23]; exact hk) hx (t := .boolean) Bd.returns (by simp) (hb hby at_107) ⟨rfl, N20⟩ (by decide) (by decide)
set_option maxRecDepth 65536 in
set_option maxHeartbeats 40000000 in
theorem comes_1 {Post : Tables → Env → Array Value → State → Outcome → State → Prop} (hpost : ∀ tb e args s v u, (limb_1_1.after args s (.returned v) u = true ∧ limb_1_2.after args s (.returned v) u = true ∧ True) → ReturnedEndW s (.returned v) u (Jvm.fieldLocs frame_1_writes args s ++ Jvm.arrayLocs frame_1_arrays args s ++ Jvm.staticLocs frame_1_statics s) 16 1152 → Post tb e args s (.returned v) u) :
    ArmFor flags0 classFile x code maxLocals ret World_1 tables_1 room_1 Calls_1 rest_1 Pre_1 Post := by
  intro l hfl _ _ p e ha hc hk s m args below hf hA hF happ hP
  obtain ⟨hcalls, hrest, hpre⟩ := hP
  obtain ⟨-, -, -, hnamed, -, -, -, hat⟩ := (Spec.applies_iff hf).mp happ
  obtain ⟨hg, hn⟩ := and_e (Cond.before_iff.mp (show (Jvm.Cond.and given_1 narrow_1).before args s = true from hpre))
  obtain ⟨g1, g2⟩ := and_e hg
  obtain ⟨g3, g4⟩ := and_e g2
  obtain ⟨g5, g6⟩ := and_e g4
  obtain ⟨g7, g8⟩ := and_e hn
  obtain ⟨g9, g10⟩ := and_e g8
  obtain ⟨g11, g12⟩ := and_e g10
  obtain ⟨g13, g14⟩ := and_e g12
  obtain ⟨g15, g16⟩ := and_e g14
  obtain ⟨g17, g18⟩ := and_e g16
  obtain ⟨g19, g20⟩ := and_e g18
  obtain ⟨g21, g22⟩ := and_e g20
  obtain ⟨g23, g24⟩ := and_e g22
  obtain ⟨g25, g26⟩ := and_e g24
  obtain ⟨g27, g28⟩ := and_e g26
  obtain ⟨g29, g30⟩ := and_e g28
  obtain ⟨g31, g32⟩ := and_e g30
  obtain ⟨g33, g34⟩ := and_e g32
  obtain ⟨g35, g36⟩ := and_e g34
  obtain ⟨g37, g38⟩ := and_e g36
  obtain ⟨g39, g40⟩ := and_e g38
  obtain ⟨g41, g42⟩ := and_e g40
  obtain ⟨g43, g44⟩ := and_e g42
  obtain ⟨g45, g46⟩ := and_e g44
  obtain ⟨g47, g48⟩ := and_e g46
  obtain ⟨g49, g50⟩ := and_e g48
  obtain ⟨g51, g52⟩ := and_e g50
  obtain ⟨g53, g54⟩ := and_e g52
  obtain ⟨g55, g56⟩ := and_e g54
  obtain ⟨g57, g58⟩ := and_e g56
  obtain ⟨g59, g60⟩ := and_e g58
  obtain ⟨g61, g62⟩ := and_e g60
  obtain ⟨g63, g64⟩ := and_e g62
  obtain ⟨g65, g66⟩ := and_e g64
  obtain ⟨g67, g68⟩ := and_e g66
  obtain ⟨w0, w1, w2, rfl⟩ : ∃ w0 w1 w2 : Value, args = #[w0, w1, w2] := by
    have hs : args.size = 3 := by simpa [Cond.value, given_1] using g1
    obtain ⟨L⟩ := args
    match L, hs with
    | [w0, w1, w2], _ => exact ⟨w0, w1, w2, rfl⟩
  have hw := fun d (hd : d ∈ tables_1) => atoms_spec (ws := Jvm.Cond.code x code maxLocals ret :: tables_1) hat d (List.mem_cons_of_mem _ hd)
  have hfit : Fit s := fun {y c} hc i hi => by
    obtain ⟨ha, rfl⟩ := Array.getElem?_eq_some_iff.mp hc
    have q := List.all_eq_true.mp ((Array.all_eq_true_iff_forall_mem.mp hF) _ (Array.getElem_mem ha)) i (List.mem_range.mpr hi)
    simpa [Array.getElem?_eq_getElem hi] using q
  obtain ⟨i0, ei0⟩ := is_v g3
  obtain rfl : w0 = (.int i0) := Option.some.inj ei0
  obtain ⟨i1, ei1⟩ := is_v g5
  obtain rfl : w1 = (.int i1) := Option.some.inj ei1
  obtain ⟨i2, ei2⟩ := is_v g6
  obtain rfl : w2 = (.int i2) := Option.some.inj ei2
  obtain ⟨a_J, _, _, _, ev_J, -⟩ := Cond.exactly_spec (Cond.before_iff.mpr g13)
  have S_J := Sta.start ev_J (Or.inr ⟨(hw _ (List.mem_of_getElem? (i := 4) rfl)), (hw _ (List.mem_of_getElem? (i := 27) rfl))⟩)
  obtain ⟨a_C, _, _, _, ev_C, -⟩ := Cond.exactly_spec (Cond.before_iff.mpr g11)
  have S_C := Sta.start ev_C (Or.inr ⟨(hw _ (List.mem_of_getElem? (i := 4) rfl)), (hw _ (List.mem_of_getElem? (i := 20) rfl))⟩)
  obtain ⟨a_B, ev_B⟩ := arr_v g7
  have S_B := Sta.start ev_B (Or.inr ⟨(hw _ (List.mem_of_getElem? (i := 4) rfl)), (hw _ (List.mem_of_getElem? (i := 18) rfl))⟩)
  obtain ⟨cl, Ar⟩ := Arr.start ev_B g7
  have hl := own_len ev_B Ar g9
  have BJ : own_BJ s s.heap a_B := by
    refine ⟨cl, Ar, own_256 hl.1 hl.2, fun j hj0 hj1 => ?_⟩
    have hnn : ¬ j < 0 := own_nn hj0
    have hlt : j.toNatClampNeg < cl.slots.size := by rw [own_256 hl.1 hl.2]; simp only [Int32.toNatClampNeg]; omega
    obtain ⟨v, ev, fv⟩ := elem_fit hfit Ar (j := j) (fun q => q.elim hnn (fun q => by omega))
    obtain ⟨x, rfl⟩ := fit_I fv (by simp)
    rw [ev]
    have hi := idx_at (s := s) (args := #[(.int i0), (.int i1), (.int i2)]) (first := s) (o := none) hnn
    have he : (Term.elem (Jvm.Term.static "com/example/gata/gata/model/PayloadFormat" "BEGINS_JSON" "[Z") (.index 0)).eval #[(.int i0), (.int i1), (.int i2)] s none [j.toNatClampNeg] s = some (.int x) := (elem_f (t := (Jvm.Term.static "com/example/gata/gata/model/PayloadFormat" "BEGINS_JSON" "[Z")) (show ((Jvm.Term.static "com/example/gata/gata/model/PayloadFormat" "BEGINS_JSON" "[Z") : Term).eval #[(.int i0), (.int i1), (.int i2)] s none [j.toNatClampNeg] s = some (.ref a_B) from ev_B) hi (Ar.fin (Vm.Alike.refl _)) hnn).trans ev
    by_cases t9 : j < 9
    · have u := (own_w1 hi he (Cond.all_elim ev_B (Ar.fin (Vm.Alike.refl _)) g15 _ hlt)).resolve_left (fun q => own_nle q t9)
      subst u
      exact own_val (f3) 0 9 0 (by decide +kernel) j (own_nn0 hj0) t9
    by_cases t10 : j < 10
    · obtain rfl : j = 9 := own_n _ _ _ t9 t10 (by decide)
      have u := own_elemI ev_B Ar.1 g17
      rw [ev] at u
      exact u
    by_cases t11 : j < 11
    · obtain rfl : j = 10 := own_n _ _ _ t10 t11 (by decide)
      have u := own_elemI ev_B Ar.1 g19
      rw [ev] at u
      exact u
    by_cases t12 : j < 12
    · obtain rfl : j = 11 := own_n _ _ _ t11 t12 (by decide)
      have u := own_elemI ev_B Ar.1 g21
      rw [ev] at u
      exact u
    by_cases t13 : j < 13
    · obtain rfl : j = 12 := own_n _ _ _ t12 t13 (by decide)
      have u := own_elemI ev_B Ar.1 g23
      rw [ev] at u
      exact u
    by_cases t14 : j < 14
    · obtain rfl : j = 13 := own_n _ _ _ t13 t14 (by decide)
      have u := own_elemI ev_B Ar.1 g25
      rw [ev] at u
      exact u
    by_cases t32 : j < 32
    · have u := ((own_w2 hi he (Cond.all_elim ev_B (Ar.fin (Vm.Alike.refl _)) g27 _ hlt)).resolve_left t14).resolve_left (fun q => own_nle q t32)
      subst u
      exact own_val (f3) 14 32 0 (by decide +kernel) j t14 t32
    by_cases t33 : j < 33
    · obtain rfl : j = 32 := own_n _ _ _ t32 t33 (by decide)
      have u := own_elemI ev_B Ar.1 g29
      rw [ev] at u
      exact u
    by_cases t34 : j < 34
    · obtain rfl : j = 33 := own_n _ _ _ t33 t34 (by decide)
      have u := own_elemI ev_B Ar.1 g31
      rw [ev] at u
      exact u
    by_cases t35 : j < 35
    · obtain rfl : j = 34 := own_n _ _ _ t34 t35 (by decide)
      have u := own_elemI ev_B Ar.1 g33
      rw [ev] at u
      exact u
    by_cases t45 : j < 45
    · have u := ((own_w2 hi he (Cond.all_elim ev_B (Ar.fin (Vm.Alike.refl _)) g35 _ hlt)).resolve_left t35).resolve_left (fun q => own_nle q t45)
      subst u
      exact own_val (f3) 35 45 0 (by decide +kernel) j t35 t45
    by_cases t46 : j < 46
    · obtain rfl : j = 45 := own_n _ _ _ t45 t46 (by decide)
      have u := own_elemI ev_B Ar.1 g37
      rw [ev] at u
      exact u
    by_cases t47 : j < 47
    · obtain rfl : j = 46 := own_n _ _ _ t46 t47 (by decide)
      have u := own_elemI ev_B Ar.1 g39
      rw [ev] at u
      exact u
    by_cases t48 : j < 48
    · obtain rfl : j = 47 := own_n _ _ _ t47 t48 (by decide)
      have u := own_elemI ev_B Ar.1 g41
      rw [ev] at u
      exact u
    by_cases t58 : j < 58
    · have u := ((own_w2 hi he (Cond.all_elim ev_B (Ar.fin (Vm.Alike.refl _)) g43 _ hlt)).resolve_left t48).resolve_left (fun q => own_nle q t58)
      subst u
      exact own_val (f3) 48 58 1 (by decide +kernel) j t48 t58
    by_cases t91 : j < 91
    · have u := ((own_w2 hi he (Cond.all_elim ev_B (Ar.fin (Vm.Alike.refl _)) g45 _ hlt)).resolve_left t58).resolve_left (fun q => own_nle q t91)
      subst u
      exact own_val (f3) 58 91 0 (by decide +kernel) j t58 t91
    by_cases t92 : j < 92
    · obtain rfl : j = 91 := own_n _ _ _ t91 t92 (by decide)
      have u := own_elemI ev_B Ar.1 g47
      rw [ev] at u
      exact u
    by_cases t102 : j < 102
    · have u := ((own_w2 hi he (Cond.all_elim ev_B (Ar.fin (Vm.Alike.refl _)) g49 _ hlt)).resolve_left t92).resolve_left (fun q => own_nle q t102)
      subst u
      exact own_val (f3) 92 102 0 (by decide +kernel) j t92 t102
    by_cases t103 : j < 103
    · obtain rfl : j = 102 := own_n _ _ _ t102 t103 (by decide)
      have u := own_elemI ev_B Ar.1 g51
      rw [ev] at u
      exact u
    by_cases t110 : j < 110
    · have u := ((own_w2 hi he (Cond.all_elim ev_B (Ar.fin (Vm.Alike.refl _)) g53 _ hlt)).resolve_left t103).resolve_left (fun q => own_nle q t110)
      subst u
      exact own_val (f3) 103 110 0 (by decide +kernel) j t103 t110
    by_cases t111 : j < 111
    · obtain rfl : j = 110 := own_n _ _ _ t110 t111 (by decide)
      have u := own_elemI ev_B Ar.1 g55
      rw [ev] at u
      exact u
    by_cases t116 : j < 116
    · have u := ((own_w2 hi he (Cond.all_elim ev_B (Ar.fin (Vm.Alike.refl _)) g57 _ hlt)).resolve_left t111).resolve_left (fun q => own_nle q t116)
      subst u
      exact own_val (f3) 111 116 0 (by decide +kernel) j t111 t116
    by_cases t117 : j < 117
    · obtain rfl : j = 116 := own_n _ _ _ t116 t117 (by decide)
      have u := own_elemI ev_B Ar.1 g59
      rw [ev] at u
      exact u
    by_cases t123 : j < 123
    · have u := ((own_w2 hi he (Cond.all_elim ev_B (Ar.fin (Vm.Alike.refl _)) g61 _ hlt)).resolve_left t117).resolve_left (fun q => own_nle q t123)
      subst u
      exact own_val (f3) 117 123 0 (by decide +kernel) j t117 t123
    by_cases t124 : j < 124
    · obtain rfl : j = 123 := own_n _ _ _ t123 t124 (by decide)
      have u := own_elemI ev_B Ar.1 g63
      rw [ev] at u
      exact u
    by_cases t239 : j < 239
    · have u := ((own_w2 hi he (Cond.all_elim ev_B (Ar.fin (Vm.Alike.refl _)) g65 _ hlt)).resolve_left t124).resolve_left (fun q => own_nle q t239)
      subst u
      exact own_val (f3) 124 239 0 (by decide +kernel) j t124 t239
    by_cases t240 : j < 240
    · obtain rfl : j = 239 := own_n _ _ _ t239 t240 (by decide)
      have u := own_elemI ev_B Ar.1 g67
      rw [ev] at u
      exact u
    have u := (own_w0 hi he (Cond.all_elim ev_B (Ar.fin (Vm.Alike.refl _)) g68 _ hlt)).resolve_left t240
    subst u
    exact own_val (f3) 240 256 0 (by decide +kernel) j t240 (own_256j hj1)
  obtain ⟨n, o, h1, h2, h3, _, L, rfl, ⟨rfl, N⟩, hq⟩ := rm0 l s _ hw tables_1 i0 i1 i2 a_J a_C a_B s.heap s.heap.size (Nat.le_refl _) S_J S_C S_B BJ p e ha hc hk s m _ below hf ((Spec.applies_iff_loose hf).mp happ).1 ⟨rfl, State.Warmed39.refl s, rfl⟩ trivial
  refine ⟨n, _, h1, h2, h3, hpost _ _ _ _ _ _ ⟨Cond.after_iff.mpr rfl, Cond.after_iff.mpr (eq_i res_at (Term.int_eval (1)) rfl), trivial⟩ ⟨hq.1, hq.2.1, hq.2.2.1, (hq.2.2.2.sift fun y hy => Or.inr (N y hy)).mono (by decide) (by decide)⟩⟩
theorem main_1_1 : Claimed_1_1 := comes_1 fun _ _ _ _ _ _ h hF => ⟨h.1, hF⟩
theorem main_1_2 : Claimed_1_2 := comes_1 fun _ _ _ _ _ _ h hF => ⟨h.2.1, hF⟩
end Jvm.Pilot.@@N@@
namespace Jvm.Pilot.@@N@@
open Jvm Jvm.ClassFile Sem Op Lib Jvm.Free Jvm.Stand Jvm.Pilot.@@N@@.Jvm.D
/-! MADE BY PROGRAM (witnessworld.py) out of the Statement's table words and the real class files: 18 classes; the members and pool entries that the words name. The judged class is class 1, her method 2. -/
namespace start1
open Jvm.ClassFile
def u (s : String) : CpInfo := .utf8 (stringToUtf16 s)
/-- a pool by its gaps: so many unusable entries, then the entry; so many at the end -/
def gap : Nat → List CpInfo → List CpInfo
  | 0, r => r
  | n + 1, r => .unusable :: gap n r
def poolList (es : List (Nat × CpInfo)) (last : Nat) : List CpInfo := es.foldr (fun e r => gap e.1 (e.2 :: r)) (gap last [])
def pool (es : List (Nat × CpInfo)) (last : Nat) : Array CpInfo := ⟨poolList es last⟩
def fileOf (pool : Array CpInfo) (this : Nat) (attrs : Array Attribute := #[]) (ms : Array MethodInfo := #[]) (fl : Nat := 33) (sup : Nat := 0) (ifs : Array Nat := #[]) (fds : Array FieldInfo := #[]) : ClassFile where
  minorVersion := 0
  majorVersion := 65
  constantPool := pool
  accessFlags := fl
  thisClass := this
  superClass := sup
  interfaces := ifs
  fields := fds
  methods := ms
  attributes := attrs
def plain (name : String) (sup : Option ClassId) : Class where
  name := name
  kind := .ordinary
  loader := none
  accessFlags := 33
  super := sup
  interfaces := #[]
  cf := none
  fields := #[]
  methods := #[]
  instanceTypes := #[]
  staticTypes := #[]
  resolved := #[]
  callSites := []
  init := .initialized
  statics := none
  mirror := none

def pool0 : Array CpInfo := pool [(5, u "<init>"), (0, u "()V"), (1, .class_ 10), (1, u "java/lang/Object")] 113

def k0m0 : Method := { name := "<init>", desc := "()V", sig := { parameters := [], returnType := none }, accessFlags := 1, code := none }
/-- java/lang/Object -/
def k0 : Class := { plain "java/lang/Object" none with
  accessFlags := 33
  interfaces := #[]
  cf := some (fileOf pool0 8 #[] #[{ accessFlags := 1, nameIndex := 5, descriptorIndex := 6, attributes := #[] }] 33 0 #[] #[])
  fields := #[]
  methods := #[k0m0]
  instanceTypes := #[]
  staticTypes := #[]
  resolved := Array.replicate 124 none
  statics := none }

def pool1 : Array CpInfo := pool [(2, .class_ 4), (1, u "java/lang/Object"), (0, u "<init>"), (0, u "()V"), (0, .integer 2147483647), (0, .methodref 9 10), (0, .class_ 11), (0, .nameAndType 12 13), (0, u "com/example/gata/gata/model/PayloadFormat"), (0, u "of"), (0, u "([B)Lcom/example/gata/gata/model/PayloadFormat;"), (0, .fieldref 9 15), (0, .nameAndType 16 17), (0, u "JSON"), (0, u "Lcom/example/gata/gata/model/PayloadFormat;"), (0, .methodref 19 20), (0, .class_ 21), (0, .nameAndType 22 23), (0, u "com/example/gata/gata/model/PayloadFormatOfPinLaw"), (0, u "beginsJson"), (0, u "(I)Z"), (0, .fieldref 9 25), (0, .nameAndType 26 17), (0, u "CBOR"), (3, u "law"), (0, u "(III)Z")] 4

def k1m0 : Method := { name := "<init>", desc := "()V", sig := { parameters := [], returnType := none }, accessFlags := 1, code := none }
def k1c1 : Code := { maxStack := 2, maxLocals := 1, code := method_2_code, exceptionTable := #[], attributes := #[] }
def k1m1 : Method := { name := "beginsJson", desc := "(I)Z", sig := { parameters := [.int], returnType := some .boolean }, accessFlags := 10, code := some k1c1 }
def k1c2 : Code := { maxStack := 4, maxLocals := 7, code := code, exceptionTable := #[], attributes := #[] }
def k1m2 : Method := { name := "law", desc := "(III)Z", sig := { parameters := [.int, .int, .int], returnType := some .boolean }, accessFlags := 9, code := some k1c2 }
/-- com/example/gata/gata/model/PayloadFormatOfPinLaw -/
def k1 : Class := { plain "com/example/gata/gata/model/PayloadFormatOfPinLaw" (some 0) with
  accessFlags := 49
  interfaces := #[]
  cf := some (fileOf pool1 19 #[] #[{ accessFlags := 1, nameIndex := 5, descriptorIndex := 6, attributes := #[] }, { accessFlags := 10, nameIndex := 22, descriptorIndex := 23, attributes := #[] }, { accessFlags := 9, nameIndex := 30, descriptorIndex := 31, attributes := #[] }] 49 2 #[] #[])
  fields := #[]
  methods := #[k1m0, k1m1, k1m2]
  instanceTypes := #[]
  staticTypes := #[]
  resolved := Array.replicate 36 none
  statics := none }

def pool2 : Array CpInfo := pool [(1, .class_ 2), (0, u "java/lang/constant/Constable"), (0, .class_ 4), (0, u "java/lang/Object")] 6

/-- java/lang/constant/Constable -/
def k2 : Class := { plain "java/lang/constant/Constable" (some 0) with
  accessFlags := 1537
  interfaces := #[]
  cf := some (fileOf pool2 1 #[] #[] 1537 3 #[] #[])
  fields := #[]
  methods := #[]
  instanceTypes := #[]
  staticTypes := #[]
  resolved := Array.replicate 11 none
  statics := none }

def pool3 : Array CpInfo := pool [(1, .class_ 2), (0, u "java/lang/Comparable"), (0, .class_ 4), (0, u "java/lang/Object")] 7

/-- java/lang/Comparable -/
def k3 : Class := { plain "java/lang/Comparable" (some 0) with
  accessFlags := 1537
  interfaces := #[]
  cf := some (fileOf pool3 1 #[] #[] 1537 3 #[] #[])
  fields := #[]
  methods := #[]
  instanceTypes := #[]
  staticTypes := #[]
  resolved := Array.replicate 12 none
  statics := none }

def pool4 : Array CpInfo := pool [(1, .class_ 2), (0, u "java/io/Serializable"), (0, .class_ 4), (0, u "java/lang/Object")] 2

/-- java/io/Serializable -/
def k4 : Class := { plain "java/io/Serializable" (some 0) with
  accessFlags := 1537
  interfaces := #[]
  cf := some (fileOf pool4 1 #[] #[] 1537 3 #[] #[])
  fields := #[]
  methods := #[]
  instanceTypes := #[]
  staticTypes := #[]
  resolved := Array.replicate 7 none
  statics := none }

def pool5 : Array CpInfo := pool [(2, .class_ 4), (1, u "java/lang/Enum"), (0, u "name"), (0, u "Ljava/lang/String;"), (2, u "ordinal"), (0, u "I"), (1, .class_ 14), (1, u "java/lang/Object"), (4, u "hash"), (86, .class_ 108), (1, u "java/lang/Enum$EnumDesc"), (2, .class_ 112), (0, u "java/lang/constant/Constable"), (0, .class_ 114), (0, u "java/lang/Comparable"), (0, .class_ 116), (0, u "java/io/Serializable")] 87

/-- java/lang/Enum -/
def k5 : Class := { plain "java/lang/Enum" (some 0) with
  accessFlags := 1057
  interfaces := #[2, 3, 4]
  cf := some (fileOf pool5 2 #[.nestMembers #[106]] #[] 1057 12 #[111, 113, 115] #[{ accessFlags := 18, nameIndex := 5, descriptorIndex := 6, attributes := #[] }, { accessFlags := 18, nameIndex := 9, descriptorIndex := 10, attributes := #[] }, { accessFlags := 2, nameIndex := 19, descriptorIndex := 10, attributes := #[] }])
  fields := #[{ name := "name", type := (.object "java/lang/String"), accessFlags := 18, slot := 0, constantValue := 0 }, { name := "ordinal", type := .int, accessFlags := 18, slot := 1, constantValue := 0 }, { name := "hash", type := .int, accessFlags := 2, slot := 2, constantValue := 0 }]
  methods := #[]
  instanceTypes := #[(.object "java/lang/String"), .int, .int]
  staticTypes := #[]
  resolved := Array.replicate 204 none
  statics := none }

def pool6 : Array CpInfo := pool [(1, .class_ 2), (0, u "com/example/gata/gata/model/PayloadFormat"), (0, .fieldref 1 4), (0, .nameAndType 5 6), (0, u "JSON"), (0, u "Lcom/example/gata/gata/model/PayloadFormat;"), (0, .fieldref 1 8), (0, .nameAndType 9 6), (0, u "CBOR"), (2, u "$VALUES"), (0, u "[Lcom/example/gata/gata/model/PayloadFormat;"), (6, .class_ 22), (1, u "java/lang/Enum"), (6, .string 30), (0, u "payload"), (0, .methodref 32 33), (0, .class_ 34), (0, .nameAndType 35 36), (0, u "java/util/Objects"), (0, u "requireNonNull"), (0, u "(Ljava/lang/Object;Ljava/lang/String;)Ljava/lang/Object;"), (0, .fieldref 1 38), (0, .nameAndType 39 40), (0, u "BEGINS_JSON"), (0, u "[Z"), (22, u "of"), (0, u "([B)Lcom/example/gata/gata/model/PayloadFormat;")] 7

def k6c0 : Code := { maxStack := 3, maxLocals := 1, code := prog_11_method_4_code, exceptionTable := #[], attributes := #[] }
def k6m0 : Method := { name := "of", desc := "([B)Lcom/example/gata/gata/model/PayloadFormat;", sig := { parameters := [(.array .byte)], returnType := some (.object "com/example/gata/gata/model/PayloadFormat") }, accessFlags := 9, code := some k6c0 }
/-- com/example/gata/gata/model/PayloadFormat -/
def k6 : Class := { plain "com/example/gata/gata/model/PayloadFormat" (some 5) with
  accessFlags := 16433
  interfaces := #[]
  cf := some (fileOf pool6 1 #[] #[{ accessFlags := 9, nameIndex := 63, descriptorIndex := 64, attributes := #[] }] 16433 20 #[] #[{ accessFlags := 16409, nameIndex := 5, descriptorIndex := 6, attributes := #[] }, { accessFlags := 16409, nameIndex := 9, descriptorIndex := 6, attributes := #[] }, { accessFlags := 26, nameIndex := 39, descriptorIndex := 40, attributes := #[] }, { accessFlags := 4122, nameIndex := 12, descriptorIndex := 13, attributes := #[] }])
  fields := #[{ name := "JSON", type := (.object "com/example/gata/gata/model/PayloadFormat"), accessFlags := 16409, slot := 0, constantValue := 0 }, { name := "CBOR", type := (.object "com/example/gata/gata/model/PayloadFormat"), accessFlags := 16409, slot := 1, constantValue := 0 }, { name := "BEGINS_JSON", type := (.array .boolean), accessFlags := 26, slot := 2, constantValue := 0 }, { name := "$VALUES", type := (.array (.object "com/example/gata/gata/model/PayloadFormat")), accessFlags := 4122, slot := 3, constantValue := 0 }]
  methods := #[k6m0]
  instanceTypes := #[(.object "java/lang/String"), .int, .int]
  staticTypes := #[(.object "com/example/gata/gata/model/PayloadFormat"), (.object "com/example/gata/gata/model/PayloadFormat"), (.array .boolean), (.array (.object "com/example/gata/gata/model/PayloadFormat"))]
  resolved := Array.replicate 72 none
  statics := some 0 }

def pool7 : Array CpInfo := pool [(2, .class_ 4), (1, u "java/lang/CharSequence"), (42, .class_ 48), (0, u "java/lang/CharSequence$1CodePointIterator"), (10, .class_ 60), (0, u "java/lang/CharSequence$1CharIterator"), (5, .class_ 67), (0, u "java/lang/Object")] 63

/-- java/lang/CharSequence -/
def k7 : Class := { plain "java/lang/CharSequence" (some 0) with
  accessFlags := 1537
  interfaces := #[]
  cf := some (fileOf pool7 2 #[.nestMembers #[47, 59]] #[] 1537 66 #[] #[])
  fields := #[]
  methods := #[]
  instanceTypes := #[]
  staticTypes := #[]
  resolved := Array.replicate 131 none
  statics := none }

def pool8 : Array CpInfo := pool [(1, .class_ 2), (0, u "java/lang/constant/ConstantDesc"), (0, .class_ 4), (0, u "java/lang/Object")] 32

/-- java/lang/constant/ConstantDesc -/
def k8 : Class := { plain "java/lang/constant/ConstantDesc" (some 0) with
  accessFlags := 1537
  interfaces := #[]
  cf := some (fileOf pool8 1 #[] #[] 1537 3 #[] #[])
  fields := #[]
  methods := #[]
  instanceTypes := #[]
  staticTypes := #[]
  resolved := Array.replicate 37 none
  statics := none }

def pool9 : Array CpInfo := pool [(2, .class_ 4), (1, u "java/lang/Object"), (0, u "<init>"), (0, u "()V"), (3, .class_ 12), (1, u "java/lang/String"), (0, u "value"), (0, u "[B"), (2, u "coder"), (0, u "B"), (2, u "hash"), (0, u "I"), (2, u "hashIsZero"), (0, u "Z"), (13, u "COMPACT_STRINGS"), (534, .class_ 576), (0, u "java/lang/CharSequence"), (22, u "CASE_INSENSITIVE_ORDER"), (0, u "Ljava/util/Comparator;"), (500, u "serialPersistentFields"), (0, u "[Ljava/io/ObjectStreamField;"), (0, .class_ 1104), (0, u "java/lang/String$CaseInsensitiveComparator"), (1, .class_ 1107), (0, u "java/io/Serializable"), (0, .class_ 1109), (0, u "java/lang/Comparable"), (0, .class_ 1111), (0, u "java/lang/constant/Constable"), (0, .class_ 1113), (0, u "java/lang/constant/ConstantDesc"), (2, u "serialVersionUID"), (0, u "J"), (3, u "REPL"), (0, u "C"), (2, u "LATIN1"), (1, u "UTF16")] 323

def k9m0 : Method := { name := "<init>", desc := "()V", sig := { parameters := [], returnType := none }, accessFlags := 1, code := none }
/-- java/lang/String -/
def k9 : Class := { plain "java/lang/String" (some 0) with
  accessFlags := 49
  interfaces := #[4, 3, 7, 2, 8]
  cf := some (fileOf pool9 10 #[.nestMembers #[1103]] #[{ accessFlags := 1, nameIndex := 5, descriptorIndex := 6, attributes := #[] }] 49 2 #[1106, 1108, 575, 1110, 1112] #[{ accessFlags := 18, nameIndex := 13, descriptorIndex := 14, attributes := #[] }, { accessFlags := 18, nameIndex := 17, descriptorIndex := 18, attributes := #[] }, { accessFlags := 2, nameIndex := 21, descriptorIndex := 22, attributes := #[] }, { accessFlags := 2, nameIndex := 25, descriptorIndex := 26, attributes := #[] }, { accessFlags := 26, nameIndex := 1116, descriptorIndex := 1117, attributes := #[] }, { accessFlags := 24, nameIndex := 40, descriptorIndex := 26, attributes := #[] }, { accessFlags := 26, nameIndex := 1101, descriptorIndex := 1102, attributes := #[] }, { accessFlags := 26, nameIndex := 1121, descriptorIndex := 1122, attributes := #[] }, { accessFlags := 25, nameIndex := 599, descriptorIndex := 600, attributes := #[] }, { accessFlags := 24, nameIndex := 1125, descriptorIndex := 18, attributes := #[] }, { accessFlags := 24, nameIndex := 1127, descriptorIndex := 18, attributes := #[] }])
  fields := #[{ name := "value", type := (.array .byte), accessFlags := 18, slot := 0, constantValue := 0 }, { name := "coder", type := .byte, accessFlags := 18, slot := 1, constantValue := 0 }, { name := "hash", type := .int, accessFlags := 2, slot := 2, constantValue := 0 }, { name := "hashIsZero", type := .boolean, accessFlags := 2, slot := 3, constantValue := 0 }, { name := "serialVersionUID", type := .long, accessFlags := 26, slot := 0, constantValue := 0 }, { name := "COMPACT_STRINGS", type := .boolean, accessFlags := 24, slot := 1, constantValue := 0 }, { name := "serialPersistentFields", type := (.array (.object "java/io/ObjectStreamField")), accessFlags := 26, slot := 2, constantValue := 0 }, { name := "REPL", type := .char, accessFlags := 26, slot := 3, constantValue := 0 }, { name := "CASE_INSENSITIVE_ORDER", type := (.object "java/util/Comparator"), accessFlags := 25, slot := 4, constantValue := 0 }, { name := "LATIN1", type := .byte, accessFlags := 24, slot := 5, constantValue := 0 }, { name := "UTF16", type := .byte, accessFlags := 24, slot := 6, constantValue := 0 }]
  methods := #[k9m0]
  instanceTypes := #[(.array .byte), .byte, .int, .boolean]
  staticTypes := #[.long, .boolean, (.array (.object "java/io/ObjectStreamField")), .char, (.object "java/util/Comparator"), .byte, .byte]
  resolved := Array.replicate 1451 none
  statics := none }

def pool10 : Array CpInfo := pool [(2, .class_ 4), (1, u "java/lang/Object"), (0, u "<init>"), (0, u "()V"), (35, .class_ 44), (1, u "java/util/Objects"), (0, u "requireNonNull"), (48, u "(Ljava/lang/Object;Ljava/lang/String;)Ljava/lang/Object;")] 89

def k10m0 : Method := { name := "<init>", desc := "()V", sig := { parameters := [], returnType := none }, accessFlags := 2, code := none }
def k10c1 : Code := { maxStack := 3, maxLocals := 2, code := jdk_31_method_11_code, exceptionTable := #[], attributes := #[] }
def k10m1 : Method := { name := "requireNonNull", desc := "(Ljava/lang/Object;Ljava/lang/String;)Ljava/lang/Object;", sig := { parameters := [(.object "java/lang/Object"), (.object "java/lang/String")], returnType := some (.object "java/lang/Object") }, accessFlags := 9, code := some k10c1 }
/-- java/util/Objects -/
def k10 : Class := { plain "java/util/Objects" (some 0) with
  accessFlags := 49
  interfaces := #[]
  cf := some (fileOf pool10 42 #[] #[{ accessFlags := 2, nameIndex := 5, descriptorIndex := 6, attributes := #[] }, { accessFlags := 9, nameIndex := 45, descriptorIndex := 94, attributes := #[] }] 49 2 #[] #[])
  fields := #[]
  methods := #[k10m0, k10m1]
  instanceTypes := #[]
  staticTypes := #[]
  resolved := Array.replicate 184 none
  statics := none }

def pool11 : Array CpInfo := pool [(1, u "java/lang/Cloneable"), (0, .class_ 1), (0, u "java/lang/Object"), (0, .class_ 3)] 3

/-- java/lang/Cloneable -/
def k11 : Class := { plain "java/lang/Cloneable" (some 0) with
  accessFlags := 1537
  interfaces := #[]
  cf := some (fileOf pool11 2 #[] #[] 1537 4 #[] #[])
  fields := #[]
  methods := #[]
  instanceTypes := #[]
  staticTypes := #[]
  resolved := Array.replicate 8 none
  statics := none }

/-- the primitive boolean -/
def k12 : Class := { plain "boolean" none with kind := .primitive 'Z', accessFlags := 0x411 }
/-- [Z -/
def k13 : Class := { plain "[Z" (some 0) with kind := .array 12 .boolean, interfaces := #[11, 4], accessFlags := 1041 }

/-- the primitive byte -/
def k14 : Class := { plain "byte" none with kind := .primitive 'B', accessFlags := 0x411 }
/-- [B -/
def k15 : Class := { plain "[B" (some 0) with kind := .array 14 .byte, interfaces := #[11, 4], accessFlags := 1041 }

/-- the primitive int -/
def k16 : Class := { plain "int" none with kind := .primitive 'I', accessFlags := 0x411 }
/-- [I -/
def k17 : Class := { plain "[I" (some 0) with kind := .array 16 .int, interfaces := #[11, 4], accessFlags := 1041 }

def heap : Heap := #[{ cls := 6, slots := #[.ref 2, .ref 3, .ref 1, .null], vm := .statics 6 },
  { cls := 13, slots := #[.int 0, .int 0, .int 0, .int 0, .int 0, .int 0, .int 0, .int 0, .int 0, .int 1, .int 1, .int 0, .int 0, .int 1, .int 0, .int 0, .int 0, .int 0, .int 0, .int 0, .int 0, .int 0, .int 0, .int 0, .int 0, .int 0, .int 0, .int 0, .int 0, .int 0, .int 0, .int 0, .int 1, .int 0, .int 1, .int 0, .int 0, .int 0, .int 0, .int 0, .int 0, .int 0, .int 0, .int 0, .int 0, .int 1, .int 0, .int 0, .int 1, .int 1, .int 1, .int 1, .int 1, .int 1, .int 1, .int 1, .int 1, .int 1, .int 0, .int 0, .int 0, .int 0, .int 0, .int 0, .int 0, .int 0, .int 0, .int 0, .int 0, .int 0, .int 0, .int 0, .int 0, .int 0, .int 0, .int 0, .int 0, .int 0, .int 0, .int 0, .int 0, .int 0, .int 0, .int 0, .int 0, .int 0, .int 0, .int 0, .int 0, .int 0, .int 0, .int 1, .int 0, .int 0, .int 0, .int 0, .int 0, .int 0, .int 0, .int 0, .int 0, .int 0, .int 1, .int 0, .int 0, .int 0, .int 0, .int 0, .int 0, .int 0, .int 1, .int 0, .int 0, .int 0, .int 0, .int 0, .int 1, .int 0, .int 0, .int 0, .int 0, .int 0, .int 0, .int 1, .int 0, .int 0, .int 0, .int 0, .int 0, .int 0, .int 0, .int 0, .int 0, .int 0, .int 0, .int 0, .int 0, .int 0, .int 0, .int 0, .int 0, .int 0, .int 0, .int 0, .int 0, .int 0, .int 0, .int 0, .int 0, .int 0, .int 0, .int 0, .int 0, .int 0, .int 0, .int 0, .int 0, .int 0, .int 0, .int 0, .int 0, .int 0, .int 0, .int 0, .int 0, .int 0, .int 0, .int 0, .int 0, .int 0, .int 0, .int 0, .int 0, .int 0, .int 0, .int 0, .int 0, .int 0, .int 0, .int 0, .int 0, .int 0, .int 0, .int 0, .int 0, .int 0, .int 0, .int 0, .int 0, .int 0, .int 0, .int 0, .int 0, .int 0, .int 0, .int 0, .int 0, .int 0, .int 0, .int 0, .int 0, .int 0, .int 0, .int 0, .int 0, .int 0, .int 0, .int 0, .int 0, .int 0, .int 0, .int 0, .int 0, .int 0, .int 0, .int 0, .int 0, .int 0, .int 0, .int 0, .int 0, .int 0, .int 0, .int 0, .int 0, .int 0, .int 0, .int 0, .int 0, .int 0, .int 0, .int 0, .int 0, .int 0, .int 0, .int 0, .int 0, .int 0, .int 0, .int 1, .int 0, .int 0, .int 0, .int 0, .int 0, .int 0, .int 0, .int 0, .int 0, .int 0, .int 0, .int 0, .int 0, .int 0, .int 0, .int 0], vm := .none },
  { cls := 6, slots := #[.null, .int 0, .int 0], vm := .none },
  { cls := 6, slots := #[.null, .int 1, .int 0], vm := .none }]
def classes : Array Class := #[k0, k1, k2, k3, k4, k5, k6, k7, k8, k9, k10, k11, k12, k13, k14, k15, k16, k17]
def interned : List (Array UInt16 × Addr) := []
def slotsUsed : Nat := 266
def theMethod : MethodId := ⟨1, 2⟩
def args0 : Array Value := #[.int 5, .int 5, .int 5]
def aboutOver (below : List Frame) : State where
  vm := { classes := classes, interned := interned.toArray }
  heap := heap
  slotsUsed := slotsUsed
  threads := #[{ frames := .invoking theMethod args0 :: below }]
def below0 : List Frame := [.native { method := ⟨0, 0⟩, args := #[] }]
def about1 : State := aboutOver below0
def p0 : Program := .bare "" "" ""
def e0 : Env := launch0.env 0 0 0
theorem w_frames : about1.frames = Frame.invoking theMethod args0 :: below0 := rfl
set_option maxRecDepth 65536 in
theorem w_args : argsFit about1.vm theMethod args0 = true := by decide +kernel
set_option maxRecDepth 65536 in
theorem w_heap : heapFits about1 = true := by decide +kernel
set_option maxRecDepth 65536 in
theorem w_runnable : about1.curStatus? = some .runnable := by decide +kernel
set_option maxRecDepth 65536 in
theorem w_alone : about1.alone = true := by decide +kernel
set_option maxRecDepth 65536 in
theorem w_named : about1.methodNamed? x = some theMethod := by decide +kernel
set_option maxRecDepth 65536 in
theorem w_hears : about1.hears theMethod below0 = true := by decide +kernel
set_option maxRecDepth 65536 in
theorem w_ripe : about1.ripe theMethod args0 below0 = true := by decide +kernel
theorem w_running : about1.status = .running := rfl
set_option maxRecDepth 65536 in
theorem w_room : about1.hasRoom e0.platform room_1 = true :=
  launch0.hasRoom_least _ room_1 (by decide +kernel) (by decide +kernel) (by decide +kernel) (by decide +kernel) (by decide +kernel) (by decide +kernel)
theorem allAtoms_all (ts : List Jvm.Cond) (a : Array Jvm.Value) (st : Jvm.State) : (allAtoms ts).before a st = ts.all (fun c => c.before a st) := by
  induction ts with
  | nil => rfl
  | cons c t ih =>
    show (Jvm.Cond.and c (allAtoms t)).before a st = _
    rw [Jvm.Cond.before_and, ih, List.all_cons]
def words1 : List Jvm.Cond := Jvm.Cond.code x code maxLocals ret :: tables_1
/-- a 'code' word, met by the world's own term for the bytes: nothing is compared byte by byte -/
theorem code_word {y : MethodName} {bytes : ByteArray} {mx : Nat} {rt : Option FieldType} {a : Array Value} {s : State} {m : MethodId} {meth : Method} {c : Code} (h1 : s.methodNamed? y = some m) (h2 : s.vm.method? m = some meth) (h3 : meth.code = some c) (h4 : c.code = bytes)
    (h5 : (c.maxLocals == mx && c.exceptionTable.isEmpty && decide (c.maxStack ≤ mostOperands) && decide (meth.sig.returnType = rt) && !meth.locks && decide (parseMethodDescriptor y.desc = some meth.sig)) = true) : (Jvm.Cond.code y bytes mx rt).before a s = true := by
  simp only [Bool.and_eq_true, beq_iff_eq, Bool.not_eq_true', decide_eq_true_eq] at h5
  obtain ⟨⟨⟨⟨⟨g1, g2⟩, g3⟩, g4⟩, g5⟩, g6⟩ := h5
  simp [Cond.before, Cond.holds, Cond.value, h1, h2, h3, h4, g1, g2, g3, g4, g5, g6]
def isCode : Jvm.Cond → Bool
  | .code _ _ _ _ => true
  | _ => false
theorem all_split {L : List Jvm.Cond} {P : Jvm.Cond → Bool} (h1 : L.all (fun c => isCode c || P c) = true) (h2 : ∀ c ∈ L.filter isCode, P c = true) : L.all P = true := by
  refine List.all_eq_true.mpr fun c hc => ?_
  have h := List.all_eq_true.mp h1 c hc
  rcases Bool.eq_false_or_eq_true (isCode c) with hi | hi
  · exact h2 c (List.mem_filter.mpr ⟨hc, hi⟩)
  · simpa [hi] using h
set_option maxRecDepth 65536 in
theorem w_c0 : (Jvm.Cond.code x code maxLocals ret).before args0 about1 = true := code_word (m := ⟨1, 2⟩) (meth := k1m2) (c := k1c2) (by decide +kernel) rfl rfl rfl (by decide +kernel)
set_option maxRecDepth 65536 in
theorem w_c1 : (Jvm.Cond.code ({ cls := "com/example/gata/gata/model/PayloadFormat", name := "of", desc := "([B)Lcom/example/gata/gata/model/PayloadFormat;" } : Jvm.MethodName) prog_11_method_4_code (1 : Nat) (Option.some (Jvm.ClassFile.FieldType.object "com/example/gata/gata/model/PayloadFormat"))).before args0 about1 = true := code_word (m := ⟨6, 0⟩) (meth := k6m0) (c := k6c0) (by decide +kernel) rfl rfl rfl (by decide +kernel)
set_option maxRecDepth 65536 in
theorem w_c2 : (Jvm.Cond.code ({ cls := "java/util/Objects", name := "requireNonNull", desc := "(Ljava/lang/Object;Ljava/lang/String;)Ljava/lang/Object;" } : Jvm.MethodName) jdk_31_method_11_code (2 : Nat) (Option.some (Jvm.ClassFile.FieldType.object "java/lang/Object"))).before args0 about1 = true := code_word (m := ⟨10, 1⟩) (meth := k10m1) (c := k10c1) (by decide +kernel) rfl rfl rfl (by decide +kernel)
set_option maxRecDepth 65536 in
theorem w_c3 : (Jvm.Cond.code ({ cls := "com/example/gata/gata/model/PayloadFormatOfPinLaw", name := "beginsJson", desc := "(I)Z" } : Jvm.MethodName) method_2_code (1 : Nat) (Option.some Jvm.ClassFile.FieldType.boolean)).before args0 about1 = true := code_word (m := ⟨1, 1⟩) (meth := k1m1) (c := k1c1) (by decide +kernel) rfl rfl rfl (by decide +kernel)
def codes1 : List Jvm.Cond := [Jvm.Cond.code x code maxLocals ret, Jvm.Cond.code ({ cls := "com/example/gata/gata/model/PayloadFormat", name := "of", desc := "([B)Lcom/example/gata/gata/model/PayloadFormat;" } : Jvm.MethodName) prog_11_method_4_code (1 : Nat) (Option.some (Jvm.ClassFile.FieldType.object "com/example/gata/gata/model/PayloadFormat")), Jvm.Cond.code ({ cls := "java/util/Objects", name := "requireNonNull", desc := "(Ljava/lang/Object;Ljava/lang/String;)Ljava/lang/Object;" } : Jvm.MethodName) jdk_31_method_11_code (2 : Nat) (Option.some (Jvm.ClassFile.FieldType.object "java/lang/Object")), Jvm.Cond.code ({ cls := "com/example/gata/gata/model/PayloadFormatOfPinLaw", name := "beginsJson", desc := "(I)Z" } : Jvm.MethodName) method_2_code (1 : Nat) (Option.some Jvm.ClassFile.FieldType.boolean)]
set_option maxRecDepth 65536 in
theorem codes_eq : words1.filter isCode = codes1 := rfl
theorem w_codes : ∀ c ∈ words1.filter isCode, c.before args0 about1 = true := by
  rw [codes_eq]
  intro c hc
  simp only [codes1, List.mem_cons, List.not_mem_nil, or_false] at hc
  rcases hc with rfl | rfl | rfl | rfl
  · exact w_c0
  · exact w_c1
  · exact w_c2
  · exact w_c3
set_option maxRecDepth 65536 in
theorem w_t1 : (words1.take 24).all (fun c => isCode c || c.before args0 about1) = true := by decide +kernel
set_option maxRecDepth 65536 in
theorem w_t2 : (words1.drop 24).all (fun c => isCode c || c.before args0 about1) = true := by decide +kernel
theorem w_tables : (allAtoms (Jvm.Cond.code x code maxLocals ret :: tables_1)).before args0 about1 = true := by
  rw [allAtoms_all]
  show words1.all (fun c => c.before args0 about1) = true
  refine all_split ?_ w_codes
  rw [← List.take_append_drop 24 words1, List.all_append, w_t1, w_t2]
  rfl
set_option maxRecDepth 65536 in
theorem w_case : (Jvm.Cond.and given_1 narrow_1).before args0 about1 = true := by decide +kernel
theorem w_applies : (headSpec (Jvm.Cond.code x code maxLocals ret :: tables_1) room_1).applies x e0.platform about1 = true :=
  (Spec.applies_iff w_frames).mpr ⟨w_running, w_runnable, w_alone, w_named, w_hears, w_ripe, w_room, w_tables⟩
theorem atStart : AtStart classFile x code maxLocals ret World_1 tables_1 room_1 Calls_1 rest_1 Pre_1 launch0 p0 e0 about1 theMethod args0 below0 :=
  ⟨lists_1, trivial, launch0.admits_env _ _ _, launch0.least_env, fairChoices_fair.cas, fairChoices_fair.clock, w_frames, w_args, w_heap, w_applies, trivial, trivial, w_case⟩
end start1
theorem witness_1 : WitnessClaimed_1 := ⟨start1.p0, start1.e0, start1.about1, start1.theMethod, start1.args0, start1.below0, start1.atStart⟩
end Jvm.Pilot.@@N@@
