import JvmDerived
import JvmDerived.Pilot.@@N@@Statement
import JvmDerived.Pilot.@@N@@Code
set_option linter.unusedVariables false
set_option linter.unusedSimpArgs false
namespace Jvm.RoadKit
open Sem ClassFile Op Lib Jvm.Stand Jvm.Free Jvm.LawKit
section New
variable {p : Program} {l : Launch} {e : Env} {R : Room} {s : State} {m : MethodId} {args : Array Value} {below : List Frame} {meth : Method} {c : Code} {T T' : State} {locs : List Loc} {cells slots : Nat}
theorem retI (X : Stand p l e R s m args below meth c T locs cells slots) (hx : p.tables.exec = Jvm.exec) {pc : Nat} {Ls : Array Slot} {z : Int32} {rest : List Value} (hret : meth.sig.returnType = some .int) (hd : decode c.code pc = .ok (.ireturn, 1)) {fs : List Frame}
    (hl : ∀ (f : JFrame) (acts : List Action), f.method = m → f.locked = none → f.entered = [] → (doReturn e (T.setTop f) acts (some (.int z))).1 = T.setFrames fs) : Steps p.tables e below (T.setTop (mkF m pc Ls (.int z :: rest))) (T.setFrames fs) := by
  have hm' : T.vm.method? m = some meth := X.method'
  have hn : narrow .int (.int z) = .int z := rfl
  show Steps p.tables e below (T.setTop { method := m, pc := pc, locals := Ls, stack := _ :: rest, locked := none }) _
  jvm_step X.here [X.here.top, hx, hd, hm', hret, hn]
  first | (intro acts; rw [hl _ acts rfl rfl rfl]) | rw [hl _ _ rfl rfl rfl]
  exact Steps.refl _
/-- from this frame the run comes to an end of which P holds -/
def OEnds (p : Program) (e : Env) (below : List Frame) (P : Outcome → State → Prop) (T : State) (g : JFrame) : Prop :=
  ∃ s₂ o, Steps p.tables e below (T.setTop g) s₂ ∧ s₂.status = .running ∧ Ended s₂ below o ∧ P o s₂
theorem OEnds.go {P : Outcome → State → Prop} {g g' : JFrame} (h : ∀ t, Steps p.tables e below (T'.setTop g') t → Steps p.tables e below (T.setTop g) t) (k : OEnds p e below P T' g') : OEnds p e below P T g := by
  obtain ⟨s₂, o, h1, h2⟩ := k
  exact ⟨s₂, o, h _ h1, h2⟩
theorem OEnds.tr {P : Outcome → State → Prop} {g g' : JFrame} (h : Steps p.tables e below (T.setTop g) (T'.setTop g')) (k : OEnds p e below P T' g') : OEnds p e below P T g :=
  OEnds.go (fun _ q => h.trans q) k
/-- what a contract of this family says of the end -/
def OEndP (s : State) (Q : Option Value → Heap → List Loc → Prop) (C N : Nat) (o : Outcome) (U' : State) : Prop := ∃ v L, o = .returned v ∧ Q v U'.heap L ∧ FrameEnd s o U' L C N
theorem OEnds.out (X : Stand p l e R s m args below meth c T locs cells slots) (hlocks : meth.locks = false) {v : Option Value} (hv : meth.sig.returnType = none → v = none) {Q : Option Value → Heap → List Loc → Prop} {C N : Nat} {g : JFrame}
    (hs : ∀ fs, (∀ (f : JFrame) (acts : List Action), f.method = m → f.locked = none → f.entered = [] → (doReturn e (T.setTop f) acts v).1 = T.setFrames fs) → Steps p.tables e below (T.setTop g) (T.setFrames fs))
    (hq : Q v T.heap locs) (hc : cells ≤ C) (hn : slots ≤ N) : OEnds p e below (OEndP s Q C N) T g := by
  obtain ⟨fs, hr, hrun, hended, hW, hsame⟩ := X.leave (v := v) hv hlocks
  exact ⟨_, _, hs fs hr, hrun, hended, _, _, rfl, hq, ⟨_, rfl⟩, hW, hsame.mono hc hn⟩
theorem OEnds.outN (X : Stand p l e R s m args below meth c T locs cells slots) (hlocks : meth.locks = false) (hx : p.tables.exec = Jvm.exec) {pc : Nat} {Ls : Array Slot} {z : Int32} {t : FieldType} {rest : List Value} (hret : meth.sig.returnType = some t) (ht : t = .boolean ∨ t = .byte ∨ t = .char ∨ t = .short)
    (hd : decode c.code pc = .ok (.ireturn, 1)) {Q : Option Value → Heap → List Loc → Prop} {C N : Nat} (hq : Q (some (.int (nar t z))) T.heap locs) (hc : cells ≤ C) (hn : slots ≤ N) : OEnds p e below (OEndP s Q C N) T (mkF m pc Ls (.int z :: rest)) :=
  OEnds.out X hlocks (fun h => by rw [hret] at h; cases h) (fun fs hr => retN X hx hret ht hd hr) hq hc hn
theorem OEnds.outI (X : Stand p l e R s m args below meth c T locs cells slots) (hlocks : meth.locks = false) (hx : p.tables.exec = Jvm.exec) {pc : Nat} {Ls : Array Slot} {z : Int32} {rest : List Value} (hret : meth.sig.returnType = some .int)
    (hd : decode c.code pc = .ok (.ireturn, 1)) {Q : Option Value → Heap → List Loc → Prop} {C N : Nat} (hq : Q (some (.int z)) T.heap locs) (hc : cells ≤ C) (hn : slots ≤ N) : OEnds p e below (OEndP s Q C N) T (mkF m pc Ls (.int z :: rest)) :=
  OEnds.out X hlocks (fun h => by rw [hret] at h; cases h) (fun fs hr => retI X hx hret hd hr) hq hc hn
theorem OEnds.outJ (X : Stand p l e R s m args below meth c T locs cells slots) (hlocks : meth.locks = false) (hx : p.tables.exec = Jvm.exec) {pc : Nat} {Ls : Array Slot} {z : Int64} {rest : List Value} (hret : meth.sig.returnType = some .long)
    (hd : decode c.code pc = .ok (.lreturn, 1)) {Q : Option Value → Heap → List Loc → Prop} {C N : Nat} (hq : Q (some (.long z)) T.heap locs) (hc : cells ≤ C) (hn : slots ≤ N) : OEnds p e below (OEndP s Q C N) T (mkF m pc Ls (.long z :: rest)) :=
  OEnds.out X hlocks (fun h => by rw [hret] at h; cases h) (fun fs hr => retOut X hx hret rfl (Or.inr (Or.inl ⟨rfl, rfl, z, rfl⟩)) hd hr) hq hc hn
theorem OEnds.outA (X : Stand p l e R s m args below meth c T locs cells slots) (hlocks : meth.locks = false) (hx : p.tables.exec = Jvm.exec) {pc : Nat} {Ls : Array Slot} {w : Value} {t : FieldType} {rest : List Value} (hret : meth.sig.returnType = some t) (ht : t.isReference = true) (hw : w.isRef = true)
    (hd : decode c.code pc = .ok (.areturn, 1)) {Q : Option Value → Heap → List Loc → Prop} {C N : Nat} (hq : Q (some w) T.heap locs) (hc : cells ≤ C) (hn : slots ≤ N) : OEnds p e below (OEndP s Q C N) T (mkF m pc Ls (w :: rest)) :=
  OEnds.out X hlocks (fun h => by rw [hret] at h; cases h) (fun fs hr => retOut X hx hret (by rcases ref_cases hw with rfl | ⟨a, rfl⟩ <;> cases t <;> first | rfl | cases ht) (Or.inr (Or.inr (Or.inr (Or.inr ⟨rfl, ht, hw⟩)))) hd hr) hq hc hn
theorem OEnds.outV (X : Stand p l e R s m args below meth c T locs cells slots) (hlocks : meth.locks = false) (hx : p.tables.exec = Jvm.exec) {pc : Nat} {Ls : Array Slot} (hret : meth.sig.returnType = none)
    (hd : decode c.code pc = .ok (.return_, 1)) {Q : Option Value → Heap → List Loc → Prop} {C N : Nat} (hq : Q none T.heap locs) (hc : cells ≤ C) (hn : slots ≤ N) : OEnds p e below (OEndP s Q C N) T (mkF m pc Ls []) :=
  OEnds.out X hlocks (fun _ => rfl) (fun fs hr => X.returnOut hx hret hd hr) hq hc hn
end New
end Jvm.RoadKit
namespace Jvm.Pilot.@@N@@
open Jvm Jvm.ClassFile Sem Op Lib Jvm.Free Jvm.Stand Jvm.LawKit Jvm.RoadKit Bundle Jvm.Pilot.@@N@@.Jvm.D
theorem d1_0 : decode prog_13_method_9_code 0 = .ok (.iload_n 0, 1) := by decide +kernel
theorem d1_1 : decode prog_13_method_9_code 1 = .ok (.invokestatic 86, 3) := by decide +kernel
theorem d1_4 : decode prog_13_method_9_code 4 = .ok (.ifCond .ne 16, 3) := by decide +kernel
theorem d1_7 : decode prog_13_method_9_code 7 = .ok (.iload_n 0, 1) := by decide +kernel
theorem d1_8 : decode prog_13_method_9_code 8 = .ok (.invokestatic 90, 3) := by decide +kernel
theorem d1_11 : decode prog_13_method_9_code 11 = .ok (.ifCond .ne 9, 3) := by decide +kernel
theorem d1_14 : decode prog_13_method_9_code 14 = .ok (.iload_n 0, 1) := by decide +kernel
theorem d1_15 : decode prog_13_method_9_code 15 = .ok (.bipush 95, 2) := by decide +kernel
theorem d1_17 : decode prog_13_method_9_code 17 = .ok (.if_icmp .ne 7, 3) := by decide +kernel
theorem d1_20 : decode prog_13_method_9_code 20 = .ok (.iconst 1, 1) := by decide +kernel
theorem d1_21 : decode prog_13_method_9_code 21 = .ok (.goto 4, 3) := by decide +kernel
theorem d1_24 : decode prog_13_method_9_code 24 = .ok (.iconst 0, 1) := by decide +kernel
theorem d1_25 : decode prog_13_method_9_code 25 = .ok (.ireturn, 1) := by decide +kernel
theorem d2_0 : decode prog_13_method_14_code 0 = .ok (.iload_n 0, 1) := by decide +kernel
theorem d2_1 : decode prog_13_method_14_code 1 = .ok (.bipush 97, 2) := by decide +kernel
theorem d2_3 : decode prog_13_method_14_code 3 = .ok (.if_icmp .lt 9, 3) := by decide +kernel
theorem d2_6 : decode prog_13_method_14_code 6 = .ok (.iload_n 0, 1) := by decide +kernel
theorem d2_7 : decode prog_13_method_14_code 7 = .ok (.bipush 122, 2) := by decide +kernel
theorem d2_9 : decode prog_13_method_14_code 9 = .ok (.if_icmp .le 15, 3) := by decide +kernel
theorem d2_12 : decode prog_13_method_14_code 12 = .ok (.iload_n 0, 1) := by decide +kernel
theorem d2_13 : decode prog_13_method_14_code 13 = .ok (.bipush 65, 2) := by decide +kernel
theorem d2_15 : decode prog_13_method_14_code 15 = .ok (.if_icmp .lt 13, 3) := by decide +kernel
theorem d2_18 : decode prog_13_method_14_code 18 = .ok (.iload_n 0, 1) := by decide +kernel
theorem d2_19 : decode prog_13_method_14_code 19 = .ok (.bipush 90, 2) := by decide +kernel
theorem d2_21 : decode prog_13_method_14_code 21 = .ok (.if_icmp .gt 7, 3) := by decide +kernel
theorem d2_24 : decode prog_13_method_14_code 24 = .ok (.iconst 1, 1) := by decide +kernel
theorem d2_25 : decode prog_13_method_14_code 25 = .ok (.goto 4, 3) := by decide +kernel
theorem d2_28 : decode prog_13_method_14_code 28 = .ok (.iconst 0, 1) := by decide +kernel
theorem d2_29 : decode prog_13_method_14_code 29 = .ok (.ireturn, 1) := by decide +kernel
theorem d3_0 : decode prog_13_method_15_code 0 = .ok (.iload_n 0, 1) := by decide +kernel
theorem d3_1 : decode prog_13_method_15_code 1 = .ok (.bipush 48, 2) := by decide +kernel
theorem d3_3 : decode prog_13_method_15_code 3 = .ok (.if_icmp .lt 13, 3) := by decide +kernel
theorem d3_6 : decode prog_13_method_15_code 6 = .ok (.iload_n 0, 1) := by decide +kernel
theorem d3_7 : decode prog_13_method_15_code 7 = .ok (.bipush 57, 2) := by decide +kernel
theorem d3_9 : decode prog_13_method_15_code 9 = .ok (.if_icmp .gt 7, 3) := by decide +kernel
theorem d3_12 : decode prog_13_method_15_code 12 = .ok (.iconst 1, 1) := by decide +kernel
theorem d3_13 : decode prog_13_method_15_code 13 = .ok (.goto 4, 3) := by decide +kernel
theorem d3_16 : decode prog_13_method_15_code 16 = .ok (.iconst 0, 1) := by decide +kernel
theorem d3_17 : decode prog_13_method_15_code 17 = .ok (.ireturn, 1) := by decide +kernel
theorem pn_0 : plainName "com/example/shapewright/shapewright/model/ShapeId" = true := by first | (simp [plainName, overriddenIn]; done) | decide +kernel
theorem pn_1 : plainName "com/example/shapewright/shapewright/model/ShapeIdIsIdentifierCharacterPinLaw" = true := by first | (simp [plainName, overriddenIn]; done) | decide +kernel
theorem pd_0 : parseMethodDescriptor "(C)Z" = some ⟨[.char], some .boolean⟩ := by decide +kernel
theorem own_nat (c : Int32) (h0 : 0 ≤ c.toInt) : c = Int32.ofNat c.toInt.toNat := by
  apply Int32.toInt_inj.mp
  have h1 := c.toInt_lt
  rw [Int32.toInt_ofNat_of_lt (by omega)]
  omega
theorem own_fin {P : Int32 → Prop} (K : Nat) (h : ∀ n : Fin K, P (Int32.ofNat n.1)) (c : Int32) (h0 : 0 ≤ c.toInt) (h1 : c.toInt < K) : P c := by
  rw [own_nat c h0]; exact h ⟨c.toInt.toNat, by omega⟩
theorem own_fin' {P : Int32 → Prop} (K : Nat) (c : Int32) (h0 : 0 ≤ c.toInt) (h1 : c.toInt < K) (h : ∀ n : Fin K, P (Int32.ofNat n.1)) : P c := own_fin K h c h0 h1
theorem own_no {G : Prop} {x : Int32} (h : x = 1) (h' : x = 0) : G := absurd (h.symm.trans h') (by decide)
theorem own_cat {v : Value} (h : v.isRef = true) : v.category = 1 := by rcases ref_cases h with rfl | ⟨_, rfl⟩ <;> rfl
theorem ef_rm2 (m : MethodId) (x0 : Int32) : entryFrame m #[(.int x0)] 1 = mkF m 0 #[.val (.int x0)] [] := by first | (simp [entryFrame, mkF, argsToLocals, Value.category]; done) | rfl
def f2 (p0 : Int32) : Int32 := if p0 < (97 : Int32) then if p0 < (65 : Int32) then (0 : Int32) else if (90 : Int32) < p0 then (0 : Int32) else (1 : Int32) else if (122 : Int32) < p0 then if p0 < (65 : Int32) then (0 : Int32) else if (90 : Int32) < p0 then (0 : Int32) else (1 : Int32) else (1 : Int32)
def Q_rm2 (Z : State) (p0 : Int32) (h0 : Heap) (n0 : Nat) (v : Option Value) (h : Heap) (L : List Loc) : Prop := v = some (.int (f2 p0)) ∧ Fr n0 L ∧ h = h0
set_option maxRecDepth 65536 in
set_option maxHeartbeats 40000000 in
theorem rm2 (l : Launch) (Z : State) (a0 : Array Value) (hw : ∀ d ∈ tables_1, d.before a0 Z = true) (ws : List Jvm.Cond) (p0 : Int32) (h0 : Heap) (n0 : Nat) (Z0 : n0 ≤ h0.size) :
    MetFree l (⟨"com/example/shapewright/shapewright/model/ShapeId", "isLetter", "(C)Z"⟩ : MethodName) (head1 (Jvm.Cond.code (⟨"com/example/shapewright/shapewright/model/ShapeId", "isLetter", "(C)Z"⟩ : MethodName) prog_13_method_14_code 1 (some .boolean) :: ws) ({ frames := 0, cells := 0, slots := 0, locals := 0 } : Room)) (fun a U => a = #[(.int p0)] ∧ Z.Warmed39 U.vm ∧ U.heap = h0) (fun _ _ _ _ _ => True) (fun _ U o U' => ∃ v L, o = .returned v ∧ Q_rm2 Z p0 h0 n0 v U'.heap L ∧ FrameEnd U o U' L ({ frames := 0, cells := 0, slots := 0, locals := 0 } : Room).cells ({ frames := 0, cells := 0, slots := 0, locals := 0 } : Room).slots) := by
  refine MetFree.of_bodySF (plainFor_of_name pn_0) hisR ?_
  intro p e s m args below meth c s₁ Bd hml0 hP hK
  obtain ⟨rfl, hZ, hh⟩ := hP
  have hx := Bd.exec
  have hby := Bd.bytes
  have hml : c.maxLocals = 1 := hml0
  have hown : s.vm.findClass "com/example/shapewright/shapewright/model/ShapeId" = some m.cls := findClass_of_methodNamed Bd.named
  have hnm := (name_of_methodNamed Bd.named Bd.method).1
  have X0 : Stand p l e ({ frames := 0, cells := 0, slots := 0, locals := 0 } : Room) s m #[(.int p0)] below meth c s₁ [] 0 0 := Stand.of_body Bd
  have e0 : s₁.heap = h0 := by rw [← hh, Bd.state]; rfl
  have N0 := Fr.nil n0
  show OEnds p e below (OEndP s (Q_rm2 Z p0 h0 n0) ({ frames := 0, cells := 0, slots := 0, locals := 0 } : Room).cells ({ frames := 0, cells := 0, slots := 0, locals := 0 } : Room).slots) s₁ (entryFrame m #[(.int p0)] 1)
  rw [ef_rm2 m p0]
  refine OEnds.go (g' := (mkF m 1 #[.val (.int p0)] [(.int p0)])) (fun t k => XS.iloadN X0.here hx rfl (hb hby d2_0) rfl k) ?_
  refine OEnds.go (g' := (mkF m 3 #[.val (.int p0)] [(.int (97 : Int32)), (.int p0)])) (fun t k => XS.bipush X0.here hx rfl (hb hby d2_1) k) ?_
  by_cases c3_1 : p0 < (97 : Int32)
  · -- yes
    refine OEnds.go (g' := (mkF m 12 #[.val (.int p0)] [])) (fun t k => XS.icmpYes X0.here hx rfl (pc0 := 3) (pc' := 12) rfl (hb hby d2_3) rfl (tlt c3_1).1 (by decide) (by decide) k) ?_
    refine OEnds.go (g' := (mkF m 13 #[.val (.int p0)] [(.int p0)])) (fun t k => XS.iloadN X0.here hx rfl (hb hby d2_12) rfl k) ?_
    refine OEnds.go (g' := (mkF m 15 #[.val (.int p0)] [(.int (65 : Int32)), (.int p0)])) (fun t k => XS.bipush X0.here hx rfl (hb hby d2_13) k) ?_
    by_cases c15_2 : p0 < (65 : Int32)
    · -- yes
      refine OEnds.go (g' := (mkF m 28 #[.val (.int p0)] [])) (fun t k => XS.icmpYes X0.here hx rfl (pc0 := 15) (pc' := 28) rfl (hb hby d2_15) rfl (tlt c15_2).1 (by decide) (by decide) k) ?_
      refine OEnds.go (g' := (mkF m 29 #[.val (.int p0)] [(.int (0 : Int32))])) (fun t k => XS.iconst X0.here hx rfl (hb hby d2_28) k) ?_
      exact OEnds.outN X0 Bd.notSynchronized hx (t := .boolean) Bd.returns (by simp) (hb hby d2_29) ⟨by show (some (.int (0 : Int32)) : Option Value) = some (.int (f2 p0)); rw [f2, if_pos c3_1, if_pos c15_2], N0, e0⟩ (by decide) (by decide)
    · -- no
      refine OEnds.go (g' := (mkF m 18 #[.val (.int p0)] [])) (fun t k => XS.icmpNo X0.here hx rfl (hb hby d2_15) rfl (flt c15_2).1 k) ?_
      refine OEnds.go (g' := (mkF m 19 #[.val (.int p0)] [(.int p0)])) (fun t k => XS.iloadN X0.here hx rfl (hb hby d2_18) rfl k) ?_
      refine OEnds.go (g' := (mkF m 21 #[.val (.int p0)] [(.int (90 : Int32)), (.int p0)])) (fun t k => XS.bipush X0.here hx rfl (hb hby d2_19) k) ?_
      by_cases c21_3 : (90 : Int32) < p0
      · -- yes
        refine OEnds.go (g' := (mkF m 28 #[.val (.int p0)] [])) (fun t k => XS.icmpYes X0.here hx rfl (pc0 := 21) (pc' := 28) rfl (hb hby d2_21) rfl (tlt c21_3).2.2.1 (by decide) (by decide) k) ?_
        refine OEnds.go (g' := (mkF m 29 #[.val (.int p0)] [(.int (0 : Int32))])) (fun t k => XS.iconst X0.here hx rfl (hb hby d2_28) k) ?_
        exact OEnds.outN X0 Bd.notSynchronized hx (t := .boolean) Bd.returns (by simp) (hb hby d2_29) ⟨by show (some (.int (0 : Int32)) : Option Value) = some (.int (f2 p0)); rw [f2, if_pos c3_1, if_neg c15_2, if_pos c21_3], N0, e0⟩ (by decide) (by decide)
      · -- no
        refine OEnds.go (g' := (mkF m 24 #[.val (.int p0)] [])) (fun t k => XS.icmpNo X0.here hx rfl (hb hby d2_21) rfl (flt c21_3).2.2.1 k) ?_
        refine OEnds.go (g' := (mkF m 25 #[.val (.int p0)] [(.int (1 : Int32))])) (fun t k => XS.iconst X0.here hx rfl (hb hby d2_24) k) ?_
        refine OEnds.go (g' := (mkF m 29 #[.val (.int p0)] [(.int (1 : Int32))])) (fun t k => XS.goto X0.here hx rfl (pc0 := 25) (pc' := 29) rfl (hb hby d2_25) (by decide) (by decide) k) ?_
        exact OEnds.outN X0 Bd.notSynchronized hx (t := .boolean) Bd.returns (by simp) (hb hby d2_29) ⟨by show (some (.int (1 : Int32)) : Option Value) = some (.int (f2 p0)); rw [f2, if_pos c3_1, if_neg c15_2, if_neg c21_3], N0, e0⟩ (by decide) (by decide)
  · -- no
    refine OEnds.go (g' := (mkF m 6 #[.val (.int p0)] [])) (fun t k => XS.icmpNo X0.here hx rfl (hb hby d2_3) rfl (flt c3_1).1 k) ?_
    refine OEnds.go (g' := (mkF m 7 #[.val (.int p0)] [(.int p0)])) (fun t k => XS.iloadN X0.here hx rfl (hb hby d2_6) rfl k) ?_
    refine OEnds.go (g' := (mkF m 9 #[.val (.int p0)] [(.int (122 : Int32)), (.int p0)])) (fun t k => XS.bipush X0.here hx rfl (hb hby d2_7) k) ?_
    by_cases c9_4 : (122 : Int32) < p0
    · -- yes
      refine OEnds.go (g' := (mkF m 12 #[.val (.int p0)] [])) (fun t k => XS.icmpNo X0.here hx rfl (hb hby d2_9) rfl (tlt c9_4).2.2.2 k) ?_
      refine OEnds.go (g' := (mkF m 13 #[.val (.int p0)] [(.int p0)])) (fun t k => XS.iloadN X0.here hx rfl (hb hby d2_12) rfl k) ?_
      refine OEnds.go (g' := (mkF m 15 #[.val (.int p0)] [(.int (65 : Int32)), (.int p0)])) (fun t k => XS.bipush X0.here hx rfl (hb hby d2_13) k) ?_
      by_cases c15_5 : p0 < (65 : Int32)
      · -- yes
        refine OEnds.go (g' := (mkF m 28 #[.val (.int p0)] [])) (fun t k => XS.icmpYes X0.here hx rfl (pc0 := 15) (pc' := 28) rfl (hb hby d2_15) rfl (tlt c15_5).1 (by decide) (by decide) k) ?_
        refine OEnds.go (g' := (mkF m 29 #[.val (.int p0)] [(.int (0 : Int32))])) (fun t k => XS.iconst X0.here hx rfl (hb hby d2_28) k) ?_
        exact OEnds.outN X0 Bd.notSynchronized hx (t := .boolean) Bd.returns (by simp) (hb hby d2_29) ⟨by show (some (.int (0 : Int32)) : Option Value) = some (.int (f2 p0)); rw [f2, if_neg c3_1, if_pos c9_4, if_pos c15_5], N0, e0⟩ (by decide) (by decide)
      · -- no
        refine OEnds.go (g' := (mkF m 18 #[.val (.int p0)] [])) (fun t k => XS.icmpNo X0.here hx rfl (hb hby d2_15) rfl (flt c15_5).1 k) ?_
        refine OEnds.go (g' := (mkF m 19 #[.val (.int p0)] [(.int p0)])) (fun t k => XS.iloadN X0.here hx rfl (hb hby d2_18) rfl k) ?_
        refine OEnds.go (g' := (mkF m 21 #[.val (.int p0)] [(.int (90 : Int32)), (.int p0)])) (fun t k => XS.bipush X0.here hx rfl (hb hby d2_19) k) ?_
        by_cases c21_6 : (90 : Int32) < p0
        · -- yes
          refine OEnds.go (g' := (mkF m 28 #[.val (.int p0)] [])) (fun t k => XS.icmpYes X0.here hx rfl (pc0 := 21) (pc' := 28) rfl (hb hby d2_21) rfl (tlt c21_6).2.2.1 (by decide) (by decide) k) ?_
          refine OEnds.go (g' := (mkF m 29 #[.val (.int p0)] [(.int (0 : Int32))])) (fun t k => XS.iconst X0.here hx rfl (hb hby d2_28) k) ?_
          exact OEnds.outN X0 Bd.notSynchronized hx (t := .boolean) Bd.returns (by simp) (hb hby d2_29) ⟨by show (some (.int (0 : Int32)) : Option Value) = some (.int (f2 p0)); rw [f2, if_neg c3_1, if_pos c9_4, if_neg c15_5, if_pos c21_6], N0, e0⟩ (by decide) (by decide)
        · -- no
          refine OEnds.go (g' := (mkF m 24 #[.val (.int p0)] [])) (fun t k => XS.icmpNo X0.here hx rfl (hb hby d2_21) rfl (flt c21_6).2.2.1 k) ?_
          refine OEnds.go (g' := (mkF m 25 #[.val (.int p0)] [(.int (1 : Int32))])) (fun t k => XS.iconst X0.here hx rfl (hb hby d2_24) k) ?_
          refine OEnds.go (g' := (mkF m 29 #[.val (.int p0)] [(.int (1 : Int32))])) (fun t k => XS.goto X0.here hx rfl (pc0 := 25) (pc' := 29) rfl (hb hby d2_25) (by decide) (by decide) k) ?_
          exact OEnds.outN X0 Bd.notSynchronized hx (t := .boolean) Bd.returns (by simp) (hb hby d2_29) ⟨by show (some (.int (1 : Int32)) : Option Value) = some (.int (f2 p0)); rw [f2, if_neg c3_1, if_pos c9_4, if_neg c15_5, if_neg c21_6], N0, e0⟩ (by decide) (by decide)
    · -- no
      refine OEnds.go (g' := (mkF m 24 #[.val (.int p0)] [])) (fun t k => XS.icmpYes X0.here hx rfl (pc0 := 9) (pc' := 24) rfl (hb hby d2_9) rfl (flt c9_4).2.2.2 (by decide) (by decide) k) ?_
      refine OEnds.go (g' := (mkF m 25 #[.val (.int p0)] [(.int (1 : Int32))])) (fun t k => XS.iconst X0.here hx rfl (hb hby d2_24) k) ?_
      refine OEnds.go (g' := (mkF m 29 #[.val (.int p0)] [(.int (1 : Int32))])) (fun t k => XS.goto X0.here hx rfl (pc0 := 25) (pc' := 29) rfl (hb hby d2_25) (by decide) (by decide) k) ?_
      exact OEnds.outN X0 Bd.notSynchronized hx (t := .boolean) Bd.returns (by simp) (hb hby d2_29) ⟨by show (some (.int (1 : Int32)) : Option Value) = some (.int (f2 p0)); rw [f2, if_neg c3_1, if_neg c9_4], N0, e0⟩ (by decide) (by decide)
theorem ef_rm3 (m : MethodId) (x0 : Int32) : entryFrame m #[(.int x0)] 1 = mkF m 0 #[.val (.int x0)] [] := by first | (simp [entryFrame, mkF, argsToLocals, Value.category]; done) | rfl
def f3 (p0 : Int32) : Int32 := if p0 < (48 : Int32) then (0 : Int32) else if (57 : Int32) < p0 then (0 : Int32) else (1 : Int32)
def Q_rm3 (Z : State) (p0 : Int32) (h0 : Heap) (n0 : Nat) (v : Option Value) (h : Heap) (L : List Loc) : Prop := v = some (.int (f3 p0)) ∧ Fr n0 L ∧ h = h0
set_option maxRecDepth 65536 in
set_option maxHeartbeats 40000000 in
theorem rm3 (l : Launch) (Z : State) (a0 : Array Value) (hw : ∀ d ∈ tables_1, d.before a0 Z = true) (ws : List Jvm.Cond) (p0 : Int32) (h0 : Heap) (n0 : Nat) (Z0 : n0 ≤ h0.size) :
    MetFree l (⟨"com/example/shapewright/shapewright/model/ShapeId", "isDigit", "(C)Z"⟩ : MethodName) (head1 (Jvm.Cond.code (⟨"com/example/shapewright/shapewright/model/ShapeId", "isDigit", "(C)Z"⟩ : MethodName) prog_13_method_15_code 1 (some .boolean) :: ws) ({ frames := 0, cells := 0, slots := 0, locals := 0 } : Room)) (fun a U => a = #[(.int p0)] ∧ Z.Warmed39 U.vm ∧ U.heap = h0) (fun _ _ _ _ _ => True) (fun _ U o U' => ∃ v L, o = .returned v ∧ Q_rm3 Z p0 h0 n0 v U'.heap L ∧ FrameEnd U o U' L ({ frames := 0, cells := 0, slots := 0, locals := 0 } : Room).cells ({ frames := 0, cells := 0, slots := 0, locals := 0 } : Room).slots) := by
  refine MetFree.of_bodySF (plainFor_of_name pn_0) hisR ?_
  intro p e s m args below meth c s₁ Bd hml0 hP hK
  obtain ⟨rfl, hZ, hh⟩ := hP
  have hx := Bd.exec
  have hby := Bd.bytes
  have hml : c.maxLocals = 1 := hml0
  have hown : s.vm.findClass "com/example/shapewright/shapewright/model/ShapeId" = some m.cls := findClass_of_methodNamed Bd.named
  have hnm := (name_of_methodNamed Bd.named Bd.method).1
  have X0 : Stand p l e ({ frames := 0, cells := 0, slots := 0, locals := 0 } : Room) s m #[(.int p0)] below meth c s₁ [] 0 0 := Stand.of_body Bd
  have e0 : s₁.heap = h0 := by rw [← hh, Bd.state]; rfl
  have N0 := Fr.nil n0
  show OEnds p e below (OEndP s (Q_rm3 Z p0 h0 n0) ({ frames := 0, cells := 0, slots := 0, locals := 0 } : Room).cells ({ frames := 0, cells := 0, slots := 0, locals := 0 } : Room).slots) s₁ (entryFrame m #[(.int p0)] 1)
  rw [ef_rm3 m p0]
  refine OEnds.go (g' := (mkF m 1 #[.val (.int p0)] [(.int p0)])) (fun t k => XS.iloadN X0.here hx rfl (hb hby d3_0) rfl k) ?_
  refine OEnds.go (g' := (mkF m 3 #[.val (.int p0)] [(.int (48 : Int32)), (.int p0)])) (fun t k => XS.bipush X0.here hx rfl (hb hby d3_1) k) ?_
  by_cases c3_1 : p0 < (48 : Int32)
  · -- yes
    refine OEnds.go (g' := (mkF m 16 #[.val (.int p0)] [])) (fun t k => XS.icmpYes X0.here hx rfl (pc0 := 3) (pc' := 16) rfl (hb hby d3_3) rfl (tlt c3_1).1 (by decide) (by decide) k) ?_
    refine OEnds.go (g' := (mkF m 17 #[.val (.int p0)] [(.int (0 : Int32))])) (fun t k => XS.iconst X0.here hx rfl (hb hby d3_16) k) ?_
    exact OEnds.outN X0 Bd.notSynchronized hx (t := .boolean) Bd.returns (by simp) (hb hby d3_17) ⟨by show (some (.int (0 : Int32)) : Option Value) = some (.int (f3 p0)); rw [f3, if_pos c3_1], N0, e0⟩ (by decide) (by decide)
  · -- no
    refine OEnds.go (g' := (mkF m 6 #[.val (.int p0)] [])) (fun t k => XS.icmpNo X0.here hx rfl (hb hby d3_3) rfl (flt c3_1).1 k) ?_
    refine OEnds.go (g' := (mkF m 7 #[.val (.int p0)] [(.int p0)])) (fun t k => XS.iloadN X0.here hx rfl (hb hby d3_6) rfl k) ?_
    refine OEnds.go (g' := (mkF m 9 #[.val (.int p0)] [(.int (57 : Int32)), (.int p0)])) (fun t k => XS.bipush X0.here hx rfl (hb hby d3_7) k) ?_
    by_cases c9_2 : (57 : Int32) < p0
    · -- yes
      refine OEnds.go (g' := (mkF m 16 #[.val (.int p0)] [])) (fun t k => XS.icmpYes X0.here hx rfl (pc0 := 9) (pc' := 16) rfl (hb hby d3_9) rfl (tlt c9_2).2.2.1 (by decide) (by decide) k) ?_
      refine OEnds.go (g' := (mkF m 17 #[.val (.int p0)] [(.int (0 : Int32))])) (fun t k => XS.iconst X0.here hx rfl (hb hby d3_16) k) ?_
      exact OEnds.outN X0 Bd.notSynchronized hx (t := .boolean) Bd.returns (by simp) (hb hby d3_17) ⟨by show (some (.int (0 : Int32)) : Option Value) = some (.int (f3 p0)); rw [f3, if_neg c3_1, if_pos c9_2], N0, e0⟩ (by decide) (by decide)
    · -- no
      refine OEnds.go (g' := (mkF m 12 #[.val (.int p0)] [])) (fun t k => XS.icmpNo X0.here hx rfl (hb hby d3_9) rfl (flt c9_2).2.2.1 k) ?_
      refine OEnds.go (g' := (mkF m 13 #[.val (.int p0)] [(.int (1 : Int32))])) (fun t k => XS.iconst X0.here hx rfl (hb hby d3_12) k) ?_
      refine OEnds.go (g' := (mkF m 17 #[.val (.int p0)] [(.int (1 : Int32))])) (fun t k => XS.goto X0.here hx rfl (pc0 := 13) (pc' := 17) rfl (hb hby d3_13) (by decide) (by decide) k) ?_
      exact OEnds.outN X0 Bd.notSynchronized hx (t := .boolean) Bd.returns (by simp) (hb hby d3_17) ⟨by show (some (.int (1 : Int32)) : Option Value) = some (.int (f3 p0)); rw [f3, if_neg c3_1, if_neg c9_2], N0, e0⟩ (by decide) (by decide)
theorem ef_rm1 (m : MethodId) (x0 : Int32) : entryFrame m #[(.int x0)] 1 = mkF m 0 #[.val (.int x0)] [] := by first | (simp [entryFrame, mkF, argsToLocals, Value.category]; done) | rfl
def f1 (p0 : Int32) : Int32 := if (f2 p0) = (0 : Int32) then if (f3 p0) = (0 : Int32) then if p0 = (95 : Int32) then (1 : Int32) else (0 : Int32) else (1 : Int32) else (1 : Int32)
def Q_rm1 (Z : State) (p0 : Int32) (h0 : Heap) (n0 : Nat) (v : Option Value) (h : Heap) (L : List Loc) : Prop := v = some (.int (f1 p0)) ∧ Fr n0 L ∧ h = h0
set_option maxRecDepth 65536 in
set_option maxHeartbeats 40000000 in
theorem rm1 (l : Launch) (Z : State) (a0 : Array Value) (hw : ∀ d ∈ tables_1, d.before a0 Z = true) (ws : List Jvm.Cond) (p0 : Int32) (h0 : Heap) (n0 : Nat) (Z0 : n0 ≤ h0.size) :
    MetFree l (⟨"com/example/shapewright/shapewright/model/ShapeId", "isIdentifierCharacter", "(C)Z"⟩ : MethodName) (head1 (Jvm.Cond.code (⟨"com/example/shapewright/shapewright/model/ShapeId", "isIdentifierCharacter", "(C)Z"⟩ : MethodName) prog_13_method_9_code 1 (some .boolean) :: ws) ({ frames := 1, cells := 0, slots := 0, locals := 12 } : Room)) (fun a U => a = #[(.int p0)] ∧ Z.Warmed39 U.vm ∧ U.heap = h0) (fun _ _ _ _ _ => True) (fun _ U o U' => ∃ v L, o = .returned v ∧ Q_rm1 Z p0 h0 n0 v U'.heap L ∧ FrameEnd U o U' L ({ frames := 1, cells := 0, slots := 0, locals := 12 } : Room).cells ({ frames := 1, cells := 0, slots := 0, locals := 12 } : Room).slots) := by
  refine MetFree.of_bodySF (plainFor_of_name pn_0) hisR ?_
  intro p e s m args below meth c s₁ Bd hml0 hP hK
  obtain ⟨rfl, hZ, hh⟩ := hP
  have hx := Bd.exec
  have hby := Bd.bytes
  have hml : c.maxLocals = 1 := hml0
  have hown : s.vm.findClass "com/example/shapewright/shapewright/model/ShapeId" = some m.cls := findClass_of_methodNamed Bd.named
  have hnm := (name_of_methodNamed Bd.named Bd.method).1
  have X0 : Stand p l e ({ frames := 1, cells := 0, slots := 0, locals := 12 } : Room) s m #[(.int p0)] below meth c s₁ [] 0 0 := Stand.of_body Bd
  have e0 : s₁.heap = h0 := by rw [← hh, Bd.state]; rfl
  have N0 := Fr.nil n0
  show OEnds p e below (OEndP s (Q_rm1 Z p0 h0 n0) ({ frames := 1, cells := 0, slots := 0, locals := 12 } : Room).cells ({ frames := 1, cells := 0, slots := 0, locals := 12 } : Room).slots) s₁ (entryFrame m #[(.int p0)] 1)
  rw [ef_rm1 m p0]
  refine OEnds.go (g' := (mkF m 1 #[.val (.int p0)] [(.int p0)])) (fun t k => XS.iloadN X0.here hx rfl (hb hby d1_0) rfl k) ?_
  obtain ⟨_, _, ⟨T1, L1, k1, n1⟩, -, X1, ⟨Lc1, hQ1, l1, y1, z1⟩, st1⟩ := Jvm.LawKit.callS X0 hx (y := (⟨"com/example/shapewright/shapewright/model/ShapeId", "isLetter", "(C)Z"⟩ : MethodName)) hown (mvT hZ (hw _ (List.mem_of_getElem? (i := 4) rfl))) (mvT hZ (hw _ (List.mem_of_getElem? (i := 5) rfl))) (mvT hZ (hw _ (List.mem_of_getElem? (i := 2) rfl))) (mvT hZ (hw _ (List.mem_of_getElem? (i := 6) rfl))) (by decide) (backOf (W := 0) (rm2 l Z a0 hw [] p0 h0 n0 Z0) hZ (hw _ (List.mem_of_getElem? (i := 6) rfl)) (hw _ (List.mem_of_getElem? (i := 2) rfl)) (by decide) (by decide)) (g := (mkF m 1 #[.val (.int p0)] [(.int p0)])) rfl (by rw [hml]; rfl) (argsL := [(.int p0)]) (rest := []) (lenOf pd_0 rfl) rfl (by show 2 * 0 + _ ≤ _; exact Nat.le_of_eq rfl) (hb hby d1_1) (fun _ _ => ⟨rfl, e0, (by decide : 0 + 0 ≤ _), (by decide : 0 + 0 ≤ _)⟩)
  dsimp only [Pt.U, Pt.locs, Pt.cells, Pt.slots] at X1 l1 y1 z1 st1 hQ1
  subst l1 y1 z1
  obtain ⟨rfl, N1q, e1⟩ := hQ1
  have N1 := Fr.app N0 N1q
  refine OEnds.go (g' := (mkF m 4 #[.val (.int p0)] [(.int (f2 p0))])) st1 ?_
  by_cases c4_2 : (f2 p0) = (0 : Int32)
  · -- yes
    refine OEnds.go (g' := (mkF m 7 #[.val (.int p0)] [])) (fun t k => XS.ifNo X1.here hx rfl (hb hby d1_4) rfl ((if0 _ _).trans (teq c4_2).2) k) ?_
    refine OEnds.go (g' := (mkF m 8 #[.val (.int p0)] [(.int p0)])) (fun t k => XS.iloadN X1.here hx rfl (hb hby d1_7) rfl k) ?_
    obtain ⟨_, _, ⟨T3, L3, k3, n3⟩, -, X3, ⟨Lc3, hQ3, l3, y3, z3⟩, st3⟩ := Jvm.LawKit.callS X1 hx (y := (⟨"com/example/shapewright/shapewright/model/ShapeId", "isDigit", "(C)Z"⟩ : MethodName)) hown (mvT hZ (hw _ (List.mem_of_getElem? (i := 7) rfl))) (mvT hZ (hw _ (List.mem_of_getElem? (i := 8) rfl))) (mvT hZ (hw _ (List.mem_of_getElem? (i := 2) rfl))) (mvT hZ (hw _ (List.mem_of_getElem? (i := 9) rfl))) (by decide) (backOf (W := 0) (rm3 l Z a0 hw [] p0 h0 n0 Z0) hZ (hw _ (List.mem_of_getElem? (i := 9) rfl)) (hw _ (List.mem_of_getElem? (i := 2) rfl)) (by decide) (by decide)) (g := (mkF m 8 #[.val (.int p0)] [(.int p0)])) rfl (by rw [hml]; rfl) (argsL := [(.int p0)]) (rest := []) (lenOf pd_0 rfl) rfl (by show 2 * 0 + _ ≤ _; exact Nat.le_of_eq rfl) (hb hby d1_8) (fun _ _ => ⟨rfl, e1, (by decide : 0 + 0 ≤ _), (by decide : 0 + 0 ≤ _)⟩)
    dsimp only [Pt.U, Pt.locs, Pt.cells, Pt.slots] at X3 l3 y3 z3 st3 hQ3
    subst l3 y3 z3
    obtain ⟨rfl, N3q, e3⟩ := hQ3
    have N3 := Fr.app N1 N3q
    refine OEnds.go (g' := (mkF m 11 #[.val (.int p0)] [(.int (f3 p0))])) st3 ?_
    by_cases c11_4 : (f3 p0) = (0 : Int32)
    · -- yes
      refine OEnds.go (g' := (mkF m 14 #[.val (.int p0)] [])) (fun t k => XS.ifNo X3.here hx rfl (hb hby d1_11) rfl ((if0 _ _).trans (teq c11_4).2) k) ?_
      refine OEnds.go (g' := (mkF m 15 #[.val (.int p0)] [(.int p0)])) (fun t k => XS.iloadN X3.here hx rfl (hb hby d1_14) rfl k) ?_
      refine OEnds.go (g' := (mkF m 17 #[.val (.int p0)] [(.int (95 : Int32)), (.int p0)])) (fun t k => XS.bipush X3.here hx rfl (hb hby d1_15) k) ?_
      by_cases c17_5 : p0 = (95 : Int32)
      · -- yes
        refine OEnds.go (g' := (mkF m 20 #[.val (.int p0)] [])) (fun t k => XS.icmpNo X3.here hx rfl (hb hby d1_17) rfl (teq c17_5).2 k) ?_
        refine OEnds.go (g' := (mkF m 21 #[.val (.int p0)] [(.int (1 : Int32))])) (fun t k => XS.iconst X3.here hx rfl (hb hby d1_20) k) ?_
        refine OEnds.go (g' := (mkF m 25 #[.val (.int p0)] [(.int (1 : Int32))])) (fun t k => XS.goto X3.here hx rfl (pc0 := 21) (pc' := 25) rfl (hb hby d1_21) (by decide) (by decide) k) ?_
        exact OEnds.outN X3 Bd.notSynchronized hx (t := .boolean) Bd.returns (by simp) (hb hby d1_25) ⟨by show (some (.int (1 : Int32)) : Option Value) = some (.int (f1 p0)); rw [f1, if_pos c4_2, if_pos c11_4, if_pos c17_5], N3, e3⟩ (by decide) (by decide)
      · -- no
        refine OEnds.go (g' := (mkF m 24 #[.val (.int p0)] [])) (fun t k => XS.icmpYes X3.here hx rfl (pc0 := 17) (pc' := 24) rfl (hb hby d1_17) rfl (feq c17_5).2 (by decide) (by decide) k) ?_
        refine OEnds.go (g' := (mkF m 25 #[.val (.int p0)] [(.int (0 : Int32))])) (fun t k => XS.iconst X3.here hx rfl (hb hby d1_24) k) ?_
        exact OEnds.outN X3 Bd.notSynchronized hx (t := .boolean) Bd.returns (by simp) (hb hby d1_25) ⟨by show (some (.int (0 : Int32)) : Option Value) = some (.int (f1 p0)); rw [f1, if_pos c4_2, if_pos c11_4, if_neg c17_5], N3, e3⟩ (by decide) (by decide)
    · -- no
      refine OEnds.go (g' := (mkF m 20 #[.val (.int p0)] [])) (fun t k => XS.ifYes X3.here hx rfl (pc0 := 11) (pc' := 20) rfl (hb hby d1_11) rfl ((if0 _ _).trans (feq c11_4).2) (by decide) (by decide) k) ?_
      refine OEnds.go (g' := (mkF m 21 #[.val (.int p0)] [(.int (1 : Int32))])) (fun t k => XS.iconst X3.here hx rfl (hb hby d1_20) k) ?_
      refine OEnds.go (g' := (mkF m 25 #[.val (.int p0)] [(.int (1 : Int32))])) (fun t k => XS.goto X3.here hx rfl (pc0 := 21) (pc' := 25) rfl (hb hby d1_21) (by decide) (by decide) k) ?_
      exact OEnds.outN X3 Bd.notSynchronized hx (t := .boolean) Bd.returns (by simp) (hb hby d1_25) ⟨by show (some (.int (1 : Int32)) : Option Value) = some (.int (f1 p0)); rw [f1, if_pos c4_2, if_neg c11_4], N3, e3⟩ (by decide) (by decide)
  · -- no
    refine OEnds.go (g' := (mkF m 20 #[.val (.int p0)] [])) (fun t k => XS.ifYes X1.here hx rfl (pc0 := 4) (pc' := 20) rfl (hb hby d1_4) rfl ((if0 _ _).trans (feq c4_2).2) (by decide) (by decide) k) ?_
    refine OEnds.go (g' := (mkF m 21 #[.val (.int p0)] [(.int (1 : Int32))])) (fun t k => XS.iconst X1.here hx rfl (hb hby d1_20) k) ?_
    refine OEnds.go (g' := (mkF m 25 #[.val (.int p0)] [(.int (1 : Int32))])) (fun t k => XS.goto X1.here hx rfl (pc0 := 21) (pc' := 25) rfl (hb hby d1_21) (by decide) (by decide) k) ?_
    exact OEnds.outN X1 Bd.notSynchronized hx (t := .boolean) Bd.returns (by simp) (hb hby d1_25) ⟨by show (some (.int (1 : Int32)) : Option Value) = some (.int (f1 p0)); rw [f1, if_neg c4_2], N1, e1⟩ (by decide) (by decide)
theorem ef_rm0 (m : MethodId) (x0 : Int32) : entryFrame m #[(.int x0)] maxLocals = mkF m 0 #[.val (.int x0), .unset, .unset, .unset, .unset, .unset, .unset] [] := by first | (simp [entryFrame, mkF, argsToLocals, Value.category, maxLocals]; done) | rfl
def Q_rm0 (Z : State) (p0 : Int32) (h0 : Heap) (n0 : Nat) (v : Option Value) (h : Heap) (L : List Loc) : Prop := v = some (.int 1) ∧ Fr n0 L
def jrm0_26_l3 (p0 : Int32) : Int32 := if ((p0.toUInt32.toUInt16.toUInt32.toInt32) ||| (32 : Int32)) < (97 : Int32) then (0 : Int32) else if (122 : Int32) < ((p0.toUInt32.toUInt16.toUInt32.toInt32) ||| (32 : Int32)) then (0 : Int32) else (1 : Int32)
def jrm0_51_l5 (p0 : Int32) : Int32 := if ((p0.toUInt32.toUInt16.toUInt32.toInt32) - (48 : Int32)) < (0 : Int32) then (0 : Int32) else if (9 : Int32) < ((p0.toUInt32.toUInt16.toUInt32.toInt32) - (48 : Int32)) then (0 : Int32) else (1 : Int32)
def jrm0_73_l6 (p0 : Int32) : Int32 := if (jrm0_26_l3 p0) = (0 : Int32) then if (jrm0_51_l5 p0) = (0 : Int32) then if (p0.toUInt32.toUInt16.toUInt32.toInt32) = (95 : Int32) then (1 : Int32) else (0 : Int32) else (1 : Int32) else (1 : Int32)
def f0 (p0 : Int32) : Int32 := if (f1 (p0.toUInt32.toUInt16.toUInt32.toInt32)) = (jrm0_73_l6 p0) then (1 : Int32) else (0 : Int32)
theorem own_law (x : Int32) : f0 x = 1 := by
  have h1 := (c_i2c x).2
  rw [f0, jrm0_73_l6, jrm0_51_l5, jrm0_26_l3]
  generalize x.toUInt32.toUInt16.toUInt32.toInt32 = c at h1
  by_cases hc : c.toInt < 128
  · apply own_fin' 128 c <;> first | omega | decide +kernel
  · have hb := (c_or0 c 32 (by omega) (by decide)).1
    have k : ∀ z : Int32, z.toInt < 128 → z < c := fun z hz => Int32.lt_iff_toInt_lt.mpr (by omega)
    have n : ∀ z : Int32, z.toInt < 128 → ¬ c < z := fun z hz q => by have := Int32.lt_iff_toInt_lt.mp q; omega
    have ne : ∀ z : Int32, z.toInt < 128 → ¬ c = z := fun z hz q => by subst q; exact hc hz
    have hd : (c - 48).toInt = c.toInt - 48 := by
      have := c_isub c 48
      have e : (48 : Int32).toInt = 48 := by decide
      have := rng32 (c - 48)
      omega
    have d : ∀ z : Int32, z.toInt < 20 → ¬ c - 48 < z := fun z hz q => by have := Int32.lt_iff_toInt_lt.mp q; omega
    have dk : ∀ z : Int32, z.toInt < 20 → z < c - 48 := fun z hz => Int32.lt_iff_toInt_lt.mpr (by omega)
    have l : ∀ z : Int32, z.toInt < 128 → ¬ (c ||| 32) < z := fun z hz q => by have := Int32.lt_iff_toInt_lt.mp q; omega
    have lk : ∀ z : Int32, z.toInt < 128 → z < (c ||| 32) := fun z hz => Int32.lt_iff_toInt_lt.mpr (by omega)
    rw [if_neg (l 97 (by decide)), if_pos (lk 122 (by decide)), if_neg (d 0 (by decide)), if_pos (dk 9 (by decide)), if_neg (ne 95 (by decide)), f1, f2, f3, if_neg (n 97 (by decide)), if_pos (k 122 (by decide)), if_neg (n 65 (by decide)), if_pos (k 90 (by decide)), if_neg (n 48 (by decide)), if_pos (k 57 (by decide)), if_neg (ne 95 (by decide))]
    rfl
set_option maxRecDepth 65536 in
set_option maxHeartbeats 40000000 in
theorem rm0 (l : Launch) (Z : State) (a0 : Array Value) (hw : ∀ d ∈ tables_1, d.before a0 Z = true) (ws : List Jvm.Cond) (p0 : Int32) (h0 : Heap) (n0 : Nat) (Z0 : n0 ≤ h0.size) :
    MetFree l x (head1 (Jvm.Cond.code x code maxLocals ret :: ws) room_1) (fun a U => a = #[(.int p0)] ∧ Z.Warmed39 U.vm ∧ U.heap = h0) (fun _ _ _ _ _ => True) (fun _ U o U' => ∃ v L, o = .returned v ∧ Q_rm0 Z p0 h0 n0 v U'.heap L ∧ FrameEnd U o U' L room_1.cells room_1.slots) := by
  refine MetFree.of_bodySF (plainFor_of_name pn_1) hisR ?_
  intro p e s m args below meth c s₁ Bd hml0 hP hK
  obtain ⟨rfl, hZ, hh⟩ := hP
  have hx := Bd.exec
  have hby := Bd.bytes
  have hml : c.maxLocals = 7 := hml0
  have hown : s.vm.findClass "com/example/shapewright/shapewright/model/ShapeIdIsIdentifierCharacterPinLaw" = some m.cls := findClass_of_methodNamed Bd.named
  have hnm := (name_of_methodNamed Bd.named Bd.method).1
  have X0 : Stand p l e room_1 s m #[(.int p0)] below meth c s₁ [] 0 0 := Stand.of_body Bd
  have e0 : s₁.heap = h0 := by rw [← hh, Bd.state]; rfl
  have N0 := Fr.nil n0
  show OEnds p e below (OEndP s (Q_rm0 Z p0 h0 n0) room_1.cells room_1.slots) s₁ (entryFrame m #[(.int p0)] maxLocals)
  rw [ef_rm0 m p0]
  refine OEnds.go (g' := (mkF m 1 #[.val (.int p0), .unset, .unset, .unset, .unset, .unset, .unset] [(.int p0)])) (fun t k => XS.iloadN X0.here hx rfl (hb hby at_0) rfl k) ?_
  refine OEnds.go (g' := (mkF m 2 #[.val (.int p0), .unset, .unset, .unset, .unset, .unset, .unset] [(.int (p0.toUInt32.toUInt16.toUInt32.toInt32))])) (fun t k => XS.i2c X0.here hx rfl (hb hby at_1) rfl k) ?_
  refine OEnds.go (g' := (mkF m 3 #[.val (.int p0), .val (.int (p0.toUInt32.toUInt16.toUInt32.toInt32)), .unset, .unset, .unset, .unset, .unset] [])) (fun t k => XS.istoreN X0.here hx rfl (hb hby at_2) rfl (l' := #[.val (.int p0), .val (.int (p0.toUInt32.toUInt16.toUInt32.toInt32)), .unset, .unset, .unset, .unset, .unset]) rfl k) ?_
  refine OEnds.go (g' := (mkF m 4 #[.val (.int p0), .val (.int (p0.toUInt32.toUInt16.toUInt32.toInt32)), .unset, .unset, .unset, .unset, .unset] [(.int (p0.toUInt32.toUInt16.toUInt32.toInt32))])) (fun t k => XS.iloadN X0.here hx rfl (hb hby at_3) rfl k) ?_
  refine OEnds.go (g' := (mkF m 6 #[.val (.int p0), .val (.int (p0.toUInt32.toUInt16.toUInt32.toInt32)), .unset, .unset, .unset, .unset, .unset] [(.int (32 : Int32)), (.int (p0.toUInt32.toUInt16.toUInt32.toInt32))])) (fun t k => XS.bipush X0.here hx rfl (hb hby at_4) k) ?_
  refine OEnds.go (g' := (mkF m 7 #[.val (.int p0), .val (.int (p0.toUInt32.toUInt16.toUInt32.toInt32)), .unset, .unset, .unset, .unset, .unset] [(.int ((p0.toUInt32.toUInt16.toUInt32.toInt32) ||| (32 : Int32)))])) (fun t k => XS.ior X0.here hx rfl (hb hby at_6) rfl k) ?_
  refine OEnds.go (g' := (mkF m 8 #[.val (.int p0), .val (.int (p0.toUInt32.toUInt16.toUInt32.toInt32)), .val (.int ((p0.toUInt32.toUInt16.toUInt32.toInt32) ||| (32 : Int32))), .unset, .unset, .unset, .unset] [])) (fun t k => XS.istoreN X0.here hx rfl (hb hby at_7) rfl (l' := #[.val (.int p0), .val (.int (p0.toUInt32.toUInt16.toUInt32.toInt32)), .val (.int ((p0.toUInt32.toUInt16.toUInt32.toInt32) ||| (32 : Int32))), .unset, .unset, .unset, .unset]) rfl k) ?_
  have J1 : OEnds p e below (OEndP s (Q_rm0 Z p0 h0 n0) room_1.cells room_1.slots) s₁ (mkF m 26 #[.val (.int p0), .val (.int (p0.toUInt32.toUInt16.toUInt32.toInt32)), .val (.int ((p0.toUInt32.toUInt16.toUInt32.toInt32) ||| (32 : Int32))), .val (.int (jrm0_26_l3 p0)), .unset, .unset, .unset] []) := by
    refine OEnds.go (g' := (mkF m 27 #[.val (.int p0), .val (.int (p0.toUInt32.toUInt16.toUInt32.toInt32)), .val (.int ((p0.toUInt32.toUInt16.toUInt32.toInt32) ||| (32 : Int32))), .val (.int (jrm0_26_l3 p0)), .unset, .unset, .unset] [(.int (p0.toUInt32.toUInt16.toUInt32.toInt32))])) (fun t k => XS.iloadN X0.here hx rfl (hb hby at_26) rfl k) ?_
    refine OEnds.go (g' := (mkF m 29 #[.val (.int p0), .val (.int (p0.toUInt32.toUInt16.toUInt32.toInt32)), .val (.int ((p0.toUInt32.toUInt16.toUInt32.toInt32) ||| (32 : Int32))), .val (.int (jrm0_26_l3 p0)), .unset, .unset, .unset] [(.int (48 : Int32)), (.int (p0.toUInt32.toUInt16.toUInt32.toInt32))])) (fun t k => XS.bipush X0.here hx rfl (hb hby at_27) k) ?_
    refine OEnds.go (g' := (mkF m 30 #[.val (.int p0), .val (.int (p0.toUInt32.toUInt16.toUInt32.toInt32)), .val (.int ((p0.toUInt32.toUInt16.toUInt32.toInt32) ||| (32 : Int32))), .val (.int (jrm0_26_l3 p0)), .unset, .unset, .unset] [(.int ((p0.toUInt32.toUInt16.toUInt32.toInt32) - (48 : Int32)))])) (fun t k => XS.isub X0.here hx rfl (hb hby at_29) rfl k) ?_
    refine OEnds.go (g' := (mkF m 32 #[.val (.int p0), .val (.int (p0.toUInt32.toUInt16.toUInt32.toInt32)), .val (.int ((p0.toUInt32.toUInt16.toUInt32.toInt32) ||| (32 : Int32))), .val (.int (jrm0_26_l3 p0)), .val (.int ((p0.toUInt32.toUInt16.toUInt32.toInt32) - (48 : Int32))), .unset, .unset] [])) (fun t k => XS.istore X0.here hx rfl (hb hby at_30) rfl (l' := #[.val (.int p0), .val (.int (p0.toUInt32.toUInt16.toUInt32.toInt32)), .val (.int ((p0.toUInt32.toUInt16.toUInt32.toInt32) ||| (32 : Int32))), .val (.int (jrm0_26_l3 p0)), .val (.int ((p0.toUInt32.toUInt16.toUInt32.toInt32) - (48 : Int32))), .unset, .unset]) rfl k) ?_
    have J2 : OEnds p e below (OEndP s (Q_rm0 Z p0 h0 n0) room_1.cells room_1.slots) s₁ (mkF m 51 #[.val (.int p0), .val (.int (p0.toUInt32.toUInt16.toUInt32.toInt32)), .val (.int ((p0.toUInt32.toUInt16.toUInt32.toInt32) ||| (32 : Int32))), .val (.int (jrm0_26_l3 p0)), .val (.int ((p0.toUInt32.toUInt16.toUInt32.toInt32) - (48 : Int32))), .val (.int (jrm0_51_l5 p0)), .unset] []) := by
      have J3 : OEnds p e below (OEndP s (Q_rm0 Z p0 h0 n0) room_1.cells room_1.slots) s₁ (mkF m 73 #[.val (.int p0), .val (.int (p0.toUInt32.toUInt16.toUInt32.toInt32)), .val (.int ((p0.toUInt32.toUInt16.toUInt32.toInt32) ||| (32 : Int32))), .val (.int (jrm0_26_l3 p0)), .val (.int ((p0.toUInt32.toUInt16.toUInt32.toInt32) - (48 : Int32))), .val (.int (jrm0_51_l5 p0)), .val (.int (jrm0_73_l6 p0))] []) := by
        refine OEnds.go (g' := (mkF m 74 #[.val (.int p0), .val (.int (p0.toUInt32.toUInt16.toUInt32.toInt32)), .val (.int ((p0.toUInt32.toUInt16.toUInt32.toInt32) ||| (32 : Int32))), .val (.int (jrm0_26_l3 p0)), .val (.int ((p0.toUInt32.toUInt16.toUInt32.toInt32) - (48 : Int32))), .val (.int (jrm0_51_l5 p0)), .val (.int (jrm0_73_l6 p0))] [(.int (p0.toUInt32.toUInt16.toUInt32.toInt32))])) (fun t k => XS.iloadN X0.here hx rfl (hb hby at_73) rfl k) ?_
        obtain ⟨_, _, ⟨T4, L4, k4, n4⟩, -, X4, ⟨Lc4, hQ4, l4, y4, z4⟩, st4⟩ := Jvm.LawKit.callS X0 hx (y := (⟨"com/example/shapewright/shapewright/model/ShapeId", "isIdentifierCharacter", "(C)Z"⟩ : MethodName)) hown (mvT hZ (hw _ (List.mem_of_getElem? (i := 0) rfl))) (mvT hZ (hw _ (List.mem_of_getElem? (i := 1) rfl))) (mvT hZ (hw _ (List.mem_of_getElem? (i := 2) rfl))) (mvT hZ (hw _ (List.mem_of_getElem? (i := 3) rfl))) (by decide) (backOf (W := 0) (rm1 l Z a0 hw [] (p0.toUInt32.toUInt16.toUInt32.toInt32) h0 n0 Z0) hZ (hw _ (List.mem_of_getElem? (i := 3) rfl)) (hw _ (List.mem_of_getElem? (i := 2) rfl)) (by decide) (by decide)) (g := (mkF m 74 #[.val (.int p0), .val (.int (p0.toUInt32.toUInt16.toUInt32.toInt32)), .val (.int ((p0.toUInt32.toUInt16.toUInt32.toInt32) ||| (32 : Int32))), .val (.int (jrm0_26_l3 p0)), .val (.int ((p0.toUInt32.toUInt16.toUInt32.toInt32) - (48 : Int32))), .val (.int (jrm0_51_l5 p0)), .val (.int (jrm0_73_l6 p0))] [(.int (p0.toUInt32.toUInt16.toUInt32.toInt32))])) rfl (by rw [hml]; rfl) (argsL := [(.int (p0.toUInt32.toUInt16.toUInt32.toInt32))]) (rest := []) (lenOf pd_0 rfl) rfl (by show 2 * 0 + _ ≤ _; exact Nat.le_of_eq rfl) (hb hby at_74) (fun _ _ => ⟨rfl, e0, (by decide : 0 + 0 ≤ _), (by decide : 0 + 0 ≤ _)⟩)
        dsimp only [Pt.U, Pt.locs, Pt.cells, Pt.slots] at X4 l4 y4 z4 st4 hQ4
        subst l4 y4 z4
        obtain ⟨rfl, N4q, e4⟩ := hQ4
        have N4 := Fr.app N0 N4q
        refine OEnds.go (g' := (mkF m 77 #[.val (.int p0), .val (.int (p0.toUInt32.toUInt16.toUInt32.toInt32)), .val (.int ((p0.toUInt32.toUInt16.toUInt32.toInt32) ||| (32 : Int32))), .val (.int (jrm0_26_l3 p0)), .val (.int ((p0.toUInt32.toUInt16.toUInt32.toInt32) - (48 : Int32))), .val (.int (jrm0_51_l5 p0)), .val (.int (jrm0_73_l6 p0))] [(.int (f1 (p0.toUInt32.toUInt16.toUInt32.toInt32)))])) st4 ?_
        refine OEnds.go (g' := (mkF m 79 #[.val (.int p0), .val (.int (p0.toUInt32.toUInt16.toUInt32.toInt32)), .val (.int ((p0.toUInt32.toUInt16.toUInt32.toInt32) ||| (32 : Int32))), .val (.int (jrm0_26_l3 p0)), .val (.int ((p0.toUInt32.toUInt16.toUInt32.toInt32) - (48 : Int32))), .val (.int (jrm0_51_l5 p0)), .val (.int (jrm0_73_l6 p0))] [(.int (jrm0_73_l6 p0)), (.int (f1 (p0.toUInt32.toUInt16.toUInt32.toInt32)))])) (fun t k => XS.iload X4.here hx rfl (hb hby at_77) rfl k) ?_
        by_cases c79_5 : (f1 (p0.toUInt32.toUInt16.toUInt32.toInt32)) = (jrm0_73_l6 p0)
        · -- yes
          refine OEnds.go (g' := (mkF m 82 #[.val (.int p0), .val (.int (p0.toUInt32.toUInt16.toUInt32.toInt32)), .val (.int ((p0.toUInt32.toUInt16.toUInt32.toInt32) ||| (32 : Int32))), .val (.int (jrm0_26_l3 p0)), .val (.int ((p0.toUInt32.toUInt16.toUInt32.toInt32) - (48 : Int32))), .val (.int (jrm0_51_l5 p0)), .val (.int (jrm0_73_l6 p0))] [])) (fun t k => XS.icmpNo X4.here hx rfl (hb hby at_79) rfl (teq c79_5).2 k) ?_
          refine OEnds.go (g' := (mkF m 83 #[.val (.int p0), .val (.int (p0.toUInt32.toUInt16.toUInt32.toInt32)), .val (.int ((p0.toUInt32.toUInt16.toUInt32.toInt32) ||| (32 : Int32))), .val (.int (jrm0_26_l3 p0)), .val (.int ((p0.toUInt32.toUInt16.toUInt32.toInt32) - (48 : Int32))), .val (.int (jrm0_51_l5 p0)), .val (.int (jrm0_73_l6 p0))] [(.int (1 : Int32))])) (fun t k => XS.iconst X4.here hx rfl (hb hby at_82) k) ?_
          refine OEnds.go (g' := (mkF m 87 #[.val (.int p0), .val (.int (p0.toUInt32.toUInt16.toUInt32.toInt32)), .val (.int ((p0.toUInt32.toUInt16.toUInt32.toInt32) ||| (32 : Int32))), .val (.int (jrm0_26_l3 p0)), .val (.int ((p0.toUInt32.toUInt16.toUInt32.toInt32) - (48 : Int32))), .val (.int (jrm0_51_l5 p0)), .val (.int (jrm0_73_l6 p0))] [(.int (1 : Int32))])) (fun t k => XS.goto X4.here hx rfl (pc0 := 83) (pc' := 87) rfl (hb hby at_83) (by decide) (by decide) k) ?_
          exact OEnds.outN X4 Bd.notSynchronized hx (t := .boolean) Bd.returns (by simp) (hb hby at_87) ⟨rfl, N4⟩ (by decide) (by decide)
        · -- no
          refine OEnds.go (g' := (mkF m 86 #[.val (.int p0), .val (.int (p0.toUInt32.toUInt16.toUInt32.toInt32)), .val (.int ((p0.toUInt32.toUInt16.toUInt32.toInt32) ||| (32 : Int32))), .val (.int (jrm0_26_l3 p0)), .val (.int ((p0.toUInt32.toUInt16.toUInt32.toInt32) - (48 : Int32))), .val (.int (jrm0_51_l5 p0)), .val (.int (jrm0_73_l6 p0))] [])) (fun t k => XS.icmpYes X4.here hx rfl (pc0 := 79) (pc' := 86) rfl (hb hby at_79) rfl (feq c79_5).2 (by decide) (by decide) k) ?_
          refine OEnds.go (g' := (mkF m 87 #[.val (.int p0), .val (.int (p0.toUInt32.toUInt16.toUInt32.toInt32)), .val (.int ((p0.toUInt32.toUInt16.toUInt32.toInt32) ||| (32 : Int32))), .val (.int (jrm0_26_l3 p0)), .val (.int ((p0.toUInt32.toUInt16.toUInt32.toInt32) - (48 : Int32))), .val (.int (jrm0_51_l5 p0)), .val (.int (jrm0_73_l6 p0))] [(.int (0 : Int32))])) (fun t k => XS.iconst X4.here hx rfl (hb hby at_86) k) ?_
          exact OEnds.outN X4 Bd.notSynchronized hx (t := .boolean) Bd.returns (by simp) (hb hby at_87) (own_no (own_law p0) (by rw [f0, if_neg c79_5])) (by decide) (by decide)
      refine OEnds.go (g' := (mkF m 52 #[.val (.int p0), .val (.int (p0.toUInt32.toUInt16.toUInt32.toInt32)), .val (.int ((p0.toUInt32.toUInt16.toUInt32.toInt32) ||| (32 : Int32))), .val (.int (jrm0_26_l3 p0)), .val (.int ((p0.toUInt32.toUInt16.toUInt32.toInt32) - (48 : Int32))), .val (.int (jrm0_51_l5 p0)), .unset] [(.int (jrm0_26_l3 p0))])) (fun t k => XS.iloadN X0.here hx rfl (hb hby at_51) rfl k) ?_
      by_cases c52_6 : (jrm0_26_l3 p0) = (0 : Int32)
      · -- yes
        refine OEnds.go (g' := (mkF m 55 #[.val (.int p0), .val (.int (p0.toUInt32.toUInt16.toUInt32.toInt32)), .val (.int ((p0.toUInt32.toUInt16.toUInt32.toInt32) ||| (32 : Int32))), .val (.int (jrm0_26_l3 p0)), .val (.int ((p0.toUInt32.toUInt16.toUInt32.toInt32) - (48 : Int32))), .val (.int (jrm0_51_l5 p0)), .unset] [])) (fun t k => XS.ifNo X0.here hx rfl (hb hby at_52) rfl ((if0 _ _).trans (teq c52_6).2) k) ?_
        refine OEnds.go (g' := (mkF m 57 #[.val (.int p0), .val (.int (p0.toUInt32.toUInt16.toUInt32.toInt32)), .val (.int ((p0.toUInt32.toUInt16.toUInt32.toInt32) ||| (32 : Int32))), .val (.int (jrm0_26_l3 p0)), .val (.int ((p0.toUInt32.toUInt16.toUInt32.toInt32) - (48 : Int32))), .val (.int (jrm0_51_l5 p0)), .unset] [(.int (jrm0_51_l5 p0))])) (fun t k => XS.iload X0.here hx rfl (hb hby at_55) rfl k) ?_
        by_cases c57_7 : (jrm0_51_l5 p0) = (0 : Int32)
        · -- yes
          refine OEnds.go (g' := (mkF m 60 #[.val (.int p0), .val (.int (p0.toUInt32.toUInt16.toUInt32.toInt32)), .val (.int ((p0.toUInt32.toUInt16.toUInt32.toInt32) ||| (32 : Int32))), .val (.int (jrm0_26_l3 p0)), .val (.int ((p0.toUInt32.toUInt16.toUInt32.toInt32) - (48 : Int32))), .val (.int (jrm0_51_l5 p0)), .unset] [])) (fun t k => XS.ifNo X0.here hx rfl (hb hby at_57) rfl ((if0 _ _).trans (teq c57_7).2) k) ?_
          refine OEnds.go (g' := (mkF m 61 #[.val (.int p0), .val (.int (p0.toUInt32.toUInt16.toUInt32.toInt32)), .val (.int ((p0.toUInt32.toUInt16.toUInt32.toInt32) ||| (32 : Int32))), .val (.int (jrm0_26_l3 p0)), .val (.int ((p0.toUInt32.toUInt16.toUInt32.toInt32) - (48 : Int32))), .val (.int (jrm0_51_l5 p0)), .unset] [(.int (p0.toUInt32.toUInt16.toUInt32.toInt32))])) (fun t k => XS.iloadN X0.here hx rfl (hb hby at_60) rfl k) ?_
          refine OEnds.go (g' := (mkF m 63 #[.val (.int p0), .val (.int (p0.toUInt32.toUInt16.toUInt32.toInt32)), .val (.int ((p0.toUInt32.toUInt16.toUInt32.toInt32) ||| (32 : Int32))), .val (.int (jrm0_26_l3 p0)), .val (.int ((p0.toUInt32.toUInt16.toUInt32.toInt32) - (48 : Int32))), .val (.int (jrm0_51_l5 p0)), .unset] [(.int (95 : Int32)), (.int (p0.toUInt32.toUInt16.toUInt32.toInt32))])) (fun t k => XS.bipush X0.here hx rfl (hb hby at_61) k) ?_
          by_cases c63_8 : (p0.toUInt32.toUInt16.toUInt32.toInt32) = (95 : Int32)
          · -- yes
            refine OEnds.go (g' := (mkF m 66 #[.val (.int p0), .val (.int (p0.toUInt32.toUInt16.toUInt32.toInt32)), .val (.int ((p0.toUInt32.toUInt16.toUInt32.toInt32) ||| (32 : Int32))), .val (.int (jrm0_26_l3 p0)), .val (.int ((p0.toUInt32.toUInt16.toUInt32.toInt32) - (48 : Int32))), .val (.int (jrm0_51_l5 p0)), .unset] [])) (fun t k => XS.icmpNo X0.here hx rfl (hb hby at_63) rfl (teq c63_8).2 k) ?_
            refine OEnds.go (g' := (mkF m 67 #[.val (.int p0), .val (.int (p0.toUInt32.toUInt16.toUInt32.toInt32)), .val (.int ((p0.toUInt32.toUInt16.toUInt32.toInt32) ||| (32 : Int32))), .val (.int (jrm0_26_l3 p0)), .val (.int ((p0.toUInt32.toUInt16.toUInt32.toInt32) - (48 : Int32))), .val (.int (jrm0_51_l5 p0)), .unset] [(.int (1 : Int32))])) (fun t k => XS.iconst X0.here hx rfl (hb hby at_66) k) ?_
            refine OEnds.go (g' := (mkF m 71 #[.val (.int p0), .val (.int (p0.toUInt32.toUInt16.toUInt32.toInt32)), .val (.int ((p0.toUInt32.toUInt16.toUInt32.toInt32) ||| (32 : Int32))), .val (.int (jrm0_26_l3 p0)), .val (.int ((p0.toUInt32.toUInt16.toUInt32.toInt32) - (48 : Int32))), .val (.int (jrm0_51_l5 p0)), .unset] [(.int (1 : Int32))])) (fun t k => XS.goto X0.here hx rfl (pc0 := 67) (pc' := 71) rfl (hb hby at_67) (by decide) (by decide) k) ?_
            refine OEnds.go (g' := (mkF m 73 #[.val (.int p0), .val (.int (p0.toUInt32.toUInt16.toUInt32.toInt32)), .val (.int ((p0.toUInt32.toUInt16.toUInt32.toInt32) ||| (32 : Int32))), .val (.int (jrm0_26_l3 p0)), .val (.int ((p0.toUInt32.toUInt16.toUInt32.toInt32) - (48 : Int32))), .val (.int (jrm0_51_l5 p0)), .val (.int (1 : Int32))] [])) (fun t k => XS.istore X0.here hx rfl (hb hby at_71) rfl (l' := #[.val (.int p0), .val (.int (p0.toUInt32.toUInt16.toUInt32.toInt32)), .val (.int ((p0.toUInt32.toUInt16.toUInt32.toInt32) ||| (32 : Int32))), .val (.int (jrm0_26_l3 p0)), .val (.int ((p0.toUInt32.toUInt16.toUInt32.toInt32) - (48 : Int32))), .val (.int (jrm0_51_l5 p0)), .val (.int (1 : Int32))]) rfl k) ?_
            rw [show jrm0_73_l6 p0 = (1 : Int32) from by rw [jrm0_73_l6, if_pos c52_6, if_pos c57_7, if_pos c63_8]] at J3
            exact J3
          · -- no
            refine OEnds.go (g' := (mkF m 70 #[.val (.int p0), .val (.int (p0.toUInt32.toUInt16.toUInt32.toInt32)), .val (.int ((p0.toUInt32.toUInt16.toUInt32.toInt32) ||| (32 : Int32))), .val (.int (jrm0_26_l3 p0)), .val (.int ((p0.toUInt32.toUInt16.toUInt32.toInt32) - (48 : Int32))), .val (.int (jrm0_51_l5 p0)), .unset] [])) (fun t k => XS.icmpYes X0.here hx rfl (pc0 := 63) (pc' := 70) rfl (hb hby at_63) rfl (feq c63_8).2 (by decide) (by decide) k) ?_
            refine OEnds.go (g' := (mkF m 71 #[.val (.int p0), .val (.int (p0.toUInt32.toUInt16.toUInt32.toInt32)), .val (.int ((p0.toUInt32.toUInt16.toUInt32.toInt32) ||| (32 : Int32))), .val (.int (jrm0_26_l3 p0)), .val (.int ((p0.toUInt32.toUInt16.toUInt32.toInt32) - (48 : Int32))), .val (.int (jrm0_51_l5 p0)), .unset] [(.int (0 : Int32))])) (fun t k => XS.iconst X0.here hx rfl (hb hby at_70) k) ?_
            refine OEnds.go (g' := (mkF m 73 #[.val (.int p0), .val (.int (p0.toUInt32.toUInt16.toUInt32.toInt32)), .val (.int ((p0.toUInt32.toUInt16.toUInt32.toInt32) ||| (32 : Int32))), .val (.int (jrm0_26_l3 p0)), .val (.int ((p0.toUInt32.toUInt16.toUInt32.toInt32) - (48 : Int32))), .val (.int (jrm0_51_l5 p0)), .val (.int (0 : Int32))] [])) (fun t k => XS.istore X0.here hx rfl (hb hby at_71) rfl (l' := #[.val (.int p0), .val (.int (p0.toUInt32.toUInt16.toUInt32.toInt32)), .val (.int ((p0.toUInt32.toUInt16.toUInt32.toInt32) ||| (32 : Int32))), .val (.int (jrm0_26_l3 p0)), .val (.int ((p0.toUInt32.toUInt16.toUInt32.toInt32) - (48 : Int32))), .val (.int (jrm0_51_l5 p0)), .val (.int (0 : Int32))]) rfl k) ?_
            rw [show jrm0_73_l6 p0 = (0 : Int32) from by rw [jrm0_73_l6, if_pos c52_6, if_pos c57_7, if_neg c63_8]] at J3
            exact J3
        · -- no
          refine OEnds.go (g' := (mkF m 66 #[.val (.int p0), .val (.int (p0.toUInt32.toUInt16.toUInt32.toInt32)), .val (.int ((p0.toUInt32.toUInt16.toUInt32.toInt32) ||| (32 : Int32))), .val (.int (jrm0_26_l3 p0)), .val (.int ((p0.toUInt32.toUInt16.toUInt32.toInt32) - (48 : Int32))), .val (.int (jrm0_51_l5 p0)), .unset] [])) (fun t k => XS.ifYes X0.here hx rfl (pc0 := 57) (pc' := 66) rfl (hb hby at_57) rfl ((if0 _ _).trans (feq c57_7).2) (by decide) (by decide) k) ?_
          refine OEnds.go (g' := (mkF m 67 #[.val (.int p0), .val (.int (p0.toUInt32.toUInt16.toUInt32.toInt32)), .val (.int ((p0.toUInt32.toUInt16.toUInt32.toInt32) ||| (32 : Int32))), .val (.int (jrm0_26_l3 p0)), .val (.int ((p0.toUInt32.toUInt16.toUInt32.toInt32) - (48 : Int32))), .val (.int (jrm0_51_l5 p0)), .unset] [(.int (1 : Int32))])) (fun t k => XS.iconst X0.here hx rfl (hb hby at_66) k) ?_
          refine OEnds.go (g' := (mkF m 71 #[.val (.int p0), .val (.int (p0.toUInt32.toUInt16.toUInt32.toInt32)), .val (.int ((p0.toUInt32.toUInt16.toUInt32.toInt32) ||| (32 : Int32))), .val (.int (jrm0_26_l3 p0)), .val (.int ((p0.toUInt32.toUInt16.toUInt32.toInt32) - (48 : Int32))), .val (.int (jrm0_51_l5 p0)), .unset] [(.int (1 : Int32))])) (fun t k => XS.goto X0.here hx rfl (pc0 := 67) (pc' := 71) rfl (hb hby at_67) (by decide) (by decide) k) ?_
          refine OEnds.go (g' := (mkF m 73 #[.val (.int p0), .val (.int (p0.toUInt32.toUInt16.toUInt32.toInt32)), .val (.int ((p0.toUInt32.toUInt16.toUInt32.toInt32) ||| (32 : Int32))), .val (.int (jrm0_26_l3 p0)), .val (.int ((p0.toUInt32.toUInt16.toUInt32.toInt32) - (48 : Int32))), .val (.int (jrm0_51_l5 p0)), .val (.int (1 : Int32))] [])) (fun t k => XS.istore X0.here hx rfl (hb hby at_71) rfl (l' := #[.val (.int p0), .val (.int (p0.toUInt32.toUInt16.toUInt32.toInt32)), .val (.int ((p0.toUInt32.toUInt16.toUInt32.toInt32) ||| (32 : Int32))), .val (.int (jrm0_26_l3 p0)), .val (.int ((p0.toUInt32.toUInt16.toUInt32.toInt32) - (48 : Int32))), .val (.int (jrm0_51_l5 p0)), .val (.int (1 : Int32))]) rfl k) ?_
          rw [show jrm0_73_l6 p0 = (1 : Int32) from by rw [jrm0_73_l6, if_pos c52_6, if_neg c57_7]] at J3
          exact J3
      · -- no
        refine OEnds.go (g' := (mkF m 66 #[.val (.int p0), .val (.int (p0.toUInt32.toUInt16.toUInt32.toInt32)), .val (.int ((p0.toUInt32.toUInt16.toUInt32.toInt32) ||| (32 : Int32))), .val (.int (jrm0_26_l3 p0)), .val (.int ((p0.toUInt32.toUInt16.toUInt32.toInt32) - (48 : Int32))), .val (.int (jrm0_51_l5 p0)), .unset] [])) (fun t k => XS.ifYes X0.here hx rfl (pc0 := 52) (pc' := 66) rfl (hb hby at_52) rfl ((if0 _ _).trans (feq c52_6).2) (by decide) (by decide) k) ?_
        refine OEnds.go (g' := (mkF m 67 #[.val (.int p0), .val (.int (p0.toUInt32.toUInt16.toUInt32.toInt32)), .val (.int ((p0.toUInt32.toUInt16.toUInt32.toInt32) ||| (32 : Int32))), .val (.int (jrm0_26_l3 p0)), .val (.int ((p0.toUInt32.toUInt16.toUInt32.toInt32) - (48 : Int32))), .val (.int (jrm0_51_l5 p0)), .unset] [(.int (1 : Int32))])) (fun t k => XS.iconst X0.here hx rfl (hb hby at_66) k) ?_
        refine OEnds.go (g' := (mkF m 71 #[.val (.int p0), .val (.int (p0.toUInt32.toUInt16.toUInt32.toInt32)), .val (.int ((p0.toUInt32.toUInt16.toUInt32.toInt32) ||| (32 : Int32))), .val (.int (jrm0_26_l3 p0)), .val (.int ((p0.toUInt32.toUInt16.toUInt32.toInt32) - (48 : Int32))), .val (.int (jrm0_51_l5 p0)), .unset] [(.int (1 : Int32))])) (fun t k => XS.goto X0.here hx rfl (pc0 := 67) (pc' := 71) rfl (hb hby at_67) (by decide) (by decide) k) ?_
        refine OEnds.go (g' := (mkF m 73 #[.val (.int p0), .val (.int (p0.toUInt32.toUInt16.toUInt32.toInt32)), .val (.int ((p0.toUInt32.toUInt16.toUInt32.toInt32) ||| (32 : Int32))), .val (.int (jrm0_26_l3 p0)), .val (.int ((p0.toUInt32.toUInt16.toUInt32.toInt32) - (48 : Int32))), .val (.int (jrm0_51_l5 p0)), .val (.int (1 : Int32))] [])) (fun t k => XS.istore X0.here hx rfl (hb hby at_71) rfl (l' := #[.val (.int p0), .val (.int (p0.toUInt32.toUInt16.toUInt32.toInt32)), .val (.int ((p0.toUInt32.toUInt16.toUInt32.toInt32) ||| (32 : Int32))), .val (.int (jrm0_26_l3 p0)), .val (.int ((p0.toUInt32.toUInt16.toUInt32.toInt32) - (48 : Int32))), .val (.int (jrm0_51_l5 p0)), .val (.int (1 : Int32))]) rfl k) ?_
        rw [show jrm0_73_l6 p0 = (1 : Int32) from by rw [jrm0_73_l6, if_neg c52_6]] at J3
        exact J3
    refine OEnds.go (g' := (mkF m 34 #[.val (.int p0), .val (.int (p0.toUInt32.toUInt16.toUInt32.toInt32)), .val (.int ((p0.toUInt32.toUInt16.toUInt32.toInt32) ||| (32 : Int32))), .val (.int (jrm0_26_l3 p0)), .val (.int ((p0.toUInt32.toUInt16.toUInt32.toInt32) - (48 : Int32))), .unset, .unset] [(.int ((p0.toUInt32.toUInt16.toUInt32.toInt32) - (48 : Int32)))])) (fun t k => XS.iload X0.here hx rfl (hb hby at_32) rfl k) ?_
    by_cases c34_9 : ((p0.toUInt32.toUInt16.toUInt32.toInt32) - (48 : Int32)) < (0 : Int32)
    · -- yes
      refine OEnds.go (g' := (mkF m 48 #[.val (.int p0), .val (.int (p0.toUInt32.toUInt16.toUInt32.toInt32)), .val (.int ((p0.toUInt32.toUInt16.toUInt32.toInt32) ||| (32 : Int32))), .val (.int (jrm0_26_l3 p0)), .val (.int ((p0.toUInt32.toUInt16.toUInt32.toInt32) - (48 : Int32))), .unset, .unset] [])) (fun t k => XS.ifYes X0.here hx rfl (pc0 := 34) (pc' := 48) rfl (hb hby at_34) rfl ((if0 _ _).trans (tlt c34_9).1) (by decide) (by decide) k) ?_
      refine OEnds.go (g' := (mkF m 49 #[.val (.int p0), .val (.int (p0.toUInt32.toUInt16.toUInt32.toInt32)), .val (.int ((p0.toUInt32.toUInt16.toUInt32.toInt32) ||| (32 : Int32))), .val (.int (jrm0_26_l3 p0)), .val (.int ((p0.toUInt32.toUInt16.toUInt32.toInt32) - (48 : Int32))), .unset, .unset] [(.int (0 : Int32))])) (fun t k => XS.iconst X0.here hx rfl (hb hby at_48) k) ?_
      refine OEnds.go (g' := (mkF m 51 #[.val (.int p0), .val (.int (p0.toUInt32.toUInt16.toUInt32.toInt32)), .val (.int ((p0.toUInt32.toUInt16.toUInt32.toInt32) ||| (32 : Int32))), .val (.int (jrm0_26_l3 p0)), .val (.int ((p0.toUInt32.toUInt16.toUInt32.toInt32) - (48 : Int32))), .val (.int (0 : Int32)), .unset] [])) (fun t k => XS.istore X0.here hx rfl (hb hby at_49) rfl (l' := #[.val (.int p0), .val (.int (p0.toUInt32.toUInt16.toUInt32.toInt32)), .val (.int ((p0.toUInt32.toUInt16.toUInt32.toInt32) ||| (32 : Int32))), .val (.int (jrm0_26_l3 p0)), .val (.int ((p0.toUInt32.toUInt16.toUInt32.toInt32) - (48 : Int32))), .val (.int (0 : Int32)), .unset]) rfl k) ?_
      rw [show jrm0_51_l5 p0 = (0 : Int32) from by rw [jrm0_51_l5, if_pos c34_9]] at J2
      exact J2
    · -- no
      refine OEnds.go (g' := (mkF m 37 #[.val (.int p0), .val (.int (p0.toUInt32.toUInt16.toUInt32.toInt32)), .val (.int ((p0.toUInt32.toUInt16.toUInt32.toInt32) ||| (32 : Int32))), .val (.int (jrm0_26_l3 p0)), .val (.int ((p0.toUInt32.toUInt16.toUInt32.toInt32) - (48 : Int32))), .unset, .unset] [])) (fun t k => XS.ifNo X0.here hx rfl (hb hby at_34) rfl ((if0 _ _).trans (flt c34_9).1) k) ?_
      refine OEnds.go (g' := (mkF m 39 #[.val (.int p0), .val (.int (p0.toUInt32.toUInt16.toUInt32.toInt32)), .val (.int ((p0.toUInt32.toUInt16.toUInt32.toInt32) ||| (32 : Int32))), .val (.int (jrm0_26_l3 p0)), .val (.int ((p0.toUInt32.toUInt16.toUInt32.toInt32) - (48 : Int32))), .unset, .unset] [(.int ((p0.toUInt32.toUInt16.toUInt32.toInt32) - (48 : Int32)))])) (fun t k => XS.iload X0.here hx rfl (hb hby at_37) rfl k) ?_
      refine OEnds.go (g' := (mkF m 41 #[.val (.int p0), .val (.int (p0.toUInt32.toUInt16.toUInt32.toInt32)), .val (.int ((p0.toUInt32.toUInt16.toUInt32.toInt32) ||| (32 : Int32))), .val (.int (jrm0_26_l3 p0)), .val (.int ((p0.toUInt32.toUInt16.toUInt32.toInt32) - (48 : Int32))), .unset, .unset] [(.int (9 : Int32)), (.int ((p0.toUInt32.toUInt16.toUInt32.toInt32) - (48 : Int32)))])) (fun t k => XS.bipush X0.here hx rfl (hb hby at_39) k) ?_
      by_cases c41_10 : (9 : Int32) < ((p0.toUInt32.toUInt16.toUInt32.toInt32) - (48 : Int32))
      · -- yes
        refine OEnds.go (g' := (mkF m 48 #[.val (.int p0), .val (.int (p0.toUInt32.toUInt16.toUInt32.toInt32)), .val (.int ((p0.toUInt32.toUInt16.toUInt32.toInt32) ||| (32 : Int32))), .val (.int (jrm0_26_l3 p0)), .val (.int ((p0.toUInt32.toUInt16.toUInt32.toInt32) - (48 : Int32))), .unset, .unset] [])) (fun t k => XS.icmpYes X0.here hx rfl (pc0 := 41) (pc' := 48) rfl (hb hby at_41) rfl (tlt c41_10).2.2.1 (by decide) (by decide) k) ?_
        refine OEnds.go (g' := (mkF m 49 #[.val (.int p0), .val (.int (p0.toUInt32.toUInt16.toUInt32.toInt32)), .val (.int ((p0.toUInt32.toUInt16.toUInt32.toInt32) ||| (32 : Int32))), .val (.int (jrm0_26_l3 p0)), .val (.int ((p0.toUInt32.toUInt16.toUInt32.toInt32) - (48 : Int32))), .unset, .unset] [(.int (0 : Int32))])) (fun t k => XS.iconst X0.here hx rfl (hb hby at_48) k) ?_
        refine OEnds.go (g' := (mkF m 51 #[.val (.int p0), .val (.int (p0.toUInt32.toUInt16.toUInt32.toInt32)), .val (.int ((p0.toUInt32.toUInt16.toUInt32.toInt32) ||| (32 : Int32))), .val (.int (jrm0_26_l3 p0)), .val (.int ((p0.toUInt32.toUInt16.toUInt32.toInt32) - (48 : Int32))), .val (.int (0 : Int32)), .unset] [])) (fun t k => XS.istore X0.here hx rfl (hb hby at_49) rfl (l' := #[.val (.int p0), .val (.int (p0.toUInt32.toUInt16.toUInt32.toInt32)), .val (.int ((p0.toUInt32.toUInt16.toUInt32.toInt32) ||| (32 : Int32))), .val (.int (jrm0_26_l3 p0)), .val (.int ((p0.toUInt32.toUInt16.toUInt32.toInt32) - (48 : Int32))), .val (.int (0 : Int32)), .unset]) rfl k) ?_
        rw [show jrm0_51_l5 p0 = (0 : Int32) from by rw [jrm0_51_l5, if_neg c34_9, if_pos c41_10]] at J2
        exact J2
      · -- no
        refine OEnds.go (g' := (mkF m 44 #[.val (.int p0), .val (.int (p0.toUInt32.toUInt16.toUInt32.toInt32)), .val (.int ((p0.toUInt32.toUInt16.toUInt32.toInt32) ||| (32 : Int32))), .val (.int (jrm0_26_l3 p0)), .val (.int ((p0.toUInt32.toUInt16.toUInt32.toInt32) - (48 : Int32))), .unset, .unset] [])) (fun t k => XS.icmpNo X0.here hx rfl (hb hby at_41) rfl (flt c41_10).2.2.1 k) ?_
        refine OEnds.go (g' := (mkF m 45 #[.val (.int p0), .val (.int (p0.toUInt32.toUInt16.toUInt32.toInt32)), .val (.int ((p0.toUInt32.toUInt16.toUInt32.toInt32) ||| (32 : Int32))), .val (.int (jrm0_26_l3 p0)), .val (.int ((p0.toUInt32.toUInt16.toUInt32.toInt32) - (48 : Int32))), .unset, .unset] [(.int (1 : Int32))])) (fun t k => XS.iconst X0.here hx rfl (hb hby at_44) k) ?_
        refine OEnds.go (g' := (mkF m 49 #[.val (.int p0), .val (.int (p0.toUInt32.toUInt16.toUInt32.toInt32)), .val (.int ((p0.toUInt32.toUInt16.toUInt32.toInt32) ||| (32 : Int32))), .val (.int (jrm0_26_l3 p0)), .val (.int ((p0.toUInt32.toUInt16.toUInt32.toInt32) - (48 : Int32))), .unset, .unset] [(.int (1 : Int32))])) (fun t k => XS.goto X0.here hx rfl (pc0 := 45) (pc' := 49) rfl (hb hby at_45) (by decide) (by decide) k) ?_
        refine OEnds.go (g' := (mkF m 51 #[.val (.int p0), .val (.int (p0.toUInt32.toUInt16.toUInt32.toInt32)), .val (.int ((p0.toUInt32.toUInt16.toUInt32.toInt32) ||| (32 : Int32))), .val (.int (jrm0_26_l3 p0)), .val (.int ((p0.toUInt32.toUInt16.toUInt32.toInt32) - (48 : Int32))), .val (.int (1 : Int32)), .unset] [])) (fun t k => XS.istore X0.here hx rfl (hb hby at_49) rfl (l' := #[.val (.int p0), .val (.int (p0.toUInt32.toUInt16.toUInt32.toInt32)), .val (.int ((p0.toUInt32.toUInt16.toUInt32.toInt32) ||| (32 : Int32))), .val (.int (jrm0_26_l3 p0)), .val (.int ((p0.toUInt32.toUInt16.toUInt32.toInt32) - (48 : Int32))), .val (.int (1 : Int32)), .unset]) rfl k) ?_
        rw [show jrm0_51_l5 p0 = (1 : Int32) from by rw [jrm0_51_l5, if_neg c34_9, if_neg c41_10]] at J2
        exact J2
  refine OEnds.go (g' := (mkF m 9 #[.val (.int p0), .val (.int (p0.toUInt32.toUInt16.toUInt32.toInt32)), .val (.int ((p0.toUInt32.toUInt16.toUInt32.toInt32) ||| (32 : Int32))), .unset, .unset, .unset, .unset] [(.int ((p0.toUInt32.toUInt16.toUInt32.toInt32) ||| (32 : Int32)))])) (fun t k => XS.iloadN X0.here hx rfl (hb hby at_8) rfl k) ?_
  refine OEnds.go (g' := (mkF m 11 #[.val (.int p0), .val (.int (p0.toUInt32.toUInt16.toUInt32.toInt32)), .val (.int ((p0.toUInt32.toUInt16.toUInt32.toInt32) ||| (32 : Int32))), .unset, .unset, .unset, .unset] [(.int (97 : Int32)), (.int ((p0.toUInt32.toUInt16.toUInt32.toInt32) ||| (32 : Int32)))])) (fun t k => XS.bipush X0.here hx rfl (hb hby at_9) k) ?_
  by_cases c11_11 : ((p0.toUInt32.toUInt16.toUInt32.toInt32) ||| (32 : Int32)) < (97 : Int32)
  · -- yes
    refine OEnds.go (g' := (mkF m 24 #[.val (.int p0), .val (.int (p0.toUInt32.toUInt16.toUInt32.toInt32)), .val (.int ((p0.toUInt32.toUInt16.toUInt32.toInt32) ||| (32 : Int32))), .unset, .unset, .unset, .unset] [])) (fun t k => XS.icmpYes X0.here hx rfl (pc0 := 11) (pc' := 24) rfl (hb hby at_11) rfl (tlt c11_11).1 (by decide) (by decide) k) ?_
    refine OEnds.go (g' := (mkF m 25 #[.val (.int p0), .val (.int (p0.toUInt32.toUInt16.toUInt32.toInt32)), .val (.int ((p0.toUInt32.toUInt16.toUInt32.toInt32) ||| (32 : Int32))), .unset, .unset, .unset, .unset] [(.int (0 : Int32))])) (fun t k => XS.iconst X0.here hx rfl (hb hby at_24) k) ?_
    refine OEnds.go (g' := (mkF m 26 #[.val (.int p0), .val (.int (p0.toUInt32.toUInt16.toUInt32.toInt32)), .val (.int ((p0.toUInt32.toUInt16.toUInt32.toInt32) ||| (32 : Int32))), .val (.int (0 : Int32)), .unset, .unset, .unset] [])) (fun t k => XS.istoreN X0.here hx rfl (hb hby at_25) rfl (l' := #[.val (.int p0), .val (.int (p0.toUInt32.toUInt16.toUInt32.toInt32)), .val (.int ((p0.toUInt32.toUInt16.toUInt32.toInt32) ||| (32 : Int32))), .val (.int (0 : Int32)), .unset, .unset, .unset]) rfl k) ?_
    rw [show jrm0_26_l3 p0 = (0 : Int32) from by rw [jrm0_26_l3, if_pos c11_11]] at J1
    exact J1
  · -- no
    refine OEnds.go (g' := (mkF m 14 #[.val (.int p0), .val (.int (p0.toUInt32.toUInt16.toUInt32.toInt32)), .val (.int ((p0.toUInt32.toUInt16.toUInt32.toInt32) ||| (32 : Int32))), .unset, .unset, .unset, .unset] [])) (fun t k => XS.icmpNo X0.here hx rfl (hb hby at_11) rfl (flt c11_11).1 k) ?_
    refine OEnds.go (g' := (mkF m 15 #[.val (.int p0), .val (.int (p0.toUInt32.toUInt16.toUInt32.toInt32)), .val (.int ((p0.toUInt32.toUInt16.toUInt32.toInt32) ||| (32 : Int32))), .unset, .unset, .unset, .unset] [(.int ((p0.toUInt32.toUInt16.toUInt32.toInt32) ||| (32 : Int32)))])) (fun t k => XS.iloadN X0.here hx rfl (hb hby at_14) rfl k) ?_
    refine OEnds.go (g' := (mkF m 17 #[.val (.int p0), .val (.int (p0.toUInt32.toUInt16.toUInt32.toInt32)), .val (.int ((p0.toUInt32.toUInt16.toUInt32.toInt32) ||| (32 : Int32))), .unset, .unset, .unset, .unset] [(.int (122 : Int32)), (.int ((p0.toUInt32.toUInt16.toUInt32.toInt32) ||| (32 : Int32)))])) (fun t k => XS.bipush X0.here hx rfl (hb hby at_15) k) ?_
    by_cases c17_12 : (122 : Int32) < ((p0.toUInt32.toUInt16.toUInt32.toInt32) ||| (32 : Int32))
    · -- yes
      refine OEnds.go (g' := (mkF m 24 #[.val (.int p0), .val (.int (p0.toUInt32.toUInt16.toUInt32.toInt32)), .val (.int ((p0.toUInt32.toUInt16.toUInt32.toInt32) ||| (32 : Int32))), .unset, .unset, .unset, .unset] [])) (fun t k => XS.icmpYes X0.here hx rfl (pc0 := 17) (pc' := 24) rfl (hb hby at_17) rfl (tlt c17_12).2.2.1 (by decide) (by decide) k) ?_
      refine OEnds.go (g' := (mkF m 25 #[.val (.int p0), .val (.int (p0.toUInt32.toUInt16.toUInt32.toInt32)), .val (.int ((p0.toUInt32.toUInt16.toUInt32.toInt32) ||| (32 : Int32))), .unset, .unset, .unset, .unset] [(.int (0 : Int32))])) (fun t k => XS.iconst X0.here hx rfl (hb hby at_24) k) ?_
      refine OEnds.go (g' := (mkF m 26 #[.val (.int p0), .val (.int (p0.toUInt32.toUInt16.toUInt32.toInt32)), .val (.int ((p0.toUInt32.toUInt16.toUInt32.toInt32) ||| (32 : Int32))), .val (.int (0 : Int32)), .unset, .unset, .unset] [])) (fun t k => XS.istoreN X0.here hx rfl (hb hby at_25) rfl (l' := #[.val (.int p0), .val (.int (p0.toUInt32.toUInt16.toUInt32.toInt32)), .val (.int ((p0.toUInt32.toUInt16.toUInt32.toInt32) ||| (32 : Int32))), .val (.int (0 : Int32)), .unset, .unset, .unset]) rfl k) ?_
      rw [show jrm0_26_l3 p0 = (0 : Int32) from by rw [jrm0_26_l3, if_neg c11_11, if_pos c17_12]] at J1
      exact J1
    · -- no
      refine OEnds.go (g' := (mkF m 20 #[.val (.int p0), .val (.int (p0.toUInt32.toUInt16.toUInt32.toInt32)), .val (.int ((p0.toUInt32.toUInt16.toUInt32.toInt32) ||| (32 : Int32))), .unset, .unset, .unset, .unset] [])) (fun t k => XS.icmpNo X0.here hx rfl (hb hby at_17) rfl (flt c17_12).2.2.1 k) ?_
      refine OEnds.go (g' := (mkF m 21 #[.val (.int p0), .val (.int (p0.toUInt32.toUInt16.toUInt32.toInt32)), .val (.int ((p0.toUInt32.toUInt16.toUInt32.toInt32) ||| (32 : Int32))), .unset, .unset, .unset, .unset] [(.int (1 : Int32))])) (fun t k => XS.iconst X0.here hx rfl (hb hby at_20) k) ?_
      refine OEnds.go (g' := (mkF m 25 #[.val (.int p0), .val (.int (p0.toUInt32.toUInt16.toUInt32.toInt32)), .val (.int ((p0.toUInt32.toUInt16.toUInt32.toInt32) ||| (32 : Int32))), .unset, .unset, .unset, .unset] [(.int (1 : Int32))])) (fun t k => XS.goto X0.here hx rfl (pc0 := 21) (pc' := 25) rfl (hb hby at_21) (by decide) (by decide) k) ?_
      refine OEnds.go (g' := (mkF m 26 #[.val (.int p0), .val (.int (p0.toUInt32.toUInt16.toUInt32.toInt32)), .val (.int ((p0.toUInt32.toUInt16.toUInt32.toInt32) ||| (32 : Int32))), .val (.int (1 : Int32)), .unset, .unset, .unset] [])) (fun t k => XS.istoreN X0.here hx rfl (hb hby at_25) rfl (l' := #[.val (.int p0), .val (.int (p0.toUInt32.toUInt16.toUInt32.toInt32)), .val (.int ((p0.toUInt32.toUInt16.toUInt32.toInt32) ||| (32 : Int32))), .val (.int (1 : Int32)), .unset, .unset, .unset]) rfl k) ?_
      rw [show jrm0_26_l3 p0 = (1 : Int32) from by rw [jrm0_26_l3, if_neg c11_11, if_neg c17_12]] at J1
      exact J1
set_option maxRecDepth 65536 in
set_option maxHeartbeats 40000000 in
theorem comes_1 {Post : Tables → Env → Array Value → State → Outcome → State → Prop} (hpost : ∀ tb e args s v u, (limb_1_1.after args s (.returned v) u = true ∧ limb_1_2.after args s (.returned v) u = true ∧ True) → FrameEnd s (.returned v) u (Jvm.fieldLocs frame_1_writes args s ++ Jvm.arrayLocs frame_1_arrays args s ++ Jvm.staticLocs frame_1_statics s) 0 0 → Post tb e args s (.returned v) u) :
    ArmFor flags0 classFile x code maxLocals ret World_1 tables_1 room_1 Calls_1 rest_1 Pre_1 Post := by
  intro l hfl _ _ p e ha hc hk s m args below hf hA hF happ hP
  obtain ⟨hcalls, hrest, hpre⟩ := hP
  obtain ⟨-, -, -, hnamed, -, -, -, hat⟩ := (Spec.applies_iff hf).mp happ
  obtain ⟨hg, hn⟩ := and_e (Cond.before_iff.mp (show (Jvm.Cond.and given_1 narrow_1).before args s = true from hpre))
  obtain ⟨g1, g2⟩ := and_e hg
  obtain ⟨w0, rfl⟩ : ∃ w0 : Value, args = #[w0] := by
    have hs : args.size = 1 := by simpa [Cond.value, given_1] using g1
    obtain ⟨L⟩ := args
    match L, hs with
    | [w0], _ => exact ⟨w0, rfl⟩
  have hw := fun d (hd : d ∈ tables_1) => atoms_spec (ws := Jvm.Cond.code x code maxLocals ret :: tables_1) hat d (List.mem_cons_of_mem _ hd)
  have hfit : Fit s := fun {y c} hc i hi => by
    obtain ⟨ha, rfl⟩ := Array.getElem?_eq_some_iff.mp hc
    have q := List.all_eq_true.mp ((Array.all_eq_true_iff_forall_mem.mp hF) _ (Array.getElem_mem ha)) i (List.mem_range.mpr hi)
    simpa [Array.getElem?_eq_getElem hi] using q
  obtain ⟨i0, ei0⟩ := is_v g2
  obtain rfl : w0 = (.int i0) := Option.some.inj ei0
  obtain ⟨n, o, h1, h2, h3, _, L, rfl, ⟨rfl, N⟩, hq⟩ := rm0 l s _ hw tables_1 i0 s.heap s.heap.size (Nat.le_refl _) p e ha hc hk s m _ below hf ((Spec.applies_iff_loose hf).mp happ).1 ⟨rfl, State.Warmed39.refl s, rfl⟩ trivial
  refine ⟨n, _, h1, h2, h3, hpost _ _ _ _ _ _ ⟨Cond.after_iff.mpr rfl, Cond.after_iff.mpr (eq_i res_at (Term.int_eval (1)) rfl), trivial⟩ ⟨hq.1, hq.2.1, (hq.2.2.sift fun y hy => Or.inr (N y hy)).mono (by decide) (by decide)⟩⟩
theorem main_1_1 : Claimed_1_1 := comes_1 fun _ _ _ _ _ _ h hF => ⟨h.1, hF⟩
theorem main_1_2 : Claimed_1_2 := comes_1 fun _ _ _ _ _ _ h hF => ⟨h.2.1, hF⟩
end Jvm.Pilot.@@N@@
namespace Jvm.Pilot.@@N@@
open Jvm Jvm.ClassFile Sem Op Lib Jvm.Free Jvm.Stand Jvm.Pilot.@@N@@.Jvm.D
/-! MADE BY PROGRAM (witnessworld.py) out of the Statement's table words and the real class files: 9 classes; the members and pool entries that the words name. The judged class is class 1, her method 1. -/
namespace start1
open Jvm.ClassFile
def u (s : String) : CpInfo := .utf8 (stringToUtf16 s)
/-- a pool by its gaps: so many unusable entries, then the entry; so many at the end -/
def gap : Nat → List CpInfo → List CpInfo
  | 0, r => r
  | n + 1, r => .unusable :: gap n r
def poolList (es : List (Nat × CpInfo)) (last : Nat) : List CpInfo := es.foldr (fun e r => gap e.1 (e.2 :: r)) (gap last [])
def pool (es : List (Nat × CpInfo)) (last : Nat) : Array CpInfo := ⟨poolList es last⟩
def fileOf (pool : Array CpInfo) (this : Nat) (attrs : Array Attribute := #[]) (ms : Array MethodInfo := #[]) (fl : Nat := 33) (sup : Nat := 0) (ifs : Array Nat := #[]) (fds : Array FieldInfo := #[]) : ClassFile where
  minorVersion := 0
  majorVersion := 65
  constantPool := pool
  accessFlags := fl
  thisClass := this
  superClass := sup
  interfaces := ifs
  fields := fds
  methods := ms
  attributes := attrs
def plain (name : String) (sup : Option ClassId) : Class where
  name := name
  kind := .ordinary
  loader := none
  accessFlags := 33
  super := sup
  interfaces := #[]
  cf := none
  fields := #[]
  methods := #[]
  instanceTypes := #[]
  staticTypes := #[]
  resolved := #[]
  callSites := []
  init := .initialized
  statics := none
  mirror := none

def pool0 : Array CpInfo := pool [(5, u "<init>"), (0, u "()V"), (1, .class_ 10), (1, u "java/lang/Object")] 113

def k0m0 : Method := { name := "<init>", desc := "()V", sig := { parameters := [], returnType := none }, accessFlags := 1, code := none }
/-- java/lang/Object -/
def k0 : Class := { plain "java/lang/Object" none with
  accessFlags := 33
  interfaces := #[]
  cf := some (fileOf pool0 8 #[] #[{ accessFlags := 1, nameIndex := 5, descriptorIndex := 6, attributes := #[] }] 33 0 #[] #[])
  fields := #[]
  methods := #[k0m0]
  instanceTypes := #[]
  staticTypes := #[]
  resolved := Array.replicate 124 none
  statics := none }

def pool1 : Array CpInfo := pool [(2, .class_ 4), (1, u "java/lang/Object"), (0, u "<init>"), (0, u "()V"), (0, .methodref 8 9), (0, .class_ 10), (0, .nameAndType 11 12), (0, u "com/example/shapewright/shapewright/model/ShapeId"), (0, u "isIdentifierCharacter"), (0, u "(C)Z"), (0, .class_ 14), (0, u "com/example/shapewright/shapewright/model/ShapeIdIsIdentifierCharacterPinLaw"), (2, u "law"), (0, u "(I)Z")] 3

def k1m0 : Method := { name := "<init>", desc := "()V", sig := { parameters := [], returnType := none }, accessFlags := 2, code := none }
def k1c1 : Code := { maxStack := 2, maxLocals := 7, code := code, exceptionTable := #[], attributes := #[] }
def k1m1 : Method := { name := "law", desc := "(I)Z", sig := { parameters := [.int], returnType := some .boolean }, accessFlags := 9, code := some k1c1 }
/-- com/example/shapewright/shapewright/model/ShapeIdIsIdentifierCharacterPinLaw -/
def k1 : Class := { plain "com/example/shapewright/shapewright/model/ShapeIdIsIdentifierCharacterPinLaw" (some 0) with
  accessFlags := 49
  interfaces := #[]
  cf := some (fileOf pool1 13 #[] #[{ accessFlags := 2, nameIndex := 5, descriptorIndex := 6, attributes := #[] }, { accessFlags := 9, nameIndex := 17, descriptorIndex := 18, attributes := #[] }] 49 2 #[] #[])
  fields := #[]
  methods := #[k1m0, k1m1]
  instanceTypes := #[]
  staticTypes := #[]
  resolved := Array.replicate 22 none
  statics := none }

def pool2 : Array CpInfo := pool [(2, .class_ 4), (1, u "java/lang/Object"), (3, .class_ 10), (1, u "com/example/shapewright/shapewright/model/ShapeId"), (0, u "namespace"), (0, u "Ljava/lang/String;"), (2, u "name"), (2, u "member"), (2, u "text"), (64, .methodref 8 87), (0, .nameAndType 88 89), (0, u "isLetter"), (0, u "(C)Z"), (0, .methodref 8 91), (0, .nameAndType 92 89), (0, u "isDigit"), (9, u "isIdentifierCharacter")] 52

def k2c0 : Code := { maxStack := 2, maxLocals := 1, code := prog_13_method_9_code, exceptionTable := #[], attributes := #[] }
def k2m0 : Method := { name := "isIdentifierCharacter", desc := "(C)Z", sig := { parameters := [.char], returnType := some .boolean }, accessFlags := 9, code := some k2c0 }
def k2c1 : Code := { maxStack := 2, maxLocals := 1, code := prog_13_method_14_code, exceptionTable := #[], attributes := #[] }
def k2m1 : Method := { name := "isLetter", desc := "(C)Z", sig := { parameters := [.char], returnType := some .boolean }, accessFlags := 10, code := some k2c1 }
def k2c2 : Code := { maxStack := 2, maxLocals := 1, code := prog_13_method_15_code, exceptionTable := #[], attributes := #[] }
def k2m2 : Method := { name := "isDigit", desc := "(C)Z", sig := { parameters := [.char], returnType := some .boolean }, accessFlags := 10, code := some k2c2 }
/-- com/example/shapewright/shapewright/model/ShapeId -/
def k2 : Class := { plain "com/example/shapewright/shapewright/model/ShapeId" (some 0) with
  accessFlags := 49
  interfaces := #[]
  cf := some (fileOf pool2 8 #[] #[{ accessFlags := 9, nameIndex := 102, descriptorIndex := 89, attributes := #[] }, { accessFlags := 10, nameIndex := 88, descriptorIndex := 89, attributes := #[] }, { accessFlags := 10, nameIndex := 92, descriptorIndex := 89, attributes := #[] }] 49 2 #[] #[{ accessFlags := 18, nameIndex := 11, descriptorIndex := 12, attributes := #[] }, { accessFlags := 18, nameIndex := 15, descriptorIndex := 12, attributes := #[] }, { accessFlags := 18, nameIndex := 18, descriptorIndex := 12, attributes := #[] }, { accessFlags := 18, nameIndex := 21, descriptorIndex := 12, attributes := #[] }])
  fields := #[{ name := "namespace", type := (.object "java/lang/String"), accessFlags := 18, slot := 0, constantValue := 0 }, { name := "name", type := (.object "java/lang/String"), accessFlags := 18, slot := 1, constantValue := 0 }, { name := "member", type := (.object "java/lang/String"), accessFlags := 18, slot := 2, constantValue := 0 }, { name := "text", type := (.object "java/lang/String"), accessFlags := 18, slot := 3, constantValue := 0 }]
  methods := #[k2m0, k2m1, k2m2]
  instanceTypes := #[(.object "java/lang/String"), (.object "java/lang/String"), (.object "java/lang/String"), (.object "java/lang/String")]
  staticTypes := #[]
  resolved := Array.replicate 155 none
  statics := none }

def pool3 : Array CpInfo := pool [(1, u "java/lang/Cloneable"), (0, .class_ 1), (0, u "java/lang/Object"), (0, .class_ 3)] 3

/-- java/lang/Cloneable -/
def k3 : Class := { plain "java/lang/Cloneable" (some 0) with
  accessFlags := 1537
  interfaces := #[]
  cf := some (fileOf pool3 2 #[] #[] 1537 4 #[] #[])
  fields := #[]
  methods := #[]
  instanceTypes := #[]
  staticTypes := #[]
  resolved := Array.replicate 8 none
  statics := none }

def pool4 : Array CpInfo := pool [(1, u "java/io/Serializable"), (0, .class_ 1), (0, u "java/lang/Object"), (0, .class_ 3)] 3

/-- java/io/Serializable -/
def k4 : Class := { plain "java/io/Serializable" (some 0) with
  accessFlags := 1537
  interfaces := #[]
  cf := some (fileOf pool4 2 #[] #[] 1537 4 #[] #[])
  fields := #[]
  methods := #[]
  instanceTypes := #[]
  staticTypes := #[]
  resolved := Array.replicate 8 none
  statics := none }

/-- the primitive byte -/
def k5 : Class := { plain "byte" none with kind := .primitive 'B', accessFlags := 0x411 }
/-- [B -/
def k6 : Class := { plain "[B" (some 0) with kind := .array 5 .byte, interfaces := #[3, 4], accessFlags := 1041 }

/-- the primitive int -/
def k7 : Class := { plain "int" none with kind := .primitive 'I', accessFlags := 0x411 }
/-- [I -/
def k8 : Class := { plain "[I" (some 0) with kind := .array 7 .int, interfaces := #[3, 4], accessFlags := 1041 }

def heap : Heap := #[]
def classes : Array Class := #[k0, k1, k2, k3, k4, k5, k6, k7, k8]
def interned : List (Array UInt16 × Addr) := []
def slotsUsed : Nat := 0
def theMethod : MethodId := ⟨1, 1⟩
def args0 : Array Value := #[.int 5]
def aboutOver (below : List Frame) : State where
  vm := { classes := classes, interned := interned.toArray }
  heap := heap
  slotsUsed := slotsUsed
  threads := #[{ frames := .invoking theMethod args0 :: below }]
def below0 : List Frame := [.native { method := ⟨0, 0⟩, args := #[] }]
def about1 : State := aboutOver below0
def p0 : Program := .bare "" "" ""
def e0 : Env := launch0.env 0 0 0
theorem w_frames : about1.frames = Frame.invoking theMethod args0 :: below0 := rfl
set_option maxRecDepth 65536 in
theorem w_args : argsFit about1.vm theMethod args0 = true := by decide +kernel
set_option maxRecDepth 65536 in
theorem w_heap : heapFits about1 = true := by decide +kernel
set_option maxRecDepth 65536 in
theorem w_runnable : about1.curStatus? = some .runnable := by decide +kernel
set_option maxRecDepth 65536 in
theorem w_alone : about1.alone = true := by decide +kernel
set_option maxRecDepth 65536 in
theorem w_named : about1.methodNamed? x = some theMethod := by decide +kernel
set_option maxRecDepth 65536 in
theorem w_hears : about1.hears theMethod below0 = true := by decide +kernel
set_option maxRecDepth 65536 in
theorem w_ripe : about1.ripe theMethod args0 below0 = true := by decide +kernel
theorem w_running : about1.status = .running := rfl
set_option maxRecDepth 65536 in
theorem w_room : about1.hasRoom e0.platform room_1 = true :=
  launch0.hasRoom_least _ room_1 (by decide +kernel) (by decide +kernel) (by decide +kernel) (by decide +kernel) (by decide +kernel) (by decide +kernel)
theorem allAtoms_all (ts : List Jvm.Cond) (a : Array Jvm.Value) (st : Jvm.State) : (allAtoms ts).before a st = ts.all (fun c => c.before a st) := by
  induction ts with
  | nil => rfl
  | cons c t ih =>
    show (Jvm.Cond.and c (allAtoms t)).before a st = _
    rw [Jvm.Cond.before_and, ih, List.all_cons]
def words1 : List Jvm.Cond := Jvm.Cond.code x code maxLocals ret :: tables_1
/-- a 'code' word, met by the world's own term for the bytes: nothing is compared byte by byte -/
theorem code_word {y : MethodName} {bytes : ByteArray} {mx : Nat} {rt : Option FieldType} {a : Array Value} {s : State} {m : MethodId} {meth : Method} {c : Code} (h1 : s.methodNamed? y = some m) (h2 : s.vm.method? m = some meth) (h3 : meth.code = some c) (h4 : c.code = bytes)
    (h5 : (c.maxLocals == mx && c.exceptionTable.isEmpty && decide (c.maxStack ≤ mostOperands) && decide (meth.sig.returnType = rt) && !meth.locks && decide (parseMethodDescriptor y.desc = some meth.sig)) = true) : (Jvm.Cond.code y bytes mx rt).before a s = true := by
  simp only [Bool.and_eq_true, beq_iff_eq, Bool.not_eq_true', decide_eq_true_eq] at h5
  obtain ⟨⟨⟨⟨⟨g1, g2⟩, g3⟩, g4⟩, g5⟩, g6⟩ := h5
  simp [Cond.before, Cond.holds, Cond.value, h1, h2, h3, h4, g1, g2, g3, g4, g5, g6]
def isCode : Jvm.Cond → Bool
  | .code _ _ _ _ => true
  | _ => false
theorem all_split {L : List Jvm.Cond} {P : Jvm.Cond → Bool} (h1 : L.all (fun c => isCode c || P c) = true) (h2 : ∀ c ∈ L.filter isCode, P c = true) : L.all P = true := by
  refine List.all_eq_true.mpr fun c hc => ?_
  have h := List.all_eq_true.mp h1 c hc
  rcases Bool.eq_false_or_eq_true (isCode c) with hi | hi
  · exact h2 c (List.mem_filter.mpr ⟨hc, hi⟩)
  · simpa [hi] using h
set_option maxRecDepth 65536 in
theorem w_c0 : (Jvm.Cond.code x code maxLocals ret).before args0 about1 = true := code_word (m := ⟨1, 1⟩) (meth := k1m1) (c := k1c1) (by decide +kernel) rfl rfl rfl (by decide +kernel)
set_option maxRecDepth 65536 in
theorem w_c1 : (Jvm.Cond.code ({ cls := "com/example/shapewright/shapewright/model/ShapeId", name := "isIdentifierCharacter", desc := "(C)Z" } : Jvm.MethodName) prog_13_method_9_code (1 : Nat) (Option.some Jvm.ClassFile.FieldType.boolean)).before args0 about1 = true := code_word (m := ⟨2, 0⟩) (meth := k2m0) (c := k2c0) (by decide +kernel) rfl rfl rfl (by decide +kernel)
set_option maxRecDepth 65536 in
theorem w_c2 : (Jvm.Cond.code ({ cls := "com/example/shapewright/shapewright/model/ShapeId", name := "isLetter", desc := "(C)Z" } : Jvm.MethodName) prog_13_method_14_code (1 : Nat) (Option.some Jvm.ClassFile.FieldType.boolean)).before args0 about1 = true := code_word (m := ⟨2, 1⟩) (meth := k2m1) (c := k2c1) (by decide +kernel) rfl rfl rfl (by decide +kernel)
set_option maxRecDepth 65536 in
theorem w_c3 : (Jvm.Cond.code ({ cls := "com/example/shapewright/shapewright/model/ShapeId", name := "isDigit", desc := "(C)Z" } : Jvm.MethodName) prog_13_method_15_code (1 : Nat) (Option.some Jvm.ClassFile.FieldType.boolean)).before args0 about1 = true := code_word (m := ⟨2, 2⟩) (meth := k2m2) (c := k2c2) (by decide +kernel) rfl rfl rfl (by decide +kernel)
def codes1 : List Jvm.Cond := [Jvm.Cond.code x code maxLocals ret, Jvm.Cond.code ({ cls := "com/example/shapewright/shapewright/model/ShapeId", name := "isIdentifierCharacter", desc := "(C)Z" } : Jvm.MethodName) prog_13_method_9_code (1 : Nat) (Option.some Jvm.ClassFile.FieldType.boolean), Jvm.Cond.code ({ cls := "com/example/shapewright/shapewright/model/ShapeId", name := "isLetter", desc := "(C)Z" } : Jvm.MethodName) prog_13_method_14_code (1 : Nat) (Option.some Jvm.ClassFile.FieldType.boolean), Jvm.Cond.code ({ cls := "com/example/shapewright/shapewright/model/ShapeId", name := "isDigit", desc := "(C)Z" } : Jvm.MethodName) prog_13_method_15_code (1 : Nat) (Option.some Jvm.ClassFile.FieldType.boolean)]
set_option maxRecDepth 65536 in
theorem codes_eq : words1.filter isCode = codes1 := rfl
theorem w_codes : ∀ c ∈ words1.filter isCode, c.before args0 about1 = true := by
  rw [codes_eq]
  intro c hc
  simp only [codes1, List.mem_cons, List.not_mem_nil, or_false] at hc
  rcases hc with rfl | rfl | rfl | rfl
  · exact w_c0
  · exact w_c1
  · exact w_c2
  · exact w_c3
set_option maxRecDepth 65536 in
theorem w_t1 : words1.all (fun c => isCode c || c.before args0 about1) = true := by decide +kernel
theorem w_tables : (allAtoms (Jvm.Cond.code x code maxLocals ret :: tables_1)).before args0 about1 = true := by
  rw [allAtoms_all]
  show words1.all (fun c => c.before args0 about1) = true
  refine all_split ?_ w_codes
  rw [w_t1]
set_option maxRecDepth 65536 in
theorem w_case : (Jvm.Cond.and given_1 narrow_1).before args0 about1 = true := by decide +kernel
theorem w_applies : (headSpec (Jvm.Cond.code x code maxLocals ret :: tables_1) room_1).applies x e0.platform about1 = true :=
  (Spec.applies_iff w_frames).mpr ⟨w_running, w_runnable, w_alone, w_named, w_hears, w_ripe, w_room, w_tables⟩
theorem atStart : AtStart classFile x code maxLocals ret World_1 tables_1 room_1 Calls_1 rest_1 Pre_1 launch0 p0 e0 about1 theMethod args0 below0 :=
  ⟨lists_1, trivial, launch0.admits_env _ _ _, launch0.least_env, fairChoices_fair.cas, fairChoices_fair.clock, w_frames, w_args, w_heap, w_applies, trivial, trivial, w_case⟩
end start1
theorem witness_1 : WitnessClaimed_1 := ⟨start1.p0, start1.e0, start1.about1, start1.theMethod, start1.args0, start1.below0, start1.atStart⟩
end Jvm.Pilot.@@N@@
