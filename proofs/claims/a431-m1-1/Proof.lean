import JvmDerived
import JvmDerived.Pilot.@@N@@Statement
import JvmDerived.Pilot.@@N@@Code
set_option linter.unusedVariables false
set_option linter.unusedSimpArgs false
namespace Jvm.RoadKit
open Sem ClassFile Op Lib Jvm.Stand Jvm.Free Jvm.LawKit
section New
variable {p : Program} {l : Launch} {e : Env} {R : Room} {s : State} {m : MethodId} {args : Array Value} {below : List Frame} {meth : Method} {c : Code} {T T' : State} {locs : List Loc} {cells slots : Nat}
theorem retI (X : Stand p l e R s m args below meth c T locs cells slots) (hx : p.tables.exec = Jvm.exec) {pc : Nat} {Ls : Array Slot} {z : Int32} {rest : List Value} (hret : meth.sig.returnType = some .int) (hd : decode c.code pc = .ok (.ireturn, 1)) {fs : List Frame}
    (hl : ∀ (f : JFrame) (acts : List Action), f.method = m → f.locked = none → f.entered = [] → (doReturn e (T.setTop f) acts (some (.int z))).1 = T.setFrames fs) : Steps p.tables e below (T.setTop (mkF m pc Ls (.int z :: rest))) (T.setFrames fs) := by
  have hm' : T.vm.method? m = some meth := X.method'
  have hn : narrow .int (.int z) = .int z := rfl
  show Steps p.tables e below (T.setTop { method := m, pc := pc, locals := Ls, stack := _ :: rest, locked := none }) _
  jvm_step X.here [X.here.top, hx, hd, hm', hret, hn]
  first | (intro acts; rw [hl _ acts rfl rfl rfl]) | rw [hl _ _ rfl rfl rfl]
  exact Steps.refl _
/-- from this frame the run comes to an end of which P holds -/
def OEnds (p : Program) (e : Env) (below : List Frame) (P : Outcome → State → Prop) (T : State) (g : JFrame) : Prop :=
  ∃ s₂ o, Steps p.tables e below (T.setTop g) s₂ ∧ s₂.status = .running ∧ Ended s₂ below o ∧ P o s₂
theorem OEnds.go {P : Outcome → State → Prop} {g g' : JFrame} (h : ∀ t, Steps p.tables e below (T'.setTop g') t → Steps p.tables e below (T.setTop g) t) (k : OEnds p e below P T' g') : OEnds p e below P T g := by
  obtain ⟨s₂, o, h1, h2⟩ := k
  exact ⟨s₂, o, h _ h1, h2⟩
theorem OEnds.tr {P : Outcome → State → Prop} {g g' : JFrame} (h : Steps p.tables e below (T.setTop g) (T'.setTop g')) (k : OEnds p e below P T' g') : OEnds p e below P T g :=
  OEnds.go (fun _ q => h.trans q) k
/-- what a contract of this family says of the end -/
def OEndP (s : State) (Q : Option Value → Heap → List Loc → Prop) (C N : Nat) (o : Outcome) (U' : State) : Prop := ∃ v L, o = .returned v ∧ Q v U'.heap L ∧ FrameEnd s o U' L C N
theorem OEnds.out (X : Stand p l e R s m args below meth c T locs cells slots) (hlocks : meth.locks = false) {v : Option Value} (hv : meth.sig.returnType = none → v = none) {Q : Option Value → Heap → List Loc → Prop} {C N : Nat} {g : JFrame}
    (hs : ∀ fs, (∀ (f : JFrame) (acts : List Action), f.method = m → f.locked = none → f.entered = [] → (doReturn e (T.setTop f) acts v).1 = T.setFrames fs) → Steps p.tables e below (T.setTop g) (T.setFrames fs))
    (hq : Q v T.heap locs) (hc : cells ≤ C) (hn : slots ≤ N) : OEnds p e below (OEndP s Q C N) T g := by
  obtain ⟨fs, hr, hrun, hended, hW, hsame⟩ := X.leave (v := v) hv hlocks
  exact ⟨_, _, hs fs hr, hrun, hended, _, _, rfl, hq, ⟨_, rfl⟩, hW, hsame.mono hc hn⟩
theorem OEnds.outN (X : Stand p l e R s m args below meth c T locs cells slots) (hlocks : meth.locks = false) (hx : p.tables.exec = Jvm.exec) {pc : Nat} {Ls : Array Slot} {z : Int32} {t : FieldType} {rest : List Value} (hret : meth.sig.returnType = some t) (ht : t = .boolean ∨ t = .byte ∨ t = .char ∨ t = .short)
    (hd : decode c.code pc = .ok (.ireturn, 1)) {Q : Option Value → Heap → List Loc → Prop} {C N : Nat} (hq : Q (some (.int (nar t z))) T.heap locs) (hc : cells ≤ C) (hn : slots ≤ N) : OEnds p e below (OEndP s Q C N) T (mkF m pc Ls (.int z :: rest)) :=
  OEnds.out X hlocks (fun h => by rw [hret] at h; cases h) (fun fs hr => retN X hx hret ht hd hr) hq hc hn
theorem OEnds.outI (X : Stand p l e R s m args below meth c T locs cells slots) (hlocks : meth.locks = false) (hx : p.tables.exec = Jvm.exec) {pc : Nat} {Ls : Array Slot} {z : Int32} {rest : List Value} (hret : meth.sig.returnType = some .int)
    (hd : decode c.code pc = .ok (.ireturn, 1)) {Q : Option Value → Heap → List Loc → Prop} {C N : Nat} (hq : Q (some (.int z)) T.heap locs) (hc : cells ≤ C) (hn : slots ≤ N) : OEnds p e below (OEndP s Q C N) T (mkF m pc Ls (.int z :: rest)) :=
  OEnds.out X hlocks (fun h => by rw [hret] at h; cases h) (fun fs hr => retI X hx hret hd hr) hq hc hn
theorem OEnds.outJ (X : Stand p l e R s m args below meth c T locs cells slots) (hlocks : meth.locks = false) (hx : p.tables.exec = Jvm.exec) {pc : Nat} {Ls : Array Slot} {z : Int64} {rest : List Value} (hret : meth.sig.returnType = some .long)
    (hd : decode c.code pc = .ok (.lreturn, 1)) {Q : Option Value → Heap → List Loc → Prop} {C N : Nat} (hq : Q (some (.long z)) T.heap locs) (hc : cells ≤ C) (hn : slots ≤ N) : OEnds p e below (OEndP s Q C N) T (mkF m pc Ls (.long z :: rest)) :=
  OEnds.out X hlocks (fun h => by rw [hret] at h; cases h) (fun fs hr => retOut X hx hret rfl (Or.inr (Or.inl ⟨rfl, rfl, z, rfl⟩)) hd hr) hq hc hn
theorem OEnds.outA (X : Stand p l e R s m args below meth c T locs cells slots) (hlocks : meth.locks = false) (hx : p.tables.exec = Jvm.exec) {pc : Nat} {Ls : Array Slot} {w : Value} {t : FieldType} {rest : List Value} (hret : meth.sig.returnType = some t) (ht : t.isReference = true) (hw : w.isRef = true)
    (hd : decode c.code pc = .ok (.areturn, 1)) {Q : Option Value → Heap → List Loc → Prop} {C N : Nat} (hq : Q (some w) T.heap locs) (hc : cells ≤ C) (hn : slots ≤ N) : OEnds p e below (OEndP s Q C N) T (mkF m pc Ls (w :: rest)) :=
  OEnds.out X hlocks (fun h => by rw [hret] at h; cases h) (fun fs hr => retOut X hx hret (by rcases ref_cases hw with rfl | ⟨a, rfl⟩ <;> cases t <;> first | rfl | cases ht) (Or.inr (Or.inr (Or.inr (Or.inr ⟨rfl, ht, hw⟩)))) hd hr) hq hc hn
theorem OEnds.outV (X : Stand p l e R s m args below meth c T locs cells slots) (hlocks : meth.locks = false) (hx : p.tables.exec = Jvm.exec) {pc : Nat} {Ls : Array Slot} (hret : meth.sig.returnType = none)
    (hd : decode c.code pc = .ok (.return_, 1)) {Q : Option Value → Heap → List Loc → Prop} {C N : Nat} (hq : Q none T.heap locs) (hc : cells ≤ C) (hn : slots ≤ N) : OEnds p e below (OEndP s Q C N) T (mkF m pc Ls []) :=
  OEnds.out X hlocks (fun _ => rfl) (fun fs hr => X.returnOut hx hret hd hr) hq hc hn
end New
end Jvm.RoadKit
namespace Jvm.Pilot.@@N@@
open Jvm Jvm.ClassFile Sem Op Lib Jvm.Free Jvm.Stand Jvm.LawKit Jvm.RoadKit Bundle Jvm.Pilot.@@N@@.Jvm.D
theorem d1_0 : decode prog_11_method_13_code 0 = .ok (.iload_n 0, 1) := by decide +kernel
theorem d1_1 : decode prog_11_method_13_code 1 = .ok (.bipush 48, 2) := by decide +kernel
theorem d1_3 : decode prog_11_method_13_code 3 = .ok (.if_icmp .lt 9, 3) := by decide +kernel
theorem d1_6 : decode prog_11_method_13_code 6 = .ok (.iload_n 0, 1) := by decide +kernel
theorem d1_7 : decode prog_11_method_13_code 7 = .ok (.bipush 57, 2) := by decide +kernel
theorem d1_9 : decode prog_11_method_13_code 9 = .ok (.if_icmp .le 27, 3) := by decide +kernel
theorem d1_12 : decode prog_11_method_13_code 12 = .ok (.iload_n 0, 1) := by decide +kernel
theorem d1_13 : decode prog_11_method_13_code 13 = .ok (.bipush 65, 2) := by decide +kernel
theorem d1_15 : decode prog_11_method_13_code 15 = .ok (.if_icmp .lt 9, 3) := by decide +kernel
theorem d1_18 : decode prog_11_method_13_code 18 = .ok (.iload_n 0, 1) := by decide +kernel
theorem d1_19 : decode prog_11_method_13_code 19 = .ok (.bipush 70, 2) := by decide +kernel
theorem d1_21 : decode prog_11_method_13_code 21 = .ok (.if_icmp .le 15, 3) := by decide +kernel
theorem d1_24 : decode prog_11_method_13_code 24 = .ok (.iload_n 0, 1) := by decide +kernel
theorem d1_25 : decode prog_11_method_13_code 25 = .ok (.bipush 97, 2) := by decide +kernel
theorem d1_27 : decode prog_11_method_13_code 27 = .ok (.if_icmp .lt 13, 3) := by decide +kernel
theorem d1_30 : decode prog_11_method_13_code 30 = .ok (.iload_n 0, 1) := by decide +kernel
theorem d1_31 : decode prog_11_method_13_code 31 = .ok (.bipush 102, 2) := by decide +kernel
theorem d1_33 : decode prog_11_method_13_code 33 = .ok (.if_icmp .gt 7, 3) := by decide +kernel
theorem d1_36 : decode prog_11_method_13_code 36 = .ok (.iconst 1, 1) := by decide +kernel
theorem d1_37 : decode prog_11_method_13_code 37 = .ok (.goto 4, 3) := by decide +kernel
theorem d1_40 : decode prog_11_method_13_code 40 = .ok (.iconst 0, 1) := by decide +kernel
theorem d1_41 : decode prog_11_method_13_code 41 = .ok (.ireturn, 1) := by decide +kernel
theorem pn_0 : plainName "routebinder/http/Grammar" = true := by first | (simp [plainName, overriddenIn]; done) | decide +kernel
theorem pn_1 : plainName "routebinder/http/GrammarIsHexDigitPinLaw" = true := by first | (simp [plainName, overriddenIn]; done) | decide +kernel
theorem pd_0 : parseMethodDescriptor "(C)Z" = some ⟨[.char], some .boolean⟩ := by decide +kernel
theorem own_nat (c : Int32) (h0 : 0 ≤ c.toInt) : c = Int32.ofNat c.toInt.toNat := by
  apply Int32.toInt_inj.mp
  have h1 := c.toInt_lt
  rw [Int32.toInt_ofNat_of_lt (by omega)]
  omega
theorem own_fin {P : Int32 → Prop} (K : Nat) (h : ∀ n : Fin K, P (Int32.ofNat n.1)) (c : Int32) (h0 : 0 ≤ c.toInt) (h1 : c.toInt < K) : P c := by
  rw [own_nat c h0]; exact h ⟨c.toInt.toNat, by omega⟩
theorem own_fin' {P : Int32 → Prop} (K : Nat) (c : Int32) (h0 : 0 ≤ c.toInt) (h1 : c.toInt < K) (h : ∀ n : Fin K, P (Int32.ofNat n.1)) : P c := own_fin K h c h0 h1
theorem own_no {G : Prop} {x : Int32} (h : x = 1) (h' : x = 0) : G := absurd (h.symm.trans h') (by decide)
theorem own_cat {v : Value} (h : v.isRef = true) : v.category = 1 := by rcases ref_cases h with rfl | ⟨_, rfl⟩ <;> rfl
theorem ef_rm1 (m : MethodId) (x0 : Int32) : entryFrame m #[(.int x0)] 1 = mkF m 0 #[.val (.int x0)] [] := by first | (simp [entryFrame, mkF, argsToLocals, Value.category]; done) | rfl
def f1 (p0 : Int32) : Int32 := if p0 < (48 : Int32) then if p0 < (65 : Int32) then if p0 < (97 : Int32) then (0 : Int32) else if (102 : Int32) < p0 then (0 : Int32) else (1 : Int32) else if (70 : Int32) < p0 then if p0 < (97 : Int32) then (0 : Int32) else if (102 : Int32) < p0 then (0 : Int32) else (1 : Int32) else (1 : Int32) else if (57 : Int32) < p0 then if p0 < (65 : Int32) then if p0 < (97 : Int32) then (0 : Int32) else if (102 : Int32) < p0 then (0 : Int32) else (1 : Int32) else if (70 : Int32) < p0 then if p0 < (97 : Int32) then (0 : Int32) else if (102 : Int32) < p0 then (0 : Int32) else (1 : Int32) else (1 : Int32) else (1 : Int32)
def Q_rm1 (Z : State) (p0 : Int32) (h0 : Heap) (n0 : Nat) (v : Option Value) (h : Heap) (L : List Loc) : Prop := v = some (.int (f1 p0)) ∧ Fr n0 L ∧ h = h0
set_option maxRecDepth 65536 in
set_option maxHeartbeats 40000000 in
theorem rm1 (l : Launch) (Z : State) (a0 : Array Value) (hw : ∀ d ∈ tables_1, d.before a0 Z = true) (ws : List Jvm.Cond) (p0 : Int32) (h0 : Heap) (n0 : Nat) (Z0 : n0 ≤ h0.size) :
    MetFree l (⟨"routebinder/http/Grammar", "isHexDigit", "(C)Z"⟩ : MethodName) (head1 (Jvm.Cond.code (⟨"routebinder/http/Grammar", "isHexDigit", "(C)Z"⟩ : MethodName) prog_11_method_13_code 1 (some .boolean) :: ws) ({ frames := 0, cells := 0, slots := 0, locals := 0 } : Room)) (fun a U => a = #[(.int p0)] ∧ Z.Warmed39 U.vm ∧ U.heap = h0) (fun _ _ _ _ _ => True) (fun _ U o U' => ∃ v L, o = .returned v ∧ Q_rm1 Z p0 h0 n0 v U'.heap L ∧ FrameEnd U o U' L ({ frames := 0, cells := 0, slots := 0, locals := 0 } : Room).cells ({ frames := 0, cells := 0, slots := 0, locals := 0 } : Room).slots) := by
  refine MetFree.of_bodySF (plainFor_of_name pn_0) hisR ?_
  intro p e s m args below meth c s₁ Bd hml0 hP hK
  obtain ⟨rfl, hZ, hh⟩ := hP
  have hx := Bd.exec
  have hby := Bd.bytes
  have hml : c.maxLocals = 1 := hml0
  have hown : s.vm.findClass "routebinder/http/Grammar" = some m.cls := findClass_of_methodNamed Bd.named
  have hnm := (name_of_methodNamed Bd.named Bd.method).1
  have X0 : Stand p l e ({ frames := 0, cells := 0, slots := 0, locals := 0 } : Room) s m #[(.int p0)] below meth c s₁ [] 0 0 := Stand.of_body Bd
  have e0 : s₁.heap = h0 := by rw [← hh, Bd.state]; rfl
  have N0 := Fr.nil n0
  show OEnds p e below (OEndP s (Q_rm1 Z p0 h0 n0) ({ frames := 0, cells := 0, slots := 0, locals := 0 } : Room).cells ({ frames := 0, cells := 0, slots := 0, locals := 0 } : Room).slots) s₁ (entryFrame m #[(.int p0)] 1)
  rw [ef_rm1 m p0]
  refine OEnds.go (g' := (mkF m 1 #[.val (.int p0)] [(.int p0)])) (fun t k => XS.iloadN X0.here hx rfl (hb hby d1_0) rfl k) ?_
  refine OEnds.go (g' := (mkF m 3 #[.val (.int p0)] [(.int (48 : Int32)), (.int p0)])) (fun t k => XS.bipush X0.here hx rfl (hb hby d1_1) k) ?_
  by_cases c3_1 : p0 < (48 : Int32)
  · -- yes
    refine OEnds.go (g' := (mkF m 12 #[.val (.int p0)] [])) (fun t k => XS.icmpYes X0.here hx rfl (pc0 := 3) (pc' := 12) rfl (hb hby d1_3) rfl (tlt c3_1).1 (by decide) (by decide) k) ?_
    refine OEnds.go (g' := (mkF m 13 #[.val (.int p0)] [(.int p0)])) (fun t k => XS.iloadN X0.here hx rfl (hb hby d1_12) rfl k) ?_
    refine OEnds.go (g' := (mkF m 15 #[.val (.int p0)] [(.int (65 : Int32)), (.int p0)])) (fun t k => XS.bipush X0.here hx rfl (hb hby d1_13) k) ?_
    by_cases c15_2 : p0 < (65 : Int32)
    · -- yes
      refine OEnds.go (g' := (mkF m 24 #[.val (.int p0)] [])) (fun t k => XS.icmpYes X0.here hx rfl (pc0 := 15) (pc' := 24) rfl (hb hby d1_15) rfl (tlt c15_2).1 (by decide) (by decide) k) ?_
      refine OEnds.go (g' := (mkF m 25 #[.val (.int p0)] [(.int p0)])) (fun t k => XS.iloadN X0.here hx rfl (hb hby d1_24) rfl k) ?_
      refine OEnds.go (g' := (mkF m 27 #[.val (.int p0)] [(.int (97 : Int32)), (.int p0)])) (fun t k => XS.bipush X0.here hx rfl (hb hby d1_25) k) ?_
      by_cases c27_3 : p0 < (97 : Int32)
      · -- yes
        refine OEnds.go (g' := (mkF m 40 #[.val (.int p0)] [])) (fun t k => XS.icmpYes X0.here hx rfl (pc0 := 27) (pc' := 40) rfl (hb hby d1_27) rfl (tlt c27_3).1 (by decide) (by decide) k) ?_
        refine OEnds.go (g' := (mkF m 41 #[.val (.int p0)] [(.int (0 : Int32))])) (fun t k => XS.iconst X0.here hx rfl (hb hby d1_40) k) ?_
        exact OEnds.outN X0 Bd.notSynchronized hx (t := .boolean) Bd.returns (by simp) (hb hby d1_41) ⟨by show (some (.int (0 : Int32)) : Option Value) = some (.int (f1 p0)); rw [f1, if_pos c3_1, if_pos c15_2, if_pos c27_3], N0, e0⟩ (by decide) (by decide)
      · -- no
        refine OEnds.go (g' := (mkF m 30 #[.val (.int p0)] [])) (fun t k => XS.icmpNo X0.here hx rfl (hb hby d1_27) rfl (flt c27_3).1 k) ?_
        refine OEnds.go (g' := (mkF m 31 #[.val (.int p0)] [(.int p0)])) (fun t k => XS.iloadN X0.here hx rfl (hb hby d1_30) rfl k) ?_
        refine OEnds.go (g' := (mkF m 33 #[.val (.int p0)] [(.int (102 : Int32)), (.int p0)])) (fun t k => XS.bipush X0.here hx rfl (hb hby d1_31) k) ?_
        by_cases c33_4 : (102 : Int32) < p0
        · -- yes
          refine OEnds.go (g' := (mkF m 40 #[.val (.int p0)] [])) (fun t k => XS.icmpYes X0.here hx rfl (pc0 := 33) (pc' := 40) rfl (hb hby d1_33) rfl (tlt c33_4).2.2.1 (by decide) (by decide) k) ?_
          refine OEnds.go (g' := (mkF m 41 #[.val (.int p0)] [(.int (0 : Int32))])) (fun t k => XS.iconst X0.here hx rfl (hb hby d1_40) k) ?_
          exact OEnds.outN X0 Bd.notSynchronized hx (t := .boolean) Bd.returns (by simp) (hb hby d1_41) ⟨by show (some (.int (0 : Int32)) : Option Value) = some (.int (f1 p0)); rw [f1, if_pos c3_1, if_pos c15_2, if_neg c27_3, if_pos c33_4], N0, e0⟩ (by decide) (by decide)
        · -- no
          refine OEnds.go (g' := (mkF m 36 #[.val (.int p0)] [])) (fun t k => XS.icmpNo X0.here hx rfl (hb hby d1_33) rfl (flt c33_4).2.2.1 k) ?_
          refine OEnds.go (g' := (mkF m 37 #[.val (.int p0)] [(.int (1 : Int32))])) (fun t k => XS.iconst X0.here hx rfl (hb hby d1_36) k) ?_
          refine OEnds.go (g' := (mkF m 41 #[.val (.int p0)] [(.int (1 : Int32))])) (fun t k => XS.goto X0.here hx rfl (pc0 := 37) (pc' := 41) rfl (hb hby d1_37) (by decide) (by decide) k) ?_
          exact OEnds.outN X0 Bd.notSynchronized hx (t := .boolean) Bd.returns (by simp) (hb hby d1_41) ⟨by show (some (.int (1 : Int32)) : Option Value) = some (.int (f1 p0)); rw [f1, if_pos c3_1, if_pos c15_2, if_neg c27_3, if_neg c33_4], N0, e0⟩ (by decide) (by decide)
    · -- no
      refine OEnds.go (g' := (mkF m 18 #[.val (.int p0)] [])) (fun t k => XS.icmpNo X0.here hx rfl (hb hby d1_15) rfl (flt c15_2).1 k) ?_
      refine OEnds.go (g' := (mkF m 19 #[.val (.int p0)] [(.int p0)])) (fun t k => XS.iloadN X0.here hx rfl (hb hby d1_18) rfl k) ?_
      refine OEnds.go (g' := (mkF m 21 #[.val (.int p0)] [(.int (70 : Int32)), (.int p0)])) (fun t k => XS.bipush X0.here hx rfl (hb hby d1_19) k) ?_
      by_cases c21_5 : (70 : Int32) < p0
      · -- yes
        refine OEnds.go (g' := (mkF m 24 #[.val (.int p0)] [])) (fun t k => XS.icmpNo X0.here hx rfl (hb hby d1_21) rfl (tlt c21_5).2.2.2 k) ?_
        refine OEnds.go (g' := (mkF m 25 #[.val (.int p0)] [(.int p0)])) (fun t k => XS.iloadN X0.here hx rfl (hb hby d1_24) rfl k) ?_
        refine OEnds.go (g' := (mkF m 27 #[.val (.int p0)] [(.int (97 : Int32)), (.int p0)])) (fun t k => XS.bipush X0.here hx rfl (hb hby d1_25) k) ?_
        by_cases c27_6 : p0 < (97 : Int32)
        · -- yes
          refine OEnds.go (g' := (mkF m 40 #[.val (.int p0)] [])) (fun t k => XS.icmpYes X0.here hx rfl (pc0 := 27) (pc' := 40) rfl (hb hby d1_27) rfl (tlt c27_6).1 (by decide) (by decide) k) ?_
          refine OEnds.go (g' := (mkF m 41 #[.val (.int p0)] [(.int (0 : Int32))])) (fun t k => XS.iconst X0.here hx rfl (hb hby d1_40) k) ?_
          exact OEnds.outN X0 Bd.notSynchronized hx (t := .boolean) Bd.returns (by simp) (hb hby d1_41) ⟨by show (some (.int (0 : Int32)) : Option Value) = some (.int (f1 p0)); rw [f1, if_pos c3_1, if_neg c15_2, if_pos c21_5, if_pos c27_6], N0, e0⟩ (by decide) (by decide)
        · -- no
          refine OEnds.go (g' := (mkF m 30 #[.val (.int p0)] [])) (fun t k => XS.icmpNo X0.here hx rfl (hb hby d1_27) rfl (flt c27_6).1 k) ?_
          refine OEnds.go (g' := (mkF m 31 #[.val (.int p0)] [(.int p0)])) (fun t k => XS.iloadN X0.here hx rfl (hb hby d1_30) rfl k) ?_
          refine OEnds.go (g' := (mkF m 33 #[.val (.int p0)] [(.int (102 : Int32)), (.int p0)])) (fun t k => XS.bipush X0.here hx rfl (hb hby d1_31) k) ?_
          by_cases c33_7 : (102 : Int32) < p0
          · -- yes
            refine OEnds.go (g' := (mkF m 40 #[.val (.int p0)] [])) (fun t k => XS.icmpYes X0.here hx rfl (pc0 := 33) (pc' := 40) rfl (hb hby d1_33) rfl (tlt c33_7).2.2.1 (by decide) (by decide) k) ?_
            refine OEnds.go (g' := (mkF m 41 #[.val (.int p0)] [(.int (0 : Int32))])) (fun t k => XS.iconst X0.here hx rfl (hb hby d1_40) k) ?_
            exact OEnds.outN X0 Bd.notSynchronized hx (t := .boolean) Bd.returns (by simp) (hb hby d1_41) ⟨by show (some (.int (0 : Int32)) : Option Value) = some (.int (f1 p0)); rw [f1, if_pos c3_1, if_neg c15_2, if_pos c21_5, if_neg c27_6, if_pos c33_7], N0, e0⟩ (by decide) (by decide)
          · -- no
            refine OEnds.go (g' := (mkF m 36 #[.val (.int p0)] [])) (fun t k => XS.icmpNo X0.here hx rfl (hb hby d1_33) rfl (flt c33_7).2.2.1 k) ?_
            refine OEnds.go (g' := (mkF m 37 #[.val (.int p0)] [(.int (1 : Int32))])) (fun t k => XS.iconst X0.here hx rfl (hb hby d1_36) k) ?_
            refine OEnds.go (g' := (mkF m 41 #[.val (.int p0)] [(.int (1 : Int32))])) (fun t k => XS.goto X0.here hx rfl (pc0 := 37) (pc' := 41) rfl (hb hby d1_37) (by decide) (by decide) k) ?_
            exact OEnds.outN X0 Bd.notSynchronized hx (t := .boolean) Bd.returns (by simp) (hb hby d1_41) ⟨by show (some (.int (1 : Int32)) : Option Value) = some (.int (f1 p0)); rw [f1, if_pos c3_1, if_neg c15_2, if_pos c21_5, if_neg c27_6, if_neg c33_7], N0, e0⟩ (by decide) (by decide)
      · -- no
        refine OEnds.go (g' := (mkF m 36 #[.val (.int p0)] [])) (fun t k => XS.icmpYes X0.here hx rfl (pc0 := 21) (pc' := 36) rfl (hb hby d1_21) rfl (flt c21_5).2.2.2 (by decide) (by decide) k) ?_
        refine OEnds.go (g' := (mkF m 37 #[.val (.int p0)] [(.int (1 : Int32))])) (fun t k => XS.iconst X0.here hx rfl (hb hby d1_36) k) ?_
        refine OEnds.go (g' := (mkF m 41 #[.val (.int p0)] [(.int (1 : Int32))])) (fun t k => XS.goto X0.here hx rfl (pc0 := 37) (pc' := 41) rfl (hb hby d1_37) (by decide) (by decide) k) ?_
        exact OEnds.outN X0 Bd.notSynchronized hx (t := .boolean) Bd.returns (by simp) (hb hby d1_41) ⟨by show (some (.int (1 : Int32)) : Option Value) = some (.int (f1 p0)); rw [f1, if_pos c3_1, if_neg c15_2, if_neg c21_5], N0, e0⟩ (by decide) (by decide)
  · -- no
    refine OEnds.go (g' := (mkF m 6 #[.val (.int p0)] [])) (fun t k => XS.icmpNo X0.here hx rfl (hb hby d1_3) rfl (flt c3_1).1 k) ?_
    refine OEnds.go (g' := (mkF m 7 #[.val (.int p0)] [(.int p0)])) (fun t k => XS.iloadN X0.here hx rfl (hb hby d1_6) rfl k) ?_
    refine OEnds.go (g' := (mkF m 9 #[.val (.int p0)] [(.int (57 : Int32)), (.int p0)])) (fun t k => XS.bipush X0.here hx rfl (hb hby d1_7) k) ?_
    by_cases c9_8 : (57 : Int32) < p0
    · -- yes
      refine OEnds.go (g' := (mkF m 12 #[.val (.int p0)] [])) (fun t k => XS.icmpNo X0.here hx rfl (hb hby d1_9) rfl (tlt c9_8).2.2.2 k) ?_
      refine OEnds.go (g' := (mkF m 13 #[.val (.int p0)] [(.int p0)])) (fun t k => XS.iloadN X0.here hx rfl (hb hby d1_12) rfl k) ?_
      refine OEnds.go (g' := (mkF m 15 #[.val (.int p0)] [(.int (65 : Int32)), (.int p0)])) (fun t k => XS.bipush X0.here hx rfl (hb hby d1_13) k) ?_
      by_cases c15_9 : p0 < (65 : Int32)
      · -- yes
        refine OEnds.go (g' := (mkF m 24 #[.val (.int p0)] [])) (fun t k => XS.icmpYes X0.here hx rfl (pc0 := 15) (pc' := 24) rfl (hb hby d1_15) rfl (tlt c15_9).1 (by decide) (by decide) k) ?_
        refine OEnds.go (g' := (mkF m 25 #[.val (.int p0)] [(.int p0)])) (fun t k => XS.iloadN X0.here hx rfl (hb hby d1_24) rfl k) ?_
        refine OEnds.go (g' := (mkF m 27 #[.val (.int p0)] [(.int (97 : Int32)), (.int p0)])) (fun t k => XS.bipush X0.here hx rfl (hb hby d1_25) k) ?_
        by_cases c27_10 : p0 < (97 : Int32)
        · -- yes
          refine OEnds.go (g' := (mkF m 40 #[.val (.int p0)] [])) (fun t k => XS.icmpYes X0.here hx rfl (pc0 := 27) (pc' := 40) rfl (hb hby d1_27) rfl (tlt c27_10).1 (by decide) (by decide) k) ?_
          refine OEnds.go (g' := (mkF m 41 #[.val (.int p0)] [(.int (0 : Int32))])) (fun t k => XS.iconst X0.here hx rfl (hb hby d1_40) k) ?_
          exact OEnds.outN X0 Bd.notSynchronized hx (t := .boolean) Bd.returns (by simp) (hb hby d1_41) ⟨by show (some (.int (0 : Int32)) : Option Value) = some (.int (f1 p0)); rw [f1, if_neg c3_1, if_pos c9_8, if_pos c15_9, if_pos c27_10], N0, e0⟩ (by decide) (by decide)
        · -- no
          refine OEnds.go (g' := (mkF m 30 #[.val (.int p0)] [])) (fun t k => XS.icmpNo X0.here hx rfl (hb hby d1_27) rfl (flt c27_10).1 k) ?_
          refine OEnds.go (g' := (mkF m 31 #[.val (.int p0)] [(.int p0)])) (fun t k => XS.iloadN X0.here hx rfl (hb hby d1_30) rfl k) ?_
          refine OEnds.go (g' := (mkF m 33 #[.val (.int p0)] [(.int (102 : Int32)), (.int p0)])) (fun t k => XS.bipush X0.here hx rfl (hb hby d1_31) k) ?_
          by_cases c33_11 : (102 : Int32) < p0
          · -- yes
            refine OEnds.go (g' := (mkF m 40 #[.val (.int p0)] [])) (fun t k => XS.icmpYes X0.here hx rfl (pc0 := 33) (pc' := 40) rfl (hb hby d1_33) rfl (tlt c33_11).2.2.1 (by decide) (by decide) k) ?_
            refine OEnds.go (g' := (mkF m 41 #[.val (.int p0)] [(.int (0 : Int32))])) (fun t k => XS.iconst X0.here hx rfl (hb hby d1_40) k) ?_
            exact OEnds.outN X0 Bd.notSynchronized hx (t := .boolean) Bd.returns (by simp) (hb hby d1_41) ⟨by show (some (.int (0 : Int32)) : Option Value) = some (.int (f1 p0)); rw [f1, if_neg c3_1, if_pos c9_8, if_pos c15_9, if_neg c27_10, if_pos c33_11], N0, e0⟩ (by decide) (by decide)
          · -- no
            refine OEnds.go (g' := (mkF m 36 #[.val (.int p0)] [])) (fun t k => XS.icmpNo X0.here hx rfl (hb hby d1_33) rfl (flt c33_11).2.2.1 k) ?_
            refine OEnds.go (g' := (mkF m 37 #[.val (.int p0)] [(.int (1 : Int32))])) (fun t k => XS.iconst X0.here hx rfl (hb hby d1_36) k) ?_
            refine OEnds.go (g' := (mkF m 41 #[.val (.int p0)] [(.int (1 : Int32))])) (fun t k => XS.goto X0.here hx rfl (pc0 := 37) (pc' := 41) rfl (hb hby d1_37) (by decide) (by decide) k) ?_
            exact OEnds.outN X0 Bd.notSynchronized hx (t := .boolean) Bd.returns (by simp) (hb hby d1_41) ⟨by show (some (.int (1 : Int32)) : Option Value) = some (.int (f1 p0)); rw [f1, if_neg c3_1, if_pos c9_8, if_pos c15_9, if_neg c27_10, if_neg c33_11], N0, e0⟩ (by decide) (by decide)
      · -- no
        refine OEnds.go (g' := (mkF m 18 #[.val (.int p0)] [])) (fun t k => XS.icmpNo X0.here hx rfl (hb hby d1_15) rfl (flt c15_9).1 k) ?_
        refine OEnds.go (g' := (mkF m 19 #[.val (.int p0)] [(.int p0)])) (fun t k => XS.iloadN X0.here hx rfl (hb hby d1_18) rfl k) ?_
        refine OEnds.go (g' := (mkF m 21 #[.val (.int p0)] [(.int (70 : Int32)), (.int p0)])) (fun t k => XS.bipush X0.here hx rfl (hb hby d1_19) k) ?_
        by_cases c21_12 : (70 : Int32) < p0
        · -- yes
          refine OEnds.go (g' := (mkF m 24 #[.val (.int p0)] [])) (fun t k => XS.icmpNo X0.here hx rfl (hb hby d1_21) rfl (tlt c21_12).2.2.2 k) ?_
          refine OEnds.go (g' := (mkF m 25 #[.val (.int p0)] [(.int p0)])) (fun t k => XS.iloadN X0.here hx rfl (hb hby d1_24) rfl k) ?_
          refine OEnds.go (g' := (mkF m 27 #[.val (.int p0)] [(.int (97 : Int32)), (.int p0)])) (fun t k => XS.bipush X0.here hx rfl (hb hby d1_25) k) ?_
          by_cases c27_13 : p0 < (97 : Int32)
          · -- yes
            refine OEnds.go (g' := (mkF m 40 #[.val (.int p0)] [])) (fun t k => XS.icmpYes X0.here hx rfl (pc0 := 27) (pc' := 40) rfl (hb hby d1_27) rfl (tlt c27_13).1 (by decide) (by decide) k) ?_
            refine OEnds.go (g' := (mkF m 41 #[.val (.int p0)] [(.int (0 : Int32))])) (fun t k => XS.iconst X0.here hx rfl (hb hby d1_40) k) ?_
            exact OEnds.outN X0 Bd.notSynchronized hx (t := .boolean) Bd.returns (by simp) (hb hby d1_41) ⟨by show (some (.int (0 : Int32)) : Option Value) = some (.int (f1 p0)); rw [f1, if_neg c3_1, if_pos c9_8, if_neg c15_9, if_pos c21_12, if_pos c27_13], N0, e0⟩ (by decide) (by decide)
          · -- no
            refine OEnds.go (g' := (mkF m 30 #[.val (.int p0)] [])) (fun t k => XS.icmpNo X0.here hx rfl (hb hby d1_27) rfl (flt c27_13).1 k) ?_
            refine OEnds.go (g' := (mkF m 31 #[.val (.int p0)] [(.int p0)])) (fun t k => XS.iloadN X0.here hx rfl (hb hby d1_30) rfl k) ?_
            refine OEnds.go (g' := (mkF m 33 #[.val (.int p0)] [(.int (102 : Int32)), (.int p0)])) (fun t k => XS.bipush X0.here hx rfl (hb hby d1_31) k) ?_
            by_cases c33_14 : (102 : Int32) < p0
            · -- yes
              refine OEnds.go (g' := (mkF m 40 #[.val (.int p0)] [])) (fun t k => XS.icmpYes X0.here hx rfl (pc0 := 33) (pc' := 40) rfl (hb hby d1_33) rfl (tlt c33_14).2.2.1 (by decide) (by decide) k) ?_
              refine OEnds.go (g' := (mkF m 41 #[.val (.int p0)] [(.int (0 : Int32))])) (fun t k => XS.iconst X0.here hx rfl (hb hby d1_40) k) ?_
              exact OEnds.outN X0 Bd.notSynchronized hx (t := .boolean) Bd.returns (by simp) (hb hby d1_41) ⟨by show (some (.int (0 : Int32)) : Option Value) = some (.int (f1 p0)); rw [f1, if_neg c3_1, if_pos c9_8, if_neg c15_9, if_pos c21_12, if_neg c27_13, if_pos c33_14], N0, e0⟩ (by decide) (by decide)
            · -- no
              refine OEnds.go (g' := (mkF m 36 #[.val (.int p0)] [])) (fun t k => XS.icmpNo X0.here hx rfl (hb hby d1_33) rfl (flt c33_14).2.2.1 k) ?_
              refine OEnds.go (g' := (mkF m 37 #[.val (.int p0)] [(.int (1 : Int32))])) (fun t k => XS.iconst X0.here hx rfl (hb hby d1_36) k) ?_
              refine OEnds.go (g' := (mkF m 41 #[.val (.int p0)] [(.int (1 : Int32))])) (fun t k => XS.goto X0.here hx rfl (pc0 := 37) (pc' := 41) rfl (hb hby d1_37) (by decide) (by decide) k) ?_
              exact OEnds.outN X0 Bd.notSynchronized hx (t := .boolean) Bd.returns (by simp) (hb hby d1_41) ⟨by show (some (.int (1 : Int32)) : Option Value) = some (.int (f1 p0)); rw [f1, if_neg c3_1, if_pos c9_8, if_neg c15_9, if_pos c21_12, if_neg c27_13, if_neg c33_14], N0, e0⟩ (by decide) (by decide)
        · -- no
          refine OEnds.go (g' := (mkF m 36 #[.val (.int p0)] [])) (fun t k => XS.icmpYes X0.here hx rfl (pc0 := 21) (pc' := 36) rfl (hb hby d1_21) rfl (flt c21_12).2.2.2 (by decide) (by decide) k) ?_
          refine OEnds.go (g' := (mkF m 37 #[.val (.int p0)] [(.int (1 : Int32))])) (fun t k => XS.iconst X0.here hx rfl (hb hby d1_36) k) ?_
          refine OEnds.go (g' := (mkF m 41 #[.val (.int p0)] [(.int (1 : Int32))])) (fun t k => XS.goto X0.here hx rfl (pc0 := 37) (pc' := 41) rfl (hb hby d1_37) (by decide) (by decide) k) ?_
          exact OEnds.outN X0 Bd.notSynchronized hx (t := .boolean) Bd.returns (by simp) (hb hby d1_41) ⟨by show (some (.int (1 : Int32)) : Option Value) = some (.int (f1 p0)); rw [f1, if_neg c3_1, if_pos c9_8, if_neg c15_9, if_neg c21_12], N0, e0⟩ (by decide) (by decide)
    · -- no
      refine OEnds.go (g' := (mkF m 36 #[.val (.int p0)] [])) (fun t k => XS.icmpYes X0.here hx rfl (pc0 := 9) (pc' := 36) rfl (hb hby d1_9) rfl (flt c9_8).2.2.2 (by decide) (by decide) k) ?_
      refine OEnds.go (g' := (mkF m 37 #[.val (.int p0)] [(.int (1 : Int32))])) (fun t k => XS.iconst X0.here hx rfl (hb hby d1_36) k) ?_
      refine OEnds.go (g' := (mkF m 41 #[.val (.int p0)] [(.int (1 : Int32))])) (fun t k => XS.goto X0.here hx rfl (pc0 := 37) (pc' := 41) rfl (hb hby d1_37) (by decide) (by decide) k) ?_
      exact OEnds.outN X0 Bd.notSynchronized hx (t := .boolean) Bd.returns (by simp) (hb hby d1_41) ⟨by show (some (.int (1 : Int32)) : Option Value) = some (.int (f1 p0)); rw [f1, if_neg c3_1, if_neg c9_8], N0, e0⟩ (by decide) (by decide)
theorem ef_rm0 (m : MethodId) (x0 : Int32) (x1 : Int32) : entryFrame m #[(.int x0), (.int x1)] maxLocals = mkF m 0 #[.val (.int x0), .val (.int x1), .unset, .unset, .unset, .unset, .unset, .unset, .unset] [] := by first | (simp [entryFrame, mkF, argsToLocals, Value.category, maxLocals]; done) | rfl
def Q_rm0 (Z : State) (p0 : Int32) (p1 : Int32) (h0 : Heap) (n0 : Nat) (v : Option Value) (h : Heap) (L : List Loc) : Prop := v = some (.int 1) ∧ Fr n0 L
def jrm0_49_l5 (p0 : Int32) (p1 : Int32) : Int32 := if (((p0 &&& (65535 : Int32)).toUInt32.toUInt16.toUInt32.toInt32) - (48 : Int32)) < (0 : Int32) then if ((((p0 &&& (65535 : Int32)).toUInt32.toUInt16.toUInt32.toInt32) ||| (32 : Int32)) - (97 : Int32)) < (0 : Int32) then (0 : Int32) else if ((((p0 &&& (65535 : Int32)).toUInt32.toUInt16.toUInt32.toInt32) ||| (32 : Int32)) - (97 : Int32)) < (6 : Int32) then (1 : Int32) else (0 : Int32) else if (((p0 &&& (65535 : Int32)).toUInt32.toUInt16.toUInt32.toInt32) - (48 : Int32)) < (10 : Int32) then (1 : Int32) else if ((((p0 &&& (65535 : Int32)).toUInt32.toUInt16.toUInt32.toInt32) ||| (32 : Int32)) - (97 : Int32)) < (0 : Int32) then (0 : Int32) else if ((((p0 &&& (65535 : Int32)).toUInt32.toUInt16.toUInt32.toInt32) ||| (32 : Int32)) - (97 : Int32)) < (6 : Int32) then (1 : Int32) else (0 : Int32)
def jrm0_69_l7 (p0 : Int32) (p1 : Int32) : Int32 := if (p1 &&& (16 : Int32)) = (0 : Int32) then (0 : Int32) else (1 : Int32)
def jrm0_117_l8 (p0 : Int32) (p1 : Int32) : Int32 := if (p1 &&& (15 : Int32)) < (10 : Int32) then (((48 : Int32) + (p1 &&& (15 : Int32))).toUInt32.toUInt16.toUInt32.toInt32) else if (jrm0_69_l7 p0 p1) = (0 : Int32) then (((97 : Int32) + ((p1 &&& (15 : Int32)) - (10 : Int32))).toUInt32.toUInt16.toUInt32.toInt32) else (((65 : Int32) + ((p1 &&& (15 : Int32)) - (10 : Int32))).toUInt32.toUInt16.toUInt32.toInt32)
def f0 (p0 : Int32) (p1 : Int32) : Int32 := if (f1 ((p0 &&& (65535 : Int32)).toUInt32.toUInt16.toUInt32.toInt32)) = (jrm0_49_l5 p0 p1) then if (f1 (jrm0_117_l8 p0 p1)) = (0 : Int32) then (0 : Int32) else (1 : Int32) else (0 : Int32)
theorem own_one (x y : Int32) : f1 ((x &&& (65535 : Int32)).toUInt32.toUInt16.toUInt32.toInt32) = jrm0_49_l5 x y := by
  have h1 := (c_i2c (x &&& (65535 : Int32))).2
  rw [jrm0_49_l5]
  generalize (x &&& (65535 : Int32)).toUInt32.toUInt16.toUInt32.toInt32 = c at h1
  by_cases hc : c.toInt < 128
  · apply own_fin' 128 c <;> first | omega | decide +kernel
  · have hb := (c_or0 c 32 (by omega) (by decide)).1
    have k : ∀ z : Int32, z.toInt < 128 → z < c := fun z hz => Int32.lt_iff_toInt_lt.mpr (by omega)
    have n : ∀ z : Int32, z.toInt < 128 → ¬ c < z := fun z hz q => by have := Int32.lt_iff_toInt_lt.mp q; omega
    have hd : (c - 48).toInt = c.toInt - 48 := by
      have := c_isub c 48
      have e : (48 : Int32).toInt = 48 := by decide
      have := rng32 (c - 48)
      omega
    have hl : ((c ||| 32) - 97).toInt = (c ||| 32).toInt - 97 := by
      have := c_isub (c ||| 32) 97
      have e : (97 : Int32).toInt = 97 := by decide
      have := rng32 ((c ||| 32) - 97)
      have := rng32 (c ||| 32)
      omega
    have d : ∀ z : Int32, z.toInt < 20 → ¬ c - 48 < z := fun z hz q => by have := Int32.lt_iff_toInt_lt.mp q; omega
    have d' : ∀ z : Int32, z.toInt < 20 → ¬ (c ||| 32) - 97 < z := fun z hz q => by have := Int32.lt_iff_toInt_lt.mp q; omega
    rw [if_neg (d 0 (by decide)), if_neg (d 10 (by decide)), if_neg (d' 0 (by decide)), if_neg (d' 6 (by decide)), f1, if_neg (n 48 (by decide)), if_pos (k 57 (by decide)), if_neg (n 65 (by decide)), if_pos (k 70 (by decide)), if_neg (n 97 (by decide)), if_pos (k 102 (by decide))]
theorem own_two (x y : Int32) : ¬ f1 (jrm0_117_l8 x y) = 0 := by
  have h1 := c_mask y 15 4 (by decide) (by decide)
  rw [jrm0_117_l8, jrm0_69_l7]
  generalize y &&& (15 : Int32) = c at h1
  by_cases hu : y &&& (16 : Int32) = 0
  · rw [if_pos hu]; apply own_fin' 16 c <;> first | omega | decide +kernel
  · rw [if_neg hu]; apply own_fin' 16 c <;> first | omega | decide +kernel
theorem own_law (x y : Int32) : f0 x y = 1 := by
  rw [f0, if_pos (own_one x y), if_neg (own_two x y)]
set_option maxRecDepth 65536 in
set_option maxHeartbeats 40000000 in
theorem rm0 (l : Launch) (Z : State) (a0 : Array Value) (hw : ∀ d ∈ tables_1, d.before a0 Z = true) (ws : List Jvm.Cond) (p0 : Int32) (p1 : Int32) (h0 : Heap) (n0 : Nat) (Z0 : n0 ≤ h0.size) :
    MetFree l x (head1 (Jvm.Cond.code x code maxLocals ret :: ws) room_1) (fun a U => a = #[(.int p0), (.int p1)] ∧ Z.Warmed39 U.vm ∧ U.heap = h0) (fun _ _ _ _ _ => True) (fun _ U o U' => ∃ v L, o = .returned v ∧ Q_rm0 Z p0 p1 h0 n0 v U'.heap L ∧ FrameEnd U o U' L room_1.cells room_1.slots) := by
  refine MetFree.of_bodySF (plainFor_of_name pn_1) hisR ?_
  intro p e s m args below meth c s₁ Bd hml0 hP hK
  obtain ⟨rfl, hZ, hh⟩ := hP
  have hx := Bd.exec
  have hby := Bd.bytes
  have hml : c.maxLocals = 9 := hml0
  have hown : s.vm.findClass "routebinder/http/GrammarIsHexDigitPinLaw" = some m.cls := findClass_of_methodNamed Bd.named
  have hnm := (name_of_methodNamed Bd.named Bd.method).1
  have X0 : Stand p l e room_1 s m #[(.int p0), (.int p1)] below meth c s₁ [] 0 0 := Stand.of_body Bd
  have e0 : s₁.heap = h0 := by rw [← hh, Bd.state]; rfl
  have N0 := Fr.nil n0
  show OEnds p e below (OEndP s (Q_rm0 Z p0 p1 h0 n0) room_1.cells room_1.slots) s₁ (entryFrame m #[(.int p0), (.int p1)] maxLocals)
  rw [ef_rm0 m p0 p1]
  refine OEnds.go (g' := (mkF m 1 #[.val (.int p0), .val (.int p1), .unset, .unset, .unset, .unset, .unset, .unset, .unset] [(.int p0)])) (fun t k => XS.iloadN X0.here hx rfl (hb hby at_0) rfl k) ?_
  refine OEnds.go (g' := (mkF m 3 #[.val (.int p0), .val (.int p1), .unset, .unset, .unset, .unset, .unset, .unset, .unset] [(.int (65535 : Int32)), (.int p0)])) (X0.ldcInt hx hown (mvT hZ (hw _ (List.mem_of_getElem? (i := 0) rfl))) (g := (mkF m 1 #[.val (.int p0), .val (.int p1), .unset, .unset, .unset, .unset, .unset, .unset, .unset] [(.int p0)])) rfl (hb hby at_1)) ?_
  refine OEnds.go (g' := (mkF m 4 #[.val (.int p0), .val (.int p1), .unset, .unset, .unset, .unset, .unset, .unset, .unset] [(.int (p0 &&& (65535 : Int32)))])) (fun t k => XS.iand X0.here hx rfl (hb hby at_3) rfl k) ?_
  refine OEnds.go (g' := (mkF m 5 #[.val (.int p0), .val (.int p1), .unset, .unset, .unset, .unset, .unset, .unset, .unset] [(.int ((p0 &&& (65535 : Int32)).toUInt32.toUInt16.toUInt32.toInt32))])) (fun t k => XS.i2c X0.here hx rfl (hb hby at_4) rfl k) ?_
  refine OEnds.go (g' := (mkF m 6 #[.val (.int p0), .val (.int p1), .val (.int ((p0 &&& (65535 : Int32)).toUInt32.toUInt16.toUInt32.toInt32)), .unset, .unset, .unset, .unset, .unset, .unset] [])) (fun t k => XS.istoreN X0.here hx rfl (hb hby at_5) rfl (l' := #[.val (.int p0), .val (.int p1), .val (.int ((p0 &&& (65535 : Int32)).toUInt32.toUInt16.toUInt32.toInt32)), .unset, .unset, .unset, .unset, .unset, .unset]) rfl k) ?_
  refine OEnds.go (g' := (mkF m 7 #[.val (.int p0), .val (.int p1), .val (.int ((p0 &&& (65535 : Int32)).toUInt32.toUInt16.toUInt32.toInt32)), .unset, .unset, .unset, .unset, .unset, .unset] [(.int ((p0 &&& (65535 : Int32)).toUInt32.toUInt16.toUInt32.toInt32))])) (fun t k => XS.iloadN X0.here hx rfl (hb hby at_6) rfl k) ?_
  refine OEnds.go (g' := (mkF m 9 #[.val (.int p0), .val (.int p1), .val (.int ((p0 &&& (65535 : Int32)).toUInt32.toUInt16.toUInt32.toInt32)), .unset, .unset, .unset, .unset, .unset, .unset] [(.int (48 : Int32)), (.int ((p0 &&& (65535 : Int32)).toUInt32.toUInt16.toUInt32.toInt32))])) (fun t k => XS.bipush X0.here hx rfl (hb hby at_7) k) ?_
  refine OEnds.go (g' := (mkF m 10 #[.val (.int p0), .val (.int p1), .val (.int ((p0 &&& (65535 : Int32)).toUInt32.toUInt16.toUInt32.toInt32)), .unset, .unset, .unset, .unset, .unset, .unset] [(.int (((p0 &&& (65535 : Int32)).toUInt32.toUInt16.toUInt32.toInt32) - (48 : Int32)))])) (fun t k => XS.isub X0.here hx rfl (hb hby at_9) rfl k) ?_
  refine OEnds.go (g' := (mkF m 11 #[.val (.int p0), .val (.int p1), .val (.int ((p0 &&& (65535 : Int32)).toUInt32.toUInt16.toUInt32.toInt32)), .val (.int (((p0 &&& (65535 : Int32)).toUInt32.toUInt16.toUInt32.toInt32) - (48 : Int32))), .unset, .unset, .unset, .unset, .unset] [])) (fun t k => XS.istoreN X0.here hx rfl (hb hby at_10) rfl (l' := #[.val (.int p0), .val (.int p1), .val (.int ((p0 &&& (65535 : Int32)).toUInt32.toUInt16.toUInt32.toInt32)), .val (.int (((p0 &&& (65535 : Int32)).toUInt32.toUInt16.toUInt32.toInt32) - (48 : Int32))), .unset, .unset, .unset, .unset, .unset]) rfl k) ?_
  refine OEnds.go (g' := (mkF m 12 #[.val (.int p0), .val (.int p1), .val (.int ((p0 &&& (65535 : Int32)).toUInt32.toUInt16.toUInt32.toInt32)), .val (.int (((p0 &&& (65535 : Int32)).toUInt32.toUInt16.toUInt32.toInt32) - (48 : Int32))), .unset, .unset, .unset, .unset, .unset] [(.int ((p0 &&& (65535 : Int32)).toUInt32.toUInt16.toUInt32.toInt32))])) (fun t k => XS.iloadN X0.here hx rfl (hb hby at_11) rfl k) ?_
  refine OEnds.go (g' := (mkF m 14 #[.val (.int p0), .val (.int p1), .val (.int ((p0 &&& (65535 : Int32)).toUInt32.toUInt16.toUInt32.toInt32)), .val (.int (((p0 &&& (65535 : Int32)).toUInt32.toUInt16.toUInt32.toInt32) - (48 : Int32))), .unset, .unset, .unset, .unset, .unset] [(.int (32 : Int32)), (.int ((p0 &&& (65535 : Int32)).toUInt32.toUInt16.toUInt32.toInt32))])) (fun t k => XS.bipush X0.here hx rfl (hb hby at_12) k) ?_
  refine OEnds.go (g' := (mkF m 15 #[.val (.int p0), .val (.int p1), .val (.int ((p0 &&& (65535 : Int32)).toUInt32.toUInt16.toUInt32.toInt32)), .val (.int (((p0 &&& (65535 : Int32)).toUInt32.toUInt16.toUInt32.toInt32) - (48 : Int32))), .unset, .unset, .unset, .unset, .unset] [(.int (((p0 &&& (65535 : Int32)).toUInt32.toUInt16.toUInt32.toInt32) ||| (32 : Int32)))])) (fun t k => XS.ior X0.here hx rfl (hb hby at_14) rfl k) ?_
  refine OEnds.go (g' := (mkF m 17 #[.val (.int p0), .val (.int p1), .val (.int ((p0 &&& (65535 : Int32)).toUInt32.toUInt16.toUInt32.toInt32)), .val (.int (((p0 &&& (65535 : Int32)).toUInt32.toUInt16.toUInt32.toInt32) - (48 : Int32))), .unset, .unset, .unset, .unset, .unset] [(.int (97 : Int32)), (.int (((p0 &&& (65535 : Int32)).toUInt32.toUInt16.toUInt32.toInt32) ||| (32 : Int32)))])) (fun t k => XS.bipush X0.here hx rfl (hb hby at_15) k) ?_
  refine OEnds.go (g' := (mkF m 18 #[.val (.int p0), .val (.int p1), .val (.int ((p0 &&& (65535 : Int32)).toUInt32.toUInt16.toUInt32.toInt32)), .val (.int (((p0 &&& (65535 : Int32)).toUInt32.toUInt16.toUInt32.toInt32) - (48 : Int32))), .unset, .unset, .unset, .unset, .unset] [(.int ((((p0 &&& (65535 : Int32)).toUInt32.toUInt16.toUInt32.toInt32) ||| (32 : Int32)) - (97 : Int32)))])) (fun t k => XS.isub X0.here hx rfl (hb hby at_17) rfl k) ?_
  refine OEnds.go (g' := (mkF m 20 #[.val (.int p0), .val (.int p1), .val (.int ((p0 &&& (65535 : Int32)).toUInt32.toUInt16.toUInt32.toInt32)), .val (.int (((p0 &&& (65535 : Int32)).toUInt32.toUInt16.toUInt32.toInt32) - (48 : Int32))), .val (.int ((((p0 &&& (65535 : Int32)).toUInt32.toUInt16.toUInt32.toInt32) ||| (32 : Int32)) - (97 : Int32))), .unset, .unset, .unset, .unset] [])) (fun t k => XS.istore X0.here hx rfl (hb hby at_18) rfl (l' := #[.val (.int p0), .val (.int p1), .val (.int ((p0 &&& (65535 : Int32)).toUInt32.toUInt16.toUInt32.toInt32)), .val (.int (((p0 &&& (65535 : Int32)).toUInt32.toUInt16.toUInt32.toInt32) - (48 : Int32))), .val (.int ((((p0 &&& (65535 : Int32)).toUInt32.toUInt16.toUInt32.toInt32) ||| (32 : Int32)) - (97 : Int32))), .unset, .unset, .unset, .unset]) rfl k) ?_
  have J1 : OEnds p e below (OEndP s (Q_rm0 Z p0 p1 h0 n0) room_1.cells room_1.slots) s₁ (mkF m 49 #[.val (.int p0), .val (.int p1), .val (.int ((p0 &&& (65535 : Int32)).toUInt32.toUInt16.toUInt32.toInt32)), .val (.int (((p0 &&& (65535 : Int32)).toUInt32.toUInt16.toUInt32.toInt32) - (48 : Int32))), .val (.int ((((p0 &&& (65535 : Int32)).toUInt32.toUInt16.toUInt32.toInt32) ||| (32 : Int32)) - (97 : Int32))), .val (.int (jrm0_49_l5 p0 p1)), .unset, .unset, .unset] []) := by
    have J2 : OEnds p e below (OEndP s (Q_rm0 Z p0 p1 h0 n0) room_1.cells room_1.slots) s₁ (mkF m 69 #[.val (.int p0), .val (.int p1), .val (.int ((p0 &&& (65535 : Int32)).toUInt32.toUInt16.toUInt32.toInt32)), .val (.int (((p0 &&& (65535 : Int32)).toUInt32.toUInt16.toUInt32.toInt32) - (48 : Int32))), .val (.int ((((p0 &&& (65535 : Int32)).toUInt32.toUInt16.toUInt32.toInt32) ||| (32 : Int32)) - (97 : Int32))), .val (.int (jrm0_49_l5 p0 p1)), .val (.int (p1 &&& (15 : Int32))), .val (.int (jrm0_69_l7 p0 p1)), .unset] []) := by
      have J3 : OEnds p e below (OEndP s (Q_rm0 Z p0 p1 h0 n0) room_1.cells room_1.slots) s₁ (mkF m 117 #[.val (.int p0), .val (.int p1), .val (.int ((p0 &&& (65535 : Int32)).toUInt32.toUInt16.toUInt32.toInt32)), .val (.int (((p0 &&& (65535 : Int32)).toUInt32.toUInt16.toUInt32.toInt32) - (48 : Int32))), .val (.int ((((p0 &&& (65535 : Int32)).toUInt32.toUInt16.toUInt32.toInt32) ||| (32 : Int32)) - (97 : Int32))), .val (.int (jrm0_49_l5 p0 p1)), .val (.int (p1 &&& (15 : Int32))), .val (.int (jrm0_69_l7 p0 p1)), .val (.int (jrm0_117_l8 p0 p1))] []) := by
        refine OEnds.go (g' := (mkF m 118 #[.val (.int p0), .val (.int p1), .val (.int ((p0 &&& (65535 : Int32)).toUInt32.toUInt16.toUInt32.toInt32)), .val (.int (((p0 &&& (65535 : Int32)).toUInt32.toUInt16.toUInt32.toInt32) - (48 : Int32))), .val (.int ((((p0 &&& (65535 : Int32)).toUInt32.toUInt16.toUInt32.toInt32) ||| (32 : Int32)) - (97 : Int32))), .val (.int (jrm0_49_l5 p0 p1)), .val (.int (p1 &&& (15 : Int32))), .val (.int (jrm0_69_l7 p0 p1)), .val (.int (jrm0_117_l8 p0 p1))] [(.int ((p0 &&& (65535 : Int32)).toUInt32.toUInt16.toUInt32.toInt32))])) (fun t k => XS.iloadN X0.here hx rfl (hb hby at_117) rfl k) ?_
        obtain ⟨_, _, ⟨T4, L4, k4, n4⟩, -, X4, ⟨Lc4, hQ4, l4, y4, z4⟩, st4⟩ := Jvm.LawKit.callS X0 hx (y := (⟨"routebinder/http/Grammar", "isHexDigit", "(C)Z"⟩ : MethodName)) hown (mvT hZ (hw _ (List.mem_of_getElem? (i := 1) rfl))) (mvT hZ (hw _ (List.mem_of_getElem? (i := 2) rfl))) (mvT hZ (hw _ (List.mem_of_getElem? (i := 3) rfl))) (mvT hZ (hw _ (List.mem_of_getElem? (i := 4) rfl))) (by decide) (backOf (W := 0) (rm1 l Z a0 hw [] ((p0 &&& (65535 : Int32)).toUInt32.toUInt16.toUInt32.toInt32) h0 n0 Z0) hZ (hw _ (List.mem_of_getElem? (i := 4) rfl)) (hw _ (List.mem_of_getElem? (i := 3) rfl)) (by decide) (by decide)) (g := (mkF m 118 #[.val (.int p0), .val (.int p1), .val (.int ((p0 &&& (65535 : Int32)).toUInt32.toUInt16.toUInt32.toInt32)), .val (.int (((p0 &&& (65535 : Int32)).toUInt32.toUInt16.toUInt32.toInt32) - (48 : Int32))), .val (.int ((((p0 &&& (65535 : Int32)).toUInt32.toUInt16.toUInt32.toInt32) ||| (32 : Int32)) - (97 : Int32))), .val (.int (jrm0_49_l5 p0 p1)), .val (.int (p1 &&& (15 : Int32))), .val (.int (jrm0_69_l7 p0 p1)), .val (.int (jrm0_117_l8 p0 p1))] [(.int ((p0 &&& (65535 : Int32)).toUInt32.toUInt16.toUInt32.toInt32))])) rfl (by rw [hml]; rfl) (argsL := [(.int ((p0 &&& (65535 : Int32)).toUInt32.toUInt16.toUInt32.toInt32))]) (rest := []) (lenOf pd_0 rfl) rfl (by show 2 * 0 + _ ≤ _; exact Nat.le_of_eq rfl) (hb hby at_118) (fun _ _ => ⟨rfl, e0, (by decide : 0 + 0 ≤ _), (by decide : 0 + 0 ≤ _)⟩)
        dsimp only [Pt.U, Pt.locs, Pt.cells, Pt.slots] at X4 l4 y4 z4 st4 hQ4
        subst l4 y4 z4
        obtain ⟨rfl, N4q, e4⟩ := hQ4
        have N4 := Fr.app N0 N4q
        refine OEnds.go (g' := (mkF m 121 #[.val (.int p0), .val (.int p1), .val (.int ((p0 &&& (65535 : Int32)).toUInt32.toUInt16.toUInt32.toInt32)), .val (.int (((p0 &&& (65535 : Int32)).toUInt32.toUInt16.toUInt32.toInt32) - (48 : Int32))), .val (.int ((((p0 &&& (65535 : Int32)).toUInt32.toUInt16.toUInt32.toInt32) ||| (32 : Int32)) - (97 : Int32))), .val (.int (jrm0_49_l5 p0 p1)), .val (.int (p1 &&& (15 : Int32))), .val (.int (jrm0_69_l7 p0 p1)), .val (.int (jrm0_117_l8 p0 p1))] [(.int (f1 ((p0 &&& (65535 : Int32)).toUInt32.toUInt16.toUInt32.toInt32)))])) st4 ?_
        refine OEnds.go (g' := (mkF m 123 #[.val (.int p0), .val (.int p1), .val (.int ((p0 &&& (65535 : Int32)).toUInt32.toUInt16.toUInt32.toInt32)), .val (.int (((p0 &&& (65535 : Int32)).toUInt32.toUInt16.toUInt32.toInt32) - (48 : Int32))), .val (.int ((((p0 &&& (65535 : Int32)).toUInt32.toUInt16.toUInt32.toInt32) ||| (32 : Int32)) - (97 : Int32))), .val (.int (jrm0_49_l5 p0 p1)), .val (.int (p1 &&& (15 : Int32))), .val (.int (jrm0_69_l7 p0 p1)), .val (.int (jrm0_117_l8 p0 p1))] [(.int (jrm0_49_l5 p0 p1)), (.int (f1 ((p0 &&& (65535 : Int32)).toUInt32.toUInt16.toUInt32.toInt32)))])) (fun t k => XS.iload X4.here hx rfl (hb hby at_121) rfl k) ?_
        by_cases c123_5 : (f1 ((p0 &&& (65535 : Int32)).toUInt32.toUInt16.toUInt32.toInt32)) = (jrm0_49_l5 p0 p1)
        · -- yes
          refine OEnds.go (g' := (mkF m 126 #[.val (.int p0), .val (.int p1), .val (.int ((p0 &&& (65535 : Int32)).toUInt32.toUInt16.toUInt32.toInt32)), .val (.int (((p0 &&& (65535 : Int32)).toUInt32.toUInt16.toUInt32.toInt32) - (48 : Int32))), .val (.int ((((p0 &&& (65535 : Int32)).toUInt32.toUInt16.toUInt32.toInt32) ||| (32 : Int32)) - (97 : Int32))), .val (.int (jrm0_49_l5 p0 p1)), .val (.int (p1 &&& (15 : Int32))), .val (.int (jrm0_69_l7 p0 p1)), .val (.int (jrm0_117_l8 p0 p1))] [])) (fun t k => XS.icmpNo X4.here hx rfl (hb hby at_123) rfl (teq c123_5).2 k) ?_
          refine OEnds.go (g' := (mkF m 128 #[.val (.int p0), .val (.int p1), .val (.int ((p0 &&& (65535 : Int32)).toUInt32.toUInt16.toUInt32.toInt32)), .val (.int (((p0 &&& (65535 : Int32)).toUInt32.toUInt16.toUInt32.toInt32) - (48 : Int32))), .val (.int ((((p0 &&& (65535 : Int32)).toUInt32.toUInt16.toUInt32.toInt32) ||| (32 : Int32)) - (97 : Int32))), .val (.int (jrm0_49_l5 p0 p1)), .val (.int (p1 &&& (15 : Int32))), .val (.int (jrm0_69_l7 p0 p1)), .val (.int (jrm0_117_l8 p0 p1))] [(.int (jrm0_117_l8 p0 p1))])) (fun t k => XS.iload X4.here hx rfl (hb hby at_126) rfl k) ?_
          obtain ⟨_, _, ⟨T6, L6, k6, n6⟩, -, X6, ⟨Lc6, hQ6, l6, y6, z6⟩, st6⟩ := Jvm.LawKit.callS X4 hx (y := (⟨"routebinder/http/Grammar", "isHexDigit", "(C)Z"⟩ : MethodName)) hown (mvT hZ (hw _ (List.mem_of_getElem? (i := 1) rfl))) (mvT hZ (hw _ (List.mem_of_getElem? (i := 2) rfl))) (mvT hZ (hw _ (List.mem_of_getElem? (i := 3) rfl))) (mvT hZ (hw _ (List.mem_of_getElem? (i := 4) rfl))) (by decide) (backOf (W := 0) (rm1 l Z a0 hw [] (jrm0_117_l8 p0 p1) h0 n0 Z0) hZ (hw _ (List.mem_of_getElem? (i := 4) rfl)) (hw _ (List.mem_of_getElem? (i := 3) rfl)) (by decide) (by decide)) (g := (mkF m 128 #[.val (.int p0), .val (.int p1), .val (.int ((p0 &&& (65535 : Int32)).toUInt32.toUInt16.toUInt32.toInt32)), .val (.int (((p0 &&& (65535 : Int32)).toUInt32.toUInt16.toUInt32.toInt32) - (48 : Int32))), .val (.int ((((p0 &&& (65535 : Int32)).toUInt32.toUInt16.toUInt32.toInt32) ||| (32 : Int32)) - (97 : Int32))), .val (.int (jrm0_49_l5 p0 p1)), .val (.int (p1 &&& (15 : Int32))), .val (.int (jrm0_69_l7 p0 p1)), .val (.int (jrm0_117_l8 p0 p1))] [(.int (jrm0_117_l8 p0 p1))])) rfl (by rw [hml]; rfl) (argsL := [(.int (jrm0_117_l8 p0 p1))]) (rest := []) (lenOf pd_0 rfl) rfl (by show 2 * 0 + _ ≤ _; exact Nat.le_of_eq rfl) (hb hby at_128) (fun _ _ => ⟨rfl, e4, (by decide : 0 + 0 ≤ _), (by decide : 0 + 0 ≤ _)⟩)
          dsimp only [Pt.U, Pt.locs, Pt.cells, Pt.slots] at X6 l6 y6 z6 st6 hQ6
          subst l6 y6 z6
          obtain ⟨rfl, N6q, e6⟩ := hQ6
          have N6 := Fr.app N4 N6q
          refine OEnds.go (g' := (mkF m 131 #[.val (.int p0), .val (.int p1), .val (.int ((p0 &&& (65535 : Int32)).toUInt32.toUInt16.toUInt32.toInt32)), .val (.int (((p0 &&& (65535 : Int32)).toUInt32.toUInt16.toUInt32.toInt32) - (48 : Int32))), .val (.int ((((p0 &&& (65535 : Int32)).toUInt32.toUInt16.toUInt32.toInt32) ||| (32 : Int32)) - (97 : Int32))), .val (.int (jrm0_49_l5 p0 p1)), .val (.int (p1 &&& (15 : Int32))), .val (.int (jrm0_69_l7 p0 p1)), .val (.int (jrm0_117_l8 p0 p1))] [(.int (f1 (jrm0_117_l8 p0 p1)))])) st6 ?_
          by_cases c131_7 : (f1 (jrm0_117_l8 p0 p1)) = (0 : Int32)
          · -- yes
            refine OEnds.go (g' := (mkF m 138 #[.val (.int p0), .val (.int p1), .val (.int ((p0 &&& (65535 : Int32)).toUInt32.toUInt16.toUInt32.toInt32)), .val (.int (((p0 &&& (65535 : Int32)).toUInt32.toUInt16.toUInt32.toInt32) - (48 : Int32))), .val (.int ((((p0 &&& (65535 : Int32)).toUInt32.toUInt16.toUInt32.toInt32) ||| (32 : Int32)) - (97 : Int32))), .val (.int (jrm0_49_l5 p0 p1)), .val (.int (p1 &&& (15 : Int32))), .val (.int (jrm0_69_l7 p0 p1)), .val (.int (jrm0_117_l8 p0 p1))] [])) (fun t k => XS.ifYes X6.here hx rfl (pc0 := 131) (pc' := 138) rfl (hb hby at_131) rfl ((if0 _ _).trans (teq c131_7).1) (by decide) (by decide) k) ?_
            refine OEnds.go (g' := (mkF m 139 #[.val (.int p0), .val (.int p1), .val (.int ((p0 &&& (65535 : Int32)).toUInt32.toUInt16.toUInt32.toInt32)), .val (.int (((p0 &&& (65535 : Int32)).toUInt32.toUInt16.toUInt32.toInt32) - (48 : Int32))), .val (.int ((((p0 &&& (65535 : Int32)).toUInt32.toUInt16.toUInt32.toInt32) ||| (32 : Int32)) - (97 : Int32))), .val (.int (jrm0_49_l5 p0 p1)), .val (.int (p1 &&& (15 : Int32))), .val (.int (jrm0_69_l7 p0 p1)), .val (.int (jrm0_117_l8 p0 p1))] [(.int (0 : Int32))])) (fun t k => XS.iconst X6.here hx rfl (hb hby at_138) k) ?_
            exact OEnds.outN X6 Bd.notSynchronized hx (t := .boolean) Bd.returns (by simp) (hb hby at_139) (own_no (own_law p0 p1) (by rw [f0, if_pos c123_5, if_pos c131_7])) (by decide) (by decide)
          · -- no
            refine OEnds.go (g' := (mkF m 134 #[.val (.int p0), .val (.int p1), .val (.int ((p0 &&& (65535 : Int32)).toUInt32.toUInt16.toUInt32.toInt32)), .val (.int (((p0 &&& (65535 : Int32)).toUInt32.toUInt16.toUInt32.toInt32) - (48 : Int32))), .val (.int ((((p0 &&& (65535 : Int32)).toUInt32.toUInt16.toUInt32.toInt32) ||| (32 : Int32)) - (97 : Int32))), .val (.int (jrm0_49_l5 p0 p1)), .val (.int (p1 &&& (15 : Int32))), .val (.int (jrm0_69_l7 p0 p1)), .val (.int (jrm0_117_l8 p0 p1))] [])) (fun t k => XS.ifNo X6.here hx rfl (hb hby at_131) rfl ((if0 _ _).trans (feq c131_7).1) k) ?_
            refine OEnds.go (g' := (mkF m 135 #[.val (.int p0), .val (.int p1), .val (.int ((p0 &&& (65535 : Int32)).toUInt32.toUInt16.toUInt32.toInt32)), .val (.int (((p0 &&& (65535 : Int32)).toUInt32.toUInt16.toUInt32.toInt32) - (48 : Int32))), .val (.int ((((p0 &&& (65535 : Int32)).toUInt32.toUInt16.toUInt32.toInt32) ||| (32 : Int32)) - (97 : Int32))), .val (.int (jrm0_49_l5 p0 p1)), .val (.int (p1 &&& (15 : Int32))), .val (.int (jrm0_69_l7 p0 p1)), .val (.int (jrm0_117_l8 p0 p1))] [(.int (1 : Int32))])) (fun t k => XS.iconst X6.here hx rfl (hb hby at_134) k) ?_
            refine OEnds.go (g' := (mkF m 139 #[.val (.int p0), .val (.int p1), .val (.int ((p0 &&& (65535 : Int32)).toUInt32.toUInt16.toUInt32.toInt32)), .val (.int (((p0 &&& (65535 : Int32)).toUInt32.toUInt16.toUInt32.toInt32) - (48 : Int32))), .val (.int ((((p0 &&& (65535 : Int32)).toUInt32.toUInt16.toUInt32.toInt32) ||| (32 : Int32)) - (97 : Int32))), .val (.int (jrm0_49_l5 p0 p1)), .val (.int (p1 &&& (15 : Int32))), .val (.int (jrm0_69_l7 p0 p1)), .val (.int (jrm0_117_l8 p0 p1))] [(.int (1 : Int32))])) (fun t k => XS.goto X6.here hx rfl (pc0 := 135) (pc' := 139) rfl (hb hby at_135) (by decide) (by decide) k) ?_
            exact OEnds.outN X6 Bd.notSynchronized hx (t := .boolean) Bd.returns (by simp) (hb hby at_139) ⟨rfl, N6⟩ (by decide) (by decide)
        · -- no
          refine OEnds.go (g' := (mkF m 138 #[.val (.int p0), .val (.int p1), .val (.int ((p0 &&& (65535 : Int32)).toUInt32.toUInt16.toUInt32.toInt32)), .val (.int (((p0 &&& (65535 : Int32)).toUInt32.toUInt16.toUInt32.toInt32) - (48 : Int32))), .val (.int ((((p0 &&& (65535 : Int32)).toUInt32.toUInt16.toUInt32.toInt32) ||| (32 : Int32)) - (97 : Int32))), .val (.int (jrm0_49_l5 p0 p1)), .val (.int (p1 &&& (15 : Int32))), .val (.int (jrm0_69_l7 p0 p1)), .val (.int (jrm0_117_l8 p0 p1))] [])) (fun t k => XS.icmpYes X4.here hx rfl (pc0 := 123) (pc' := 138) rfl (hb hby at_123) rfl (feq c123_5).2 (by decide) (by decide) k) ?_
          refine OEnds.go (g' := (mkF m 139 #[.val (.int p0), .val (.int p1), .val (.int ((p0 &&& (65535 : Int32)).toUInt32.toUInt16.toUInt32.toInt32)), .val (.int (((p0 &&& (65535 : Int32)).toUInt32.toUInt16.toUInt32.toInt32) - (48 : Int32))), .val (.int ((((p0 &&& (65535 : Int32)).toUInt32.toUInt16.toUInt32.toInt32) ||| (32 : Int32)) - (97 : Int32))), .val (.int (jrm0_49_l5 p0 p1)), .val (.int (p1 &&& (15 : Int32))), .val (.int (jrm0_69_l7 p0 p1)), .val (.int (jrm0_117_l8 p0 p1))] [(.int (0 : Int32))])) (fun t k => XS.iconst X4.here hx rfl (hb hby at_138) k) ?_
          exact OEnds.outN X4 Bd.notSynchronized hx (t := .boolean) Bd.returns (by simp) (hb hby at_139) (own_no (own_law p0 p1) (by rw [f0, if_neg c123_5])) (by decide) (by decide)
      refine OEnds.go (g' := (mkF m 71 #[.val (.int p0), .val (.int p1), .val (.int ((p0 &&& (65535 : Int32)).toUInt32.toUInt16.toUInt32.toInt32)), .val (.int (((p0 &&& (65535 : Int32)).toUInt32.toUInt16.toUInt32.toInt32) - (48 : Int32))), .val (.int ((((p0 &&& (65535 : Int32)).toUInt32.toUInt16.toUInt32.toInt32) ||| (32 : Int32)) - (97 : Int32))), .val (.int (jrm0_49_l5 p0 p1)), .val (.int (p1 &&& (15 : Int32))), .val (.int (jrm0_69_l7 p0 p1)), .unset] [(.int (p1 &&& (15 : Int32)))])) (fun t k => XS.iload X0.here hx rfl (hb hby at_69) rfl k) ?_
      refine OEnds.go (g' := (mkF m 73 #[.val (.int p0), .val (.int p1), .val (.int ((p0 &&& (65535 : Int32)).toUInt32.toUInt16.toUInt32.toInt32)), .val (.int (((p0 &&& (65535 : Int32)).toUInt32.toUInt16.toUInt32.toInt32) - (48 : Int32))), .val (.int ((((p0 &&& (65535 : Int32)).toUInt32.toUInt16.toUInt32.toInt32) ||| (32 : Int32)) - (97 : Int32))), .val (.int (jrm0_49_l5 p0 p1)), .val (.int (p1 &&& (15 : Int32))), .val (.int (jrm0_69_l7 p0 p1)), .unset] [(.int (10 : Int32)), (.int (p1 &&& (15 : Int32)))])) (fun t k => XS.bipush X0.here hx rfl (hb hby at_71) k) ?_
      by_cases c73_8 : (p1 &&& (15 : Int32)) < (10 : Int32)
      · -- yes
        refine OEnds.go (g' := (mkF m 76 #[.val (.int p0), .val (.int p1), .val (.int ((p0 &&& (65535 : Int32)).toUInt32.toUInt16.toUInt32.toInt32)), .val (.int (((p0 &&& (65535 : Int32)).toUInt32.toUInt16.toUInt32.toInt32) - (48 : Int32))), .val (.int ((((p0 &&& (65535 : Int32)).toUInt32.toUInt16.toUInt32.toInt32) ||| (32 : Int32)) - (97 : Int32))), .val (.int (jrm0_49_l5 p0 p1)), .val (.int (p1 &&& (15 : Int32))), .val (.int (jrm0_69_l7 p0 p1)), .unset] [])) (fun t k => XS.icmpNo X0.here hx rfl (hb hby at_73) rfl (tlt c73_8).2.1 k) ?_
        refine OEnds.go (g' := (mkF m 78 #[.val (.int p0), .val (.int p1), .val (.int ((p0 &&& (65535 : Int32)).toUInt32.toUInt16.toUInt32.toInt32)), .val (.int (((p0 &&& (65535 : Int32)).toUInt32.toUInt16.toUInt32.toInt32) - (48 : Int32))), .val (.int ((((p0 &&& (65535 : Int32)).toUInt32.toUInt16.toUInt32.toInt32) ||| (32 : Int32)) - (97 : Int32))), .val (.int (jrm0_49_l5 p0 p1)), .val (.int (p1 &&& (15 : Int32))), .val (.int (jrm0_69_l7 p0 p1)), .unset] [(.int (48 : Int32))])) (fun t k => XS.bipush X0.here hx rfl (hb hby at_76) k) ?_
        refine OEnds.go (g' := (mkF m 80 #[.val (.int p0), .val (.int p1), .val (.int ((p0 &&& (65535 : Int32)).toUInt32.toUInt16.toUInt32.toInt32)), .val (.int (((p0 &&& (65535 : Int32)).toUInt32.toUInt16.toUInt32.toInt32) - (48 : Int32))), .val (.int ((((p0 &&& (65535 : Int32)).toUInt32.toUInt16.toUInt32.toInt32) ||| (32 : Int32)) - (97 : Int32))), .val (.int (jrm0_49_l5 p0 p1)), .val (.int (p1 &&& (15 : Int32))), .val (.int (jrm0_69_l7 p0 p1)), .unset] [(.int (p1 &&& (15 : Int32))), (.int (48 : Int32))])) (fun t k => XS.iload X0.here hx rfl (hb hby at_78) rfl k) ?_
        refine OEnds.go (g' := (mkF m 81 #[.val (.int p0), .val (.int p1), .val (.int ((p0 &&& (65535 : Int32)).toUInt32.toUInt16.toUInt32.toInt32)), .val (.int (((p0 &&& (65535 : Int32)).toUInt32.toUInt16.toUInt32.toInt32) - (48 : Int32))), .val (.int ((((p0 &&& (65535 : Int32)).toUInt32.toUInt16.toUInt32.toInt32) ||| (32 : Int32)) - (97 : Int32))), .val (.int (jrm0_49_l5 p0 p1)), .val (.int (p1 &&& (15 : Int32))), .val (.int (jrm0_69_l7 p0 p1)), .unset] [(.int ((48 : Int32) + (p1 &&& (15 : Int32))))])) (fun t k => XS.iadd X0.here hx rfl (hb hby at_80) rfl k) ?_
        refine OEnds.go (g' := (mkF m 82 #[.val (.int p0), .val (.int p1), .val (.int ((p0 &&& (65535 : Int32)).toUInt32.toUInt16.toUInt32.toInt32)), .val (.int (((p0 &&& (65535 : Int32)).toUInt32.toUInt16.toUInt32.toInt32) - (48 : Int32))), .val (.int ((((p0 &&& (65535 : Int32)).toUInt32.toUInt16.toUInt32.toInt32) ||| (32 : Int32)) - (97 : Int32))), .val (.int (jrm0_49_l5 p0 p1)), .val (.int (p1 &&& (15 : Int32))), .val (.int (jrm0_69_l7 p0 p1)), .unset] [(.int (((48 : Int32) + (p1 &&& (15 : Int32))).toUInt32.toUInt16.toUInt32.toInt32))])) (fun t k => XS.i2c X0.here hx rfl (hb hby at_81) rfl k) ?_
        refine OEnds.go (g' := (mkF m 84 #[.val (.int p0), .val (.int p1), .val (.int ((p0 &&& (65535 : Int32)).toUInt32.toUInt16.toUInt32.toInt32)), .val (.int (((p0 &&& (65535 : Int32)).toUInt32.toUInt16.toUInt32.toInt32) - (48 : Int32))), .val (.int ((((p0 &&& (65535 : Int32)).toUInt32.toUInt16.toUInt32.toInt32) ||| (32 : Int32)) - (97 : Int32))), .val (.int (jrm0_49_l5 p0 p1)), .val (.int (p1 &&& (15 : Int32))), .val (.int (jrm0_69_l7 p0 p1)), .val (.int (((48 : Int32) + (p1 &&& (15 : Int32))).toUInt32.toUInt16.toUInt32.toInt32))] [])) (fun t k => XS.istore X0.here hx rfl (hb hby at_82) rfl (l' := #[.val (.int p0), .val (.int p1), .val (.int ((p0 &&& (65535 : Int32)).toUInt32.toUInt16.toUInt32.toInt32)), .val (.int (((p0 &&& (65535 : Int32)).toUInt32.toUInt16.toUInt32.toInt32) - (48 : Int32))), .val (.int ((((p0 &&& (65535 : Int32)).toUInt32.toUInt16.toUInt32.toInt32) ||| (32 : Int32)) - (97 : Int32))), .val (.int (jrm0_49_l5 p0 p1)), .val (.int (p1 &&& (15 : Int32))), .val (.int (jrm0_69_l7 p0 p1)), .val (.int (((48 : Int32) + (p1 &&& (15 : Int32))).toUInt32.toUInt16.toUInt32.toInt32))]) rfl k) ?_
        refine OEnds.go (g' := (mkF m 117 #[.val (.int p0), .val (.int p1), .val (.int ((p0 &&& (65535 : Int32)).toUInt32.toUInt16.toUInt32.toInt32)), .val (.int (((p0 &&& (65535 : Int32)).toUInt32.toUInt16.toUInt32.toInt32) - (48 : Int32))), .val (.int ((((p0 &&& (65535 : Int32)).toUInt32.toUInt16.toUInt32.toInt32) ||| (32 : Int32)) - (97 : Int32))), .val (.int (jrm0_49_l5 p0 p1)), .val (.int (p1 &&& (15 : Int32))), .val (.int (jrm0_69_l7 p0 p1)), .val (.int (((48 : Int32) + (p1 &&& (15 : Int32))).toUInt32.toUInt16.toUInt32.toInt32))] [])) (fun t k => XS.goto X0.here hx rfl (pc0 := 84) (pc' := 117) rfl (hb hby at_84) (by decide) (by decide) k) ?_
        rw [show jrm0_117_l8 p0 p1 = (((48 : Int32) + (p1 &&& (15 : Int32))).toUInt32.toUInt16.toUInt32.toInt32) from by rw [jrm0_117_l8, if_pos c73_8]] at J3
        exact J3
      · -- no
        refine OEnds.go (g' := (mkF m 87 #[.val (.int p0), .val (.int p1), .val (.int ((p0 &&& (65535 : Int32)).toUInt32.toUInt16.toUInt32.toInt32)), .val (.int (((p0 &&& (65535 : Int32)).toUInt32.toUInt16.toUInt32.toInt32) - (48 : Int32))), .val (.int ((((p0 &&& (65535 : Int32)).toUInt32.toUInt16.toUInt32.toInt32) ||| (32 : Int32)) - (97 : Int32))), .val (.int (jrm0_49_l5 p0 p1)), .val (.int (p1 &&& (15 : Int32))), .val (.int (jrm0_69_l7 p0 p1)), .unset] [])) (fun t k => XS.icmpYes X0.here hx rfl (pc0 := 73) (pc' := 87) rfl (hb hby at_73) rfl (flt c73_8).2.1 (by decide) (by decide) k) ?_
        refine OEnds.go (g' := (mkF m 89 #[.val (.int p0), .val (.int p1), .val (.int ((p0 &&& (65535 : Int32)).toUInt32.toUInt16.toUInt32.toInt32)), .val (.int (((p0 &&& (65535 : Int32)).toUInt32.toUInt16.toUInt32.toInt32) - (48 : Int32))), .val (.int ((((p0 &&& (65535 : Int32)).toUInt32.toUInt16.toUInt32.toInt32) ||| (32 : Int32)) - (97 : Int32))), .val (.int (jrm0_49_l5 p0 p1)), .val (.int (p1 &&& (15 : Int32))), .val (.int (jrm0_69_l7 p0 p1)), .unset] [(.int (jrm0_69_l7 p0 p1))])) (fun t k => XS.iload X0.here hx rfl (hb hby at_87) rfl k) ?_
        by_cases c89_9 : (jrm0_69_l7 p0 p1) = (0 : Int32)
        · -- yes
          refine OEnds.go (g' := (mkF m 106 #[.val (.int p0), .val (.int p1), .val (.int ((p0 &&& (65535 : Int32)).toUInt32.toUInt16.toUInt32.toInt32)), .val (.int (((p0 &&& (65535 : Int32)).toUInt32.toUInt16.toUInt32.toInt32) - (48 : Int32))), .val (.int ((((p0 &&& (65535 : Int32)).toUInt32.toUInt16.toUInt32.toInt32) ||| (32 : Int32)) - (97 : Int32))), .val (.int (jrm0_49_l5 p0 p1)), .val (.int (p1 &&& (15 : Int32))), .val (.int (jrm0_69_l7 p0 p1)), .unset] [])) (fun t k => XS.ifYes X0.here hx rfl (pc0 := 89) (pc' := 106) rfl (hb hby at_89) rfl ((if0 _ _).trans (teq c89_9).1) (by decide) (by decide) k) ?_
          refine OEnds.go (g' := (mkF m 108 #[.val (.int p0), .val (.int p1), .val (.int ((p0 &&& (65535 : Int32)).toUInt32.toUInt16.toUInt32.toInt32)), .val (.int (((p0 &&& (65535 : Int32)).toUInt32.toUInt16.toUInt32.toInt32) - (48 : Int32))), .val (.int ((((p0 &&& (65535 : Int32)).toUInt32.toUInt16.toUInt32.toInt32) ||| (32 : Int32)) - (97 : Int32))), .val (.int (jrm0_49_l5 p0 p1)), .val (.int (p1 &&& (15 : Int32))), .val (.int (jrm0_69_l7 p0 p1)), .unset] [(.int (97 : Int32))])) (fun t k => XS.bipush X0.here hx rfl (hb hby at_106) k) ?_
          refine OEnds.go (g' := (mkF m 110 #[.val (.int p0), .val (.int p1), .val (.int ((p0 &&& (65535 : Int32)).toUInt32.toUInt16.toUInt32.toInt32)), .val (.int (((p0 &&& (65535 : Int32)).toUInt32.toUInt16.toUInt32.toInt32) - (48 : Int32))), .val (.int ((((p0 &&& (65535 : Int32)).toUInt32.toUInt16.toUInt32.toInt32) ||| (32 : Int32)) - (97 : Int32))), .val (.int (jrm0_49_l5 p0 p1)), .val (.int (p1 &&& (15 : Int32))), .val (.int (jrm0_69_l7 p0 p1)), .unset] [(.int (p1 &&& (15 : Int32))), (.int (97 : Int32))])) (fun t k => XS.iload X0.here hx rfl (hb hby at_108) rfl k) ?_
          refine OEnds.go (g' := (mkF m 112 #[.val (.int p0), .val (.int p1), .val (.int ((p0 &&& (65535 : Int32)).toUInt32.toUInt16.toUInt32.toInt32)), .val (.int (((p0 &&& (65535 : Int32)).toUInt32.toUInt16.toUInt32.toInt32) - (48 : Int32))), .val (.int ((((p0 &&& (65535 : Int32)).toUInt32.toUInt16.toUInt32.toInt32) ||| (32 : Int32)) - (97 : Int32))), .val (.int (jrm0_49_l5 p0 p1)), .val (.int (p1 &&& (15 : Int32))), .val (.int (jrm0_69_l7 p0 p1)), .unset] [(.int (10 : Int32)), (.int (p1 &&& (15 : Int32))), (.int (97 : Int32))])) (fun t k => XS.bipush X0.here hx rfl (hb hby at_110) k) ?_
          refine OEnds.go (g' := (mkF m 113 #[.val (.int p0), .val (.int p1), .val (.int ((p0 &&& (65535 : Int32)).toUInt32.toUInt16.toUInt32.toInt32)), .val (.int (((p0 &&& (65535 : Int32)).toUInt32.toUInt16.toUInt32.toInt32) - (48 : Int32))), .val (.int ((((p0 &&& (65535 : Int32)).toUInt32.toUInt16.toUInt32.toInt32) ||| (32 : Int32)) - (97 : Int32))), .val (.int (jrm0_49_l5 p0 p1)), .val (.int (p1 &&& (15 : Int32))), .val (.int (jrm0_69_l7 p0 p1)), .unset] [(.int ((p1 &&& (15 : Int32)) - (10 : Int32))), (.int (97 : Int32))])) (fun t k => XS.isub X0.here hx rfl (hb hby at_112) rfl k) ?_
          refine OEnds.go (g' := (mkF m 114 #[.val (.int p0), .val (.int p1), .val (.int ((p0 &&& (65535 : Int32)).toUInt32.toUInt16.toUInt32.toInt32)), .val (.int (((p0 &&& (65535 : Int32)).toUInt32.toUInt16.toUInt32.toInt32) - (48 : Int32))), .val (.int ((((p0 &&& (65535 : Int32)).toUInt32.toUInt16.toUInt32.toInt32) ||| (32 : Int32)) - (97 : Int32))), .val (.int (jrm0_49_l5 p0 p1)), .val (.int (p1 &&& (15 : Int32))), .val (.int (jrm0_69_l7 p0 p1)), .unset] [(.int ((97 : Int32) + ((p1 &&& (15 : Int32)) - (10 : Int32))))])) (fun t k => XS.iadd X0.here hx rfl (hb hby at_113) rfl k) ?_
          refine OEnds.go (g' := (mkF m 115 #[.val (.int p0), .val (.int p1), .val (.int ((p0 &&& (65535 : Int32)).toUInt32.toUInt16.toUInt32.toInt32)), .val (.int (((p0 &&& (65535 : Int32)).toUInt32.toUInt16.toUInt32.toInt32) - (48 : Int32))), .val (.int ((((p0 &&& (65535 : Int32)).toUInt32.toUInt16.toUInt32.toInt32) ||| (32 : Int32)) - (97 : Int32))), .val (.int (jrm0_49_l5 p0 p1)), .val (.int (p1 &&& (15 : Int32))), .val (.int (jrm0_69_l7 p0 p1)), .unset] [(.int (((97 : Int32) + ((p1 &&& (15 : Int32)) - (10 : Int32))).toUInt32.toUInt16.toUInt32.toInt32))])) (fun t k => XS.i2c X0.here hx rfl (hb hby at_114) rfl k) ?_
          refine OEnds.go (g' := (mkF m 117 #[.val (.int p0), .val (.int p1), .val (.int ((p0 &&& (65535 : Int32)).toUInt32.toUInt16.toUInt32.toInt32)), .val (.int (((p0 &&& (65535 : Int32)).toUInt32.toUInt16.toUInt32.toInt32) - (48 : Int32))), .val (.int ((((p0 &&& (65535 : Int32)).toUInt32.toUInt16.toUInt32.toInt32) ||| (32 : Int32)) - (97 : Int32))), .val (.int (jrm0_49_l5 p0 p1)), .val (.int (p1 &&& (15 : Int32))), .val (.int (jrm0_69_l7 p0 p1)), .val (.int (((97 : Int32) + ((p1 &&& (15 : Int32)) - (10 : Int32))).toUInt32.toUInt16.toUInt32.toInt32))] [])) (fun t k => XS.istore X0.here hx rfl (hb hby at_115) rfl (l' := #[.val (.int p0), .val (.int p1), .val (.int ((p0 &&& (65535 : Int32)).toUInt32.toUInt16.toUInt32.toInt32)), .val (.int (((p0 &&& (65535 : Int32)).toUInt32.toUInt16.toUInt32.toInt32) - (48 : Int32))), .val (.int ((((p0 &&& (65535 : Int32)).toUInt32.toUInt16.toUInt32.toInt32) ||| (32 : Int32)) - (97 : Int32))), .val (.int (jrm0_49_l5 p0 p1)), .val (.int (p1 &&& (15 : Int32))), .val (.int (jrm0_69_l7 p0 p1)), .val (.int (((97 : Int32) + ((p1 &&& (15 : Int32)) - (10 : Int32))).toUInt32.toUInt16.toUInt32.toInt32))]) rfl k) ?_
          rw [show jrm0_117_l8 p0 p1 = (((97 : Int32) + ((p1 &&& (15 : Int32)) - (10 : Int32))).toUInt32.toUInt16.toUInt32.toInt32) from by rw [jrm0_117_l8, if_neg c73_8, if_pos c89_9]] at J3
          exact J3
        · -- no
          refine OEnds.go (g' := (mkF m 92 #[.val (.int p0), .val (.int p1), .val (.int ((p0 &&& (65535 : Int32)).toUInt32.toUInt16.toUInt32.toInt32)), .val (.int (((p0 &&& (65535 : Int32)).toUInt32.toUInt16.toUInt32.toInt32) - (48 : Int32))), .val (.int ((((p0 &&& (65535 : Int32)).toUInt32.toUInt16.toUInt32.toInt32) ||| (32 : Int32)) - (97 : Int32))), .val (.int (jrm0_49_l5 p0 p1)), .val (.int (p1 &&& (15 : Int32))), .val (.int (jrm0_69_l7 p0 p1)), .unset] [])) (fun t k => XS.ifNo X0.here hx rfl (hb hby at_89) rfl ((if0 _ _).trans (feq c89_9).1) k) ?_
          refine OEnds.go (g' := (mkF m 94 #[.val (.int p0), .val (.int p1), .val (.int ((p0 &&& (65535 : Int32)).toUInt32.toUInt16.toUInt32.toInt32)), .val (.int (((p0 &&& (65535 : Int32)).toUInt32.toUInt16.toUInt32.toInt32) - (48 : Int32))), .val (.int ((((p0 &&& (65535 : Int32)).toUInt32.toUInt16.toUInt32.toInt32) ||| (32 : Int32)) - (97 : Int32))), .val (.int (jrm0_49_l5 p0 p1)), .val (.int (p1 &&& (15 : Int32))), .val (.int (jrm0_69_l7 p0 p1)), .unset] [(.int (65 : Int32))])) (fun t k => XS.bipush X0.here hx rfl (hb hby at_92) k) ?_
          refine OEnds.go (g' := (mkF m 96 #[.val (.int p0), .val (.int p1), .val (.int ((p0 &&& (65535 : Int32)).toUInt32.toUInt16.toUInt32.toInt32)), .val (.int (((p0 &&& (65535 : Int32)).toUInt32.toUInt16.toUInt32.toInt32) - (48 : Int32))), .val (.int ((((p0 &&& (65535 : Int32)).toUInt32.toUInt16.toUInt32.toInt32) ||| (32 : Int32)) - (97 : Int32))), .val (.int (jrm0_49_l5 p0 p1)), .val (.int (p1 &&& (15 : Int32))), .val (.int (jrm0_69_l7 p0 p1)), .unset] [(.int (p1 &&& (15 : Int32))), (.int (65 : Int32))])) (fun t k => XS.iload X0.here hx rfl (hb hby at_94) rfl k) ?_
          refine OEnds.go (g' := (mkF m 98 #[.val (.int p0), .val (.int p1), .val (.int ((p0 &&& (65535 : Int32)).toUInt32.toUInt16.toUInt32.toInt32)), .val (.int (((p0 &&& (65535 : Int32)).toUInt32.toUInt16.toUInt32.toInt32) - (48 : Int32))), .val (.int ((((p0 &&& (65535 : Int32)).toUInt32.toUInt16.toUInt32.toInt32) ||| (32 : Int32)) - (97 : Int32))), .val (.int (jrm0_49_l5 p0 p1)), .val (.int (p1 &&& (15 : Int32))), .val (.int (jrm0_69_l7 p0 p1)), .unset] [(.int (10 : Int32)), (.int (p1 &&& (15 : Int32))), (.int (65 : Int32))])) (fun t k => XS.bipush X0.here hx rfl (hb hby at_96) k) ?_
          refine OEnds.go (g' := (mkF m 99 #[.val (.int p0), .val (.int p1), .val (.int ((p0 &&& (65535 : Int32)).toUInt32.toUInt16.toUInt32.toInt32)), .val (.int (((p0 &&& (65535 : Int32)).toUInt32.toUInt16.toUInt32.toInt32) - (48 : Int32))), .val (.int ((((p0 &&& (65535 : Int32)).toUInt32.toUInt16.toUInt32.toInt32) ||| (32 : Int32)) - (97 : Int32))), .val (.int (jrm0_49_l5 p0 p1)), .val (.int (p1 &&& (15 : Int32))), .val (.int (jrm0_69_l7 p0 p1)), .unset] [(.int ((p1 &&& (15 : Int32)) - (10 : Int32))), (.int (65 : Int32))])) (fun t k => XS.isub X0.here hx rfl (hb hby at_98) rfl k) ?_
          refine OEnds.go (g' := (mkF m 100 #[.val (.int p0), .val (.int p1), .val (.int ((p0 &&& (65535 : Int32)).toUInt32.toUInt16.toUInt32.toInt32)), .val (.int (((p0 &&& (65535 : Int32)).toUInt32.toUInt16.toUInt32.toInt32) - (48 : Int32))), .val (.int ((((p0 &&& (65535 : Int32)).toUInt32.toUInt16.toUInt32.toInt32) ||| (32 : Int32)) - (97 : Int32))), .val (.int (jrm0_49_l5 p0 p1)), .val (.int (p1 &&& (15 : Int32))), .val (.int (jrm0_69_l7 p0 p1)), .unset] [(.int ((65 : Int32) + ((p1 &&& (15 : Int32)) - (10 : Int32))))])) (fun t k => XS.iadd X0.here hx rfl (hb hby at_99) rfl k) ?_
          refine OEnds.go (g' := (mkF m 101 #[.val (.int p0), .val (.int p1), .val (.int ((p0 &&& (65535 : Int32)).toUInt32.toUInt16.toUInt32.toInt32)), .val (.int (((p0 &&& (65535 : Int32)).toUInt32.toUInt16.toUInt32.toInt32) - (48 : Int32))), .val (.int ((((p0 &&& (65535 : Int32)).toUInt32.toUInt16.toUInt32.toInt32) ||| (32 : Int32)) - (97 : Int32))), .val (.int (jrm0_49_l5 p0 p1)), .val (.int (p1 &&& (15 : Int32))), .val (.int (jrm0_69_l7 p0 p1)), .unset] [(.int (((65 : Int32) + ((p1 &&& (15 : Int32)) - (10 : Int32))).toUInt32.toUInt16.toUInt32.toInt32))])) (fun t k => XS.i2c X0.here hx rfl (hb hby at_100) rfl k) ?_
          refine OEnds.go (g' := (mkF m 103 #[.val (.int p0), .val (.int p1), .val (.int ((p0 &&& (65535 : Int32)).toUInt32.toUInt16.toUInt32.toInt32)), .val (.int (((p0 &&& (65535 : Int32)).toUInt32.toUInt16.toUInt32.toInt32) - (48 : Int32))), .val (.int ((((p0 &&& (65535 : Int32)).toUInt32.toUInt16.toUInt32.toInt32) ||| (32 : Int32)) - (97 : Int32))), .val (.int (jrm0_49_l5 p0 p1)), .val (.int (p1 &&& (15 : Int32))), .val (.int (jrm0_69_l7 p0 p1)), .val (.int (((65 : Int32) + ((p1 &&& (15 : Int32)) - (10 : Int32))).toUInt32.toUInt16.toUInt32.toInt32))] [])) (fun t k => XS.istore X0.here hx rfl (hb hby at_101) rfl (l' := #[.val (.int p0), .val (.int p1), .val (.int ((p0 &&& (65535 : Int32)).toUInt32.toUInt16.toUInt32.toInt32)), .val (.int (((p0 &&& (65535 : Int32)).toUInt32.toUInt16.toUInt32.toInt32) - (48 : Int32))), .val (.int ((((p0 &&& (65535 : Int32)).toUInt32.toUInt16.toUInt32.toInt32) ||| (32 : Int32)) - (97 : Int32))), .val (.int (jrm0_49_l5 p0 p1)), .val (.int (p1 &&& (15 : Int32))), .val (.int (jrm0_69_l7 p0 p1)), .val (.int (((65 : Int32) + ((p1 &&& (15 : Int32)) - (10 : Int32))).toUInt32.toUInt16.toUInt32.toInt32))]) rfl k) ?_
          refine OEnds.go (g' := (mkF m 117 #[.val (.int p0), .val (.int p1), .val (.int ((p0 &&& (65535 : Int32)).toUInt32.toUInt16.toUInt32.toInt32)), .val (.int (((p0 &&& (65535 : Int32)).toUInt32.toUInt16.toUInt32.toInt32) - (48 : Int32))), .val (.int ((((p0 &&& (65535 : Int32)).toUInt32.toUInt16.toUInt32.toInt32) ||| (32 : Int32)) - (97 : Int32))), .val (.int (jrm0_49_l5 p0 p1)), .val (.int (p1 &&& (15 : Int32))), .val (.int (jrm0_69_l7 p0 p1)), .val (.int (((65 : Int32) + ((p1 &&& (15 : Int32)) - (10 : Int32))).toUInt32.toUInt16.toUInt32.toInt32))] [])) (fun t k => XS.goto X0.here hx rfl (pc0 := 103) (pc' := 117) rfl (hb hby at_103) (by decide) (by decide) k) ?_
          rw [show jrm0_117_l8 p0 p1 = (((65 : Int32) + ((p1 &&& (15 : Int32)) - (10 : Int32))).toUInt32.toUInt16.toUInt32.toInt32) from by rw [jrm0_117_l8, if_neg c73_8, if_neg c89_9]] at J3
          exact J3
    refine OEnds.go (g' := (mkF m 50 #[.val (.int p0), .val (.int p1), .val (.int ((p0 &&& (65535 : Int32)).toUInt32.toUInt16.toUInt32.toInt32)), .val (.int (((p0 &&& (65535 : Int32)).toUInt32.toUInt16.toUInt32.toInt32) - (48 : Int32))), .val (.int ((((p0 &&& (65535 : Int32)).toUInt32.toUInt16.toUInt32.toInt32) ||| (32 : Int32)) - (97 : Int32))), .val (.int (jrm0_49_l5 p0 p1)), .unset, .unset, .unset] [(.int p1)])) (fun t k => XS.iloadN X0.here hx rfl (hb hby at_49) rfl k) ?_
    refine OEnds.go (g' := (mkF m 52 #[.val (.int p0), .val (.int p1), .val (.int ((p0 &&& (65535 : Int32)).toUInt32.toUInt16.toUInt32.toInt32)), .val (.int (((p0 &&& (65535 : Int32)).toUInt32.toUInt16.toUInt32.toInt32) - (48 : Int32))), .val (.int ((((p0 &&& (65535 : Int32)).toUInt32.toUInt16.toUInt32.toInt32) ||| (32 : Int32)) - (97 : Int32))), .val (.int (jrm0_49_l5 p0 p1)), .unset, .unset, .unset] [(.int (15 : Int32)), (.int p1)])) (fun t k => XS.bipush X0.here hx rfl (hb hby at_50) k) ?_
    refine OEnds.go (g' := (mkF m 53 #[.val (.int p0), .val (.int p1), .val (.int ((p0 &&& (65535 : Int32)).toUInt32.toUInt16.toUInt32.toInt32)), .val (.int (((p0 &&& (65535 : Int32)).toUInt32.toUInt16.toUInt32.toInt32) - (48 : Int32))), .val (.int ((((p0 &&& (65535 : Int32)).toUInt32.toUInt16.toUInt32.toInt32) ||| (32 : Int32)) - (97 : Int32))), .val (.int (jrm0_49_l5 p0 p1)), .unset, .unset, .unset] [(.int (p1 &&& (15 : Int32)))])) (fun t k => XS.iand X0.here hx rfl (hb hby at_52) rfl k) ?_
    refine OEnds.go (g' := (mkF m 55 #[.val (.int p0), .val (.int p1), .val (.int ((p0 &&& (65535 : Int32)).toUInt32.toUInt16.toUInt32.toInt32)), .val (.int (((p0 &&& (65535 : Int32)).toUInt32.toUInt16.toUInt32.toInt32) - (48 : Int32))), .val (.int ((((p0 &&& (65535 : Int32)).toUInt32.toUInt16.toUInt32.toInt32) ||| (32 : Int32)) - (97 : Int32))), .val (.int (jrm0_49_l5 p0 p1)), .val (.int (p1 &&& (15 : Int32))), .unset, .unset] [])) (fun t k => XS.istore X0.here hx rfl (hb hby at_53) rfl (l' := #[.val (.int p0), .val (.int p1), .val (.int ((p0 &&& (65535 : Int32)).toUInt32.toUInt16.toUInt32.toInt32)), .val (.int (((p0 &&& (65535 : Int32)).toUInt32.toUInt16.toUInt32.toInt32) - (48 : Int32))), .val (.int ((((p0 &&& (65535 : Int32)).toUInt32.toUInt16.toUInt32.toInt32) ||| (32 : Int32)) - (97 : Int32))), .val (.int (jrm0_49_l5 p0 p1)), .val (.int (p1 &&& (15 : Int32))), .unset, .unset]) rfl k) ?_
    refine OEnds.go (g' := (mkF m 56 #[.val (.int p0), .val (.int p1), .val (.int ((p0 &&& (65535 : Int32)).toUInt32.toUInt16.toUInt32.toInt32)), .val (.int (((p0 &&& (65535 : Int32)).toUInt32.toUInt16.toUInt32.toInt32) - (48 : Int32))), .val (.int ((((p0 &&& (65535 : Int32)).toUInt32.toUInt16.toUInt32.toInt32) ||| (32 : Int32)) - (97 : Int32))), .val (.int (jrm0_49_l5 p0 p1)), .val (.int (p1 &&& (15 : Int32))), .unset, .unset] [(.int p1)])) (fun t k => XS.iloadN X0.here hx rfl (hb hby at_55) rfl k) ?_
    refine OEnds.go (g' := (mkF m 58 #[.val (.int p0), .val (.int p1), .val (.int ((p0 &&& (65535 : Int32)).toUInt32.toUInt16.toUInt32.toInt32)), .val (.int (((p0 &&& (65535 : Int32)).toUInt32.toUInt16.toUInt32.toInt32) - (48 : Int32))), .val (.int ((((p0 &&& (65535 : Int32)).toUInt32.toUInt16.toUInt32.toInt32) ||| (32 : Int32)) - (97 : Int32))), .val (.int (jrm0_49_l5 p0 p1)), .val (.int (p1 &&& (15 : Int32))), .unset, .unset] [(.int (16 : Int32)), (.int p1)])) (fun t k => XS.bipush X0.here hx rfl (hb hby at_56) k) ?_
    refine OEnds.go (g' := (mkF m 59 #[.val (.int p0), .val (.int p1), .val (.int ((p0 &&& (65535 : Int32)).toUInt32.toUInt16.toUInt32.toInt32)), .val (.int (((p0 &&& (65535 : Int32)).toUInt32.toUInt16.toUInt32.toInt32) - (48 : Int32))), .val (.int ((((p0 &&& (65535 : Int32)).toUInt32.toUInt16.toUInt32.toInt32) ||| (32 : Int32)) - (97 : Int32))), .val (.int (jrm0_49_l5 p0 p1)), .val (.int (p1 &&& (15 : Int32))), .unset, .unset] [(.int (p1 &&& (16 : Int32)))])) (fun t k => XS.iand X0.here hx rfl (hb hby at_58) rfl k) ?_
    by_cases c59_10 : (p1 &&& (16 : Int32)) = (0 : Int32)
    · -- yes
      refine OEnds.go (g' := (mkF m 66 #[.val (.int p0), .val (.int p1), .val (.int ((p0 &&& (65535 : Int32)).toUInt32.toUInt16.toUInt32.toInt32)), .val (.int (((p0 &&& (65535 : Int32)).toUInt32.toUInt16.toUInt32.toInt32) - (48 : Int32))), .val (.int ((((p0 &&& (65535 : Int32)).toUInt32.toUInt16.toUInt32.toInt32) ||| (32 : Int32)) - (97 : Int32))), .val (.int (jrm0_49_l5 p0 p1)), .val (.int (p1 &&& (15 : Int32))), .unset, .unset] [])) (fun t k => XS.ifYes X0.here hx rfl (pc0 := 59) (pc' := 66) rfl (hb hby at_59) rfl ((if0 _ _).trans (teq c59_10).1) (by decide) (by decide) k) ?_
      refine OEnds.go (g' := (mkF m 67 #[.val (.int p0), .val (.int p1), .val (.int ((p0 &&& (65535 : Int32)).toUInt32.toUInt16.toUInt32.toInt32)), .val (.int (((p0 &&& (65535 : Int32)).toUInt32.toUInt16.toUInt32.toInt32) - (48 : Int32))), .val (.int ((((p0 &&& (65535 : Int32)).toUInt32.toUInt16.toUInt32.toInt32) ||| (32 : Int32)) - (97 : Int32))), .val (.int (jrm0_49_l5 p0 p1)), .val (.int (p1 &&& (15 : Int32))), .unset, .unset] [(.int (0 : Int32))])) (fun t k => XS.iconst X0.here hx rfl (hb hby at_66) k) ?_
      refine OEnds.go (g' := (mkF m 69 #[.val (.int p0), .val (.int p1), .val (.int ((p0 &&& (65535 : Int32)).toUInt32.toUInt16.toUInt32.toInt32)), .val (.int (((p0 &&& (65535 : Int32)).toUInt32.toUInt16.toUInt32.toInt32) - (48 : Int32))), .val (.int ((((p0 &&& (65535 : Int32)).toUInt32.toUInt16.toUInt32.toInt32) ||| (32 : Int32)) - (97 : Int32))), .val (.int (jrm0_49_l5 p0 p1)), .val (.int (p1 &&& (15 : Int32))), .val (.int (0 : Int32)), .unset] [])) (fun t k => XS.istore X0.here hx rfl (hb hby at_67) rfl (l' := #[.val (.int p0), .val (.int p1), .val (.int ((p0 &&& (65535 : Int32)).toUInt32.toUInt16.toUInt32.toInt32)), .val (.int (((p0 &&& (65535 : Int32)).toUInt32.toUInt16.toUInt32.toInt32) - (48 : Int32))), .val (.int ((((p0 &&& (65535 : Int32)).toUInt32.toUInt16.toUInt32.toInt32) ||| (32 : Int32)) - (97 : Int32))), .val (.int (jrm0_49_l5 p0 p1)), .val (.int (p1 &&& (15 : Int32))), .val (.int (0 : Int32)), .unset]) rfl k) ?_
      rw [show jrm0_69_l7 p0 p1 = (0 : Int32) from by rw [jrm0_69_l7, if_pos c59_10]] at J2
      exact J2
    · -- no
      refine OEnds.go (g' := (mkF m 62 #[.val (.int p0), .val (.int p1), .val (.int ((p0 &&& (65535 : Int32)).toUInt32.toUInt16.toUInt32.toInt32)), .val (.int (((p0 &&& (65535 : Int32)).toUInt32.toUInt16.toUInt32.toInt32) - (48 : Int32))), .val (.int ((((p0 &&& (65535 : Int32)).toUInt32.toUInt16.toUInt32.toInt32) ||| (32 : Int32)) - (97 : Int32))), .val (.int (jrm0_49_l5 p0 p1)), .val (.int (p1 &&& (15 : Int32))), .unset, .unset] [])) (fun t k => XS.ifNo X0.here hx rfl (hb hby at_59) rfl ((if0 _ _).trans (feq c59_10).1) k) ?_
      refine OEnds.go (g' := (mkF m 63 #[.val (.int p0), .val (.int p1), .val (.int ((p0 &&& (65535 : Int32)).toUInt32.toUInt16.toUInt32.toInt32)), .val (.int (((p0 &&& (65535 : Int32)).toUInt32.toUInt16.toUInt32.toInt32) - (48 : Int32))), .val (.int ((((p0 &&& (65535 : Int32)).toUInt32.toUInt16.toUInt32.toInt32) ||| (32 : Int32)) - (97 : Int32))), .val (.int (jrm0_49_l5 p0 p1)), .val (.int (p1 &&& (15 : Int32))), .unset, .unset] [(.int (1 : Int32))])) (fun t k => XS.iconst X0.here hx rfl (hb hby at_62) k) ?_
      refine OEnds.go (g' := (mkF m 67 #[.val (.int p0), .val (.int p1), .val (.int ((p0 &&& (65535 : Int32)).toUInt32.toUInt16.toUInt32.toInt32)), .val (.int (((p0 &&& (65535 : Int32)).toUInt32.toUInt16.toUInt32.toInt32) - (48 : Int32))), .val (.int ((((p0 &&& (65535 : Int32)).toUInt32.toUInt16.toUInt32.toInt32) ||| (32 : Int32)) - (97 : Int32))), .val (.int (jrm0_49_l5 p0 p1)), .val (.int (p1 &&& (15 : Int32))), .unset, .unset] [(.int (1 : Int32))])) (fun t k => XS.goto X0.here hx rfl (pc0 := 63) (pc' := 67) rfl (hb hby at_63) (by decide) (by decide) k) ?_
      refine OEnds.go (g' := (mkF m 69 #[.val (.int p0), .val (.int p1), .val (.int ((p0 &&& (65535 : Int32)).toUInt32.toUInt16.toUInt32.toInt32)), .val (.int (((p0 &&& (65535 : Int32)).toUInt32.toUInt16.toUInt32.toInt32) - (48 : Int32))), .val (.int ((((p0 &&& (65535 : Int32)).toUInt32.toUInt16.toUInt32.toInt32) ||| (32 : Int32)) - (97 : Int32))), .val (.int (jrm0_49_l5 p0 p1)), .val (.int (p1 &&& (15 : Int32))), .val (.int (1 : Int32)), .unset] [])) (fun t k => XS.istore X0.here hx rfl (hb hby at_67) rfl (l' := #[.val (.int p0), .val (.int p1), .val (.int ((p0 &&& (65535 : Int32)).toUInt32.toUInt16.toUInt32.toInt32)), .val (.int (((p0 &&& (65535 : Int32)).toUInt32.toUInt16.toUInt32.toInt32) - (48 : Int32))), .val (.int ((((p0 &&& (65535 : Int32)).toUInt32.toUInt16.toUInt32.toInt32) ||| (32 : Int32)) - (97 : Int32))), .val (.int (jrm0_49_l5 p0 p1)), .val (.int (p1 &&& (15 : Int32))), .val (.int (1 : Int32)), .unset]) rfl k) ?_
      rw [show jrm0_69_l7 p0 p1 = (1 : Int32) from by rw [jrm0_69_l7, if_neg c59_10]] at J2
      exact J2
  refine OEnds.go (g' := (mkF m 21 #[.val (.int p0), .val (.int p1), .val (.int ((p0 &&& (65535 : Int32)).toUInt32.toUInt16.toUInt32.toInt32)), .val (.int (((p0 &&& (65535 : Int32)).toUInt32.toUInt16.toUInt32.toInt32) - (48 : Int32))), .val (.int ((((p0 &&& (65535 : Int32)).toUInt32.toUInt16.toUInt32.toInt32) ||| (32 : Int32)) - (97 : Int32))), .unset, .unset, .unset, .unset] [(.int (((p0 &&& (65535 : Int32)).toUInt32.toUInt16.toUInt32.toInt32) - (48 : Int32)))])) (fun t k => XS.iloadN X0.here hx rfl (hb hby at_20) rfl k) ?_
  by_cases c21_11 : (((p0 &&& (65535 : Int32)).toUInt32.toUInt16.toUInt32.toInt32) - (48 : Int32)) < (0 : Int32)
  · -- yes
    refine OEnds.go (g' := (mkF m 30 #[.val (.int p0), .val (.int p1), .val (.int ((p0 &&& (65535 : Int32)).toUInt32.toUInt16.toUInt32.toInt32)), .val (.int (((p0 &&& (65535 : Int32)).toUInt32.toUInt16.toUInt32.toInt32) - (48 : Int32))), .val (.int ((((p0 &&& (65535 : Int32)).toUInt32.toUInt16.toUInt32.toInt32) ||| (32 : Int32)) - (97 : Int32))), .unset, .unset, .unset, .unset] [])) (fun t k => XS.ifYes X0.here hx rfl (pc0 := 21) (pc' := 30) rfl (hb hby at_21) rfl ((if0 _ _).trans (tlt c21_11).1) (by decide) (by decide) k) ?_
    refine OEnds.go (g' := (mkF m 32 #[.val (.int p0), .val (.int p1), .val (.int ((p0 &&& (65535 : Int32)).toUInt32.toUInt16.toUInt32.toInt32)), .val (.int (((p0 &&& (65535 : Int32)).toUInt32.toUInt16.toUInt32.toInt32) - (48 : Int32))), .val (.int ((((p0 &&& (65535 : Int32)).toUInt32.toUInt16.toUInt32.toInt32) ||| (32 : Int32)) - (97 : Int32))), .unset, .unset, .unset, .unset] [(.int ((((p0 &&& (65535 : Int32)).toUInt32.toUInt16.toUInt32.toInt32) ||| (32 : Int32)) - (97 : Int32)))])) (fun t k => XS.iload X0.here hx rfl (hb hby at_30) rfl k) ?_
    by_cases c32_12 : ((((p0 &&& (65535 : Int32)).toUInt32.toUInt16.toUInt32.toInt32) ||| (32 : Int32)) - (97 : Int32)) < (0 : Int32)
    · -- yes
      refine OEnds.go (g' := (mkF m 46 #[.val (.int p0), .val (.int p1), .val (.int ((p0 &&& (65535 : Int32)).toUInt32.toUInt16.toUInt32.toInt32)), .val (.int (((p0 &&& (65535 : Int32)).toUInt32.toUInt16.toUInt32.toInt32) - (48 : Int32))), .val (.int ((((p0 &&& (65535 : Int32)).toUInt32.toUInt16.toUInt32.toInt32) ||| (32 : Int32)) - (97 : Int32))), .unset, .unset, .unset, .unset] [])) (fun t k => XS.ifYes X0.here hx rfl (pc0 := 32) (pc' := 46) rfl (hb hby at_32) rfl ((if0 _ _).trans (tlt c32_12).1) (by decide) (by decide) k) ?_
      refine OEnds.go (g' := (mkF m 47 #[.val (.int p0), .val (.int p1), .val (.int ((p0 &&& (65535 : Int32)).toUInt32.toUInt16.toUInt32.toInt32)), .val (.int (((p0 &&& (65535 : Int32)).toUInt32.toUInt16.toUInt32.toInt32) - (48 : Int32))), .val (.int ((((p0 &&& (65535 : Int32)).toUInt32.toUInt16.toUInt32.toInt32) ||| (32 : Int32)) - (97 : Int32))), .unset, .unset, .unset, .unset] [(.int (0 : Int32))])) (fun t k => XS.iconst X0.here hx rfl (hb hby at_46) k) ?_
      refine OEnds.go (g' := (mkF m 49 #[.val (.int p0), .val (.int p1), .val (.int ((p0 &&& (65535 : Int32)).toUInt32.toUInt16.toUInt32.toInt32)), .val (.int (((p0 &&& (65535 : Int32)).toUInt32.toUInt16.toUInt32.toInt32) - (48 : Int32))), .val (.int ((((p0 &&& (65535 : Int32)).toUInt32.toUInt16.toUInt32.toInt32) ||| (32 : Int32)) - (97 : Int32))), .val (.int (0 : Int32)), .unset, .unset, .unset] [])) (fun t k => XS.istore X0.here hx rfl (hb hby at_47) rfl (l' := #[.val (.int p0), .val (.int p1), .val (.int ((p0 &&& (65535 : Int32)).toUInt32.toUInt16.toUInt32.toInt32)), .val (.int (((p0 &&& (65535 : Int32)).toUInt32.toUInt16.toUInt32.toInt32) - (48 : Int32))), .val (.int ((((p0 &&& (65535 : Int32)).toUInt32.toUInt16.toUInt32.toInt32) ||| (32 : Int32)) - (97 : Int32))), .val (.int (0 : Int32)), .unset, .unset, .unset]) rfl k) ?_
      rw [show jrm0_49_l5 p0 p1 = (0 : Int32) from by rw [jrm0_49_l5, if_pos c21_11, if_pos c32_12]] at J1
      exact J1
    · -- no
      refine OEnds.go (g' := (mkF m 35 #[.val (.int p0), .val (.int p1), .val (.int ((p0 &&& (65535 : Int32)).toUInt32.toUInt16.toUInt32.toInt32)), .val (.int (((p0 &&& (65535 : Int32)).toUInt32.toUInt16.toUInt32.toInt32) - (48 : Int32))), .val (.int ((((p0 &&& (65535 : Int32)).toUInt32.toUInt16.toUInt32.toInt32) ||| (32 : Int32)) - (97 : Int32))), .unset, .unset, .unset, .unset] [])) (fun t k => XS.ifNo X0.here hx rfl (hb hby at_32) rfl ((if0 _ _).trans (flt c32_12).1) k) ?_
      refine OEnds.go (g' := (mkF m 37 #[.val (.int p0), .val (.int p1), .val (.int ((p0 &&& (65535 : Int32)).toUInt32.toUInt16.toUInt32.toInt32)), .val (.int (((p0 &&& (65535 : Int32)).toUInt32.toUInt16.toUInt32.toInt32) - (48 : Int32))), .val (.int ((((p0 &&& (65535 : Int32)).toUInt32.toUInt16.toUInt32.toInt32) ||| (32 : Int32)) - (97 : Int32))), .unset, .unset, .unset, .unset] [(.int ((((p0 &&& (65535 : Int32)).toUInt32.toUInt16.toUInt32.toInt32) ||| (32 : Int32)) - (97 : Int32)))])) (fun t k => XS.iload X0.here hx rfl (hb hby at_35) rfl k) ?_
      refine OEnds.go (g' := (mkF m 39 #[.val (.int p0), .val (.int p1), .val (.int ((p0 &&& (65535 : Int32)).toUInt32.toUInt16.toUInt32.toInt32)), .val (.int (((p0 &&& (65535 : Int32)).toUInt32.toUInt16.toUInt32.toInt32) - (48 : Int32))), .val (.int ((((p0 &&& (65535 : Int32)).toUInt32.toUInt16.toUInt32.toInt32) ||| (32 : Int32)) - (97 : Int32))), .unset, .unset, .unset, .unset] [(.int (6 : Int32)), (.int ((((p0 &&& (65535 : Int32)).toUInt32.toUInt16.toUInt32.toInt32) ||| (32 : Int32)) - (97 : Int32)))])) (fun t k => XS.bipush X0.here hx rfl (hb hby at_37) k) ?_
      by_cases c39_13 : ((((p0 &&& (65535 : Int32)).toUInt32.toUInt16.toUInt32.toInt32) ||| (32 : Int32)) - (97 : Int32)) < (6 : Int32)
      · -- yes
        refine OEnds.go (g' := (mkF m 42 #[.val (.int p0), .val (.int p1), .val (.int ((p0 &&& (65535 : Int32)).toUInt32.toUInt16.toUInt32.toInt32)), .val (.int (((p0 &&& (65535 : Int32)).toUInt32.toUInt16.toUInt32.toInt32) - (48 : Int32))), .val (.int ((((p0 &&& (65535 : Int32)).toUInt32.toUInt16.toUInt32.toInt32) ||| (32 : Int32)) - (97 : Int32))), .unset, .unset, .unset, .unset] [])) (fun t k => XS.icmpNo X0.here hx rfl (hb hby at_39) rfl (tlt c39_13).2.1 k) ?_
        refine OEnds.go (g' := (mkF m 43 #[.val (.int p0), .val (.int p1), .val (.int ((p0 &&& (65535 : Int32)).toUInt32.toUInt16.toUInt32.toInt32)), .val (.int (((p0 &&& (65535 : Int32)).toUInt32.toUInt16.toUInt32.toInt32) - (48 : Int32))), .val (.int ((((p0 &&& (65535 : Int32)).toUInt32.toUInt16.toUInt32.toInt32) ||| (32 : Int32)) - (97 : Int32))), .unset, .unset, .unset, .unset] [(.int (1 : Int32))])) (fun t k => XS.iconst X0.here hx rfl (hb hby at_42) k) ?_
        refine OEnds.go (g' := (mkF m 47 #[.val (.int p0), .val (.int p1), .val (.int ((p0 &&& (65535 : Int32)).toUInt32.toUInt16.toUInt32.toInt32)), .val (.int (((p0 &&& (65535 : Int32)).toUInt32.toUInt16.toUInt32.toInt32) - (48 : Int32))), .val (.int ((((p0 &&& (65535 : Int32)).toUInt32.toUInt16.toUInt32.toInt32) ||| (32 : Int32)) - (97 : Int32))), .unset, .unset, .unset, .unset] [(.int (1 : Int32))])) (fun t k => XS.goto X0.here hx rfl (pc0 := 43) (pc' := 47) rfl (hb hby at_43) (by decide) (by decide) k) ?_
        refine OEnds.go (g' := (mkF m 49 #[.val (.int p0), .val (.int p1), .val (.int ((p0 &&& (65535 : Int32)).toUInt32.toUInt16.toUInt32.toInt32)), .val (.int (((p0 &&& (65535 : Int32)).toUInt32.toUInt16.toUInt32.toInt32) - (48 : Int32))), .val (.int ((((p0 &&& (65535 : Int32)).toUInt32.toUInt16.toUInt32.toInt32) ||| (32 : Int32)) - (97 : Int32))), .val (.int (1 : Int32)), .unset, .unset, .unset] [])) (fun t k => XS.istore X0.here hx rfl (hb hby at_47) rfl (l' := #[.val (.int p0), .val (.int p1), .val (.int ((p0 &&& (65535 : Int32)).toUInt32.toUInt16.toUInt32.toInt32)), .val (.int (((p0 &&& (65535 : Int32)).toUInt32.toUInt16.toUInt32.toInt32) - (48 : Int32))), .val (.int ((((p0 &&& (65535 : Int32)).toUInt32.toUInt16.toUInt32.toInt32) ||| (32 : Int32)) - (97 : Int32))), .val (.int (1 : Int32)), .unset, .unset, .unset]) rfl k) ?_
        rw [show jrm0_49_l5 p0 p1 = (1 : Int32) from by rw [jrm0_49_l5, if_pos c21_11, if_neg c32_12, if_pos c39_13]] at J1
        exact J1
      · -- no
        refine OEnds.go (g' := (mkF m 46 #[.val (.int p0), .val (.int p1), .val (.int ((p0 &&& (65535 : Int32)).toUInt32.toUInt16.toUInt32.toInt32)), .val (.int (((p0 &&& (65535 : Int32)).toUInt32.toUInt16.toUInt32.toInt32) - (48 : Int32))), .val (.int ((((p0 &&& (65535 : Int32)).toUInt32.toUInt16.toUInt32.toInt32) ||| (32 : Int32)) - (97 : Int32))), .unset, .unset, .unset, .unset] [])) (fun t k => XS.icmpYes X0.here hx rfl (pc0 := 39) (pc' := 46) rfl (hb hby at_39) rfl (flt c39_13).2.1 (by decide) (by decide) k) ?_
        refine OEnds.go (g' := (mkF m 47 #[.val (.int p0), .val (.int p1), .val (.int ((p0 &&& (65535 : Int32)).toUInt32.toUInt16.toUInt32.toInt32)), .val (.int (((p0 &&& (65535 : Int32)).toUInt32.toUInt16.toUInt32.toInt32) - (48 : Int32))), .val (.int ((((p0 &&& (65535 : Int32)).toUInt32.toUInt16.toUInt32.toInt32) ||| (32 : Int32)) - (97 : Int32))), .unset, .unset, .unset, .unset] [(.int (0 : Int32))])) (fun t k => XS.iconst X0.here hx rfl (hb hby at_46) k) ?_
        refine OEnds.go (g' := (mkF m 49 #[.val (.int p0), .val (.int p1), .val (.int ((p0 &&& (65535 : Int32)).toUInt32.toUInt16.toUInt32.toInt32)), .val (.int (((p0 &&& (65535 : Int32)).toUInt32.toUInt16.toUInt32.toInt32) - (48 : Int32))), .val (.int ((((p0 &&& (65535 : Int32)).toUInt32.toUInt16.toUInt32.toInt32) ||| (32 : Int32)) - (97 : Int32))), .val (.int (0 : Int32)), .unset, .unset, .unset] [])) (fun t k => XS.istore X0.here hx rfl (hb hby at_47) rfl (l' := #[.val (.int p0), .val (.int p1), .val (.int ((p0 &&& (65535 : Int32)).toUInt32.toUInt16.toUInt32.toInt32)), .val (.int (((p0 &&& (65535 : Int32)).toUInt32.toUInt16.toUInt32.toInt32) - (48 : Int32))), .val (.int ((((p0 &&& (65535 : Int32)).toUInt32.toUInt16.toUInt32.toInt32) ||| (32 : Int32)) - (97 : Int32))), .val (.int (0 : Int32)), .unset, .unset, .unset]) rfl k) ?_
        rw [show jrm0_49_l5 p0 p1 = (0 : Int32) from by rw [jrm0_49_l5, if_pos c21_11, if_neg c32_12, if_neg c39_13]] at J1
        exact J1
  · -- no
    refine OEnds.go (g' := (mkF m 24 #[.val (.int p0), .val (.int p1), .val (.int ((p0 &&& (65535 : Int32)).toUInt32.toUInt16.toUInt32.toInt32)), .val (.int (((p0 &&& (65535 : Int32)).toUInt32.toUInt16.toUInt32.toInt32) - (48 : Int32))), .val (.int ((((p0 &&& (65535 : Int32)).toUInt32.toUInt16.toUInt32.toInt32) ||| (32 : Int32)) - (97 : Int32))), .unset, .unset, .unset, .unset] [])) (fun t k => XS.ifNo X0.here hx rfl (hb hby at_21) rfl ((if0 _ _).trans (flt c21_11).1) k) ?_
    refine OEnds.go (g' := (mkF m 25 #[.val (.int p0), .val (.int p1), .val (.int ((p0 &&& (65535 : Int32)).toUInt32.toUInt16.toUInt32.toInt32)), .val (.int (((p0 &&& (65535 : Int32)).toUInt32.toUInt16.toUInt32.toInt32) - (48 : Int32))), .val (.int ((((p0 &&& (65535 : Int32)).toUInt32.toUInt16.toUInt32.toInt32) ||| (32 : Int32)) - (97 : Int32))), .unset, .unset, .unset, .unset] [(.int (((p0 &&& (65535 : Int32)).toUInt32.toUInt16.toUInt32.toInt32) - (48 : Int32)))])) (fun t k => XS.iloadN X0.here hx rfl (hb hby at_24) rfl k) ?_
    refine OEnds.go (g' := (mkF m 27 #[.val (.int p0), .val (.int p1), .val (.int ((p0 &&& (65535 : Int32)).toUInt32.toUInt16.toUInt32.toInt32)), .val (.int (((p0 &&& (65535 : Int32)).toUInt32.toUInt16.toUInt32.toInt32) - (48 : Int32))), .val (.int ((((p0 &&& (65535 : Int32)).toUInt32.toUInt16.toUInt32.toInt32) ||| (32 : Int32)) - (97 : Int32))), .unset, .unset, .unset, .unset] [(.int (10 : Int32)), (.int (((p0 &&& (65535 : Int32)).toUInt32.toUInt16.toUInt32.toInt32) - (48 : Int32)))])) (fun t k => XS.bipush X0.here hx rfl (hb hby at_25) k) ?_
    by_cases c27_14 : (((p0 &&& (65535 : Int32)).toUInt32.toUInt16.toUInt32.toInt32) - (48 : Int32)) < (10 : Int32)
    · -- yes
      refine OEnds.go (g' := (mkF m 42 #[.val (.int p0), .val (.int p1), .val (.int ((p0 &&& (65535 : Int32)).toUInt32.toUInt16.toUInt32.toInt32)), .val (.int (((p0 &&& (65535 : Int32)).toUInt32.toUInt16.toUInt32.toInt32) - (48 : Int32))), .val (.int ((((p0 &&& (65535 : Int32)).toUInt32.toUInt16.toUInt32.toInt32) ||| (32 : Int32)) - (97 : Int32))), .unset, .unset, .unset, .unset] [])) (fun t k => XS.icmpYes X0.here hx rfl (pc0 := 27) (pc' := 42) rfl (hb hby at_27) rfl (tlt c27_14).1 (by decide) (by decide) k) ?_
      refine OEnds.go (g' := (mkF m 43 #[.val (.int p0), .val (.int p1), .val (.int ((p0 &&& (65535 : Int32)).toUInt32.toUInt16.toUInt32.toInt32)), .val (.int (((p0 &&& (65535 : Int32)).toUInt32.toUInt16.toUInt32.toInt32) - (48 : Int32))), .val (.int ((((p0 &&& (65535 : Int32)).toUInt32.toUInt16.toUInt32.toInt32) ||| (32 : Int32)) - (97 : Int32))), .unset, .unset, .unset, .unset] [(.int (1 : Int32))])) (fun t k => XS.iconst X0.here hx rfl (hb hby at_42) k) ?_
      refine OEnds.go (g' := (mkF m 47 #[.val (.int p0), .val (.int p1), .val (.int ((p0 &&& (65535 : Int32)).toUInt32.toUInt16.toUInt32.toInt32)), .val (.int (((p0 &&& (65535 : Int32)).toUInt32.toUInt16.toUInt32.toInt32) - (48 : Int32))), .val (.int ((((p0 &&& (65535 : Int32)).toUInt32.toUInt16.toUInt32.toInt32) ||| (32 : Int32)) - (97 : Int32))), .unset, .unset, .unset, .unset] [(.int (1 : Int32))])) (fun t k => XS.goto X0.here hx rfl (pc0 := 43) (pc' := 47) rfl (hb hby at_43) (by decide) (by decide) k) ?_
      refine OEnds.go (g' := (mkF m 49 #[.val (.int p0), .val (.int p1), .val (.int ((p0 &&& (65535 : Int32)).toUInt32.toUInt16.toUInt32.toInt32)), .val (.int (((p0 &&& (65535 : Int32)).toUInt32.toUInt16.toUInt32.toInt32) - (48 : Int32))), .val (.int ((((p0 &&& (65535 : Int32)).toUInt32.toUInt16.toUInt32.toInt32) ||| (32 : Int32)) - (97 : Int32))), .val (.int (1 : Int32)), .unset, .unset, .unset] [])) (fun t k => XS.istore X0.here hx rfl (hb hby at_47) rfl (l' := #[.val (.int p0), .val (.int p1), .val (.int ((p0 &&& (65535 : Int32)).toUInt32.toUInt16.toUInt32.toInt32)), .val (.int (((p0 &&& (65535 : Int32)).toUInt32.toUInt16.toUInt32.toInt32) - (48 : Int32))), .val (.int ((((p0 &&& (65535 : Int32)).toUInt32.toUInt16.toUInt32.toInt32) ||| (32 : Int32)) - (97 : Int32))), .val (.int (1 : Int32)), .unset, .unset, .unset]) rfl k) ?_
      rw [show jrm0_49_l5 p0 p1 = (1 : Int32) from by rw [jrm0_49_l5, if_neg c21_11, if_pos c27_14]] at J1
      exact J1
    · -- no
      refine OEnds.go (g' := (mkF m 30 #[.val (.int p0), .val (.int p1), .val (.int ((p0 &&& (65535 : Int32)).toUInt32.toUInt16.toUInt32.toInt32)), .val (.int (((p0 &&& (65535 : Int32)).toUInt32.toUInt16.toUInt32.toInt32) - (48 : Int32))), .val (.int ((((p0 &&& (65535 : Int32)).toUInt32.toUInt16.toUInt32.toInt32) ||| (32 : Int32)) - (97 : Int32))), .unset, .unset, .unset, .unset] [])) (fun t k => XS.icmpNo X0.here hx rfl (hb hby at_27) rfl (flt c27_14).1 k) ?_
      refine OEnds.go (g' := (mkF m 32 #[.val (.int p0), .val (.int p1), .val (.int ((p0 &&& (65535 : Int32)).toUInt32.toUInt16.toUInt32.toInt32)), .val (.int (((p0 &&& (65535 : Int32)).toUInt32.toUInt16.toUInt32.toInt32) - (48 : Int32))), .val (.int ((((p0 &&& (65535 : Int32)).toUInt32.toUInt16.toUInt32.toInt32) ||| (32 : Int32)) - (97 : Int32))), .unset, .unset, .unset, .unset] [(.int ((((p0 &&& (65535 : Int32)).toUInt32.toUInt16.toUInt32.toInt32) ||| (32 : Int32)) - (97 : Int32)))])) (fun t k => XS.iload X0.here hx rfl (hb hby at_30) rfl k) ?_
      by_cases c32_15 : ((((p0 &&& (65535 : Int32)).toUInt32.toUInt16.toUInt32.toInt32) ||| (32 : Int32)) - (97 : Int32)) < (0 : Int32)
      · -- yes
        refine OEnds.go (g' := (mkF m 46 #[.val (.int p0), .val (.int p1), .val (.int ((p0 &&& (65535 : Int32)).toUInt32.toUInt16.toUInt32.toInt32)), .val (.int (((p0 &&& (65535 : Int32)).toUInt32.toUInt16.toUInt32.toInt32) - (48 : Int32))), .val (.int ((((p0 &&& (65535 : Int32)).toUInt32.toUInt16.toUInt32.toInt32) ||| (32 : Int32)) - (97 : Int32))), .unset, .unset, .unset, .unset] [])) (fun t k => XS.ifYes X0.here hx rfl (pc0 := 32) (pc' := 46) rfl (hb hby at_32) rfl ((if0 _ _).trans (tlt c32_15).1) (by decide) (by decide) k) ?_
        refine OEnds.go (g' := (mkF m 47 #[.val (.int p0), .val (.int p1), .val (.int ((p0 &&& (65535 : Int32)).toUInt32.toUInt16.toUInt32.toInt32)), .val (.int (((p0 &&& (65535 : Int32)).toUInt32.toUInt16.toUInt32.toInt32) - (48 : Int32))), .val (.int ((((p0 &&& (65535 : Int32)).toUInt32.toUInt16.toUInt32.toInt32) ||| (32 : Int32)) - (97 : Int32))), .unset, .unset, .unset, .unset] [(.int (0 : Int32))])) (fun t k => XS.iconst X0.here hx rfl (hb hby at_46) k) ?_
        refine OEnds.go (g' := (mkF m 49 #[.val (.int p0), .val (.int p1), .val (.int ((p0 &&& (65535 : Int32)).toUInt32.toUInt16.toUInt32.toInt32)), .val (.int (((p0 &&& (65535 : Int32)).toUInt32.toUInt16.toUInt32.toInt32) - (48 : Int32))), .val (.int ((((p0 &&& (65535 : Int32)).toUInt32.toUInt16.toUInt32.toInt32) ||| (32 : Int32)) - (97 : Int32))), .val (.int (0 : Int32)), .unset, .unset, .unset] [])) (fun t k => XS.istore X0.here hx rfl (hb hby at_47) rfl (l' := #[.val (.int p0), .val (.int p1), .val (.int ((p0 &&& (65535 : Int32)).toUInt32.toUInt16.toUInt32.toInt32)), .val (.int (((p0 &&& (65535 : Int32)).toUInt32.toUInt16.toUInt32.toInt32) - (48 : Int32))), .val (.int ((((p0 &&& (65535 : Int32)).toUInt32.toUInt16.toUInt32.toInt32) ||| (32 : Int32)) - (97 : Int32))), .val (.int (0 : Int32)), .unset, .unset, .unset]) rfl k) ?_
        rw [show jrm0_49_l5 p0 p1 = (0 : Int32) from by rw [jrm0_49_l5, if_neg c21_11, if_neg c27_14, if_pos c32_15]] at J1
        exact J1
      · -- no
        refine OEnds.go (g' := (mkF m 35 #[.val (.int p0), .val (.int p1), .val (.int ((p0 &&& (65535 : Int32)).toUInt32.toUInt16.toUInt32.toInt32)), .val (.int (((p0 &&& (65535 : Int32)).toUInt32.toUInt16.toUInt32.toInt32) - (48 : Int32))), .val (.int ((((p0 &&& (65535 : Int32)).toUInt32.toUInt16.toUInt32.toInt32) ||| (32 : Int32)) - (97 : Int32))), .unset, .unset, .unset, .unset] [])) (fun t k => XS.ifNo X0.here hx rfl (hb hby at_32) rfl ((if0 _ _).trans (flt c32_15).1) k) ?_
        refine OEnds.go (g' := (mkF m 37 #[.val (.int p0), .val (.int p1), .val (.int ((p0 &&& (65535 : Int32)).toUInt32.toUInt16.toUInt32.toInt32)), .val (.int (((p0 &&& (65535 : Int32)).toUInt32.toUInt16.toUInt32.toInt32) - (48 : Int32))), .val (.int ((((p0 &&& (65535 : Int32)).toUInt32.toUInt16.toUInt32.toInt32) ||| (32 : Int32)) - (97 : Int32))), .unset, .unset, .unset, .unset] [(.int ((((p0 &&& (65535 : Int32)).toUInt32.toUInt16.toUInt32.toInt32) ||| (32 : Int32)) - (97 : Int32)))])) (fun t k => XS.iload X0.here hx rfl (hb hby at_35) rfl k) ?_
        refine OEnds.go (g' := (mkF m 39 #[.val (.int p0), .val (.int p1), .val (.int ((p0 &&& (65535 : Int32)).toUInt32.toUInt16.toUInt32.toInt32)), .val (.int (((p0 &&& (65535 : Int32)).toUInt32.toUInt16.toUInt32.toInt32) - (48 : Int32))), .val (.int ((((p0 &&& (65535 : Int32)).toUInt32.toUInt16.toUInt32.toInt32) ||| (32 : Int32)) - (97 : Int32))), .unset, .unset, .unset, .unset] [(.int (6 : Int32)), (.int ((((p0 &&& (65535 : Int32)).toUInt32.toUInt16.toUInt32.toInt32) ||| (32 : Int32)) - (97 : Int32)))])) (fun t k => XS.bipush X0.here hx rfl (hb hby at_37) k) ?_
        by_cases c39_16 : ((((p0 &&& (65535 : Int32)).toUInt32.toUInt16.toUInt32.toInt32) ||| (32 : Int32)) - (97 : Int32)) < (6 : Int32)
        · -- yes
          refine OEnds.go (g' := (mkF m 42 #[.val (.int p0), .val (.int p1), .val (.int ((p0 &&& (65535 : Int32)).toUInt32.toUInt16.toUInt32.toInt32)), .val (.int (((p0 &&& (65535 : Int32)).toUInt32.toUInt16.toUInt32.toInt32) - (48 : Int32))), .val (.int ((((p0 &&& (65535 : Int32)).toUInt32.toUInt16.toUInt32.toInt32) ||| (32 : Int32)) - (97 : Int32))), .unset, .unset, .unset, .unset] [])) (fun t k => XS.icmpNo X0.here hx rfl (hb hby at_39) rfl (tlt c39_16).2.1 k) ?_
          refine OEnds.go (g' := (mkF m 43 #[.val (.int p0), .val (.int p1), .val (.int ((p0 &&& (65535 : Int32)).toUInt32.toUInt16.toUInt32.toInt32)), .val (.int (((p0 &&& (65535 : Int32)).toUInt32.toUInt16.toUInt32.toInt32) - (48 : Int32))), .val (.int ((((p0 &&& (65535 : Int32)).toUInt32.toUInt16.toUInt32.toInt32) ||| (32 : Int32)) - (97 : Int32))), .unset, .unset, .unset, .unset] [(.int (1 : Int32))])) (fun t k => XS.iconst X0.here hx rfl (hb hby at_42) k) ?_
          refine OEnds.go (g' := (mkF m 47 #[.val (.int p0), .val (.int p1), .val (.int ((p0 &&& (65535 : Int32)).toUInt32.toUInt16.toUInt32.toInt32)), .val (.int (((p0 &&& (65535 : Int32)).toUInt32.toUInt16.toUInt32.toInt32) - (48 : Int32))), .val (.int ((((p0 &&& (65535 : Int32)).toUInt32.toUInt16.toUInt32.toInt32) ||| (32 : Int32)) - (97 : Int32))), .unset, .unset, .unset, .unset] [(.int (1 : Int32))])) (fun t k => XS.goto X0.here hx rfl (pc0 := 43) (pc' := 47) rfl (hb hby at_43) (by decide) (by decide) k) ?_
          refine OEnds.go (g' := (mkF m 49 #[.val (.int p0), .val (.int p1), .val (.int ((p0 &&& (65535 : Int32)).toUInt32.toUInt16.toUInt32.toInt32)), .val (.int (((p0 &&& (65535 : Int32)).toUInt32.toUInt16.toUInt32.toInt32) - (48 : Int32))), .val (.int ((((p0 &&& (65535 : Int32)).toUInt32.toUInt16.toUInt32.toInt32) ||| (32 : Int32)) - (97 : Int32))), .val (.int (1 : Int32)), .unset, .unset, .unset] [])) (fun t k => XS.istore X0.here hx rfl (hb hby at_47) rfl (l' := #[.val (.int p0), .val (.int p1), .val (.int ((p0 &&& (65535 : Int32)).toUInt32.toUInt16.toUInt32.toInt32)), .val (.int (((p0 &&& (65535 : Int32)).toUInt32.toUInt16.toUInt32.toInt32) - (48 : Int32))), .val (.int ((((p0 &&& (65535 : Int32)).toUInt32.toUInt16.toUInt32.toInt32) ||| (32 : Int32)) - (97 : Int32))), .val (.int (1 : Int32)), .unset, .unset, .unset]) rfl k) ?_
          rw [show jrm0_49_l5 p0 p1 = (1 : Int32) from by rw [jrm0_49_l5, if_neg c21_11, if_neg c27_14, if_neg c32_15, if_pos c39_16]] at J1
          exact J1
        · -- no
          refine OEnds.go (g' := (mkF m 46 #[.val (.int p0), .val (.int p1), .val (.int ((p0 &&& (65535 : Int32)).toUInt32.toUInt16.toUInt32.toInt32)), .val (.int (((p0 &&& (65535 : Int32)).toUInt32.toUInt16.toUInt32.toInt32) - (48 : Int32))), .val (.int ((((p0 &&& (65535 : Int32)).toUInt32.toUInt16.toUInt32.toInt32) ||| (32 : Int32)) - (97 : Int32))), .unset, .unset, .unset, .unset] [])) (fun t k => XS.icmpYes X0.here hx rfl (pc0 := 39) (pc' := 46) rfl (hb hby at_39) rfl (flt c39_16).2.1 (by decide) (by decide) k) ?_
          refine OEnds.go (g' := (mkF m 47 #[.val (.int p0), .val (.int p1), .val (.int ((p0 &&& (65535 : Int32)).toUInt32.toUInt16.toUInt32.toInt32)), .val (.int (((p0 &&& (65535 : Int32)).toUInt32.toUInt16.toUInt32.toInt32) - (48 : Int32))), .val (.int ((((p0 &&& (65535 : Int32)).toUInt32.toUInt16.toUInt32.toInt32) ||| (32 : Int32)) - (97 : Int32))), .unset, .unset, .unset, .unset] [(.int (0 : Int32))])) (fun t k => XS.iconst X0.here hx rfl (hb hby at_46) k) ?_
          refine OEnds.go (g' := (mkF m 49 #[.val (.int p0), .val (.int p1), .val (.int ((p0 &&& (65535 : Int32)).toUInt32.toUInt16.toUInt32.toInt32)), .val (.int (((p0 &&& (65535 : Int32)).toUInt32.toUInt16.toUInt32.toInt32) - (48 : Int32))), .val (.int ((((p0 &&& (65535 : Int32)).toUInt32.toUInt16.toUInt32.toInt32) ||| (32 : Int32)) - (97 : Int32))), .val (.int (0 : Int32)), .unset, .unset, .unset] [])) (fun t k => XS.istore X0.here hx rfl (hb hby at_47) rfl (l' := #[.val (.int p0), .val (.int p1), .val (.int ((p0 &&& (65535 : Int32)).toUInt32.toUInt16.toUInt32.toInt32)), .val (.int (((p0 &&& (65535 : Int32)).toUInt32.toUInt16.toUInt32.toInt32) - (48 : Int32))), .val (.int ((((p0 &&& (65535 : Int32)).toUInt32.toUInt16.toUInt32.toInt32) ||| (32 : Int32)) - (97 : Int32))), .val (.int (0 : Int32)), .unset, .unset, .unset]) rfl k) ?_
          rw [show jrm0_49_l5 p0 p1 = (0 : Int32) from by rw [jrm0_49_l5, if_neg c21_11, if_neg c27_14, if_neg c32_15, if_neg c39_16]] at J1
          exact J1
set_option maxRecDepth 65536 in
set_option maxHeartbeats 40000000 in
theorem comes_1 {Post : Tables → Env → Array Value → State → Outcome → State → Prop} (hpost : ∀ tb e args s v u, (limb_1_1.after args s (.returned v) u = true ∧ limb_1_2.after args s (.returned v) u = true ∧ True) → FrameEnd s (.returned v) u (Jvm.fieldLocs frame_1_writes args s ++ Jvm.arrayLocs frame_1_arrays args s ++ Jvm.staticLocs frame_1_statics s) 0 0 → Post tb e args s (.returned v) u) :
    ArmFor flags0 classFile x code maxLocals ret World_1 tables_1 room_1 Calls_1 rest_1 Pre_1 Post := by
  intro l hfl _ _ p e ha hc hk s m args below hf hA hF happ hP
  obtain ⟨hcalls, hrest, hpre⟩ := hP
  obtain ⟨-, -, -, hnamed, -, -, -, hat⟩ := (Spec.applies_iff hf).mp happ
  obtain ⟨hg, hn⟩ := and_e (Cond.before_iff.mp (show (Jvm.Cond.and given_1 narrow_1).before args s = true from hpre))
  obtain ⟨g1, g2⟩ := and_e hg
  obtain ⟨g3, g4⟩ := and_e g2
  obtain ⟨w0, w1, rfl⟩ : ∃ w0 w1 : Value, args = #[w0, w1] := by
    have hs : args.size = 2 := by simpa [Cond.value, given_1] using g1
    obtain ⟨L⟩ := args
    match L, hs with
    | [w0, w1], _ => exact ⟨w0, w1, rfl⟩
  have hw := fun d (hd : d ∈ tables_1) => atoms_spec (ws := Jvm.Cond.code x code maxLocals ret :: tables_1) hat d (List.mem_cons_of_mem _ hd)
  have hfit : Fit s := fun {y c} hc i hi => by
    obtain ⟨ha, rfl⟩ := Array.getElem?_eq_some_iff.mp hc
    have q := List.all_eq_true.mp ((Array.all_eq_true_iff_forall_mem.mp hF) _ (Array.getElem_mem ha)) i (List.mem_range.mpr hi)
    simpa [Array.getElem?_eq_getElem hi] using q
  obtain ⟨i0, ei0⟩ := is_v g3
  obtain rfl : w0 = (.int i0) := Option.some.inj ei0
  obtain ⟨i1, ei1⟩ := is_v g4
  obtain rfl : w1 = (.int i1) := Option.some.inj ei1
  obtain ⟨n, o, h1, h2, h3, _, L, rfl, ⟨rfl, N⟩, hq⟩ := rm0 l s _ hw tables_1 i0 i1 s.heap s.heap.size (Nat.le_refl _) p e ha hc hk s m _ below hf ((Spec.applies_iff_loose hf).mp happ).1 ⟨rfl, State.Warmed39.refl s, rfl⟩ trivial
  refine ⟨n, _, h1, h2, h3, hpost _ _ _ _ _ _ ⟨Cond.after_iff.mpr rfl, Cond.after_iff.mpr (eq_i res_at (Term.int_eval (1)) rfl), trivial⟩ ⟨hq.1, hq.2.1, (hq.2.2.sift fun y hy => Or.inr (N y hy)).mono (by decide) (by decide)⟩⟩
theorem main_1_1 : Claimed_1_1 := comes_1 fun _ _ _ _ _ _ h hF => ⟨h.1, hF⟩
theorem main_1_2 : Claimed_1_2 := comes_1 fun _ _ _ _ _ _ h hF => ⟨h.2.1, hF⟩
end Jvm.Pilot.@@N@@
namespace Jvm.Pilot.@@N@@
open Jvm Jvm.ClassFile Sem Op Lib Jvm.Free Jvm.Stand Jvm.Pilot.@@N@@.Jvm.D
/-! MADE BY PROGRAM (witnessworld.py) out of the Statement's table words and the real class files: 9 classes; the members and pool entries that the words name. The judged class is class 1, her method 1. -/
namespace start1
open Jvm.ClassFile
def u (s : String) : CpInfo := .utf8 (stringToUtf16 s)
/-- a pool by its gaps: so many unusable entries, then the entry; so many at the end -/
def gap : Nat → List CpInfo → List CpInfo
  | 0, r => r
  | n + 1, r => .unusable :: gap n r
def poolList (es : List (Nat × CpInfo)) (last : Nat) : List CpInfo := es.foldr (fun e r => gap e.1 (e.2 :: r)) (gap last [])
def pool (es : List (Nat × CpInfo)) (last : Nat) : Array CpInfo := ⟨poolList es last⟩
def fileOf (pool : Array CpInfo) (this : Nat) (attrs : Array Attribute := #[]) (ms : Array MethodInfo := #[]) (fl : Nat := 33) (sup : Nat := 0) (ifs : Array Nat := #[]) (fds : Array FieldInfo := #[]) : ClassFile where
  minorVersion := 0
  majorVersion := 65
  constantPool := pool
  accessFlags := fl
  thisClass := this
  superClass := sup
  interfaces := ifs
  fields := fds
  methods := ms
  attributes := attrs
def plain (name : String) (sup : Option ClassId) : Class where
  name := name
  kind := .ordinary
  loader := none
  accessFlags := 33
  super := sup
  interfaces := #[]
  cf := none
  fields := #[]
  methods := #[]
  instanceTypes := #[]
  staticTypes := #[]
  resolved := #[]
  callSites := []
  init := .initialized
  statics := none
  mirror := none

def pool0 : Array CpInfo := pool [(5, u "<init>"), (0, u "()V"), (1, .class_ 10), (1, u "java/lang/Object")] 113

def k0m0 : Method := { name := "<init>", desc := "()V", sig := { parameters := [], returnType := none }, accessFlags := 1, code := none }
/-- java/lang/Object -/
def k0 : Class := { plain "java/lang/Object" none with
  accessFlags := 33
  interfaces := #[]
  cf := some (fileOf pool0 8 #[] #[{ accessFlags := 1, nameIndex := 5, descriptorIndex := 6, attributes := #[] }] 33 0 #[] #[])
  fields := #[]
  methods := #[k0m0]
  instanceTypes := #[]
  staticTypes := #[]
  resolved := Array.replicate 124 none
  statics := none }

def pool1 : Array CpInfo := pool [(2, .class_ 4), (1, u "java/lang/Object"), (0, u "<init>"), (0, u "()V"), (0, .integer 65535), (0, .methodref 9 10), (0, .class_ 11), (0, .nameAndType 12 13), (0, u "routebinder/http/Grammar"), (0, u "isHexDigit"), (0, u "(C)Z"), (0, .class_ 15), (0, u "routebinder/http/GrammarIsHexDigitPinLaw"), (2, u "law"), (0, u "(II)Z")] 3

def k1m0 : Method := { name := "<init>", desc := "()V", sig := { parameters := [], returnType := none }, accessFlags := 1, code := none }
def k1c1 : Code := { maxStack := 3, maxLocals := 9, code := code, exceptionTable := #[], attributes := #[] }
def k1m1 : Method := { name := "law", desc := "(II)Z", sig := { parameters := [.int, .int], returnType := some .boolean }, accessFlags := 9, code := some k1c1 }
/-- routebinder/http/GrammarIsHexDigitPinLaw -/
def k1 : Class := { plain "routebinder/http/GrammarIsHexDigitPinLaw" (some 0) with
  accessFlags := 49
  interfaces := #[]
  cf := some (fileOf pool1 14 #[] #[{ accessFlags := 1, nameIndex := 5, descriptorIndex := 6, attributes := #[] }, { accessFlags := 9, nameIndex := 18, descriptorIndex := 19, attributes := #[] }] 49 2 #[] #[])
  fields := #[]
  methods := #[k1m0, k1m1]
  instanceTypes := #[]
  staticTypes := #[]
  resolved := Array.replicate 23 none
  statics := none }

def pool2 : Array CpInfo := pool [(2, .class_ 4), (1, u "java/lang/Object"), (0, u "<init>"), (0, u "()V"), (7, .class_ 16), (1, u "routebinder/http/Grammar"), (13, u "(C)Z"), (24, u "isHexDigit"), (43, u "TOKEN_SYMBOLS"), (0, u "Ljava/lang/String;"), (1, u "HOST_SYMBOLS")] 15

def k2m0 : Method := { name := "<init>", desc := "()V", sig := { parameters := [], returnType := none }, accessFlags := 2, code := none }
def k2c1 : Code := { maxStack := 2, maxLocals := 1, code := prog_11_method_13_code, exceptionTable := #[], attributes := #[] }
def k2m1 : Method := { name := "isHexDigit", desc := "(C)Z", sig := { parameters := [.char], returnType := some .boolean }, accessFlags := 8, code := some k2c1 }
/-- routebinder/http/Grammar -/
def k2 : Class := { plain "routebinder/http/Grammar" (some 0) with
  accessFlags := 48
  interfaces := #[]
  cf := some (fileOf pool2 14 #[] #[{ accessFlags := 2, nameIndex := 5, descriptorIndex := 6, attributes := #[] }, { accessFlags := 8, nameIndex := 55, descriptorIndex := 30, attributes := #[] }] 48 2 #[] #[{ accessFlags := 26, nameIndex := 99, descriptorIndex := 100, attributes := #[] }, { accessFlags := 26, nameIndex := 102, descriptorIndex := 100, attributes := #[] }])
  fields := #[{ name := "TOKEN_SYMBOLS", type := (.object "java/lang/String"), accessFlags := 26, slot := 0, constantValue := 0 }, { name := "HOST_SYMBOLS", type := (.object "java/lang/String"), accessFlags := 26, slot := 1, constantValue := 0 }]
  methods := #[k2m0, k2m1]
  instanceTypes := #[]
  staticTypes := #[(.object "java/lang/String"), (.object "java/lang/String")]
  resolved := Array.replicate 118 none
  statics := none }

def pool3 : Array CpInfo := pool [(1, u "java/lang/Cloneable"), (0, .class_ 1), (0, u "java/lang/Object"), (0, .class_ 3)] 3

/-- java/lang/Cloneable -/
def k3 : Class := { plain "java/lang/Cloneable" (some 0) with
  accessFlags := 1537
  interfaces := #[]
  cf := some (fileOf pool3 2 #[] #[] 1537 4 #[] #[])
  fields := #[]
  methods := #[]
  instanceTypes := #[]
  staticTypes := #[]
  resolved := Array.replicate 8 none
  statics := none }

def pool4 : Array CpInfo := pool [(1, u "java/io/Serializable"), (0, .class_ 1), (0, u "java/lang/Object"), (0, .class_ 3)] 3

/-- java/io/Serializable -/
def k4 : Class := { plain "java/io/Serializable" (some 0) with
  accessFlags := 1537
  interfaces := #[]
  cf := some (fileOf pool4 2 #[] #[] 1537 4 #[] #[])
  fields := #[]
  methods := #[]
  instanceTypes := #[]
  staticTypes := #[]
  resolved := Array.replicate 8 none
  statics := none }

/-- the primitive byte -/
def k5 : Class := { plain "byte" none with kind := .primitive 'B', accessFlags := 0x411 }
/-- [B -/
def k6 : Class := { plain "[B" (some 0) with kind := .array 5 .byte, interfaces := #[3, 4], accessFlags := 1041 }

/-- the primitive int -/
def k7 : Class := { plain "int" none with kind := .primitive 'I', accessFlags := 0x411 }
/-- [I -/
def k8 : Class := { plain "[I" (some 0) with kind := .array 7 .int, interfaces := #[3, 4], accessFlags := 1041 }

def heap : Heap := #[]
def classes : Array Class := #[k0, k1, k2, k3, k4, k5, k6, k7, k8]
def interned : List (Array UInt16 × Addr) := []
def slotsUsed : Nat := 0
def theMethod : MethodId := ⟨1, 1⟩
def args0 : Array Value := #[.int 5, .int 3]
def aboutOver (below : List Frame) : State where
  vm := { classes := classes, interned := interned.toArray }
  heap := heap
  slotsUsed := slotsUsed
  threads := #[{ frames := .invoking theMethod args0 :: below }]
def below0 : List Frame := [.native { method := ⟨0, 0⟩, args := #[] }]
def about1 : State := aboutOver below0
def p0 : Program := .bare "" "" ""
def e0 : Env := launch0.env 0 0 0
theorem w_frames : about1.frames = Frame.invoking theMethod args0 :: below0 := rfl
set_option maxRecDepth 65536 in
theorem w_args : argsFit about1.vm theMethod args0 = true := by decide +kernel
set_option maxRecDepth 65536 in
theorem w_heap : heapFits about1 = true := by decide +kernel
set_option maxRecDepth 65536 in
theorem w_runnable : about1.curStatus? = some .runnable := by decide +kernel
set_option maxRecDepth 65536 in
theorem w_alone : about1.alone = true := by decide +kernel
set_option maxRecDepth 65536 in
theorem w_named : about1.methodNamed? x = some theMethod := by decide +kernel
set_option maxRecDepth 65536 in
theorem w_hears : about1.hears theMethod below0 = true := by decide +kernel
set_option maxRecDepth 65536 in
theorem w_ripe : about1.ripe theMethod args0 below0 = true := by decide +kernel
theorem w_running : about1.status = .running := rfl
set_option maxRecDepth 65536 in
theorem w_room : about1.hasRoom e0.platform room_1 = true :=
  launch0.hasRoom_least _ room_1 (by decide +kernel) (by decide +kernel) (by decide +kernel) (by decide +kernel) (by decide +kernel) (by decide +kernel)
theorem allAtoms_all (ts : List Jvm.Cond) (a : Array Jvm.Value) (st : Jvm.State) : (allAtoms ts).before a st = ts.all (fun c => c.before a st) := by
  induction ts with
  | nil => rfl
  | cons c t ih =>
    show (Jvm.Cond.and c (allAtoms t)).before a st = _
    rw [Jvm.Cond.before_and, ih, List.all_cons]
def words1 : List Jvm.Cond := Jvm.Cond.code x code maxLocals ret :: tables_1
/-- a 'code' word, met by the world's own term for the bytes: nothing is compared byte by byte -/
theorem code_word {y : MethodName} {bytes : ByteArray} {mx : Nat} {rt : Option FieldType} {a : Array Value} {s : State} {m : MethodId} {meth : Method} {c : Code} (h1 : s.methodNamed? y = some m) (h2 : s.vm.method? m = some meth) (h3 : meth.code = some c) (h4 : c.code = bytes)
    (h5 : (c.maxLocals == mx && c.exceptionTable.isEmpty && decide (c.maxStack ≤ mostOperands) && decide (meth.sig.returnType = rt) && !meth.locks && decide (parseMethodDescriptor y.desc = some meth.sig)) = true) : (Jvm.Cond.code y bytes mx rt).before a s = true := by
  simp only [Bool.and_eq_true, beq_iff_eq, Bool.not_eq_true', decide_eq_true_eq] at h5
  obtain ⟨⟨⟨⟨⟨g1, g2⟩, g3⟩, g4⟩, g5⟩, g6⟩ := h5
  simp [Cond.before, Cond.holds, Cond.value, h1, h2, h3, h4, g1, g2, g3, g4, g5, g6]
def isCode : Jvm.Cond → Bool
  | .code _ _ _ _ => true
  | _ => false
theorem all_split {L : List Jvm.Cond} {P : Jvm.Cond → Bool} (h1 : L.all (fun c => isCode c || P c) = true) (h2 : ∀ c ∈ L.filter isCode, P c = true) : L.all P = true := by
  refine List.all_eq_true.mpr fun c hc => ?_
  have h := List.all_eq_true.mp h1 c hc
  rcases Bool.eq_false_or_eq_true (isCode c) with hi | hi
  · exact h2 c (List.mem_filter.mpr ⟨hc, hi⟩)
  · simpa [hi] using h
set_option maxRecDepth 65536 in
theorem w_c0 : (Jvm.Cond.code x code maxLocals ret).before args0 about1 = true := code_word (m := ⟨1, 1⟩) (meth := k1m1) (c := k1c1) (by decide +kernel) rfl rfl rfl (by decide +kernel)
set_option maxRecDepth 65536 in
theorem w_c1 : (Jvm.Cond.code ({ cls := "routebinder/http/Grammar", name := "isHexDigit", desc := "(C)Z" } : Jvm.MethodName) prog_11_method_13_code (1 : Nat) (Option.some Jvm.ClassFile.FieldType.boolean)).before args0 about1 = true := code_word (m := ⟨2, 1⟩) (meth := k2m1) (c := k2c1) (by decide +kernel) rfl rfl rfl (by decide +kernel)
def codes1 : List Jvm.Cond := [Jvm.Cond.code x code maxLocals ret, Jvm.Cond.code ({ cls := "routebinder/http/Grammar", name := "isHexDigit", desc := "(C)Z" } : Jvm.MethodName) prog_11_method_13_code (1 : Nat) (Option.some Jvm.ClassFile.FieldType.boolean)]
set_option maxRecDepth 65536 in
theorem codes_eq : words1.filter isCode = codes1 := rfl
theorem w_codes : ∀ c ∈ words1.filter isCode, c.before args0 about1 = true := by
  rw [codes_eq]
  intro c hc
  simp only [codes1, List.mem_cons, List.not_mem_nil, or_false] at hc
  rcases hc with rfl | rfl
  · exact w_c0
  · exact w_c1
set_option maxRecDepth 65536 in
theorem w_t1 : words1.all (fun c => isCode c || c.before args0 about1) = true := by decide +kernel
theorem w_tables : (allAtoms (Jvm.Cond.code x code maxLocals ret :: tables_1)).before args0 about1 = true := by
  rw [allAtoms_all]
  show words1.all (fun c => c.before args0 about1) = true
  refine all_split ?_ w_codes
  rw [w_t1]
set_option maxRecDepth 65536 in
theorem w_case : (Jvm.Cond.and given_1 narrow_1).before args0 about1 = true := by decide +kernel
theorem w_applies : (headSpec (Jvm.Cond.code x code maxLocals ret :: tables_1) room_1).applies x e0.platform about1 = true :=
  (Spec.applies_iff w_frames).mpr ⟨w_running, w_runnable, w_alone, w_named, w_hears, w_ripe, w_room, w_tables⟩
theorem atStart : AtStart classFile x code maxLocals ret World_1 tables_1 room_1 Calls_1 rest_1 Pre_1 launch0 p0 e0 about1 theMethod args0 below0 :=
  ⟨lists_1, trivial, launch0.admits_env _ _ _, launch0.least_env, fairChoices_fair.cas, fairChoices_fair.clock, w_frames, w_args, w_heap, w_applies, trivial, trivial, w_case⟩
end start1
theorem witness_1 : WitnessClaimed_1 := ⟨start1.p0, start1.e0, start1.about1, start1.theMethod, start1.args0, start1.below0, start1.atStart⟩
end Jvm.Pilot.@@N@@
