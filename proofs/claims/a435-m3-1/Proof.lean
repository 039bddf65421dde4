import JvmDerived
import JvmDerived.Pilot.@@N@@Statement
import JvmDerived.Pilot.@@N@@Code
set_option linter.unusedVariables false
set_option linter.unusedSimpArgs false
namespace Jvm.RoadKit
open Sem ClassFile Op Lib Jvm.Stand Jvm.Free Jvm.LawKit
section New
variable {p : Program} {l : Launch} {e : Env} {R : Room} {s : State} {m : MethodId} {args : Array Value} {below : List Frame} {meth : Method} {c : Code} {T T' : State} {locs : List Loc} {cells slots : Nat}
theorem retI (X : Stand p l e R s m args below meth c T locs cells slots) (hx : p.tables.exec = Jvm.exec) {pc : Nat} {Ls : Array Slot} {z : Int32} {rest : List Value} (hret : meth.sig.returnType = some .int) (hd : decode c.code pc = .ok (.ireturn, 1)) {fs : List Frame}
    (hl : ∀ (f : JFrame) (acts : List Action), f.method = m → f.locked = none → f.entered = [] → (doReturn e (T.setTop f) acts (some (.int z))).1 = T.setFrames fs) : Steps p.tables e below (T.setTop (mkF m pc Ls (.int z :: rest))) (T.setFrames fs) := by
  have hm' : T.vm.method? m = some meth := X.method'
  have hn : narrow .int (.int z) = .int z := rfl
  show Steps p.tables e below (T.setTop { method := m, pc := pc, locals := Ls, stack := _ :: rest, locked := none }) _
  jvm_step X.here [X.here.top, hx, hd, hm', hret, hn]
  first | (intro acts; rw [hl _ acts rfl rfl rfl]) | rw [hl _ _ rfl rfl rfl]
  exact Steps.refl _
/-- from this frame the run comes to an end of which P holds -/
def OEnds (p : Program) (e : Env) (below : List Frame) (P : Outcome → State → Prop) (T : State) (g : JFrame) : Prop :=
  ∃ s₂ o, Steps p.tables e below (T.setTop g) s₂ ∧ s₂.status = .running ∧ Ended s₂ below o ∧ P o s₂
theorem OEnds.go {P : Outcome → State → Prop} {g g' : JFrame} (h : ∀ t, Steps p.tables e below (T'.setTop g') t → Steps p.tables e below (T.setTop g) t) (k : OEnds p e below P T' g') : OEnds p e below P T g := by
  obtain ⟨s₂, o, h1, h2⟩ := k
  exact ⟨s₂, o, h _ h1, h2⟩
theorem OEnds.tr {P : Outcome → State → Prop} {g g' : JFrame} (h : Steps p.tables e below (T.setTop g) (T'.setTop g')) (k : OEnds p e below P T' g') : OEnds p e below P T g :=
  OEnds.go (fun _ q => h.trans q) k
/-- what a contract of this family says of the end -/
def OEndP (s : State) (Q : Option Value → Heap → List Loc → Prop) (C N : Nat) (o : Outcome) (U' : State) : Prop := ∃ v L, o = .returned v ∧ Q v U'.heap L ∧ FrameEnd s o U' L C N
theorem OEnds.out (X : Stand p l e R s m args below meth c T locs cells slots) (hlocks : meth.locks = false) {v : Option Value} (hv : meth.sig.returnType = none → v = none) {Q : Option Value → Heap → List Loc → Prop} {C N : Nat} {g : JFrame}
    (hs : ∀ fs, (∀ (f : JFrame) (acts : List Action), f.method = m → f.locked = none → f.entered = [] → (doReturn e (T.setTop f) acts v).1 = T.setFrames fs) → Steps p.tables e below (T.setTop g) (T.setFrames fs))
    (hq : Q v T.heap locs) (hc : cells ≤ C) (hn : slots ≤ N) : OEnds p e below (OEndP s Q C N) T g := by
  obtain ⟨fs, hr, hrun, hended, hW, hsame⟩ := X.leave (v := v) hv hlocks
  exact ⟨_, _, hs fs hr, hrun, hended, _, _, rfl, hq, ⟨_, rfl⟩, hW, hsame.mono hc hn⟩
theorem OEnds.outN (X : Stand p l e R s m args below meth c T locs cells slots) (hlocks : meth.locks = false) (hx : p.tables.exec = Jvm.exec) {pc : Nat} {Ls : Array Slot} {z : Int32} {t : FieldType} {rest : List Value} (hret : meth.sig.returnType = some t) (ht : t = .boolean ∨ t = .byte ∨ t = .char ∨ t = .short)
    (hd : decode c.code pc = .ok (.ireturn, 1)) {Q : Option Value → Heap → List Loc → Prop} {C N : Nat} (hq : Q (some (.int (nar t z))) T.heap locs) (hc : cells ≤ C) (hn : slots ≤ N) : OEnds p e below (OEndP s Q C N) T (mkF m pc Ls (.int z :: rest)) :=
  OEnds.out X hlocks (fun h => by rw [hret] at h; cases h) (fun fs hr => retN X hx hret ht hd hr) hq hc hn
theorem OEnds.outI (X : Stand p l e R s m args below meth c T locs cells slots) (hlocks : meth.locks = false) (hx : p.tables.exec = Jvm.exec) {pc : Nat} {Ls : Array Slot} {z : Int32} {rest : List Value} (hret : meth.sig.returnType = some .int)
    (hd : decode c.code pc = .ok (.ireturn, 1)) {Q : Option Value → Heap → List Loc → Prop} {C N : Nat} (hq : Q (some (.int z)) T.heap locs) (hc : cells ≤ C) (hn : slots ≤ N) : OEnds p e below (OEndP s Q C N) T (mkF m pc Ls (.int z :: rest)) :=
  OEnds.out X hlocks (fun h => by rw [hret] at h; cases h) (fun fs hr => retI X hx hret hd hr) hq hc hn
theorem OEnds.outJ (X : Stand p l e R s m args below meth c T locs cells slots) (hlocks : meth.locks = false) (hx : p.tables.exec = Jvm.exec) {pc : Nat} {Ls : Array Slot} {z : Int64} {rest : List Value} (hret : meth.sig.returnType = some .long)
    (hd : decode c.code pc = .ok (.lreturn, 1)) {Q : Option Value → Heap → List Loc → Prop} {C N : Nat} (hq : Q (some (.long z)) T.heap locs) (hc : cells ≤ C) (hn : slots ≤ N) : OEnds p e below (OEndP s Q C N) T (mkF m pc Ls (.long z :: rest)) :=
  OEnds.out X hlocks (fun h => by rw [hret] at h; cases h) (fun fs hr => retOut X hx hret rfl (Or.inr (Or.inl ⟨rfl, rfl, z, rfl⟩)) hd hr) hq hc hn
theorem OEnds.outA (X : Stand p l e R s m args below meth c T locs cells slots) (hlocks : meth.locks = false) (hx : p.tables.exec = Jvm.exec) {pc : Nat} {Ls : Array Slot} {w : Value} {t : FieldType} {rest : List Value} (hret : meth.sig.returnType = some t) (ht : t.isReference = true) (hw : w.isRef = true)
    (hd : decode c.code pc = .ok (.areturn, 1)) {Q : Option Value → Heap → List Loc → Prop} {C N : Nat} (hq : Q (some w) T.heap locs) (hc : cells ≤ C) (hn : slots ≤ N) : OEnds p e below (OEndP s Q C N) T (mkF m pc Ls (w :: rest)) :=
  OEnds.out X hlocks (fun h => by rw [hret] at h; cases h) (fun fs hr => retOut X hx hret (by rcases ref_cases hw with rfl | ⟨a, rfl⟩ <;> cases t <;> first | rfl | cases ht) (Or.inr (Or.inr (Or.inr (Or.inr ⟨rfl, ht, hw⟩)))) hd hr) hq hc hn
theorem OEnds.outV (X : Stand p l e R s m args below meth c T locs cells slots) (hlocks : meth.locks = false) (hx : p.tables.exec = Jvm.exec) {pc : Nat} {Ls : Array Slot} (hret : meth.sig.returnType = none)
    (hd : decode c.code pc = .ok (.return_, 1)) {Q : Option Value → Heap → List Loc → Prop} {C N : Nat} (hq : Q none T.heap locs) (hc : cells ≤ C) (hn : slots ≤ N) : OEnds p e below (OEndP s Q C N) T (mkF m pc Ls []) :=
  OEnds.out X hlocks (fun _ => rfl) (fun fs hr => X.returnOut hx hret hd hr) hq hc hn
end New
end Jvm.RoadKit
namespace Jvm.Pilot.@@N@@
open Jvm Jvm.ClassFile Sem Op Lib Jvm.Free Jvm.Stand Jvm.LawKit Jvm.RoadKit Bundle Jvm.Pilot.@@N@@.Jvm.D
theorem d1_0 : decode prog_26_method_2_code 0 = .ok (.lload_n 0, 1) := by decide +kernel
theorem d1_1 : decode prog_26_method_2_code 1 = .ok (.lconst 0, 1) := by decide +kernel
theorem d1_2 : decode prog_26_method_2_code 2 = .ok (.lcmp, 1) := by decide +kernel
theorem d1_3 : decode prog_26_method_2_code 3 = .ok (.ifCond .ge 19, 3) := by decide +kernel
theorem d1_6 : decode prog_26_method_2_code 6 = .ok (.new 8, 3) := by decide +kernel
theorem d1_9 : decode prog_26_method_2_code 9 = .ok (.dup, 1) := by decide +kernel
theorem d1_10 : decode prog_26_method_2_code 10 = .ok (.iconst 1, 1) := by decide +kernel
theorem d1_11 : decode prog_26_method_2_code 11 = .ok (.ldc2_w 17, 3) := by decide +kernel
theorem d1_14 : decode prog_26_method_2_code 14 = .ok (.lload_n 0, 1) := by decide +kernel
theorem d1_15 : decode prog_26_method_2_code 15 = .ok (.lsub, 1) := by decide +kernel
theorem d1_16 : decode prog_26_method_2_code 16 = .ok (.invokespecial 19, 3) := by decide +kernel
theorem d1_19 : decode prog_26_method_2_code 19 = .ok (.goto 12, 3) := by decide +kernel
theorem d1_22 : decode prog_26_method_2_code 22 = .ok (.new 8, 3) := by decide +kernel
theorem d1_25 : decode prog_26_method_2_code 25 = .ok (.dup, 1) := by decide +kernel
theorem d1_26 : decode prog_26_method_2_code 26 = .ok (.iconst 0, 1) := by decide +kernel
theorem d1_27 : decode prog_26_method_2_code 27 = .ok (.lload_n 0, 1) := by decide +kernel
theorem d1_28 : decode prog_26_method_2_code 28 = .ok (.invokespecial 19, 3) := by decide +kernel
theorem d1_31 : decode prog_26_method_2_code 31 = .ok (.areturn, 1) := by decide +kernel
theorem d2_0 : decode prog_26_method_1_code 0 = .ok (.aload_n 0, 1) := by decide +kernel
theorem d2_1 : decode prog_26_method_1_code 1 = .ok (.invokespecial 1, 3) := by decide +kernel
theorem d2_4 : decode prog_26_method_1_code 4 = .ok (.aload_n 0, 1) := by decide +kernel
theorem d2_5 : decode prog_26_method_1_code 5 = .ok (.iload_n 1, 1) := by decide +kernel
theorem d2_6 : decode prog_26_method_1_code 6 = .ok (.putfield 7, 3) := by decide +kernel
theorem d2_9 : decode prog_26_method_1_code 9 = .ok (.aload_n 0, 1) := by decide +kernel
theorem d2_10 : decode prog_26_method_1_code 10 = .ok (.lload_n 2, 1) := by decide +kernel
theorem d2_11 : decode prog_26_method_1_code 11 = .ok (.putfield 13, 3) := by decide +kernel
theorem d2_14 : decode prog_26_method_1_code 14 = .ok (.return_, 1) := by decide +kernel
theorem d3_0 : decode jdk_30_method_1_code 0 = .ok (.aload_n 0, 1) := by decide +kernel
theorem d3_1 : decode jdk_30_method_1_code 1 = .ok (.invokespecial 1, 3) := by decide +kernel
theorem d3_4 : decode jdk_30_method_1_code 4 = .ok (.return_, 1) := by decide +kernel
theorem d5_0 : decode prog_26_method_8_code 0 = .ok (.aload_n 0, 1) := by decide +kernel
theorem d5_1 : decode prog_26_method_8_code 1 = .ok (.getfield 7, 3) := by decide +kernel
theorem d5_4 : decode prog_26_method_8_code 4 = .ok (.ireturn, 1) := by decide +kernel
theorem d6_0 : decode prog_26_method_9_code 0 = .ok (.aload_n 0, 1) := by decide +kernel
theorem d6_1 : decode prog_26_method_9_code 1 = .ok (.getfield 13, 3) := by decide +kernel
theorem d6_4 : decode prog_26_method_9_code 4 = .ok (.lreturn, 1) := by decide +kernel
theorem pn_0 : plainName "java/lang/Record" = true := by first | (simp [plainName, overriddenIn]; done) | decide +kernel
theorem pn_1 : plainName "com/example/chronotag/chronotag/cbor/CborInteger" = true := by first | (simp [plainName, overriddenIn]; done) | decide +kernel
theorem pn_2 : plainName "com/example/chronotag/chronotag/cbor/CborIntegerOfPinLaw" = true := by first | (simp [plainName, overriddenIn]; done) | decide +kernel
theorem pd_0 : parseMethodDescriptor "()V" = some ⟨[], none⟩ := by decide +kernel
theorem pd_1 : parseMethodDescriptor "(ZJ)V" = some ⟨[.boolean, .long], none⟩ := by decide +kernel
theorem pd_2 : parseMethodDescriptor "(J)Lcom/example/chronotag/chronotag/cbor/CborInteger;" = some ⟨[.long], some (.object "com/example/chronotag/chronotag/cbor/CborInteger")⟩ := by decide +kernel
theorem pd_3 : parseMethodDescriptor "()Z" = some ⟨[], some .boolean⟩ := by decide +kernel
theorem pd_4 : parseMethodDescriptor "()J" = some ⟨[], some .long⟩ := by decide +kernel
theorem own_nat (c : Int32) (h0 : 0 ≤ c.toInt) : c = Int32.ofNat c.toInt.toNat := by
  apply Int32.toInt_inj.mp
  have h1 := c.toInt_lt
  rw [Int32.toInt_ofNat_of_lt (by omega)]
  omega
theorem own_fin {P : Int32 → Prop} (K : Nat) (h : ∀ n : Fin K, P (Int32.ofNat n.1)) (c : Int32) (h0 : 0 ≤ c.toInt) (h1 : c.toInt < K) : P c := by
  rw [own_nat c h0]; exact h ⟨c.toInt.toNat, by omega⟩
theorem own_fin' {P : Int32 → Prop} (K : Nat) (c : Int32) (h0 : 0 ≤ c.toInt) (h1 : c.toInt < K) (h : ∀ n : Fin K, P (Int32.ofNat n.1)) : P c := own_fin K h c h0 h1
theorem own_no {G : Prop} {x : Int32} (h : x = 1) (h' : x = 0) : G := absurd (h.symm.trans h') (by decide)
theorem own_cat {v : Value} (h : v.isRef = true) : v.category = 1 := by rcases ref_cases h with rfl | ⟨_, rfl⟩ <;> rfl
theorem ef_rm3 (m : MethodId) (x0 : Addr) : entryFrame m #[(.ref x0)] 1 = mkF m 0 #[.val (.ref x0)] [] := by first | (simp [entryFrame, mkF, argsToLocals, Value.category]; done) | rfl
def Q_rm3 (Z : State) (a0 : Addr) (h0 : Heap) (n0 : Nat) (v : Option Value) (h : Heap) (L : List Loc) : Prop := v = none ∧ Fr n0 L ∧ h = h0
set_option maxRecDepth 65536 in
set_option maxHeartbeats 40000000 in
theorem rm3 (l : Launch) (Z : State) (a0 : Array Value) (hw : ∀ d ∈ tables_1, d.before a0 Z = true) (ws : List Jvm.Cond) (a0 : Addr) (h0 : Heap) (n0 : Nat) (Z0 : n0 ≤ h0.size) :
    MetFree l (⟨"java/lang/Record", "<init>", "()V"⟩ : MethodName) (head1 (Jvm.Cond.code (⟨"java/lang/Record", "<init>", "()V"⟩ : MethodName) jdk_30_method_1_code 1 none :: ws) ({ frames := 1, cells := 0, slots := 0, locals := 12 } : Room)) (fun a U => a = #[(.ref a0)] ∧ Z.Warmed39 U.vm ∧ U.heap = h0) (fun _ _ _ _ _ => True) (fun _ U o U' => ∃ v L, o = .returned v ∧ Q_rm3 Z a0 h0 n0 v U'.heap L ∧ FrameEnd U o U' L ({ frames := 1, cells := 0, slots := 0, locals := 12 } : Room).cells ({ frames := 1, cells := 0, slots := 0, locals := 12 } : Room).slots) := by
  refine MetFree.of_bodySF (plainFor_of_name pn_0) hisR ?_
  intro p e s m args below meth c s₁ Bd hml0 hP hK
  obtain ⟨rfl, hZ, hh⟩ := hP
  have hx := Bd.exec
  have hby := Bd.bytes
  have hml : c.maxLocals = 1 := hml0
  have hown : s.vm.findClass "java/lang/Record" = some m.cls := findClass_of_methodNamed Bd.named
  have hnm := (name_of_methodNamed Bd.named Bd.method).1
  have X0 : Stand p l e ({ frames := 1, cells := 0, slots := 0, locals := 12 } : Room) s m #[(.ref a0)] below meth c s₁ [] 0 0 := Stand.of_body Bd
  have e0 : s₁.heap = h0 := by rw [← hh, Bd.state]; rfl
  have N0 := Fr.nil n0
  show OEnds p e below (OEndP s (Q_rm3 Z a0 h0 n0) ({ frames := 1, cells := 0, slots := 0, locals := 12 } : Room).cells ({ frames := 1, cells := 0, slots := 0, locals := 12 } : Room).slots) s₁ (entryFrame m #[(.ref a0)] 1)
  rw [ef_rm3 m a0]
  refine OEnds.go (g' := (mkF m 1 #[.val (.ref a0)] [(.ref a0)])) (fun t k => XS.aloadN X0.here hx rfl (hb hby d3_0) rfl rfl k) ?_
  obtain ⟨T1, X1, e1, st1⟩ := initO X0 hx hZ hown (hw _ (List.mem_of_getElem? (i := 14) rfl)) (hw _ (List.mem_of_getElem? (i := 15) rfl)) (hw _ (List.mem_of_getElem? (i := 16) rfl)) e0 (g := (mkF m 1 #[.val (.ref a0)] [(.ref a0)])) rfl (by rw [hml]; rfl) rfl (hb hby d3_1) (by decide) (W := 0) (by show 2 * 0 + _ ≤ _; exact Nat.le_of_eq rfl) (by decide)
  refine OEnds.go (g' := (mkF m 4 #[.val (.ref a0)] [])) st1 ?_
  exact OEnds.outV X1 Bd.notSynchronized hx Bd.returns (hb hby d3_4) ⟨rfl, N0, e1⟩ (by decide) (by decide)
theorem ef_rm2 (m : MethodId) (x0 : Addr) (x1 : Int32) (x2 : Int64) : entryFrame m #[(.ref x0), (.int x1), (.long x2)] 4 = mkF m 0 #[.val (.ref x0), .val (.int x1), .val (.long x2), .second] [] := by first | (simp [entryFrame, mkF, argsToLocals, Value.category]; done) | rfl
def Q_rm2 (Z : State) (a0x : Addr) (z : Int32) (q : Int64) (h0 : Heap) (n0 : Nat) (v : Option Value) (h : Heap) (L : List Loc) : Prop := v = none ∧ Fr n0 L ∧ Keep h0 h [a0x] ∧ Exa Z h a0x "com/example/chronotag/chronotag/cbor/CborInteger" ∧ Fld Z h a0x "com/example/chronotag/chronotag/cbor/CborInteger" "negative" "Z" (.int (nar .boolean z)) ∧ Fld Z h a0x "com/example/chronotag/chronotag/cbor/CborInteger" "argument" "J" (.long q)
set_option maxRecDepth 65536 in
set_option maxHeartbeats 40000000 in
theorem rm2 (l : Launch) (Z : State) (a0 : Array Value) (hw : ∀ d ∈ tables_1, d.before a0 Z = true) (ws : List Jvm.Cond) (a0x : Addr) (z : Int32) (q : Int64) (h0 : Heap) (n0 : Nat) (Z0 : n0 ≤ h0.size) (E0 : Exa Z h0 a0x "com/example/chronotag/chronotag/cbor/CborInteger") (Fn : Fld Z h0 a0x "com/example/chronotag/chronotag/cbor/CborInteger" "negative" "Z" (.int (0 : Int32))) (Fa : Fld Z h0 a0x "com/example/chronotag/chronotag/cbor/CborInteger" "argument" "J" (.long (0 : Int64))) (g_a0x : n0 ≤ a0x) :
    MetFree l (⟨"com/example/chronotag/chronotag/cbor/CborInteger", "<init>", "(ZJ)V"⟩ : MethodName) (head1 (Jvm.Cond.code (⟨"com/example/chronotag/chronotag/cbor/CborInteger", "<init>", "(ZJ)V"⟩ : MethodName) prog_26_method_1_code 4 none :: ws) ({ frames := 2, cells := 0, slots := 0, locals := 24 } : Room)) (fun a U => a = #[(.ref a0x), (.int z), (.long q)] ∧ Z.Warmed39 U.vm ∧ U.heap = h0) (fun _ _ _ _ _ => True) (fun _ U o U' => ∃ v L, o = .returned v ∧ Q_rm2 Z a0x z q h0 n0 v U'.heap L ∧ FrameEnd U o U' L ({ frames := 2, cells := 0, slots := 0, locals := 24 } : Room).cells ({ frames := 2, cells := 0, slots := 0, locals := 24 } : Room).slots) := by
  refine MetFree.of_bodySF (plainFor_of_name pn_1) hisR ?_
  intro p e s m args below meth c s₁ Bd hml0 hP hK
  obtain ⟨rfl, hZ, hh⟩ := hP
  have hx := Bd.exec
  have hby := Bd.bytes
  have hml : c.maxLocals = 4 := hml0
  have hown : s.vm.findClass "com/example/chronotag/chronotag/cbor/CborInteger" = some m.cls := findClass_of_methodNamed Bd.named
  have hnm := (name_of_methodNamed Bd.named Bd.method).1
  have X0 : Stand p l e ({ frames := 2, cells := 0, slots := 0, locals := 24 } : Room) s m #[(.ref a0x), (.int z), (.long q)] below meth c s₁ [] 0 0 := Stand.of_body Bd
  have e0 : s₁.heap = h0 := by rw [← hh, Bd.state]; rfl
  have N0 := Fr.nil n0
  show OEnds p e below (OEndP s (Q_rm2 Z a0x z q h0 n0) ({ frames := 2, cells := 0, slots := 0, locals := 24 } : Room).cells ({ frames := 2, cells := 0, slots := 0, locals := 24 } : Room).slots) s₁ (entryFrame m #[(.ref a0x), (.int z), (.long q)] 4)
  rw [ef_rm2 m a0x z q]
  refine OEnds.go (g' := (mkF m 1 #[.val (.ref a0x), .val (.int z), .val (.long q), .second] [(.ref a0x)])) (fun t k => XS.aloadN X0.here hx rfl (hb hby d2_0) rfl rfl k) ?_
  obtain ⟨_, _, ⟨T1, L1, k1, n1⟩, -, X1, ⟨Lc1, hQ1, l1, y1, z1⟩, st1⟩ := X0.specialBack hx (y := (⟨"java/lang/Record", "<init>", "()V"⟩ : MethodName)) rfl hown (mvT hZ (hw _ (List.mem_of_getElem? (i := 9) rfl))) (mvT hZ (hw _ (List.mem_of_getElem? (i := 10) rfl))) (mvT hZ (hw _ (List.mem_of_getElem? (i := 13) rfl))) (by decide) (backOf (W := 0) (rm3 l Z a0 hw [] a0x h0 n0 Z0) hZ (hw _ (List.mem_of_getElem? (i := 13) rfl)) (hw _ (List.mem_of_getElem? (i := 12) rfl)) (by decide) (by decide)) (g := (mkF m 1 #[.val (.ref a0x), .val (.int z), .val (.long q), .second] [(.ref a0x)])) rfl (by rw [hml]; rfl) (Steps.refl _) (a := a0x) (argsL := []) (rest := []) (lenOf pd_0 rfl) rfl (by show 2 * 0 + _ ≤ _; exact Nat.le_of_eq rfl) (hb hby d2_1) (fun _ _ => ⟨rfl, e0, (by decide : 0 + 0 ≤ _), (by decide : 0 + 0 ≤ _)⟩)
  dsimp only [Pt.U, Pt.locs, Pt.cells, Pt.slots] at X1 l1 y1 z1 st1 hQ1
  subst l1 y1 z1
  obtain ⟨rfl, N1q, e1⟩ := hQ1
  have N1 := Fr.app N0 N1q
  refine OEnds.tr (g' := (mkF m 4 #[.val (.ref a0x), .val (.int z), .val (.long q), .second] [])) st1 ?_
  refine OEnds.go (g' := (mkF m 5 #[.val (.ref a0x), .val (.int z), .val (.long q), .second] [(.ref a0x)])) (fun t k => XS.aloadN X1.here hx rfl (hb hby d2_4) rfl rfl k) ?_
  refine OEnds.go (g' := (mkF m 6 #[.val (.ref a0x), .val (.int z), .val (.long q), .second] [(.int z), (.ref a0x)])) (fun t k => XS.iloadN X1.here hx rfl (hb hby d2_5) rfl k) ?_
  obtain ⟨T2, h2, X2, e2, W2, st2⟩ := putFN X1 hx hZ hown (hw _ (List.mem_of_getElem? (i := 17) rfl)) Via.refl e1 Fn E0 (Or.inr ⟨(hw _ (List.mem_of_getElem? (i := 18) rfl)), rfl, hnm⟩) (hw _ (List.mem_of_getElem? (i := 5) rfl)) (ty := .boolean) (v' := (.int (nar .boolean z))) (by decide) rfl (fits_nar_bool _) (g := (mkF m 6 #[.val (.ref a0x), .val (.int z), .val (.long q), .second] [(.int z), (.ref a0x)])) rfl rfl (hb hby d2_6)
  have N2 := Fr.snoc X2 N1 g_a0x
  have K2 : Keep h0 h2 [a0x] := (Keep.refl h0 [a0x]).wr W2 (Or.inl (by simp))
  have Fw2 := Fn.same W2
  refine OEnds.go (g' := (mkF m 9 #[.val (.ref a0x), .val (.int z), .val (.long q), .second] [])) st2 ?_
  refine OEnds.go (g' := (mkF m 10 #[.val (.ref a0x), .val (.int z), .val (.long q), .second] [(.ref a0x)])) (fun t k => XS.aloadN X2.here hx rfl (hb hby d2_9) rfl rfl k) ?_
  refine OEnds.go (g' := (mkF m 11 #[.val (.ref a0x), .val (.int z), .val (.long q), .second] [(.long q), (.ref a0x)])) (fun t k => XS.lloadN X2.here hx rfl (hb hby d2_10) rfl k) ?_
  obtain ⟨T3, h3, X3, e3, W3, st3⟩ := putF X2 hx hZ hown (host := "") (Or.inl (hw _ (List.mem_of_getElem? (i := 19) rfl))) Via.refl e2 (Fa.other W2 (Or.inr (slot_ne (Or.inr (hw _ (List.mem_of_getElem? (i := 20) rfl))) (Or.inr (hw _ (List.mem_of_getElem? (i := 18) rfl))) (by decide) (t := .long) (t' := .boolean) (by decide) (by decide)))) (E0.wr W2) (Or.inr ⟨(hw _ (List.mem_of_getElem? (i := 20) rfl)), rfl, hnm⟩) (hw _ (List.mem_of_getElem? (i := 5) rfl)) (ty := .long) (by decide) rfl rfl (g := (mkF m 11 #[.val (.ref a0x), .val (.int z), .val (.long q), .second] [(.long q), (.ref a0x)])) rfl rfl (hb hby d2_11)
  have N3 := Fr.snoc X3 N2 g_a0x
  have K3 : Keep h0 h3 [a0x] := K2.wr W3 (Or.inl (by simp))
  have Fw3 := (Fa.other W2 (Or.inr (slot_ne (Or.inr (hw _ (List.mem_of_getElem? (i := 20) rfl))) (Or.inr (hw _ (List.mem_of_getElem? (i := 18) rfl))) (by decide) (t := .long) (t' := .boolean) (by decide) (by decide)))).same W3
  refine OEnds.go (g' := (mkF m 14 #[.val (.ref a0x), .val (.int z), .val (.long q), .second] [])) st3 ?_
  exact OEnds.outV X3 Bd.notSynchronized hx Bd.returns (hb hby d2_14) (by rw [e3]; exact ⟨rfl, N3, K3, ((E0.wr W2).wr W3), (Fw2.other W3 (Or.inr (slot_ne (Or.inr (hw _ (List.mem_of_getElem? (i := 18) rfl))) (Or.inr (hw _ (List.mem_of_getElem? (i := 20) rfl))) (by decide) (t := .boolean) (t' := .long) (by decide) (by decide)))), Fw3⟩) (by decide) (by decide)
def ofn (q : Int64) : Int32 := if q < 0 then 1 else 0
def ofa (q : Int64) : Int64 := if q < 0 then -1 - q else q
theorem ef_rm1 (m : MethodId) (x0 : Int64) : entryFrame m #[(.long x0)] 2 = mkF m 0 #[.val (.long x0), .second] [] := by first | (simp [entryFrame, mkF, argsToLocals, Value.category]; done) | rfl
def Q_rm1 (Z : State) (q : Int64) (h0 : Heap) (n0 : Nat) (v : Option Value) (h : Heap) (L : List Loc) : Prop := ∃ b : Addr, v = some (.ref b) ∧ Fr n0 L ∧ n0 ≤ b ∧ Exa Z h b "com/example/chronotag/chronotag/cbor/CborInteger" ∧ Fld Z h b "com/example/chronotag/chronotag/cbor/CborInteger" "negative" "Z" (.int (ofn q)) ∧ Fld Z h b "com/example/chronotag/chronotag/cbor/CborInteger" "argument" "J" (.long (ofa q))
set_option maxRecDepth 65536 in
set_option maxHeartbeats 40000000 in
theorem rm1 (l : Launch) (Z : State) (a0 : Array Value) (hw : ∀ d ∈ tables_1, d.before a0 Z = true) (ws : List Jvm.Cond) (q : Int64) (h0 : Heap) (n0 : Nat) (Z0 : n0 ≤ h0.size) :
    MetFree l (⟨"com/example/chronotag/chronotag/cbor/CborInteger", "of", "(J)Lcom/example/chronotag/chronotag/cbor/CborInteger;"⟩ : MethodName) (head1 (Jvm.Cond.code (⟨"com/example/chronotag/chronotag/cbor/CborInteger", "of", "(J)Lcom/example/chronotag/chronotag/cbor/CborInteger;"⟩ : MethodName) prog_26_method_2_code 2 (some (.object "com/example/chronotag/chronotag/cbor/CborInteger")) :: ws) ({ frames := 3, cells := 1, slots := 2, locals := 60 } : Room)) (fun a U => a = #[(.long q)] ∧ Z.Warmed39 U.vm ∧ U.heap = h0) (fun _ _ _ _ _ => True) (fun _ U o U' => ∃ v L, o = .returned v ∧ Q_rm1 Z q h0 n0 v U'.heap L ∧ FrameEnd U o U' L ({ frames := 3, cells := 1, slots := 2, locals := 60 } : Room).cells ({ frames := 3, cells := 1, slots := 2, locals := 60 } : Room).slots) := by
  refine MetFree.of_bodySF (plainFor_of_name pn_1) hisR ?_
  intro p e s m args below meth c s₁ Bd hml0 hP hK
  obtain ⟨rfl, hZ, hh⟩ := hP
  have hx := Bd.exec
  have hby := Bd.bytes
  have hml : c.maxLocals = 2 := hml0
  have hown : s.vm.findClass "com/example/chronotag/chronotag/cbor/CborInteger" = some m.cls := findClass_of_methodNamed Bd.named
  have hnm := (name_of_methodNamed Bd.named Bd.method).1
  have X0 : Stand p l e ({ frames := 3, cells := 1, slots := 2, locals := 60 } : Room) s m #[(.long q)] below meth c s₁ [] 0 0 := Stand.of_body Bd
  have e0 : s₁.heap = h0 := by rw [← hh, Bd.state]; rfl
  have N0 := Fr.nil n0
  show OEnds p e below (OEndP s (Q_rm1 Z q h0 n0) ({ frames := 3, cells := 1, slots := 2, locals := 60 } : Room).cells ({ frames := 3, cells := 1, slots := 2, locals := 60 } : Room).slots) s₁ (entryFrame m #[(.long q)] 2)
  rw [ef_rm1 m q]
  refine OEnds.go (g' := (mkF m 1 #[.val (.long q), .second] [(.long q)])) (fun t k => XS.lloadN X0.here hx rfl (hb hby d1_0) rfl k) ?_
  refine OEnds.go (g' := (mkF m 2 #[.val (.long q), .second] [(.long (0 : Int64)), (.long q)])) (fun t k => XS.lconst X0.here hx rfl (hb hby d1_1) k) ?_
  refine OEnds.go (g' := (mkF m 3 #[.val (.long q), .second] [(.int (lcmpW q (0 : Int64)))])) (fun t k => XS.lcmp X0.here hx rfl (hb hby d1_2) rfl k) ?_
  by_cases c3_1 : q < (0 : Int64)
  · -- yes
    refine OEnds.go (g' := (mkF m 6 #[.val (.long q), .second] [])) (fun t k => XS.ifNo X0.here hx rfl (hb hby d1_3) rfl ((if0 _ _).trans (tlt ((lw_lt _ _).mpr c3_1)).2.1) k) ?_
    obtain ⟨T2, h2, X2, e2, E2, A2, D2, -, st2⟩ := newO X0 hx hZ hown (hw _ (List.mem_of_getElem? (i := 4) rfl)) (hw _ (List.mem_of_getElem? (i := 5) rfl)) (hw _ (List.mem_of_getElem? (i := 2) rfl)) e0 (g := (mkF m 6 #[.val (.long q), .second] [])) rfl (hb hby d1_6) (by decide) (by decide)
    obtain ⟨b2, g2⟩ : ∃ z, z = h0.size := ⟨_, rfl⟩
    rw [← g2] at A2 D2 st2
    have g_b2 : n0 ≤ b2 := Nat.le_trans Z0 (Nat.le_of_eq g2.symm)
    have sz_b2 : h0.size ≤ b2 := Nat.le_trans (Keep.refl h0 []).1 (Nat.le_of_eq g2.symm)
    have K2 : Keep h0 h2 [] := (Keep.refl h0 []).ext E2
    have F_negative_b2 : Fld Z h2 b2 "com/example/chronotag/chronotag/cbor/CborInteger" "negative" "Z" (.int (0 : Int32)) := D2 (Or.inr (hw _ (List.mem_of_getElem? (i := 18) rfl))) (ty := .boolean) (by decide)
    have F_argument_b2 : Fld Z h2 b2 "com/example/chronotag/chronotag/cbor/CborInteger" "argument" "J" (.long (0 : Int64)) := D2 (Or.inr (hw _ (List.mem_of_getElem? (i := 20) rfl))) (ty := .long) (by decide)
    refine OEnds.go (g' := (mkF m 9 #[.val (.long q), .second] [(.ref b2)])) st2 ?_
    refine OEnds.go (g' := (mkF m 10 #[.val (.long q), .second] [(.ref b2), (.ref b2)])) (fun t k => XS.dup X2.here hx rfl (hb hby d1_9) rfl rfl k) ?_
    refine OEnds.go (g' := (mkF m 11 #[.val (.long q), .second] [(.int (1 : Int32)), (.ref b2), (.ref b2)])) (fun t k => XS.iconst X2.here hx rfl (hb hby d1_10) k) ?_
    refine OEnds.go (g' := (mkF m 14 #[.val (.long q), .second] [(.long (-1 : Int64)), (.int (1 : Int32)), (.ref b2), (.ref b2)])) (X2.ldc2Long hx hown (mvT hZ (hw _ (List.mem_of_getElem? (i := 31) rfl))) (g := (mkF m 11 #[.val (.long q), .second] [(.int (1 : Int32)), (.ref b2), (.ref b2)])) rfl (hb hby d1_11)) ?_
    refine OEnds.go (g' := (mkF m 15 #[.val (.long q), .second] [(.long q), (.long (-1 : Int64)), (.int (1 : Int32)), (.ref b2), (.ref b2)])) (fun t k => XS.lloadN X2.here hx rfl (hb hby d1_14) rfl k) ?_
    refine OEnds.go (g' := (mkF m 16 #[.val (.long q), .second] [(.long ((-1 : Int64) - q)), (.int (1 : Int32)), (.ref b2), (.ref b2)])) (fun t k => XS.lsub X2.here hx rfl (hb hby d1_15) rfl k) ?_
    obtain ⟨_, _, ⟨T3, L3, k3, n3⟩, -, X3, ⟨Lc3, hQ3, l3, y3, z3⟩, st3⟩ := X2.specialBack hx (y := (⟨"com/example/chronotag/chronotag/cbor/CborInteger", "<init>", "(ZJ)V"⟩ : MethodName)) rfl hown (mvT hZ (hw _ (List.mem_of_getElem? (i := 6) rfl))) (mvT hZ (hw _ (List.mem_of_getElem? (i := 7) rfl))) (mvT hZ (hw _ (List.mem_of_getElem? (i := 8) rfl))) (by decide) (backOf (W := 1) (rm2 l Z a0 hw [] b2 (1 : Int32) ((-1 : Int64) - q) h2 n0 (Nat.le_trans Z0 E2.1) A2 F_negative_b2 F_argument_b2 g_b2) hZ (hw _ (List.mem_of_getElem? (i := 8) rfl)) (hw _ (List.mem_of_getElem? (i := 2) rfl)) (by decide) (by decide)) (g := (mkF m 16 #[.val (.long q), .second] [(.long ((-1 : Int64) - q)), (.int (1 : Int32)), (.ref b2), (.ref b2)])) rfl (by rw [hml]; rfl) (Steps.refl _) (a := b2) (argsL := [(.int (1 : Int32)), (.long ((-1 : Int64) - q))]) (rest := [(.ref b2)]) (lenOf pd_1 rfl) rfl (by show 2 * 0 + _ ≤ _; exact Nat.le_of_eq rfl) (hb hby d1_16) (fun _ _ => ⟨rfl, e2, (by decide : 1 + 0 ≤ _), (by decide : 2 + 0 ≤ _)⟩)
    dsimp only [Pt.U, Pt.locs, Pt.cells, Pt.slots] at X3 l3 y3 z3 st3 hQ3
    subst l3 y3 z3
    obtain ⟨rfl, N3q, K3q, E3q, Fn3q, Fa3q⟩ := hQ3
    have N3 := Fr.app N0 N3q
    have K3 : Keep h0 T3.heap [] := K2.trans K3q (allS (Or.inr sz_b2) all0)
    refine OEnds.tr (g' := (mkF m 19 #[.val (.long q), .second] [(.ref b2)])) st3 ?_
    refine OEnds.go (g' := (mkF m 31 #[.val (.long q), .second] [(.ref b2)])) (fun t k => XS.goto X3.here hx rfl (pc0 := 19) (pc' := 31) rfl (hb hby d1_19) (by decide) (by decide) k) ?_
    exact OEnds.outA X3 Bd.notSynchronized hx Bd.returns rfl rfl (hb hby d1_31) (by rw [show T3.heap = T3.heap from rfl]; exact ⟨b2, rfl, N3, g_b2, E3q, (by rw [ofn, if_pos c3_1]; exact Fn3q), (by rw [ofa, if_pos c3_1]; exact Fa3q)⟩) (by decide) (by decide)
  · -- no
    refine OEnds.go (g' := (mkF m 22 #[.val (.long q), .second] [])) (fun t k => XS.ifYes X0.here hx rfl (pc0 := 3) (pc' := 22) rfl (hb hby d1_3) rfl ((if0 _ _).trans (flt (fun q => c3_1 ((lw_lt _ _).mp q))).2.1) (by decide) (by decide) k) ?_
    obtain ⟨T4, h4, X4, e4, E4, A4, D4, -, st4⟩ := newO X0 hx hZ hown (hw _ (List.mem_of_getElem? (i := 4) rfl)) (hw _ (List.mem_of_getElem? (i := 5) rfl)) (hw _ (List.mem_of_getElem? (i := 2) rfl)) e0 (g := (mkF m 22 #[.val (.long q), .second] [])) rfl (hb hby d1_22) (by decide) (by decide)
    obtain ⟨b4, g4⟩ : ∃ z, z = h0.size := ⟨_, rfl⟩
    rw [← g4] at A4 D4 st4
    have g_b4 : n0 ≤ b4 := Nat.le_trans Z0 (Nat.le_of_eq g4.symm)
    have sz_b4 : h0.size ≤ b4 := Nat.le_trans (Keep.refl h0 []).1 (Nat.le_of_eq g4.symm)
    have K4 : Keep h0 h4 [] := (Keep.refl h0 []).ext E4
    have F_negative_b4 : Fld Z h4 b4 "com/example/chronotag/chronotag/cbor/CborInteger" "negative" "Z" (.int (0 : Int32)) := D4 (Or.inr (hw _ (List.mem_of_getElem? (i := 18) rfl))) (ty := .boolean) (by decide)
    have F_argument_b4 : Fld Z h4 b4 "com/example/chronotag/chronotag/cbor/CborInteger" "argument" "J" (.long (0 : Int64)) := D4 (Or.inr (hw _ (List.mem_of_getElem? (i := 20) rfl))) (ty := .long) (by decide)
    refine OEnds.go (g' := (mkF m 25 #[.val (.long q), .second] [(.ref b4)])) st4 ?_
    refine OEnds.go (g' := (mkF m 26 #[.val (.long q), .second] [(.ref b4), (.ref b4)])) (fun t k => XS.dup X4.here hx rfl (hb hby d1_25) rfl rfl k) ?_
    refine OEnds.go (g' := (mkF m 27 #[.val (.long q), .second] [(.int (0 : Int32)), (.ref b4), (.ref b4)])) (fun t k => XS.iconst X4.here hx rfl (hb hby d1_26) k) ?_
    refine OEnds.go (g' := (mkF m 28 #[.val (.long q), .second] [(.long q), (.int (0 : Int32)), (.ref b4), (.ref b4)])) (fun t k => XS.lloadN X4.here hx rfl (hb hby d1_27) rfl k) ?_
    obtain ⟨_, _, ⟨T5, L5, k5, n5⟩, -, X5, ⟨Lc5, hQ5, l5, y5, z5⟩, st5⟩ := X4.specialBack hx (y := (⟨"com/example/chronotag/chronotag/cbor/CborInteger", "<init>", "(ZJ)V"⟩ : MethodName)) rfl hown (mvT hZ (hw _ (List.mem_of_getElem? (i := 6) rfl))) (mvT hZ (hw _ (List.mem_of_getElem? (i := 7) rfl))) (mvT hZ (hw _ (List.mem_of_getElem? (i := 8) rfl))) (by decide) (backOf (W := 1) (rm2 l Z a0 hw [] b4 (0 : Int32) q h4 n0 (Nat.le_trans Z0 E4.1) A4 F_negative_b4 F_argument_b4 g_b4) hZ (hw _ (List.mem_of_getElem? (i := 8) rfl)) (hw _ (List.mem_of_getElem? (i := 2) rfl)) (by decide) (by decide)) (g := (mkF m 28 #[.val (.long q), .second] [(.long q), (.int (0 : Int32)), (.ref b4), (.ref b4)])) rfl (by rw [hml]; rfl) (Steps.refl _) (a := b4) (argsL := [(.int (0 : Int32)), (.long q)]) (rest := [(.ref b4)]) (lenOf pd_1 rfl) rfl (by show 2 * 0 + _ ≤ _; exact Nat.le_of_eq rfl) (hb hby d1_28) (fun _ _ => ⟨rfl, e4, (by decide : 1 + 0 ≤ _), (by decide : 2 + 0 ≤ _)⟩)
    dsimp only [Pt.U, Pt.locs, Pt.cells, Pt.slots] at X5 l5 y5 z5 st5 hQ5
    subst l5 y5 z5
    obtain ⟨rfl, N5q, K5q, E5q, Fn5q, Fa5q⟩ := hQ5
    have N5 := Fr.app N0 N5q
    have K5 : Keep h0 T5.heap [] := K4.trans K5q (allS (Or.inr sz_b4) all0)
    refine OEnds.tr (g' := (mkF m 31 #[.val (.long q), .second] [(.ref b4)])) st5 ?_
    exact OEnds.outA X5 Bd.notSynchronized hx Bd.returns rfl rfl (hb hby d1_31) (by rw [show T5.heap = T5.heap from rfl]; exact ⟨b4, rfl, N5, g_b4, E5q, (by rw [ofn, if_neg c3_1]; exact Fn5q), (by rw [ofa, if_neg c3_1]; exact Fa5q)⟩) (by decide) (by decide)
theorem ef_rm5 (m : MethodId) (x0 : Addr) : entryFrame m #[(.ref x0)] 1 = mkF m 0 #[.val (.ref x0)] [] := by first | (simp [entryFrame, mkF, argsToLocals, Value.category]; done) | rfl
def f5 (wv : Int32) : Int32 := (nar .boolean wv)
def Q_rm5 (Z : State) (a0x : Addr) (wv : Int32) (h0 : Heap) (n0 : Nat) (v : Option Value) (h : Heap) (L : List Loc) : Prop := v = some (.int (f5 wv)) ∧ Fr n0 L ∧ h = h0
set_option maxRecDepth 65536 in
set_option maxHeartbeats 40000000 in
theorem rm5 (l : Launch) (Z : State) (a0 : Array Value) (hw : ∀ d ∈ tables_1, d.before a0 Z = true) (ws : List Jvm.Cond) (a0x : Addr) (wv : Int32) (h0 : Heap) (n0 : Nat) (Z0 : n0 ≤ h0.size) (Fx : Fld Z h0 a0x "com/example/chronotag/chronotag/cbor/CborInteger" "negative" "Z" (.int wv)) :
    MetFree l (⟨"com/example/chronotag/chronotag/cbor/CborInteger", "negative", "()Z"⟩ : MethodName) (head1 (Jvm.Cond.code (⟨"com/example/chronotag/chronotag/cbor/CborInteger", "negative", "()Z"⟩ : MethodName) prog_26_method_8_code 1 (some .boolean) :: ws) ({ frames := 0, cells := 0, slots := 0, locals := 0 } : Room)) (fun a U => a = #[(.ref a0x)] ∧ Z.Warmed39 U.vm ∧ U.heap = h0) (fun _ _ _ _ _ => True) (fun _ U o U' => ∃ v L, o = .returned v ∧ Q_rm5 Z a0x wv h0 n0 v U'.heap L ∧ FrameEnd U o U' L ({ frames := 0, cells := 0, slots := 0, locals := 0 } : Room).cells ({ frames := 0, cells := 0, slots := 0, locals := 0 } : Room).slots) := by
  refine MetFree.of_bodySF (plainFor_of_name pn_1) hisR ?_
  intro p e s m args below meth c s₁ Bd hml0 hP hK
  obtain ⟨rfl, hZ, hh⟩ := hP
  have hx := Bd.exec
  have hby := Bd.bytes
  have hml : c.maxLocals = 1 := hml0
  have hown : s.vm.findClass "com/example/chronotag/chronotag/cbor/CborInteger" = some m.cls := findClass_of_methodNamed Bd.named
  have hnm := (name_of_methodNamed Bd.named Bd.method).1
  have X0 : Stand p l e ({ frames := 0, cells := 0, slots := 0, locals := 0 } : Room) s m #[(.ref a0x)] below meth c s₁ [] 0 0 := Stand.of_body Bd
  have e0 : s₁.heap = h0 := by rw [← hh, Bd.state]; rfl
  have N0 := Fr.nil n0
  show OEnds p e below (OEndP s (Q_rm5 Z a0x wv h0 n0) ({ frames := 0, cells := 0, slots := 0, locals := 0 } : Room).cells ({ frames := 0, cells := 0, slots := 0, locals := 0 } : Room).slots) s₁ (entryFrame m #[(.ref a0x)] 1)
  rw [ef_rm5 m a0x]
  refine OEnds.go (g' := (mkF m 1 #[.val (.ref a0x)] [(.ref a0x)])) (fun t k => XS.aloadN X0.here hx rfl (hb hby d5_0) rfl rfl k) ?_
  obtain ⟨T1, X1, e1, st1⟩ := getF X0 hx hZ hown (host := "") (Or.inl (hw _ (List.mem_of_getElem? (i := 17) rfl))) Via.refl e0 Fx (g := (mkF m 1 #[.val (.ref a0x)] [(.ref a0x)])) rfl rfl (hb hby d5_1)
  refine OEnds.go (g' := (mkF m 4 #[.val (.ref a0x)] [(.int wv)])) st1 ?_
  exact OEnds.outN X1 Bd.notSynchronized hx (t := .boolean) Bd.returns (by simp) (hb hby d5_4) ⟨by show (some (.int (nar .boolean wv)) : Option Value) = some (.int (f5 wv)); rw [f5], N0, e1⟩ (by decide) (by decide)
theorem ef_rm6 (m : MethodId) (x0 : Addr) : entryFrame m #[(.ref x0)] 1 = mkF m 0 #[.val (.ref x0)] [] := by first | (simp [entryFrame, mkF, argsToLocals, Value.category]; done) | rfl
def f6 (wv : Int64) : Int64 := wv
def Q_rm6 (Z : State) (a0x : Addr) (wv : Int64) (h0 : Heap) (n0 : Nat) (v : Option Value) (h : Heap) (L : List Loc) : Prop := v = some (.long (f6 wv)) ∧ Fr n0 L ∧ h = h0
set_option maxRecDepth 65536 in
set_option maxHeartbeats 40000000 in
theorem rm6 (l : Launch) (Z : State) (a0 : Array Value) (hw : ∀ d ∈ tables_1, d.before a0 Z = true) (ws : List Jvm.Cond) (a0x : Addr) (wv : Int64) (h0 : Heap) (n0 : Nat) (Z0 : n0 ≤ h0.size) (Fx : Fld Z h0 a0x "com/example/chronotag/chronotag/cbor/CborInteger" "argument" "J" (.long wv)) :
    MetFree l (⟨"com/example/chronotag/chronotag/cbor/CborInteger", "argument", "()J"⟩ : MethodName) (head1 (Jvm.Cond.code (⟨"com/example/chronotag/chronotag/cbor/CborInteger", "argument", "()J"⟩ : MethodName) prog_26_method_9_code 1 (some .long) :: ws) ({ frames := 0, cells := 0, slots := 0, locals := 0 } : Room)) (fun a U => a = #[(.ref a0x)] ∧ Z.Warmed39 U.vm ∧ U.heap = h0) (fun _ _ _ _ _ => True) (fun _ U o U' => ∃ v L, o = .returned v ∧ Q_rm6 Z a0x wv h0 n0 v U'.heap L ∧ FrameEnd U o U' L ({ frames := 0, cells := 0, slots := 0, locals := 0 } : Room).cells ({ frames := 0, cells := 0, slots := 0, locals := 0 } : Room).slots) := by
  refine MetFree.of_bodySF (plainFor_of_name pn_1) hisR ?_
  intro p e s m args below meth c s₁ Bd hml0 hP hK
  obtain ⟨rfl, hZ, hh⟩ := hP
  have hx := Bd.exec
  have hby := Bd.bytes
  have hml : c.maxLocals = 1 := hml0
  have hown : s.vm.findClass "com/example/chronotag/chronotag/cbor/CborInteger" = some m.cls := findClass_of_methodNamed Bd.named
  have hnm := (name_of_methodNamed Bd.named Bd.method).1
  have X0 : Stand p l e ({ frames := 0, cells := 0, slots := 0, locals := 0 } : Room) s m #[(.ref a0x)] below meth c s₁ [] 0 0 := Stand.of_body Bd
  have e0 : s₁.heap = h0 := by rw [← hh, Bd.state]; rfl
  have N0 := Fr.nil n0
  show OEnds p e below (OEndP s (Q_rm6 Z a0x wv h0 n0) ({ frames := 0, cells := 0, slots := 0, locals := 0 } : Room).cells ({ frames := 0, cells := 0, slots := 0, locals := 0 } : Room).slots) s₁ (entryFrame m #[(.ref a0x)] 1)
  rw [ef_rm6 m a0x]
  refine OEnds.go (g' := (mkF m 1 #[.val (.ref a0x)] [(.ref a0x)])) (fun t k => XS.aloadN X0.here hx rfl (hb hby d6_0) rfl rfl k) ?_
  obtain ⟨T1, X1, e1, st1⟩ := getF X0 hx hZ hown (host := "") (Or.inl (hw _ (List.mem_of_getElem? (i := 19) rfl))) Via.refl e0 Fx (g := (mkF m 1 #[.val (.ref a0x)] [(.ref a0x)])) rfl rfl (hb hby d6_1)
  refine OEnds.go (g' := (mkF m 4 #[.val (.ref a0x)] [(.long wv)])) st1 ?_
  exact OEnds.outJ X1 Bd.notSynchronized hx Bd.returns (hb hby d6_4) ⟨by show (some (.long wv) : Option Value) = some (.long (f6 wv)); rw [f6], N0, e1⟩ (by decide) (by decide)
theorem ef_rm0 (m : MethodId) (x0 : Int64) : entryFrame m #[(.long x0)] maxLocals = mkF m 0 #[.val (.long x0), .second, .unset, .unset, .unset, .unset, .unset, .unset, .unset] [] := by first | (simp [entryFrame, mkF, argsToLocals, Value.category, maxLocals]; done) | rfl
def Q_rm0 (Z : State) (q : Int64) (h0 : Heap) (n0 : Nat) (v : Option Value) (h : Heap) (L : List Loc) : Prop := v = some (.int 1) ∧ Fr n0 L
def jrm0_28_s0 (q : Int64) : Int32 := if q < (0 : Int64) then (1 : Int32) else (0 : Int32)
def jrm0_36_s0 (q : Int64) : Int32 := if (f5 (ofn q)) = (jrm0_28_s0 q) then (1 : Int32) else (0 : Int32)
def jrm0_73_s0 (q : Int64) : Int32 := if (f5 (ofn q)) = (0 : Int32) then if (f6 (ofa q)) = q then (1 : Int32) else (0 : Int32) else if ((-1 : Int64) - (f6 (ofa q))) = q then (1 : Int32) else (0 : Int32)
def jrm0_87_s0 (q : Int64) : Int32 := if (f6 (ofa q)) < (0 : Int64) then (0 : Int32) else (1 : Int32)
def f0 (q : Int64) : Int32 := if (jrm0_36_s0 q) = (0 : Int32) then (0 : Int32) else if (jrm0_73_s0 q) = (0 : Int32) then (0 : Int32) else if (jrm0_87_s0 q) = (0 : Int32) then (0 : Int32) else (1 : Int32)
theorem own_law (q : Int64) : f0 q = 1 := by
  have e0 : (0 : Int64).toInt = 0 := by decide
  have em : (-1 : Int64).toInt = -1 := by decide
  have rq := rng64 q
  by_cases h : q < (0 : Int64)
  · have h' := Int64.lt_iff_toInt_lt.mp h
    have n1 : ofn q = 1 := if_pos h
    have a1 : ofa q = -1 - q := if_pos h
    have d1 := c_lsub (-1) q
    have r1 := rng64 (-1 - q)
    have d2 := c_lsub (-1) (-1 - q)
    have r2 := rng64 (-1 - (-1 - q))
    have s1 : (-1 : Int64) - (-1 - q) = q := Int64.toInt_inj.mp (by omega)
    have s2 : ¬ ((-1 : Int64) - q) < 0 := fun z => by have := Int64.lt_iff_toInt_lt.mp z; omega
    have j1 : jrm0_36_s0 q = 1 := by rw [jrm0_36_s0, jrm0_28_s0, if_pos h, n1]; decide
    have j2 : jrm0_73_s0 q = 1 := by rw [jrm0_73_s0, n1, a1, f6, if_neg (show ¬ f5 1 = 0 by decide), if_pos s1]
    have j3 : jrm0_87_s0 q = 1 := by rw [jrm0_87_s0, a1, f6, if_neg s2]
    rw [f0, j1, j2, j3]; decide
  · have n1 : ofn q = 0 := if_neg h
    have a1 : ofa q = q := if_neg h
    have j1 : jrm0_36_s0 q = 1 := by rw [jrm0_36_s0, jrm0_28_s0, if_neg h, n1]; decide
    have j2 : jrm0_73_s0 q = 1 := by rw [jrm0_73_s0, n1, a1, f6, if_pos (show f5 0 = 0 by decide), if_pos rfl]
    have j3 : jrm0_87_s0 q = 1 := by rw [jrm0_87_s0, a1, f6, if_neg h]
    rw [f0, j1, j2, j3]; decide
set_option maxRecDepth 65536 in
set_option maxHeartbeats 40000000 in
theorem rm0 (l : Launch) (Z : State) (a0 : Array Value) (hw : ∀ d ∈ tables_1, d.before a0 Z = true) (ws : List Jvm.Cond) (q : Int64) (h0 : Heap) (n0 : Nat) (Z0 : n0 ≤ h0.size) :
    MetFree l x (head1 (Jvm.Cond.code x code maxLocals ret :: ws) room_1) (fun a U => a = #[(.long q)] ∧ Z.Warmed39 U.vm ∧ U.heap = h0) (fun _ _ _ _ _ => True) (fun _ U o U' => ∃ v L, o = .returned v ∧ Q_rm0 Z q h0 n0 v U'.heap L ∧ FrameEnd U o U' L room_1.cells room_1.slots) := by
  refine MetFree.of_bodySF (plainFor_of_name pn_2) hisR ?_
  intro p e s m args below meth c s₁ Bd hml0 hP hK
  obtain ⟨rfl, hZ, hh⟩ := hP
  have hx := Bd.exec
  have hby := Bd.bytes
  have hml : c.maxLocals = 9 := hml0
  have hown : s.vm.findClass "com/example/chronotag/chronotag/cbor/CborIntegerOfPinLaw" = some m.cls := findClass_of_methodNamed Bd.named
  have hnm := (name_of_methodNamed Bd.named Bd.method).1
  have X0 : Stand p l e room_1 s m #[(.long q)] below meth c s₁ [] 0 0 := Stand.of_body Bd
  have e0 : s₁.heap = h0 := by rw [← hh, Bd.state]; rfl
  have N0 := Fr.nil n0
  show OEnds p e below (OEndP s (Q_rm0 Z q h0 n0) room_1.cells room_1.slots) s₁ (entryFrame m #[(.long q)] maxLocals)
  rw [ef_rm0 m q]
  refine OEnds.go (g' := (mkF m 1 #[.val (.long q), .second, .unset, .unset, .unset, .unset, .unset, .unset, .unset] [(.long q)])) (fun t k => XS.lloadN X0.here hx rfl (hb hby at_0) rfl k) ?_
  obtain ⟨_, _, ⟨T1, L1, k1, n1⟩, -, X1, ⟨Lc1, hQ1, l1, y1, z1⟩, st1⟩ := Jvm.LawKit.callS X0 hx (y := (⟨"com/example/chronotag/chronotag/cbor/CborInteger", "of", "(J)Lcom/example/chronotag/chronotag/cbor/CborInteger;"⟩ : MethodName)) hown (mvT hZ (hw _ (List.mem_of_getElem? (i := 0) rfl))) (mvT hZ (hw _ (List.mem_of_getElem? (i := 1) rfl))) (mvT hZ (hw _ (List.mem_of_getElem? (i := 2) rfl))) (mvT hZ (hw _ (List.mem_of_getElem? (i := 3) rfl))) (by decide) (backOf (W := 0) (rm1 l Z a0 hw [] q h0 n0 Z0) hZ (hw _ (List.mem_of_getElem? (i := 3) rfl)) (hw _ (List.mem_of_getElem? (i := 2) rfl)) (by decide) (by decide)) (g := (mkF m 1 #[.val (.long q), .second, .unset, .unset, .unset, .unset, .unset, .unset, .unset] [(.long q)])) rfl (by rw [hml]; rfl) (argsL := [(.long q)]) (rest := []) (lenOf pd_2 rfl) rfl (by show 2 * 0 + _ ≤ _; exact Nat.le_of_eq rfl) (hb hby at_1) (fun _ _ => ⟨rfl, e0, (by decide : 0 + 1 ≤ _), (by decide : 0 + 2 ≤ _)⟩)
  dsimp only [Pt.U, Pt.locs, Pt.cells, Pt.slots] at X1 l1 y1 z1 st1 hQ1
  subst l1 y1 z1
  obtain ⟨b1, rfl, N1q, g_b1, E1q, Fn1q, Fa1q⟩ := hQ1
  have N1 := Fr.app N0 N1q
  have Zs1 : n0 ≤ T1.heap.size := Nat.le_trans g_b1 (Nat.le_of_lt E1q.lt)
  refine OEnds.go (g' := (mkF m 4 #[.val (.long q), .second, .unset, .unset, .unset, .unset, .unset, .unset, .unset] [(.ref b1)])) st1 ?_
  refine OEnds.go (g' := (mkF m 5 #[.val (.long q), .second, .val (.ref b1), .unset, .unset, .unset, .unset, .unset, .unset] [])) (fun t k => XS.astoreN X1.here hx rfl (hb hby at_4) rfl rfl (l' := #[.val (.long q), .second, .val (.ref b1), .unset, .unset, .unset, .unset, .unset, .unset]) rfl k) ?_
  refine OEnds.go (g' := (mkF m 6 #[.val (.long q), .second, .val (.ref b1), .unset, .unset, .unset, .unset, .unset, .unset] [(.ref b1)])) (fun t k => XS.aloadN X1.here hx rfl (hb hby at_5) rfl rfl k) ?_
  obtain ⟨cq2, kq2, q2a, q2b, q2c⟩ := isOf hZ rfl E1q
  obtain ⟨_, _, ⟨T2, L2, k2, n2⟩, -, X2, ⟨Lc2, hQ2, l2, y2, z2⟩, st2⟩ := X1.virtualBack hx (y := (⟨"com/example/chronotag/chronotag/cbor/CborInteger", "negative", "()Z"⟩ : MethodName)) (z := (⟨"com/example/chronotag/chronotag/cbor/CborInteger", "negative", "()Z"⟩ : MethodName)) hown (mvT hZ (hw _ (List.mem_of_getElem? (i := 21) rfl))) (mvT hZ (hw _ (List.mem_of_getElem? (i := 22) rfl))) (notFace_of_selects (args := #[]) (mvT hZ (hw _ (List.mem_of_getElem? (i := 24) rfl)))) (mvT hZ (hw _ (List.mem_of_getElem? (i := 24) rfl))) (mvT hZ (hw _ (List.mem_of_getElem? (i := 23) rfl))) (by decide) (backOf (W := 0) (rm5 l Z a0 hw [] b1 (ofn q) T1.heap n0 Zs1 Fn1q) hZ (hw _ (List.mem_of_getElem? (i := 25) rfl)) (hw _ (List.mem_of_getElem? (i := 2) rfl)) (by decide) (by decide)) q2a q2c (g := (mkF m 6 #[.val (.long q), .second, .val (.ref b1), .unset, .unset, .unset, .unset, .unset, .unset] [(.ref b1)])) rfl (by rw [hml]; rfl) (Steps.refl _) (argsL := []) (rest := []) (lenOf pd_3 rfl) rfl (by show 2 * 0 + _ ≤ _; exact Nat.le_of_eq rfl) (hb hby at_6) (fun _ _ => ⟨rfl, rfl, (by decide : 1 + 0 ≤ _), (by decide : 2 + 0 ≤ _)⟩)
  dsimp only [Pt.U, Pt.locs, Pt.cells, Pt.slots] at X2 l2 y2 z2 st2 hQ2
  subst l2 y2 z2
  obtain ⟨rfl, N2q, e2⟩ := hQ2
  have N2 := Fr.app N1 N2q
  refine OEnds.tr (g' := (mkF m 9 #[.val (.long q), .second, .val (.ref b1), .unset, .unset, .unset, .unset, .unset, .unset] [(.int (f5 (ofn q)))])) st2 ?_
  refine OEnds.go (g' := (mkF m 10 #[.val (.long q), .second, .val (.ref b1), .val (.int (f5 (ofn q))), .unset, .unset, .unset, .unset, .unset] [])) (fun t k => XS.istoreN X2.here hx rfl (hb hby at_9) rfl (l' := #[.val (.long q), .second, .val (.ref b1), .val (.int (f5 (ofn q))), .unset, .unset, .unset, .unset, .unset]) rfl k) ?_
  refine OEnds.go (g' := (mkF m 11 #[.val (.long q), .second, .val (.ref b1), .val (.int (f5 (ofn q))), .unset, .unset, .unset, .unset, .unset] [(.ref b1)])) (fun t k => XS.aloadN X2.here hx rfl (hb hby at_10) rfl rfl k) ?_
  obtain ⟨cq3, kq3, q3a, q3b, q3c⟩ := isOf hZ e2 E1q
  obtain ⟨_, _, ⟨T3, L3, k3, n3⟩, -, X3, ⟨Lc3, hQ3, l3, y3, z3⟩, st3⟩ := X2.virtualBack hx (y := (⟨"com/example/chronotag/chronotag/cbor/CborInteger", "argument", "()J"⟩ : MethodName)) (z := (⟨"com/example/chronotag/chronotag/cbor/CborInteger", "argument", "()J"⟩ : MethodName)) hown (mvT hZ (hw _ (List.mem_of_getElem? (i := 26) rfl))) (mvT hZ (hw _ (List.mem_of_getElem? (i := 27) rfl))) (notFace_of_selects (args := #[]) (mvT hZ (hw _ (List.mem_of_getElem? (i := 29) rfl)))) (mvT hZ (hw _ (List.mem_of_getElem? (i := 29) rfl))) (mvT hZ (hw _ (List.mem_of_getElem? (i := 28) rfl))) (by decide) (backOf (W := 0) (rm6 l Z a0 hw [] b1 (ofa q) T1.heap n0 Zs1 Fa1q) hZ (hw _ (List.mem_of_getElem? (i := 30) rfl)) (hw _ (List.mem_of_getElem? (i := 2) rfl)) (by decide) (by decide)) q3a q3c (g := (mkF m 11 #[.val (.long q), .second, .val (.ref b1), .val (.int (f5 (ofn q))), .unset, .unset, .unset, .unset, .unset] [(.ref b1)])) rfl (by rw [hml]; rfl) (Steps.refl _) (argsL := []) (rest := []) (lenOf pd_4 rfl) rfl (by show 2 * 0 + _ ≤ _; exact Nat.le_of_eq rfl) (hb hby at_11) (fun _ _ => ⟨rfl, e2, (by decide : 1 + 0 ≤ _), (by decide : 2 + 0 ≤ _)⟩)
  dsimp only [Pt.U, Pt.locs, Pt.cells, Pt.slots] at X3 l3 y3 z3 st3 hQ3
  subst l3 y3 z3
  obtain ⟨rfl, N3q, e3⟩ := hQ3
  have N3 := Fr.app N2 N3q
  refine OEnds.tr (g' := (mkF m 14 #[.val (.long q), .second, .val (.ref b1), .val (.int (f5 (ofn q))), .unset, .unset, .unset, .unset, .unset] [(.long (f6 (ofa q)))])) st3 ?_
  refine OEnds.go (g' := (mkF m 16 #[.val (.long q), .second, .val (.ref b1), .val (.int (f5 (ofn q))), .val (.long (f6 (ofa q))), .second, .unset, .unset, .unset] [])) (fun t k => XS.lstore X3.here hx rfl (hb hby at_14) rfl (l' := #[.val (.long q), .second, .val (.ref b1), .val (.int (f5 (ofn q))), .val (.long (f6 (ofa q))), .second, .unset, .unset, .unset]) rfl k) ?_
  refine OEnds.go (g' := (mkF m 17 #[.val (.long q), .second, .val (.ref b1), .val (.int (f5 (ofn q))), .val (.long (f6 (ofa q))), .second, .unset, .unset, .unset] [(.int (f5 (ofn q)))])) (fun t k => XS.iloadN X3.here hx rfl (hb hby at_16) rfl k) ?_
  have J4 : OEnds p e below (OEndP s (Q_rm0 Z q h0 n0) room_1.cells room_1.slots) T3 (mkF m 28 #[.val (.long q), .second, .val (.ref b1), .val (.int (f5 (ofn q))), .val (.long (f6 (ofa q))), .second, .unset, .unset, .unset] [(.int (jrm0_28_s0 q)), (.int (f5 (ofn q)))]) := by
    have J5 : OEnds p e below (OEndP s (Q_rm0 Z q h0 n0) room_1.cells room_1.slots) T3 (mkF m 36 #[.val (.long q), .second, .val (.ref b1), .val (.int (f5 (ofn q))), .val (.long (f6 (ofa q))), .second, .unset, .unset, .unset] [(.int (jrm0_36_s0 q))]) := by
      refine OEnds.go (g' := (mkF m 38 #[.val (.long q), .second, .val (.ref b1), .val (.int (f5 (ofn q))), .val (.long (f6 (ofa q))), .second, .val (.int (jrm0_36_s0 q)), .unset, .unset] [])) (fun t k => XS.istore X3.here hx rfl (hb hby at_36) rfl (l' := #[.val (.long q), .second, .val (.ref b1), .val (.int (f5 (ofn q))), .val (.long (f6 (ofa q))), .second, .val (.int (jrm0_36_s0 q)), .unset, .unset]) rfl k) ?_
      have J6 : OEnds p e below (OEndP s (Q_rm0 Z q h0 n0) room_1.cells room_1.slots) T3 (mkF m 73 #[.val (.long q), .second, .val (.ref b1), .val (.int (f5 (ofn q))), .val (.long (f6 (ofa q))), .second, .val (.int (jrm0_36_s0 q)), .unset, .unset] [(.int (jrm0_73_s0 q))]) := by
        refine OEnds.go (g' := (mkF m 75 #[.val (.long q), .second, .val (.ref b1), .val (.int (f5 (ofn q))), .val (.long (f6 (ofa q))), .second, .val (.int (jrm0_36_s0 q)), .val (.int (jrm0_73_s0 q)), .unset] [])) (fun t k => XS.istore X3.here hx rfl (hb hby at_73) rfl (l' := #[.val (.long q), .second, .val (.ref b1), .val (.int (f5 (ofn q))), .val (.long (f6 (ofa q))), .second, .val (.int (jrm0_36_s0 q)), .val (.int (jrm0_73_s0 q)), .unset]) rfl k) ?_
        have J7 : OEnds p e below (OEndP s (Q_rm0 Z q h0 n0) room_1.cells room_1.slots) T3 (mkF m 87 #[.val (.long q), .second, .val (.ref b1), .val (.int (f5 (ofn q))), .val (.long (f6 (ofa q))), .second, .val (.int (jrm0_36_s0 q)), .val (.int (jrm0_73_s0 q)), .unset] [(.int (jrm0_87_s0 q))]) := by
          refine OEnds.go (g' := (mkF m 89 #[.val (.long q), .second, .val (.ref b1), .val (.int (f5 (ofn q))), .val (.long (f6 (ofa q))), .second, .val (.int (jrm0_36_s0 q)), .val (.int (jrm0_73_s0 q)), .val (.int (jrm0_87_s0 q))] [])) (fun t k => XS.istore X3.here hx rfl (hb hby at_87) rfl (l' := #[.val (.long q), .second, .val (.ref b1), .val (.int (f5 (ofn q))), .val (.long (f6 (ofa q))), .second, .val (.int (jrm0_36_s0 q)), .val (.int (jrm0_73_s0 q)), .val (.int (jrm0_87_s0 q))]) rfl k) ?_
          refine OEnds.go (g' := (mkF m 91 #[.val (.long q), .second, .val (.ref b1), .val (.int (f5 (ofn q))), .val (.long (f6 (ofa q))), .second, .val (.int (jrm0_36_s0 q)), .val (.int (jrm0_73_s0 q)), .val (.int (jrm0_87_s0 q))] [(.int (jrm0_36_s0 q))])) (fun t k => XS.iload X3.here hx rfl (hb hby at_89) rfl k) ?_
          by_cases c91_8 : (jrm0_36_s0 q) = (0 : Int32)
          · -- yes
            refine OEnds.go (g' := (mkF m 108 #[.val (.long q), .second, .val (.ref b1), .val (.int (f5 (ofn q))), .val (.long (f6 (ofa q))), .second, .val (.int (jrm0_36_s0 q)), .val (.int (jrm0_73_s0 q)), .val (.int (jrm0_87_s0 q))] [])) (fun t k => XS.ifYes X3.here hx rfl (pc0 := 91) (pc' := 108) rfl (hb hby at_91) rfl ((if0 _ _).trans (teq c91_8).1) (by decide) (by decide) k) ?_
            refine OEnds.go (g' := (mkF m 109 #[.val (.long q), .second, .val (.ref b1), .val (.int (f5 (ofn q))), .val (.long (f6 (ofa q))), .second, .val (.int (jrm0_36_s0 q)), .val (.int (jrm0_73_s0 q)), .val (.int (jrm0_87_s0 q))] [(.int (0 : Int32))])) (fun t k => XS.iconst X3.here hx rfl (hb hby at_108) k) ?_
            exact OEnds.outN X3 Bd.notSynchronized hx (t := .boolean) Bd.returns (by simp) (hb hby at_109) (own_no (own_law q) (by rw [f0, if_pos c91_8])) (by decide) (by decide)
          · -- no
            refine OEnds.go (g' := (mkF m 94 #[.val (.long q), .second, .val (.ref b1), .val (.int (f5 (ofn q))), .val (.long (f6 (ofa q))), .second, .val (.int (jrm0_36_s0 q)), .val (.int (jrm0_73_s0 q)), .val (.int (jrm0_87_s0 q))] [])) (fun t k => XS.ifNo X3.here hx rfl (hb hby at_91) rfl ((if0 _ _).trans (feq c91_8).1) k) ?_
            refine OEnds.go (g' := (mkF m 96 #[.val (.long q), .second, .val (.ref b1), .val (.int (f5 (ofn q))), .val (.long (f6 (ofa q))), .second, .val (.int (jrm0_36_s0 q)), .val (.int (jrm0_73_s0 q)), .val (.int (jrm0_87_s0 q))] [(.int (jrm0_73_s0 q))])) (fun t k => XS.iload X3.here hx rfl (hb hby at_94) rfl k) ?_
            by_cases c96_9 : (jrm0_73_s0 q) = (0 : Int32)
            · -- yes
              refine OEnds.go (g' := (mkF m 108 #[.val (.long q), .second, .val (.ref b1), .val (.int (f5 (ofn q))), .val (.long (f6 (ofa q))), .second, .val (.int (jrm0_36_s0 q)), .val (.int (jrm0_73_s0 q)), .val (.int (jrm0_87_s0 q))] [])) (fun t k => XS.ifYes X3.here hx rfl (pc0 := 96) (pc' := 108) rfl (hb hby at_96) rfl ((if0 _ _).trans (teq c96_9).1) (by decide) (by decide) k) ?_
              refine OEnds.go (g' := (mkF m 109 #[.val (.long q), .second, .val (.ref b1), .val (.int (f5 (ofn q))), .val (.long (f6 (ofa q))), .second, .val (.int (jrm0_36_s0 q)), .val (.int (jrm0_73_s0 q)), .val (.int (jrm0_87_s0 q))] [(.int (0 : Int32))])) (fun t k => XS.iconst X3.here hx rfl (hb hby at_108) k) ?_
              exact OEnds.outN X3 Bd.notSynchronized hx (t := .boolean) Bd.returns (by simp) (hb hby at_109) (own_no (own_law q) (by rw [f0, if_neg c91_8, if_pos c96_9])) (by decide) (by decide)
            · -- no
              refine OEnds.go (g' := (mkF m 99 #[.val (.long q), .second, .val (.ref b1), .val (.int (f5 (ofn q))), .val (.long (f6 (ofa q))), .second, .val (.int (jrm0_36_s0 q)), .val (.int (jrm0_73_s0 q)), .val (.int (jrm0_87_s0 q))] [])) (fun t k => XS.ifNo X3.here hx rfl (hb hby at_96) rfl ((if0 _ _).trans (feq c96_9).1) k) ?_
              refine OEnds.go (g' := (mkF m 101 #[.val (.long q), .second, .val (.ref b1), .val (.int (f5 (ofn q))), .val (.long (f6 (ofa q))), .second, .val (.int (jrm0_36_s0 q)), .val (.int (jrm0_73_s0 q)), .val (.int (jrm0_87_s0 q))] [(.int (jrm0_87_s0 q))])) (fun t k => XS.iload X3.here hx rfl (hb hby at_99) rfl k) ?_
              by_cases c101_10 : (jrm0_87_s0 q) = (0 : Int32)
              · -- yes
                refine OEnds.go (g' := (mkF m 108 #[.val (.long q), .second, .val (.ref b1), .val (.int (f5 (ofn q))), .val (.long (f6 (ofa q))), .second, .val (.int (jrm0_36_s0 q)), .val (.int (jrm0_73_s0 q)), .val (.int (jrm0_87_s0 q))] [])) (fun t k => XS.ifYes X3.here hx rfl (pc0 := 101) (pc' := 108) rfl (hb hby at_101) rfl ((if0 _ _).trans (teq c101_10).1) (by decide) (by decide) k) ?_
                refine OEnds.go (g' := (mkF m 109 #[.val (.long q), .second, .val (.ref b1), .val (.int (f5 (ofn q))), .val (.long (f6 (ofa q))), .second, .val (.int (jrm0_36_s0 q)), .val (.int (jrm0_73_s0 q)), .val (.int (jrm0_87_s0 q))] [(.int (0 : Int32))])) (fun t k => XS.iconst X3.here hx rfl (hb hby at_108) k) ?_
                exact OEnds.outN X3 Bd.notSynchronized hx (t := .boolean) Bd.returns (by simp) (hb hby at_109) (own_no (own_law q) (by rw [f0, if_neg c91_8, if_neg c96_9, if_pos c101_10])) (by decide) (by decide)
              · -- no
                refine OEnds.go (g' := (mkF m 104 #[.val (.long q), .second, .val (.ref b1), .val (.int (f5 (ofn q))), .val (.long (f6 (ofa q))), .second, .val (.int (jrm0_36_s0 q)), .val (.int (jrm0_73_s0 q)), .val (.int (jrm0_87_s0 q))] [])) (fun t k => XS.ifNo X3.here hx rfl (hb hby at_101) rfl ((if0 _ _).trans (feq c101_10).1) k) ?_
                refine OEnds.go (g' := (mkF m 105 #[.val (.long q), .second, .val (.ref b1), .val (.int (f5 (ofn q))), .val (.long (f6 (ofa q))), .second, .val (.int (jrm0_36_s0 q)), .val (.int (jrm0_73_s0 q)), .val (.int (jrm0_87_s0 q))] [(.int (1 : Int32))])) (fun t k => XS.iconst X3.here hx rfl (hb hby at_104) k) ?_
                refine OEnds.go (g' := (mkF m 109 #[.val (.long q), .second, .val (.ref b1), .val (.int (f5 (ofn q))), .val (.long (f6 (ofa q))), .second, .val (.int (jrm0_36_s0 q)), .val (.int (jrm0_73_s0 q)), .val (.int (jrm0_87_s0 q))] [(.int (1 : Int32))])) (fun t k => XS.goto X3.here hx rfl (pc0 := 105) (pc' := 109) rfl (hb hby at_105) (by decide) (by decide) k) ?_
                exact OEnds.outN X3 Bd.notSynchronized hx (t := .boolean) Bd.returns (by simp) (hb hby at_109) ⟨rfl, N3⟩ (by decide) (by decide)
        refine OEnds.go (g' := (mkF m 77 #[.val (.long q), .second, .val (.ref b1), .val (.int (f5 (ofn q))), .val (.long (f6 (ofa q))), .second, .val (.int (jrm0_36_s0 q)), .val (.int (jrm0_73_s0 q)), .unset] [(.long (f6 (ofa q)))])) (fun t k => XS.lload X3.here hx rfl (hb hby at_75) rfl k) ?_
        refine OEnds.go (g' := (mkF m 78 #[.val (.long q), .second, .val (.ref b1), .val (.int (f5 (ofn q))), .val (.long (f6 (ofa q))), .second, .val (.int (jrm0_36_s0 q)), .val (.int (jrm0_73_s0 q)), .unset] [(.long (0 : Int64)), (.long (f6 (ofa q)))])) (fun t k => XS.lconst X3.here hx rfl (hb hby at_77) k) ?_
        refine OEnds.go (g' := (mkF m 79 #[.val (.long q), .second, .val (.ref b1), .val (.int (f5 (ofn q))), .val (.long (f6 (ofa q))), .second, .val (.int (jrm0_36_s0 q)), .val (.int (jrm0_73_s0 q)), .unset] [(.int (lcmpW (f6 (ofa q)) (0 : Int64)))])) (fun t k => XS.lcmp X3.here hx rfl (hb hby at_78) rfl k) ?_
        by_cases c79_11 : (f6 (ofa q)) < (0 : Int64)
        · -- yes
          refine OEnds.go (g' := (mkF m 86 #[.val (.long q), .second, .val (.ref b1), .val (.int (f5 (ofn q))), .val (.long (f6 (ofa q))), .second, .val (.int (jrm0_36_s0 q)), .val (.int (jrm0_73_s0 q)), .unset] [])) (fun t k => XS.ifYes X3.here hx rfl (pc0 := 79) (pc' := 86) rfl (hb hby at_79) rfl ((if0 _ _).trans (tlt ((lw_lt _ _).mpr c79_11)).1) (by decide) (by decide) k) ?_
          refine OEnds.go (g' := (mkF m 87 #[.val (.long q), .second, .val (.ref b1), .val (.int (f5 (ofn q))), .val (.long (f6 (ofa q))), .second, .val (.int (jrm0_36_s0 q)), .val (.int (jrm0_73_s0 q)), .unset] [(.int (0 : Int32))])) (fun t k => XS.iconst X3.here hx rfl (hb hby at_86) k) ?_
          rw [show jrm0_87_s0 q = (0 : Int32) from by rw [jrm0_87_s0, if_pos c79_11]] at J7
          exact J7
        · -- no
          refine OEnds.go (g' := (mkF m 82 #[.val (.long q), .second, .val (.ref b1), .val (.int (f5 (ofn q))), .val (.long (f6 (ofa q))), .second, .val (.int (jrm0_36_s0 q)), .val (.int (jrm0_73_s0 q)), .unset] [])) (fun t k => XS.ifNo X3.here hx rfl (hb hby at_79) rfl ((if0 _ _).trans (flt (fun q => c79_11 ((lw_lt _ _).mp q))).1) k) ?_
          refine OEnds.go (g' := (mkF m 83 #[.val (.long q), .second, .val (.ref b1), .val (.int (f5 (ofn q))), .val (.long (f6 (ofa q))), .second, .val (.int (jrm0_36_s0 q)), .val (.int (jrm0_73_s0 q)), .unset] [(.int (1 : Int32))])) (fun t k => XS.iconst X3.here hx rfl (hb hby at_82) k) ?_
          refine OEnds.go (g' := (mkF m 87 #[.val (.long q), .second, .val (.ref b1), .val (.int (f5 (ofn q))), .val (.long (f6 (ofa q))), .second, .val (.int (jrm0_36_s0 q)), .val (.int (jrm0_73_s0 q)), .unset] [(.int (1 : Int32))])) (fun t k => XS.goto X3.here hx rfl (pc0 := 83) (pc' := 87) rfl (hb hby at_83) (by decide) (by decide) k) ?_
          rw [show jrm0_87_s0 q = (1 : Int32) from by rw [jrm0_87_s0, if_neg c79_11]] at J7
          exact J7
      refine OEnds.go (g' := (mkF m 39 #[.val (.long q), .second, .val (.ref b1), .val (.int (f5 (ofn q))), .val (.long (f6 (ofa q))), .second, .val (.int (jrm0_36_s0 q)), .unset, .unset] [(.int (f5 (ofn q)))])) (fun t k => XS.iloadN X3.here hx rfl (hb hby at_38) rfl k) ?_
      by_cases c39_12 : (f5 (ofn q)) = (0 : Int32)
      · -- yes
        refine OEnds.go (g' := (mkF m 61 #[.val (.long q), .second, .val (.ref b1), .val (.int (f5 (ofn q))), .val (.long (f6 (ofa q))), .second, .val (.int (jrm0_36_s0 q)), .unset, .unset] [])) (fun t k => XS.ifYes X3.here hx rfl (pc0 := 39) (pc' := 61) rfl (hb hby at_39) rfl ((if0 _ _).trans (teq c39_12).1) (by decide) (by decide) k) ?_
        refine OEnds.go (g' := (mkF m 63 #[.val (.long q), .second, .val (.ref b1), .val (.int (f5 (ofn q))), .val (.long (f6 (ofa q))), .second, .val (.int (jrm0_36_s0 q)), .unset, .unset] [(.long (f6 (ofa q)))])) (fun t k => XS.lload X3.here hx rfl (hb hby at_61) rfl k) ?_
        refine OEnds.go (g' := (mkF m 64 #[.val (.long q), .second, .val (.ref b1), .val (.int (f5 (ofn q))), .val (.long (f6 (ofa q))), .second, .val (.int (jrm0_36_s0 q)), .unset, .unset] [(.long q), (.long (f6 (ofa q)))])) (fun t k => XS.lloadN X3.here hx rfl (hb hby at_63) rfl k) ?_
        refine OEnds.go (g' := (mkF m 65 #[.val (.long q), .second, .val (.ref b1), .val (.int (f5 (ofn q))), .val (.long (f6 (ofa q))), .second, .val (.int (jrm0_36_s0 q)), .unset, .unset] [(.int (lcmpW (f6 (ofa q)) q))])) (fun t k => XS.lcmp X3.here hx rfl (hb hby at_64) rfl k) ?_
        by_cases c65_13 : (f6 (ofa q)) = q
        · -- yes
          refine OEnds.go (g' := (mkF m 68 #[.val (.long q), .second, .val (.ref b1), .val (.int (f5 (ofn q))), .val (.long (f6 (ofa q))), .second, .val (.int (jrm0_36_s0 q)), .unset, .unset] [])) (fun t k => XS.ifNo X3.here hx rfl (hb hby at_65) rfl ((if0 _ _).trans (teq ((lw_eq _ _).mpr c65_13)).2) k) ?_
          refine OEnds.go (g' := (mkF m 69 #[.val (.long q), .second, .val (.ref b1), .val (.int (f5 (ofn q))), .val (.long (f6 (ofa q))), .second, .val (.int (jrm0_36_s0 q)), .unset, .unset] [(.int (1 : Int32))])) (fun t k => XS.iconst X3.here hx rfl (hb hby at_68) k) ?_
          refine OEnds.go (g' := (mkF m 73 #[.val (.long q), .second, .val (.ref b1), .val (.int (f5 (ofn q))), .val (.long (f6 (ofa q))), .second, .val (.int (jrm0_36_s0 q)), .unset, .unset] [(.int (1 : Int32))])) (fun t k => XS.goto X3.here hx rfl (pc0 := 69) (pc' := 73) rfl (hb hby at_69) (by decide) (by decide) k) ?_
          rw [show jrm0_73_s0 q = (1 : Int32) from by rw [jrm0_73_s0, if_pos c39_12, if_pos c65_13]] at J6
          exact J6
        · -- no
          refine OEnds.go (g' := (mkF m 72 #[.val (.long q), .second, .val (.ref b1), .val (.int (f5 (ofn q))), .val (.long (f6 (ofa q))), .second, .val (.int (jrm0_36_s0 q)), .unset, .unset] [])) (fun t k => XS.ifYes X3.here hx rfl (pc0 := 65) (pc' := 72) rfl (hb hby at_65) rfl ((if0 _ _).trans (feq (fun q => c65_13 ((lw_eq _ _).mp q))).2) (by decide) (by decide) k) ?_
          refine OEnds.go (g' := (mkF m 73 #[.val (.long q), .second, .val (.ref b1), .val (.int (f5 (ofn q))), .val (.long (f6 (ofa q))), .second, .val (.int (jrm0_36_s0 q)), .unset, .unset] [(.int (0 : Int32))])) (fun t k => XS.iconst X3.here hx rfl (hb hby at_72) k) ?_
          rw [show jrm0_73_s0 q = (0 : Int32) from by rw [jrm0_73_s0, if_pos c39_12, if_neg c65_13]] at J6
          exact J6
      · -- no
        refine OEnds.go (g' := (mkF m 42 #[.val (.long q), .second, .val (.ref b1), .val (.int (f5 (ofn q))), .val (.long (f6 (ofa q))), .second, .val (.int (jrm0_36_s0 q)), .unset, .unset] [])) (fun t k => XS.ifNo X3.here hx rfl (hb hby at_39) rfl ((if0 _ _).trans (feq c39_12).1) k) ?_
        refine OEnds.go (g' := (mkF m 45 #[.val (.long q), .second, .val (.ref b1), .val (.int (f5 (ofn q))), .val (.long (f6 (ofa q))), .second, .val (.int (jrm0_36_s0 q)), .unset, .unset] [(.long (-1 : Int64))])) (X3.ldc2Long hx hown (mvT hZ (hw _ (List.mem_of_getElem? (i := 32) rfl))) (g := (mkF m 42 #[.val (.long q), .second, .val (.ref b1), .val (.int (f5 (ofn q))), .val (.long (f6 (ofa q))), .second, .val (.int (jrm0_36_s0 q)), .unset, .unset] [])) rfl (hb hby at_42)) ?_
        refine OEnds.go (g' := (mkF m 47 #[.val (.long q), .second, .val (.ref b1), .val (.int (f5 (ofn q))), .val (.long (f6 (ofa q))), .second, .val (.int (jrm0_36_s0 q)), .unset, .unset] [(.long (f6 (ofa q))), (.long (-1 : Int64))])) (fun t k => XS.lload X3.here hx rfl (hb hby at_45) rfl k) ?_
        refine OEnds.go (g' := (mkF m 48 #[.val (.long q), .second, .val (.ref b1), .val (.int (f5 (ofn q))), .val (.long (f6 (ofa q))), .second, .val (.int (jrm0_36_s0 q)), .unset, .unset] [(.long ((-1 : Int64) - (f6 (ofa q))))])) (fun t k => XS.lsub X3.here hx rfl (hb hby at_47) rfl k) ?_
        refine OEnds.go (g' := (mkF m 49 #[.val (.long q), .second, .val (.ref b1), .val (.int (f5 (ofn q))), .val (.long (f6 (ofa q))), .second, .val (.int (jrm0_36_s0 q)), .unset, .unset] [(.long q), (.long ((-1 : Int64) - (f6 (ofa q))))])) (fun t k => XS.lloadN X3.here hx rfl (hb hby at_48) rfl k) ?_
        refine OEnds.go (g' := (mkF m 50 #[.val (.long q), .second, .val (.ref b1), .val (.int (f5 (ofn q))), .val (.long (f6 (ofa q))), .second, .val (.int (jrm0_36_s0 q)), .unset, .unset] [(.int (lcmpW ((-1 : Int64) - (f6 (ofa q))) q))])) (fun t k => XS.lcmp X3.here hx rfl (hb hby at_49) rfl k) ?_
        by_cases c50_14 : ((-1 : Int64) - (f6 (ofa q))) = q
        · -- yes
          refine OEnds.go (g' := (mkF m 53 #[.val (.long q), .second, .val (.ref b1), .val (.int (f5 (ofn q))), .val (.long (f6 (ofa q))), .second, .val (.int (jrm0_36_s0 q)), .unset, .unset] [])) (fun t k => XS.ifNo X3.here hx rfl (hb hby at_50) rfl ((if0 _ _).trans (teq ((lw_eq _ _).mpr c50_14)).2) k) ?_
          refine OEnds.go (g' := (mkF m 54 #[.val (.long q), .second, .val (.ref b1), .val (.int (f5 (ofn q))), .val (.long (f6 (ofa q))), .second, .val (.int (jrm0_36_s0 q)), .unset, .unset] [(.int (1 : Int32))])) (fun t k => XS.iconst X3.here hx rfl (hb hby at_53) k) ?_
          refine OEnds.go (g' := (mkF m 73 #[.val (.long q), .second, .val (.ref b1), .val (.int (f5 (ofn q))), .val (.long (f6 (ofa q))), .second, .val (.int (jrm0_36_s0 q)), .unset, .unset] [(.int (1 : Int32))])) (fun t k => XS.goto X3.here hx rfl (pc0 := 54) (pc' := 73) rfl (hb hby at_54) (by decide) (by decide) k) ?_
          rw [show jrm0_73_s0 q = (1 : Int32) from by rw [jrm0_73_s0, if_neg c39_12, if_pos c50_14]] at J6
          exact J6
        · -- no
          refine OEnds.go (g' := (mkF m 57 #[.val (.long q), .second, .val (.ref b1), .val (.int (f5 (ofn q))), .val (.long (f6 (ofa q))), .second, .val (.int (jrm0_36_s0 q)), .unset, .unset] [])) (fun t k => XS.ifYes X3.here hx rfl (pc0 := 50) (pc' := 57) rfl (hb hby at_50) rfl ((if0 _ _).trans (feq (fun q => c50_14 ((lw_eq _ _).mp q))).2) (by decide) (by decide) k) ?_
          refine OEnds.go (g' := (mkF m 58 #[.val (.long q), .second, .val (.ref b1), .val (.int (f5 (ofn q))), .val (.long (f6 (ofa q))), .second, .val (.int (jrm0_36_s0 q)), .unset, .unset] [(.int (0 : Int32))])) (fun t k => XS.iconst X3.here hx rfl (hb hby at_57) k) ?_
          refine OEnds.go (g' := (mkF m 73 #[.val (.long q), .second, .val (.ref b1), .val (.int (f5 (ofn q))), .val (.long (f6 (ofa q))), .second, .val (.int (jrm0_36_s0 q)), .unset, .unset] [(.int (0 : Int32))])) (fun t k => XS.goto X3.here hx rfl (pc0 := 58) (pc' := 73) rfl (hb hby at_58) (by decide) (by decide) k) ?_
          rw [show jrm0_73_s0 q = (0 : Int32) from by rw [jrm0_73_s0, if_neg c39_12, if_neg c50_14]] at J6
          exact J6
    by_cases c28_15 : (f5 (ofn q)) = (jrm0_28_s0 q)
    · -- yes
      refine OEnds.go (g' := (mkF m 31 #[.val (.long q), .second, .val (.ref b1), .val (.int (f5 (ofn q))), .val (.long (f6 (ofa q))), .second, .unset, .unset, .unset] [])) (fun t k => XS.icmpNo X3.here hx rfl (hb hby at_28) rfl (teq c28_15).2 k) ?_
      refine OEnds.go (g' := (mkF m 32 #[.val (.long q), .second, .val (.ref b1), .val (.int (f5 (ofn q))), .val (.long (f6 (ofa q))), .second, .unset, .unset, .unset] [(.int (1 : Int32))])) (fun t k => XS.iconst X3.here hx rfl (hb hby at_31) k) ?_
      refine OEnds.go (g' := (mkF m 36 #[.val (.long q), .second, .val (.ref b1), .val (.int (f5 (ofn q))), .val (.long (f6 (ofa q))), .second, .unset, .unset, .unset] [(.int (1 : Int32))])) (fun t k => XS.goto X3.here hx rfl (pc0 := 32) (pc' := 36) rfl (hb hby at_32) (by decide) (by decide) k) ?_
      rw [show jrm0_36_s0 q = (1 : Int32) from by rw [jrm0_36_s0, if_pos c28_15]] at J5
      exact J5
    · -- no
      refine OEnds.go (g' := (mkF m 35 #[.val (.long q), .second, .val (.ref b1), .val (.int (f5 (ofn q))), .val (.long (f6 (ofa q))), .second, .unset, .unset, .unset] [])) (fun t k => XS.icmpYes X3.here hx rfl (pc0 := 28) (pc' := 35) rfl (hb hby at_28) rfl (feq c28_15).2 (by decide) (by decide) k) ?_
      refine OEnds.go (g' := (mkF m 36 #[.val (.long q), .second, .val (.ref b1), .val (.int (f5 (ofn q))), .val (.long (f6 (ofa q))), .second, .unset, .unset, .unset] [(.int (0 : Int32))])) (fun t k => XS.iconst X3.here hx rfl (hb hby at_35) k) ?_
      rw [show jrm0_36_s0 q = (0 : Int32) from by rw [jrm0_36_s0, if_neg c28_15]] at J5
      exact J5
  refine OEnds.go (g' := (mkF m 18 #[.val (.long q), .second, .val (.ref b1), .val (.int (f5 (ofn q))), .val (.long (f6 (ofa q))), .second, .unset, .unset, .unset] [(.long q), (.int (f5 (ofn q)))])) (fun t k => XS.lloadN X3.here hx rfl (hb hby at_17) rfl k) ?_
  refine OEnds.go (g' := (mkF m 19 #[.val (.long q), .second, .val (.ref b1), .val (.int (f5 (ofn q))), .val (.long (f6 (ofa q))), .second, .unset, .unset, .unset] [(.long (0 : Int64)), (.long q), (.int (f5 (ofn q)))])) (fun t k => XS.lconst X3.here hx rfl (hb hby at_18) k) ?_
  refine OEnds.go (g' := (mkF m 20 #[.val (.long q), .second, .val (.ref b1), .val (.int (f5 (ofn q))), .val (.long (f6 (ofa q))), .second, .unset, .unset, .unset] [(.int (lcmpW q (0 : Int64))), (.int (f5 (ofn q)))])) (fun t k => XS.lcmp X3.here hx rfl (hb hby at_19) rfl k) ?_
  by_cases c20_16 : q < (0 : Int64)
  · -- yes
    refine OEnds.go (g' := (mkF m 23 #[.val (.long q), .second, .val (.ref b1), .val (.int (f5 (ofn q))), .val (.long (f6 (ofa q))), .second, .unset, .unset, .unset] [(.int (f5 (ofn q)))])) (fun t k => XS.ifNo X3.here hx rfl (hb hby at_20) rfl ((if0 _ _).trans (tlt ((lw_lt _ _).mpr c20_16)).2.1) k) ?_
    refine OEnds.go (g' := (mkF m 24 #[.val (.long q), .second, .val (.ref b1), .val (.int (f5 (ofn q))), .val (.long (f6 (ofa q))), .second, .unset, .unset, .unset] [(.int (1 : Int32)), (.int (f5 (ofn q)))])) (fun t k => XS.iconst X3.here hx rfl (hb hby at_23) k) ?_
    refine OEnds.go (g' := (mkF m 28 #[.val (.long q), .second, .val (.ref b1), .val (.int (f5 (ofn q))), .val (.long (f6 (ofa q))), .second, .unset, .unset, .unset] [(.int (1 : Int32)), (.int (f5 (ofn q)))])) (fun t k => XS.goto X3.here hx rfl (pc0 := 24) (pc' := 28) rfl (hb hby at_24) (by decide) (by decide) k) ?_
    rw [show jrm0_28_s0 q = (1 : Int32) from by rw [jrm0_28_s0, if_pos c20_16]] at J4
    exact J4
  · -- no
    refine OEnds.go (g' := (mkF m 27 #[.val (.long q), .second, .val (.ref b1), .val (.int (f5 (ofn q))), .val (.long (f6 (ofa q))), .second, .unset, .unset, .unset] [(.int (f5 (ofn q)))])) (fun t k => XS.ifYes X3.here hx rfl (pc0 := 20) (pc' := 27) rfl (hb hby at_20) rfl ((if0 _ _).trans (flt (fun q => c20_16 ((lw_lt _ _).mp q))).2.1) (by decide) (by decide) k) ?_
    refine OEnds.go (g' := (mkF m 28 #[.val (.long q), .second, .val (.ref b1), .val (.int (f5 (ofn q))), .val (.long (f6 (ofa q))), .second, .unset, .unset, .unset] [(.int (0 : Int32)), (.int (f5 (ofn q)))])) (fun t k => XS.iconst X3.here hx rfl (hb hby at_27) k) ?_
    rw [show jrm0_28_s0 q = (0 : Int32) from by rw [jrm0_28_s0, if_neg c20_16]] at J4
    exact J4
set_option maxRecDepth 65536 in
set_option maxHeartbeats 40000000 in
theorem comes_1 {Post : Tables → Env → Array Value → State → Outcome → State → Prop} (hpost : ∀ tb e args s v u, (limb_1_1.after args s (.returned v) u = true ∧ limb_1_2.after args s (.returned v) u = true ∧ True) → FrameEnd s (.returned v) u (Jvm.fieldLocs frame_1_writes args s ++ Jvm.arrayLocs frame_1_arrays args s ++ Jvm.staticLocs frame_1_statics s) 16 128 → Post tb e args s (.returned v) u) :
    ArmFor flags0 classFile x code maxLocals ret World_1 tables_1 room_1 Calls_1 rest_1 Pre_1 Post := by
  intro l hfl _ _ p e ha hc hk s m args below hf hA hF happ hP
  obtain ⟨hcalls, hrest, hpre⟩ := hP
  obtain ⟨-, -, -, hnamed, -, -, -, hat⟩ := (Spec.applies_iff hf).mp happ
  obtain ⟨hg, hn⟩ := and_e (Cond.before_iff.mp (show (Jvm.Cond.and given_1 narrow_1).before args s = true from hpre))
  obtain ⟨g1, g2⟩ := and_e hg
  obtain ⟨w0, rfl⟩ : ∃ w0 : Value, args = #[w0] := by
    have hs : args.size = 1 := by simpa [Cond.value, given_1] using g1
    obtain ⟨L⟩ := args
    match L, hs with
    | [w0], _ => exact ⟨w0, rfl⟩
  have hw := fun d (hd : d ∈ tables_1) => atoms_spec (ws := Jvm.Cond.code x code maxLocals ret :: tables_1) hat d (List.mem_cons_of_mem _ hd)
  have hfit : Fit s := fun {y c} hc i hi => by
    obtain ⟨ha, rfl⟩ := Array.getElem?_eq_some_iff.mp hc
    have q := List.all_eq_true.mp ((Array.all_eq_true_iff_forall_mem.mp hF) _ (Array.getElem_mem ha)) i (List.mem_range.mpr hi)
    simpa [Array.getElem?_eq_getElem hi] using q
  obtain ⟨i0, ei0⟩ := isL_v g2
  obtain rfl : w0 = (.long i0) := Option.some.inj ei0
  obtain ⟨n, o, h1, h2, h3, _, L, rfl, ⟨rfl, N⟩, hq⟩ := rm0 l s _ hw tables_1 i0 s.heap s.heap.size (Nat.le_refl _) p e ha hc hk s m _ below hf ((Spec.applies_iff_loose hf).mp happ).1 ⟨rfl, State.Warmed39.refl s, rfl⟩ trivial
  refine ⟨n, _, h1, h2, h3, hpost _ _ _ _ _ _ ⟨Cond.after_iff.mpr rfl, Cond.after_iff.mpr (eq_i res_at (Term.int_eval (1)) rfl), trivial⟩ ⟨hq.1, hq.2.1, (hq.2.2.sift fun y hy => Or.inr (N y hy)).mono (by decide) (by decide)⟩⟩
theorem main_1_1 : Claimed_1_1 := comes_1 fun _ _ _ _ _ _ h hF => ⟨h.1, hF⟩
theorem main_1_2 : Claimed_1_2 := comes_1 fun _ _ _ _ _ _ h hF => ⟨h.2.1, hF⟩
end Jvm.Pilot.@@N@@
namespace Jvm.Pilot.@@N@@
open Jvm Jvm.ClassFile Sem Op Lib Jvm.Free Jvm.Stand Jvm.Pilot.@@N@@.Jvm.D
/-! MADE BY PROGRAM (witnessworld.py) out of the Statement's table words and the real class files: 11 classes; the members and pool entries that the words name. The judged class is class 1, her method 1. -/
namespace start1
open Jvm.ClassFile
def u (s : String) : CpInfo := .utf8 (stringToUtf16 s)
/-- a pool by its gaps: so many unusable entries, then the entry; so many at the end -/
def gap : Nat → List CpInfo → List CpInfo
  | 0, r => r
  | n + 1, r => .unusable :: gap n r
def poolList (es : List (Nat × CpInfo)) (last : Nat) : List CpInfo := es.foldr (fun e r => gap e.1 (e.2 :: r)) (gap last [])
def pool (es : List (Nat × CpInfo)) (last : Nat) : Array CpInfo := ⟨poolList es last⟩
def fileOf (pool : Array CpInfo) (this : Nat) (attrs : Array Attribute := #[]) (ms : Array MethodInfo := #[]) (fl : Nat := 33) (sup : Nat := 0) (ifs : Array Nat := #[]) (fds : Array FieldInfo := #[]) : ClassFile where
  minorVersion := 0
  majorVersion := 65
  constantPool := pool
  accessFlags := fl
  thisClass := this
  superClass := sup
  interfaces := ifs
  fields := fds
  methods := ms
  attributes := attrs
def plain (name : String) (sup : Option ClassId) : Class where
  name := name
  kind := .ordinary
  loader := none
  accessFlags := 33
  super := sup
  interfaces := #[]
  cf := none
  fields := #[]
  methods := #[]
  instanceTypes := #[]
  staticTypes := #[]
  resolved := #[]
  callSites := []
  init := .initialized
  statics := none
  mirror := none

def pool0 : Array CpInfo := pool [(5, u "<init>"), (0, u "()V"), (1, .class_ 10), (1, u "java/lang/Object")] 113

def k0c0 : Code := { maxStack := 0, maxLocals := 1, code := object_method_1_code, exceptionTable := #[], attributes := #[] }
def k0m0 : Method := { name := "<init>", desc := "()V", sig := { parameters := [], returnType := none }, accessFlags := 1, code := some k0c0 }
/-- java/lang/Object -/
def k0 : Class := { plain "java/lang/Object" none with
  accessFlags := 33
  interfaces := #[]
  cf := some (fileOf pool0 8 #[] #[{ accessFlags := 1, nameIndex := 5, descriptorIndex := 6, attributes := #[] }] 33 0 #[] #[])
  fields := #[]
  methods := #[k0m0]
  instanceTypes := #[]
  staticTypes := #[]
  resolved := Array.replicate 124 none
  statics := none }

def pool1 : Array CpInfo := pool [(2, .class_ 4), (1, u "java/lang/Object"), (0, u "<init>"), (0, u "()V"), (0, .methodref 8 9), (0, .class_ 10), (0, .nameAndType 11 12), (0, u "com/example/chronotag/chronotag/cbor/CborInteger"), (0, u "of"), (0, u "(J)Lcom/example/chronotag/chronotag/cbor/CborInteger;"), (0, .methodref 8 14), (0, .nameAndType 15 16), (0, u "negative"), (0, u "()Z"), (0, .methodref 8 18), (0, .nameAndType 19 20), (0, u "argument"), (0, u "()J"), (0, .long 18446744073709551615), (1, .class_ 24), (0, u "com/example/chronotag/chronotag/cbor/CborIntegerOfPinLaw"), (2, u "law"), (0, u "(J)Z")] 3

def k1m0 : Method := { name := "<init>", desc := "()V", sig := { parameters := [], returnType := none }, accessFlags := 1, code := none }
def k1c1 : Code := { maxStack := 5, maxLocals := 9, code := code, exceptionTable := #[], attributes := #[] }
def k1m1 : Method := { name := "law", desc := "(J)Z", sig := { parameters := [.long], returnType := some .boolean }, accessFlags := 9, code := some k1c1 }
/-- com/example/chronotag/chronotag/cbor/CborIntegerOfPinLaw -/
def k1 : Class := { plain "com/example/chronotag/chronotag/cbor/CborIntegerOfPinLaw" (some 0) with
  accessFlags := 49
  interfaces := #[]
  cf := some (fileOf pool1 23 #[] #[{ accessFlags := 1, nameIndex := 5, descriptorIndex := 6, attributes := #[] }, { accessFlags := 9, nameIndex := 27, descriptorIndex := 28, attributes := #[] }] 49 2 #[] #[])
  fields := #[]
  methods := #[k1m0, k1m1]
  instanceTypes := #[]
  staticTypes := #[]
  resolved := Array.replicate 32 none
  statics := none }

def pool2 : Array CpInfo := pool [(1, .methodref 2 3), (0, .class_ 4), (0, .nameAndType 5 6), (0, u "java/lang/Object"), (0, u "<init>"), (0, u "()V"), (0, .class_ 8), (0, u "java/lang/Record")] 13

def k2c0 : Code := { maxStack := 1, maxLocals := 1, code := jdk_30_method_1_code, exceptionTable := #[], attributes := #[] }
def k2m0 : Method := { name := "<init>", desc := "()V", sig := { parameters := [], returnType := none }, accessFlags := 4, code := some k2c0 }
/-- java/lang/Record -/
def k2 : Class := { plain "java/lang/Record" (some 0) with
  accessFlags := 1057
  interfaces := #[]
  cf := some (fileOf pool2 7 #[] #[{ accessFlags := 4, nameIndex := 5, descriptorIndex := 6, attributes := #[] }] 1057 2 #[] #[])
  fields := #[]
  methods := #[k2m0]
  instanceTypes := #[]
  staticTypes := #[]
  resolved := Array.replicate 22 none
  statics := none }

def pool3 : Array CpInfo := pool [(1, .class_ 2), (0, u "com/example/chronotag/chronotag/cbor/CborItem"), (0, .class_ 4), (0, u "java/lang/Object")] 19

/-- com/example/chronotag/chronotag/cbor/CborItem -/
def k3 : Class := { plain "com/example/chronotag/chronotag/cbor/CborItem" (some 0) with
  accessFlags := 1537
  interfaces := #[]
  cf := some (fileOf pool3 1 #[] #[] 1537 3 #[] #[])
  fields := #[]
  methods := #[]
  instanceTypes := #[]
  staticTypes := #[]
  resolved := Array.replicate 24 none
  statics := none }

def pool4 : Array CpInfo := pool [(1, .methodref 2 3), (0, .class_ 4), (0, .nameAndType 5 6), (0, u "java/lang/Record"), (0, u "<init>"), (0, u "()V"), (0, .fieldref 8 9), (0, .class_ 10), (0, .nameAndType 11 12), (0, u "com/example/chronotag/chronotag/cbor/CborInteger"), (0, u "negative"), (0, u "Z"), (0, .fieldref 8 14), (0, .nameAndType 15 16), (0, u "argument"), (0, u "J"), (0, .long 18446744073709551615), (1, .methodref 8 20), (0, .nameAndType 5 21), (0, u "(ZJ)V"), (33, u "()J"), (26, .class_ 83), (0, u "com/example/chronotag/chronotag/cbor/CborItem"), (3, u "of"), (0, u "(J)Lcom/example/chronotag/chronotag/cbor/CborInteger;"), (4, u "()Z")] 18

def k4c0 : Code := { maxStack := 3, maxLocals := 4, code := prog_26_method_1_code, exceptionTable := #[], attributes := #[] }
def k4m0 : Method := { name := "<init>", desc := "(ZJ)V", sig := { parameters := [.boolean, .long], returnType := none }, accessFlags := 1, code := some k4c0 }
def k4c1 : Code := { maxStack := 7, maxLocals := 2, code := prog_26_method_2_code, exceptionTable := #[], attributes := #[] }
def k4m1 : Method := { name := "of", desc := "(J)Lcom/example/chronotag/chronotag/cbor/CborInteger;", sig := { parameters := [.long], returnType := some (.object "com/example/chronotag/chronotag/cbor/CborInteger") }, accessFlags := 9, code := some k4c1 }
def k4c2 : Code := { maxStack := 1, maxLocals := 1, code := prog_26_method_8_code, exceptionTable := #[], attributes := #[] }
def k4m2 : Method := { name := "negative", desc := "()Z", sig := { parameters := [], returnType := some .boolean }, accessFlags := 1, code := some k4c2 }
def k4c3 : Code := { maxStack := 2, maxLocals := 1, code := prog_26_method_9_code, exceptionTable := #[], attributes := #[] }
def k4m3 : Method := { name := "argument", desc := "()J", sig := { parameters := [], returnType := some .long }, accessFlags := 1, code := some k4c3 }
/-- com/example/chronotag/chronotag/cbor/CborInteger -/
def k4 : Class := { plain "com/example/chronotag/chronotag/cbor/CborInteger" (some 2) with
  accessFlags := 49
  interfaces := #[3]
  cf := some (fileOf pool4 8 #[] #[{ accessFlags := 1, nameIndex := 5, descriptorIndex := 21, attributes := #[] }, { accessFlags := 9, nameIndex := 87, descriptorIndex := 88, attributes := #[] }, { accessFlags := 1, nameIndex := 11, descriptorIndex := 93, attributes := #[] }, { accessFlags := 1, nameIndex := 15, descriptorIndex := 55, attributes := #[] }] 49 2 #[82] #[{ accessFlags := 18, nameIndex := 11, descriptorIndex := 12, attributes := #[] }, { accessFlags := 18, nameIndex := 15, descriptorIndex := 16, attributes := #[] }])
  fields := #[{ name := "negative", type := .boolean, accessFlags := 18, slot := 0, constantValue := 0 }, { name := "argument", type := .long, accessFlags := 18, slot := 1, constantValue := 0 }]
  methods := #[k4m0, k4m1, k4m2, k4m3]
  instanceTypes := #[.boolean, .long]
  staticTypes := #[]
  resolved := Array.replicate 112 none
  statics := none }

def pool5 : Array CpInfo := pool [(1, u "java/lang/Cloneable"), (0, .class_ 1), (0, u "java/lang/Object"), (0, .class_ 3)] 3

/-- java/lang/Cloneable -/
def k5 : Class := { plain "java/lang/Cloneable" (some 0) with
  accessFlags := 1537
  interfaces := #[]
  cf := some (fileOf pool5 2 #[] #[] 1537 4 #[] #[])
  fields := #[]
  methods := #[]
  instanceTypes := #[]
  staticTypes := #[]
  resolved := Array.replicate 8 none
  statics := none }

def pool6 : Array CpInfo := pool [(1, u "java/io/Serializable"), (0, .class_ 1), (0, u "java/lang/Object"), (0, .class_ 3)] 3

/-- java/io/Serializable -/
def k6 : Class := { plain "java/io/Serializable" (some 0) with
  accessFlags := 1537
  interfaces := #[]
  cf := some (fileOf pool6 2 #[] #[] 1537 4 #[] #[])
  fields := #[]
  methods := #[]
  instanceTypes := #[]
  staticTypes := #[]
  resolved := Array.replicate 8 none
  statics := none }

/-- the primitive byte -/
def k7 : Class := { plain "byte" none with kind := .primitive 'B', accessFlags := 0x411 }
/-- [B -/
def k8 : Class := { plain "[B" (some 0) with kind := .array 7 .byte, interfaces := #[5, 6], accessFlags := 1041 }

/-- the primitive int -/
def k9 : Class := { plain "int" none with kind := .primitive 'I', accessFlags := 0x411 }
/-- [I -/
def k10 : Class := { plain "[I" (some 0) with kind := .array 9 .int, interfaces := #[5, 6], accessFlags := 1041 }

def heap : Heap := #[]
def classes : Array Class := #[k0, k1, k2, k3, k4, k5, k6, k7, k8, k9, k10]
def interned : List (Array UInt16 × Addr) := []
def slotsUsed : Nat := 0
def theMethod : MethodId := ⟨1, 1⟩
def args0 : Array Value := #[.long 5]
def aboutOver (below : List Frame) : State where
  vm := { classes := classes, interned := interned.toArray }
  heap := heap
  slotsUsed := slotsUsed
  threads := #[{ frames := .invoking theMethod args0 :: below }]
def below0 : List Frame := [.native { method := ⟨0, 0⟩, args := #[] }]
def about1 : State := aboutOver below0
def p0 : Program := .bare "" "" ""
def e0 : Env := launch0.env 0 0 0
theorem w_frames : about1.frames = Frame.invoking theMethod args0 :: below0 := rfl
set_option maxRecDepth 65536 in
theorem w_args : argsFit about1.vm theMethod args0 = true := by decide +kernel
set_option maxRecDepth 65536 in
theorem w_heap : heapFits about1 = true := by decide +kernel
set_option maxRecDepth 65536 in
theorem w_runnable : about1.curStatus? = some .runnable := by decide +kernel
set_option maxRecDepth 65536 in
theorem w_alone : about1.alone = true := by decide +kernel
set_option maxRecDepth 65536 in
theorem w_named : about1.methodNamed? x = some theMethod := by decide +kernel
set_option maxRecDepth 65536 in
theorem w_hears : about1.hears theMethod below0 = true := by decide +kernel
set_option maxRecDepth 65536 in
theorem w_ripe : about1.ripe theMethod args0 below0 = true := by decide +kernel
theorem w_running : about1.status = .running := rfl
set_option maxRecDepth 65536 in
theorem w_room : about1.hasRoom e0.platform room_1 = true :=
  launch0.hasRoom_least _ room_1 (by decide +kernel) (by decide +kernel) (by decide +kernel) (by decide +kernel) (by decide +kernel) (by decide +kernel)
theorem allAtoms_all (ts : List Jvm.Cond) (a : Array Jvm.Value) (st : Jvm.State) : (allAtoms ts).before a st = ts.all (fun c => c.before a st) := by
  induction ts with
  | nil => rfl
  | cons c t ih =>
    show (Jvm.Cond.and c (allAtoms t)).before a st = _
    rw [Jvm.Cond.before_and, ih, List.all_cons]
def words1 : List Jvm.Cond := Jvm.Cond.code x code maxLocals ret :: tables_1
/-- a 'code' word, met by the world's own term for the bytes: nothing is compared byte by byte -/
theorem code_word {y : MethodName} {bytes : ByteArray} {mx : Nat} {rt : Option FieldType} {a : Array Value} {s : State} {m : MethodId} {meth : Method} {c : Code} (h1 : s.methodNamed? y = some m) (h2 : s.vm.method? m = some meth) (h3 : meth.code = some c) (h4 : c.code = bytes)
    (h5 : (c.maxLocals == mx && c.exceptionTable.isEmpty && decide (c.maxStack ≤ mostOperands) && decide (meth.sig.returnType = rt) && !meth.locks && decide (parseMethodDescriptor y.desc = some meth.sig)) = true) : (Jvm.Cond.code y bytes mx rt).before a s = true := by
  simp only [Bool.and_eq_true, beq_iff_eq, Bool.not_eq_true', decide_eq_true_eq] at h5
  obtain ⟨⟨⟨⟨⟨g1, g2⟩, g3⟩, g4⟩, g5⟩, g6⟩ := h5
  simp [Cond.before, Cond.holds, Cond.value, h1, h2, h3, h4, g1, g2, g3, g4, g5, g6]
def isCode : Jvm.Cond → Bool
  | .code _ _ _ _ => true
  | _ => false
theorem all_split {L : List Jvm.Cond} {P : Jvm.Cond → Bool} (h1 : L.all (fun c => isCode c || P c) = true) (h2 : ∀ c ∈ L.filter isCode, P c = true) : L.all P = true := by
  refine List.all_eq_true.mpr fun c hc => ?_
  have h := List.all_eq_true.mp h1 c hc
  rcases Bool.eq_false_or_eq_true (isCode c) with hi | hi
  · exact h2 c (List.mem_filter.mpr ⟨hc, hi⟩)
  · simpa [hi] using h
set_option maxRecDepth 65536 in
theorem w_c0 : (Jvm.Cond.code x code maxLocals ret).before args0 about1 = true := code_word (m := ⟨1, 1⟩) (meth := k1m1) (c := k1c1) (by decide +kernel) rfl rfl rfl (by decide +kernel)
set_option maxRecDepth 65536 in
theorem w_c1 : (Jvm.Cond.code ({ cls := "com/example/chronotag/chronotag/cbor/CborInteger", name := "of", desc := "(J)Lcom/example/chronotag/chronotag/cbor/CborInteger;" } : Jvm.MethodName) prog_26_method_2_code (2 : Nat) (Option.some (Jvm.ClassFile.FieldType.object "com/example/chronotag/chronotag/cbor/CborInteger"))).before args0 about1 = true := code_word (m := ⟨4, 1⟩) (meth := k4m1) (c := k4c1) (by decide +kernel) rfl rfl rfl (by decide +kernel)
set_option maxRecDepth 65536 in
theorem w_c2 : (Jvm.Cond.code ({ cls := "com/example/chronotag/chronotag/cbor/CborInteger", name := "<init>", desc := "(ZJ)V" } : Jvm.MethodName) prog_26_method_1_code (4 : Nat) (Option.none : Option Jvm.ClassFile.FieldType)).before args0 about1 = true := code_word (m := ⟨4, 0⟩) (meth := k4m0) (c := k4c0) (by decide +kernel) rfl rfl rfl (by decide +kernel)
set_option maxRecDepth 65536 in
theorem w_c3 : (Jvm.Cond.code ({ cls := "java/lang/Record", name := "<init>", desc := "()V" } : Jvm.MethodName) jdk_30_method_1_code (1 : Nat) (Option.none : Option Jvm.ClassFile.FieldType)).before args0 about1 = true := code_word (m := ⟨2, 0⟩) (meth := k2m0) (c := k2c0) (by decide +kernel) rfl rfl rfl (by decide +kernel)
set_option maxRecDepth 65536 in
theorem w_c4 : (Jvm.Cond.code ({ cls := "java/lang/Object", name := "<init>", desc := "()V" } : Jvm.MethodName) object_method_1_code (1 : Nat) (Option.none : Option Jvm.ClassFile.FieldType)).before args0 about1 = true := code_word (m := ⟨0, 0⟩) (meth := k0m0) (c := k0c0) (by decide +kernel) rfl rfl rfl (by decide +kernel)
set_option maxRecDepth 65536 in
theorem w_c5 : (Jvm.Cond.code ({ cls := "com/example/chronotag/chronotag/cbor/CborInteger", name := "negative", desc := "()Z" } : Jvm.MethodName) prog_26_method_8_code (1 : Nat) (Option.some Jvm.ClassFile.FieldType.boolean)).before args0 about1 = true := code_word (m := ⟨4, 2⟩) (meth := k4m2) (c := k4c2) (by decide +kernel) rfl rfl rfl (by decide +kernel)
set_option maxRecDepth 65536 in
theorem w_c6 : (Jvm.Cond.code ({ cls := "com/example/chronotag/chronotag/cbor/CborInteger", name := "argument", desc := "()J" } : Jvm.MethodName) prog_26_method_9_code (1 : Nat) (Option.some Jvm.ClassFile.FieldType.long)).before args0 about1 = true := code_word (m := ⟨4, 3⟩) (meth := k4m3) (c := k4c3) (by decide +kernel) rfl rfl rfl (by decide +kernel)
def codes1 : List Jvm.Cond := [Jvm.Cond.code x code maxLocals ret, Jvm.Cond.code ({ cls := "com/example/chronotag/chronotag/cbor/CborInteger", name := "of", desc := "(J)Lcom/example/chronotag/chronotag/cbor/CborInteger;" } : Jvm.MethodName) prog_26_method_2_code (2 : Nat) (Option.some (Jvm.ClassFile.FieldType.object "com/example/chronotag/chronotag/cbor/CborInteger")), Jvm.Cond.code ({ cls := "com/example/chronotag/chronotag/cbor/CborInteger", name := "<init>", desc := "(ZJ)V" } : Jvm.MethodName) prog_26_method_1_code (4 : Nat) (Option.none : Option Jvm.ClassFile.FieldType), Jvm.Cond.code ({ cls := "java/lang/Record", name := "<init>", desc := "()V" } : Jvm.MethodName) jdk_30_method_1_code (1 : Nat) (Option.none : Option Jvm.ClassFile.FieldType), Jvm.Cond.code ({ cls := "java/lang/Object", name := "<init>", desc := "()V" } : Jvm.MethodName) object_method_1_code (1 : Nat) (Option.none : Option Jvm.ClassFile.FieldType), Jvm.Cond.code ({ cls := "com/example/chronotag/chronotag/cbor/CborInteger", name := "negative", desc := "()Z" } : Jvm.MethodName) prog_26_method_8_code (1 : Nat) (Option.some Jvm.ClassFile.FieldType.boolean), Jvm.Cond.code ({ cls := "com/example/chronotag/chronotag/cbor/CborInteger", name := "argument", desc := "()J" } : Jvm.MethodName) prog_26_method_9_code (1 : Nat) (Option.some Jvm.ClassFile.FieldType.long)]
set_option maxRecDepth 65536 in
theorem codes_eq : words1.filter isCode = codes1 := rfl
theorem w_codes : ∀ c ∈ words1.filter isCode, c.before args0 about1 = true := by
  rw [codes_eq]
  intro c hc
  simp only [codes1, List.mem_cons, List.not_mem_nil, or_false] at hc
  rcases hc with rfl | rfl | rfl | rfl | rfl | rfl | rfl
  · exact w_c0
  · exact w_c1
  · exact w_c2
  · exact w_c3
  · exact w_c4
  · exact w_c5
  · exact w_c6
set_option maxRecDepth 65536 in
theorem w_t1 : (words1.take 24).all (fun c => isCode c || c.before args0 about1) = true := by decide +kernel
set_option maxRecDepth 65536 in
theorem w_t2 : (words1.drop 24).all (fun c => isCode c || c.before args0 about1) = true := by decide +kernel
theorem w_tables : (allAtoms (Jvm.Cond.code x code maxLocals ret :: tables_1)).before args0 about1 = true := by
  rw [allAtoms_all]
  show words1.all (fun c => c.before args0 about1) = true
  refine all_split ?_ w_codes
  rw [← List.take_append_drop 24 words1, List.all_append, w_t1, w_t2]
  rfl
set_option maxRecDepth 65536 in
theorem w_case : (Jvm.Cond.and given_1 narrow_1).before args0 about1 = true := by decide +kernel
theorem w_applies : (headSpec (Jvm.Cond.code x code maxLocals ret :: tables_1) room_1).applies x e0.platform about1 = true :=
  (Spec.applies_iff w_frames).mpr ⟨w_running, w_runnable, w_alone, w_named, w_hears, w_ripe, w_room, w_tables⟩
theorem atStart : AtStart classFile x code maxLocals ret World_1 tables_1 room_1 Calls_1 rest_1 Pre_1 launch0 p0 e0 about1 theMethod args0 below0 :=
  ⟨lists_1, trivial, launch0.admits_env _ _ _, launch0.least_env, fairChoices_fair.cas, fairChoices_fair.clock, w_frames, w_args, w_heap, w_applies, trivial, trivial, w_case⟩
end start1
theorem witness_1 : WitnessClaimed_1 := ⟨start1.p0, start1.e0, start1.about1, start1.theMethod, start1.args0, start1.below0, start1.atStart⟩
end Jvm.Pilot.@@N@@
