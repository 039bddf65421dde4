import JvmDerived
import JvmDerived.Pilot.@@N@@Statement
import JvmDerived.Pilot.@@N@@Code
set_option linter.unusedVariables false
set_option linter.unusedSimpArgs false
namespace Jvm.RoadKit
open Sem ClassFile Op Lib Jvm.Stand Jvm.Free Jvm.LawKit
section New
variable {p : Program} {l : Launch} {e : Env} {R : Room} {s : State} {m : MethodId} {args : Array Value} {below : List Frame} {meth : Method} {c : Code} {T T' : State} {locs : List Loc} {cells slots : Nat}
theorem retI (X : Stand p l e R s m args below meth c T locs cells slots) (hx : p.tables.exec = Jvm.exec) {pc : Nat} {Ls : Array Slot} {z : Int32} {rest : List Value} (hret : meth.sig.returnType = some .int) (hd : decode c.code pc = .ok (.ireturn, 1)) {fs : List Frame}
    (hl : ∀ (f : JFrame) (acts : List Action), f.method = m → f.locked = none → f.entered = [] → (doReturn e (T.setTop f) acts (some (.int z))).1 = T.setFrames fs) : Steps p.tables e below (T.setTop (mkF m pc Ls (.int z :: rest))) (T.setFrames fs) := by
  have hm' : T.vm.method? m = some meth := X.method'
  have hn : narrow .int (.int z) = .int z := rfl
  show Steps p.tables e below (T.setTop { method := m, pc := pc, locals := Ls, stack := _ :: rest, locked := none }) _
  jvm_step X.here [X.here.top, hx, hd, hm', hret, hn]
  first | (intro acts; rw [hl _ acts rfl rfl rfl]) | rw [hl _ _ rfl rfl rfl]
  exact Steps.refl _
/-- from this frame the run comes to an end of which P holds -/
def OEnds (p : Program) (e : Env) (below : List Frame) (P : Outcome → State → Prop) (T : State) (g : JFrame) : Prop :=
  ∃ s₂ o, Steps p.tables e below (T.setTop g) s₂ ∧ s₂.status = .running ∧ Ended s₂ below o ∧ P o s₂
theorem OEnds.go {P : Outcome → State → Prop} {g g' : JFrame} (h : ∀ t, Steps p.tables e below (T'.setTop g') t → Steps p.tables e below (T.setTop g) t) (k : OEnds p e below P T' g') : OEnds p e below P T g := by
  obtain ⟨s₂, o, h1, h2⟩ := k
  exact ⟨s₂, o, h _ h1, h2⟩
theorem OEnds.tr {P : Outcome → State → Prop} {g g' : JFrame} (h : Steps p.tables e below (T.setTop g) (T'.setTop g')) (k : OEnds p e below P T' g') : OEnds p e below P T g :=
  OEnds.go (fun _ q => h.trans q) k
/-- what a contract of this family says of the end -/
def OEndP (s : State) (Q : Option Value → Heap → List Loc → Prop) (C N : Nat) (o : Outcome) (U' : State) : Prop := ∃ v L, o = .returned v ∧ Q v U'.heap L ∧ FrameEnd s o U' L C N
theorem OEnds.out (X : Stand p l e R s m args below meth c T locs cells slots) (hlocks : meth.locks = false) {v : Option Value} (hv : meth.sig.returnType = none → v = none) {Q : Option Value → Heap → List Loc → Prop} {C N : Nat} {g : JFrame}
    (hs : ∀ fs, (∀ (f : JFrame) (acts : List Action), f.method = m → f.locked = none → f.entered = [] → (doReturn e (T.setTop f) acts v).1 = T.setFrames fs) → Steps p.tables e below (T.setTop g) (T.setFrames fs))
    (hq : Q v T.heap locs) (hc : cells ≤ C) (hn : slots ≤ N) : OEnds p e below (OEndP s Q C N) T g := by
  obtain ⟨fs, hr, hrun, hended, hW, hsame⟩ := X.leave (v := v) hv hlocks
  exact ⟨_, _, hs fs hr, hrun, hended, _, _, rfl, hq, ⟨_, rfl⟩, hW, hsame.mono hc hn⟩
theorem OEnds.outN (X : Stand p l e R s m args below meth c T locs cells slots) (hlocks : meth.locks = false) (hx : p.tables.exec = Jvm.exec) {pc : Nat} {Ls : Array Slot} {z : Int32} {t : FieldType} {rest : List Value} (hret : meth.sig.returnType = some t) (ht : t = .boolean ∨ t = .byte ∨ t = .char ∨ t = .short)
    (hd : decode c.code pc = .ok (.ireturn, 1)) {Q : Option Value → Heap → List Loc → Prop} {C N : Nat} (hq : Q (some (.int (nar t z))) T.heap locs) (hc : cells ≤ C) (hn : slots ≤ N) : OEnds p e below (OEndP s Q C N) T (mkF m pc Ls (.int z :: rest)) :=
  OEnds.out X hlocks (fun h => by rw [hret] at h; cases h) (fun fs hr => retN X hx hret ht hd hr) hq hc hn
theorem OEnds.outI (X : Stand p l e R s m args below meth c T locs cells slots) (hlocks : meth.locks = false) (hx : p.tables.exec = Jvm.exec) {pc : Nat} {Ls : Array Slot} {z : Int32} {rest : List Value} (hret : meth.sig.returnType = some .int)
    (hd : decode c.code pc = .ok (.ireturn, 1)) {Q : Option Value → Heap → List Loc → Prop} {C N : Nat} (hq : Q (some (.int z)) T.heap locs) (hc : cells ≤ C) (hn : slots ≤ N) : OEnds p e below (OEndP s Q C N) T (mkF m pc Ls (.int z :: rest)) :=
  OEnds.out X hlocks (fun h => by rw [hret] at h; cases h) (fun fs hr => retI X hx hret hd hr) hq hc hn
theorem OEnds.outJ (X : Stand p l e R s m args below meth c T locs cells slots) (hlocks : meth.locks = false) (hx : p.tables.exec = Jvm.exec) {pc : Nat} {Ls : Array Slot} {z : Int64} {rest : List Value} (hret : meth.sig.returnType = some .long)
    (hd : decode c.code pc = .ok (.lreturn, 1)) {Q : Option Value → Heap → List Loc → Prop} {C N : Nat} (hq : Q (some (.long z)) T.heap locs) (hc : cells ≤ C) (hn : slots ≤ N) : OEnds p e below (OEndP s Q C N) T (mkF m pc Ls (.long z :: rest)) :=
  OEnds.out X hlocks (fun h => by rw [hret] at h; cases h) (fun fs hr => retOut X hx hret rfl (Or.inr (Or.inl ⟨rfl, rfl, z, rfl⟩)) hd hr) hq hc hn
theorem OEnds.outA (X : Stand p l e R s m args below meth c T locs cells slots) (hlocks : meth.locks = false) (hx : p.tables.exec = Jvm.exec) {pc : Nat} {Ls : Array Slot} {w : Value} {t : FieldType} {rest : List Value} (hret : meth.sig.returnType = some t) (ht : t.isReference = true) (hw : w.isRef = true)
    (hd : decode c.code pc = .ok (.areturn, 1)) {Q : Option Value → Heap → List Loc → Prop} {C N : Nat} (hq : Q (some w) T.heap locs) (hc : cells ≤ C) (hn : slots ≤ N) : OEnds p e below (OEndP s Q C N) T (mkF m pc Ls (w :: rest)) :=
  OEnds.out X hlocks (fun h => by rw [hret] at h; cases h) (fun fs hr => retOut X hx hret (by rcases ref_cases hw with rfl | ⟨a, rfl⟩ <;> cases t <;> first | rfl | cases ht) (Or.inr (Or.inr (Or.inr (Or.inr ⟨rfl, ht, hw⟩)))) hd hr) hq hc hn
theorem OEnds.outV (X : Stand p l e R s m args below meth c T locs cells slots) (hlocks : meth.locks = false) (hx : p.tables.exec = Jvm.exec) {pc : Nat} {Ls : Array Slot} (hret : meth.sig.returnType = none)
    (hd : decode c.code pc = .ok (.return_, 1)) {Q : Option Value → Heap → List Loc → Prop} {C N : Nat} (hq : Q none T.heap locs) (hc : cells ≤ C) (hn : slots ≤ N) : OEnds p e below (OEndP s Q C N) T (mkF m pc Ls []) :=
  OEnds.out X hlocks (fun _ => rfl) (fun fs hr => X.returnOut hx hret hd hr) hq hc hn
end New
end Jvm.RoadKit
namespace Jvm.Pilot.@@N@@
open Jvm Jvm.ClassFile Sem Op Lib Jvm.Free Jvm.Stand Jvm.LawKit Jvm.RoadKit Bundle Jvm.Pilot.@@N@@.Jvm.D
theorem d1_0 : decode prog_26_method_1_code 0 = .ok (.aload_n 0, 1) := by decide +kernel
theorem d1_1 : decode prog_26_method_1_code 1 = .ok (.invokespecial 1, 3) := by decide +kernel
theorem d1_4 : decode prog_26_method_1_code 4 = .ok (.aload_n 0, 1) := by decide +kernel
theorem d1_5 : decode prog_26_method_1_code 5 = .ok (.iload_n 1, 1) := by decide +kernel
theorem d1_6 : decode prog_26_method_1_code 6 = .ok (.putfield 7, 3) := by decide +kernel
theorem d1_9 : decode prog_26_method_1_code 9 = .ok (.aload_n 0, 1) := by decide +kernel
theorem d1_10 : decode prog_26_method_1_code 10 = .ok (.lload_n 2, 1) := by decide +kernel
theorem d1_11 : decode prog_26_method_1_code 11 = .ok (.putfield 13, 3) := by decide +kernel
theorem d1_14 : decode prog_26_method_1_code 14 = .ok (.return_, 1) := by decide +kernel
theorem d2_0 : decode jdk_30_method_1_code 0 = .ok (.aload_n 0, 1) := by decide +kernel
theorem d2_1 : decode jdk_30_method_1_code 1 = .ok (.invokespecial 1, 3) := by decide +kernel
theorem d2_4 : decode jdk_30_method_1_code 4 = .ok (.return_, 1) := by decide +kernel
theorem d4_0 : decode prog_26_method_5_code 0 = .ok (.aload_n 1, 1) := by decide +kernel
theorem d4_1 : decode prog_26_method_5_code 1 = .ok (.instanceof 8, 3) := by decide +kernel
theorem d4_4 : decode prog_26_method_5_code 4 = .ok (.ifCond .eq 35, 3) := by decide +kernel
theorem d4_7 : decode prog_26_method_5_code 7 = .ok (.aload_n 1, 1) := by decide +kernel
theorem d4_8 : decode prog_26_method_5_code 8 = .ok (.checkcast 8, 3) := by decide +kernel
theorem d4_11 : decode prog_26_method_5_code 11 = .ok (.astore_n 2, 1) := by decide +kernel
theorem d4_12 : decode prog_26_method_5_code 12 = .ok (.aload_n 0, 1) := by decide +kernel
theorem d4_13 : decode prog_26_method_5_code 13 = .ok (.getfield 7, 3) := by decide +kernel
theorem d4_16 : decode prog_26_method_5_code 16 = .ok (.aload_n 2, 1) := by decide +kernel
theorem d4_17 : decode prog_26_method_5_code 17 = .ok (.getfield 7, 3) := by decide +kernel
theorem d4_20 : decode prog_26_method_5_code 20 = .ok (.if_icmp .ne 19, 3) := by decide +kernel
theorem d4_23 : decode prog_26_method_5_code 23 = .ok (.aload_n 0, 1) := by decide +kernel
theorem d4_24 : decode prog_26_method_5_code 24 = .ok (.getfield 13, 3) := by decide +kernel
theorem d4_27 : decode prog_26_method_5_code 27 = .ok (.aload_n 2, 1) := by decide +kernel
theorem d4_28 : decode prog_26_method_5_code 28 = .ok (.getfield 13, 3) := by decide +kernel
theorem d4_31 : decode prog_26_method_5_code 31 = .ok (.lcmp, 1) := by decide +kernel
theorem d4_32 : decode prog_26_method_5_code 32 = .ok (.ifCond .ne 7, 3) := by decide +kernel
theorem d4_35 : decode prog_26_method_5_code 35 = .ok (.iconst 1, 1) := by decide +kernel
theorem d4_36 : decode prog_26_method_5_code 36 = .ok (.goto 4, 3) := by decide +kernel
theorem d4_39 : decode prog_26_method_5_code 39 = .ok (.iconst 0, 1) := by decide +kernel
theorem d4_40 : decode prog_26_method_5_code 40 = .ok (.ireturn, 1) := by decide +kernel
theorem d5_0 : decode prog_26_method_6_code 0 = .ok (.bipush 31, 2) := by decide +kernel
theorem d5_2 : decode prog_26_method_6_code 2 = .ok (.aload_n 0, 1) := by decide +kernel
theorem d5_3 : decode prog_26_method_6_code 3 = .ok (.getfield 7, 3) := by decide +kernel
theorem d5_6 : decode prog_26_method_6_code 6 = .ok (.invokestatic 66, 3) := by decide +kernel
theorem d5_9 : decode prog_26_method_6_code 9 = .ok (.imul, 1) := by decide +kernel
theorem d5_10 : decode prog_26_method_6_code 10 = .ok (.aload_n 0, 1) := by decide +kernel
theorem d5_11 : decode prog_26_method_6_code 11 = .ok (.getfield 13, 3) := by decide +kernel
theorem d5_14 : decode prog_26_method_6_code 14 = .ok (.invokestatic 72, 3) := by decide +kernel
theorem d5_17 : decode prog_26_method_6_code 17 = .ok (.iadd, 1) := by decide +kernel
theorem d5_18 : decode prog_26_method_6_code 18 = .ok (.ireturn, 1) := by decide +kernel
theorem d6_0 : decode jdk_2055_method_10_code 0 = .ok (.iload_n 0, 1) := by decide +kernel
theorem d6_1 : decode jdk_2055_method_10_code 1 = .ok (.ifCond .eq 9, 3) := by decide +kernel
theorem d6_4 : decode jdk_2055_method_10_code 4 = .ok (.sipush 1231, 3) := by decide +kernel
theorem d6_7 : decode jdk_2055_method_10_code 7 = .ok (.goto 6, 3) := by decide +kernel
theorem d6_10 : decode jdk_2055_method_10_code 10 = .ok (.sipush 1237, 3) := by decide +kernel
theorem d6_13 : decode jdk_2055_method_10_code 13 = .ok (.ireturn, 1) := by decide +kernel
theorem d7_0 : decode jdk_35_method_36_code 0 = .ok (.lload_n 0, 1) := by decide +kernel
theorem d7_1 : decode jdk_35_method_36_code 1 = .ok (.lload_n 0, 1) := by decide +kernel
theorem d7_2 : decode jdk_35_method_36_code 2 = .ok (.bipush 32, 2) := by decide +kernel
theorem d7_4 : decode jdk_35_method_36_code 4 = .ok (.lushr, 1) := by decide +kernel
theorem d7_5 : decode jdk_35_method_36_code 5 = .ok (.lxor, 1) := by decide +kernel
theorem d7_6 : decode jdk_35_method_36_code 6 = .ok (.l2i, 1) := by decide +kernel
theorem d7_7 : decode jdk_35_method_36_code 7 = .ok (.ireturn, 1) := by decide +kernel
theorem d8_0 : decode prog_25_method_1_code 0 = .ok (.aload_n 0, 1) := by decide +kernel
theorem d8_1 : decode prog_25_method_1_code 1 = .ok (.invokespecial 1, 3) := by decide +kernel
theorem d8_4 : decode prog_25_method_1_code 4 = .ok (.aload_n 0, 1) := by decide +kernel
theorem d8_5 : decode prog_25_method_1_code 5 = .ok (.dload_n 1, 1) := by decide +kernel
theorem d8_6 : decode prog_25_method_1_code 6 = .ok (.putfield 7, 3) := by decide +kernel
theorem d8_9 : decode prog_25_method_1_code 9 = .ok (.return_, 1) := by decide +kernel
theorem pn_0 : plainName "java/lang/Record" = true := by first | (simp [plainName, overriddenIn]; done) | decide +kernel
theorem pn_1 : plainName "com/example/chronotag/chronotag/cbor/CborInteger" = true := by first | (simp [plainName, overriddenIn]; done) | decide +kernel
theorem pn_2 : plainName "com/example/chronotag/chronotag/cbor/CborFloat" = true := by first | (simp [plainName, overriddenIn]; done) | decide +kernel
theorem pn_3 : plainName "java/lang/Boolean" = true := by first | (simp [plainName, overriddenIn]; done) | decide +kernel
theorem pn_4 : plainName "java/lang/Long" = true := by first | (simp [plainName, overriddenIn]; done) | decide +kernel
theorem pn_5 : plainName "com/example/chronotag/chronotag/cbor/CborIntegerEqualsPinLaw" = true := by first | (simp [plainName, overriddenIn]; done) | decide +kernel
theorem pd_0 : parseMethodDescriptor "()V" = some ⟨[], none⟩ := by decide +kernel
theorem pd_1 : parseMethodDescriptor "(Z)I" = some ⟨[.boolean], some .int⟩ := by decide +kernel
theorem pd_2 : parseMethodDescriptor "(J)I" = some ⟨[.long], some .int⟩ := by decide +kernel
theorem pd_3 : parseMethodDescriptor "(ZJ)V" = some ⟨[.boolean, .long], none⟩ := by decide +kernel
theorem pd_4 : parseMethodDescriptor "(Ljava/lang/Object;)Z" = some ⟨[(.object "java/lang/Object")], some .boolean⟩ := by decide +kernel
theorem pd_5 : parseMethodDescriptor "()I" = some ⟨[], some .int⟩ := by decide +kernel
theorem pd_6 : parseMethodDescriptor "(D)V" = some ⟨[.double], none⟩ := by decide +kernel
theorem own_nat (c : Int32) (h0 : 0 ≤ c.toInt) : c = Int32.ofNat c.toInt.toNat := by
  apply Int32.toInt_inj.mp
  have h1 := c.toInt_lt
  rw [Int32.toInt_ofNat_of_lt (by omega)]
  omega
theorem own_fin {P : Int32 → Prop} (K : Nat) (h : ∀ n : Fin K, P (Int32.ofNat n.1)) (c : Int32) (h0 : 0 ≤ c.toInt) (h1 : c.toInt < K) : P c := by
  rw [own_nat c h0]; exact h ⟨c.toInt.toNat, by omega⟩
theorem own_fin' {P : Int32 → Prop} (K : Nat) (c : Int32) (h0 : 0 ≤ c.toInt) (h1 : c.toInt < K) (h : ∀ n : Fin K, P (Int32.ofNat n.1)) : P c := own_fin K h c h0 h1
theorem own_no {G : Prop} {x : Int32} (h : x = 1) (h' : x = 0) : G := absurd (h.symm.trans h') (by decide)
theorem own_eqint {args : Array Value} {Z : State} {t : Term} {n : Int32} (h : (Jvm.Cond.eq t (.int n)).value args Z none Z [] = some true) : t.eval args Z none [] Z = some (.int n) := by
  simp only [Cond.value, Term.eval] at h
  cases ht : t.eval args Z none [] Z with
  | none => simp [ht] at h
  | some x => cases x <;> simp [ht] at h ⊢; exact h
theorem own_len {args : Array Value} {Z : State} {t : Term} {x : Addr} {cl : Cell} {ty : FieldType} {n : Int32} (ht : t.eval args Z none [] Z = some (.ref x)) (A : Arr Z Z.heap x cl ty) (h : (Jvm.Cond.eq (.length t) (.int n)).value args Z none Z [] = some true) : cl.slots.size < 2 ^ 31 ∧ cl.slots.size.toInt32 = n := by
  have e := own_eqint h
  have ha : Z.arrayAt? x = some cl := A.fin (Vm.Alike.refl _)
  by_cases hl : cl.slots.size < 2 ^ 31
  · rw [len_f ht ha hl] at e
    exact ⟨hl, Value.int.inj (Option.some.inj e)⟩
  · simp [Term.eval, ht, ha, hl] at e
theorem own_elem {args : Array Value} {Z : State} {t u : Term} {x y : Addr} {cl : Cell} {j : Int32} (ht : t.eval args Z none [] Z = some (.ref x)) (hc : Z.heap[x]? = some cl) (hu : u.eval args Z none [] Z = some (.ref y)) (h : (Jvm.Cond.eq (.elem t (.int j)) u).value args Z none Z [] = some true) : cl.slots[j.toNatClampNeg]? = some (.ref y) := by
  obtain ⟨v, w, e1, e2, -⟩ := cmp_v (Or.inl h)
  cases hu.symm.trans e2
  obtain ⟨h1, h2⟩ := elem_in e1 ht (Term.int_eval j) hc
  have hr : v.isRef = true := by
    have := h
    cases v <;> simp [Cond.value, e1, e2, Value.isRef] at this ⊢
  have q := gotT (eq_R e1 e2 hr rfl) h
  rw [h2, q]
theorem own_fldI {args : Array Value} {Z : State} {t : Term} {x : Addr} {C n d : String} {v : Int32} (ht : t.eval args Z none [] Z = some (.ref x)) (h : (Jvm.Cond.eq (.field t C n d) (.int v)).value args Z none Z [] = some true) : Fld Z Z.heap x C n d (.int v) := by
  have e := own_eqint h
  rw [fld_at ht] at e
  exact Fld.start e
theorem own_catI (x : Int32) : (Value.int x).category = 1 := rfl
theorem own_catJ (x : Int64) : (Value.long x).category = 2 := rfl
theorem own_catR (x : Addr) : (Value.ref x).category = 1 := rfl
theorem own_catN : (Value.null).category = 1 := rfl
theorem own_cat {v : Value} (h : v.isRef = true) : v.category = 1 := by rcases ref_cases h with rfl | ⟨_, rfl⟩ <;> rfl
theorem ef_rm2 (m : MethodId) (x0 : Addr) : entryFrame m #[(.ref x0)] 1 = mkF m 0 #[.val (.ref x0)] [] := by first | (simp [entryFrame, mkF, argsToLocals, Value.category]; done) | rfl
def Q_rm2 (Z : State) (a0 : Addr) (h0 : Heap) (n0 : Nat) (v : Option Value) (h : Heap) (L : List Loc) : Prop := v = none ∧ Fr n0 L ∧ h = h0
set_option maxRecDepth 65536 in
set_option maxHeartbeats 40000000 in
theorem rm2 (l : Launch) (Z : State) (a0 : Array Value) (hw : ∀ d ∈ tables_1, d.before a0 Z = true) (ws : List Jvm.Cond) (a0 : Addr) (h0 : Heap) (n0 : Nat) (Z0 : n0 ≤ h0.size) :
    MetFree l (⟨"java/lang/Record", "<init>", "()V"⟩ : MethodName) (head1 (Jvm.Cond.code (⟨"java/lang/Record", "<init>", "()V"⟩ : MethodName) jdk_30_method_1_code 1 none :: ws) ({ frames := 1, cells := 0, slots := 0, locals := 12 } : Room)) (fun aa_ U => aa_ = #[(.ref a0)] ∧ Z.Warmed39 U.vm ∧ U.heap = h0) (fun _ _ _ _ _ => True) (fun _ U o U' => ∃ v L, o = .returned v ∧ Q_rm2 Z a0 h0 n0 v U'.heap L ∧ FrameEnd U o U' L ({ frames := 1, cells := 0, slots := 0, locals := 12 } : Room).cells ({ frames := 1, cells := 0, slots := 0, locals := 12 } : Room).slots) := by
  refine MetFree.of_bodySF (plainFor_of_name pn_0) hisR ?_
  intro p e s m args below meth c s₁ Bd hml0 hP hK
  obtain ⟨rfl, hZ, hh⟩ := hP
  have hx := Bd.exec
  have hby := Bd.bytes
  have hml : c.maxLocals = 1 := hml0
  have hown : s.vm.findClass "java/lang/Record" = some m.cls := findClass_of_methodNamed Bd.named
  have hnm := (name_of_methodNamed Bd.named Bd.method).1
  have X0 : Stand p l e ({ frames := 1, cells := 0, slots := 0, locals := 12 } : Room) s m #[(.ref a0)] below meth c s₁ [] 0 0 := Stand.of_body Bd
  have e0 : s₁.heap = h0 := by rw [← hh, Bd.state]; rfl
  have N0 := Fr.nil n0
  show OEnds p e below (OEndP s (Q_rm2 Z a0 h0 n0) ({ frames := 1, cells := 0, slots := 0, locals := 12 } : Room).cells ({ frames := 1, cells := 0, slots := 0, locals := 12 } : Room).slots) s₁ (entryFrame m #[(.ref a0)] 1)
  rw [ef_rm2 m a0]
  refine OEnds.go (g' := (mkF m 1 #[.val (.ref a0)] [(.ref a0)])) (fun t k => XS.aloadN X0.here hx rfl (hb hby d2_0) rfl rfl k) ?_
  obtain ⟨T1, X1, e1, st1⟩ := initO X0 hx hZ hown (hw _ (List.mem_of_getElem? (i := 11) rfl)) (hw _ (List.mem_of_getElem? (i := 12) rfl)) (hw _ (List.mem_of_getElem? (i := 13) rfl)) e0 (g := (mkF m 1 #[.val (.ref a0)] [(.ref a0)])) rfl (by rw [hml]; rfl) rfl (hb hby d2_1) (by decide) (W := 0) (by show 2 * 0 + _ ≤ _; exact Nat.le_of_eq rfl) (by decide)
  refine OEnds.go (g' := (mkF m 4 #[.val (.ref a0)] [])) st1 ?_
  exact OEnds.outV X1 Bd.notSynchronized hx Bd.returns (hb hby d2_4) ⟨rfl, N0, e1⟩ (by decide) (by decide)
theorem ef_rm1 (m : MethodId) (x0 : Addr) (x1 : Int32) (x2 : Int64) : entryFrame m #[(.ref x0), (.int x1), (.long x2)] 4 = mkF m 0 #[.val (.ref x0), .val (.int x1), .val (.long x2), .second] [] := by first | (simp [entryFrame, mkF, argsToLocals, Value.category]; done) | rfl
def Q_rm1 (Z : State) (a0x : Addr) (z : Int32) (q : Int64) (h0 : Heap) (n0 : Nat) (v : Option Value) (h : Heap) (L : List Loc) : Prop := v = none ∧ Fr n0 L ∧ Keep h0 h [a0x] ∧ Exa Z h a0x "com/example/chronotag/chronotag/cbor/CborInteger" ∧ Fld Z h a0x "com/example/chronotag/chronotag/cbor/CborInteger" "negative" "Z" (.int (nar .boolean z)) ∧ Fld Z h a0x "com/example/chronotag/chronotag/cbor/CborInteger" "argument" "J" (.long q)
set_option maxRecDepth 65536 in
set_option maxHeartbeats 40000000 in
theorem rm1 (l : Launch) (Z : State) (a0 : Array Value) (hw : ∀ d ∈ tables_1, d.before a0 Z = true) (ws : List Jvm.Cond) (a0x : Addr) (z : Int32) (q : Int64) (h0 : Heap) (n0 : Nat) (Z0 : n0 ≤ h0.size) (E0 : Exa Z h0 a0x "com/example/chronotag/chronotag/cbor/CborInteger") (Fn : Fld Z h0 a0x "com/example/chronotag/chronotag/cbor/CborInteger" "negative" "Z" (.int (0 : Int32))) (Fa : Fld Z h0 a0x "com/example/chronotag/chronotag/cbor/CborInteger" "argument" "J" (.long (0 : Int64))) (g_a0x : n0 ≤ a0x) :
    MetFree l (⟨"com/example/chronotag/chronotag/cbor/CborInteger", "<init>", "(ZJ)V"⟩ : MethodName) (head1 (Jvm.Cond.code (⟨"com/example/chronotag/chronotag/cbor/CborInteger", "<init>", "(ZJ)V"⟩ : MethodName) prog_26_method_1_code 4 none :: ws) ({ frames := 2, cells := 0, slots := 0, locals := 24 } : Room)) (fun aa_ U => aa_ = #[(.ref a0x), (.int z), (.long q)] ∧ Z.Warmed39 U.vm ∧ U.heap = h0) (fun _ _ _ _ _ => True) (fun _ U o U' => ∃ v L, o = .returned v ∧ Q_rm1 Z a0x z q h0 n0 v U'.heap L ∧ FrameEnd U o U' L ({ frames := 2, cells := 0, slots := 0, locals := 24 } : Room).cells ({ frames := 2, cells := 0, slots := 0, locals := 24 } : Room).slots) := by
  refine MetFree.of_bodySF (plainFor_of_name pn_1) hisR ?_
  intro p e s m args below meth c s₁ Bd hml0 hP hK
  obtain ⟨rfl, hZ, hh⟩ := hP
  have hx := Bd.exec
  have hby := Bd.bytes
  have hml : c.maxLocals = 4 := hml0
  have hown : s.vm.findClass "com/example/chronotag/chronotag/cbor/CborInteger" = some m.cls := findClass_of_methodNamed Bd.named
  have hnm := (name_of_methodNamed Bd.named Bd.method).1
  have X0 : Stand p l e ({ frames := 2, cells := 0, slots := 0, locals := 24 } : Room) s m #[(.ref a0x), (.int z), (.long q)] below meth c s₁ [] 0 0 := Stand.of_body Bd
  have e0 : s₁.heap = h0 := by rw [← hh, Bd.state]; rfl
  have N0 := Fr.nil n0
  show OEnds p e below (OEndP s (Q_rm1 Z a0x z q h0 n0) ({ frames := 2, cells := 0, slots := 0, locals := 24 } : Room).cells ({ frames := 2, cells := 0, slots := 0, locals := 24 } : Room).slots) s₁ (entryFrame m #[(.ref a0x), (.int z), (.long q)] 4)
  rw [ef_rm1 m a0x z q]
  refine OEnds.go (g' := (mkF m 1 #[.val (.ref a0x), .val (.int z), .val (.long q), .second] [(.ref a0x)])) (fun t k => XS.aloadN X0.here hx rfl (hb hby d1_0) rfl rfl k) ?_
  obtain ⟨_, _, ⟨T1, L1, k1, n1⟩, -, X1, ⟨Lc1, hQ1, l1, y1, z1⟩, st1⟩ := X0.specialBack hx (y := (⟨"java/lang/Record", "<init>", "()V"⟩ : MethodName)) rfl hown (mvT hZ (hw _ (List.mem_of_getElem? (i := 6) rfl))) (mvT hZ (hw _ (List.mem_of_getElem? (i := 7) rfl))) (mvT hZ (hw _ (List.mem_of_getElem? (i := 10) rfl))) (by decide) (backOf (W := 0) (rm2 l Z a0 hw [] a0x h0 n0 Z0) hZ (hw _ (List.mem_of_getElem? (i := 10) rfl)) (hw _ (List.mem_of_getElem? (i := 9) rfl)) (by decide) (by decide)) (g := (mkF m 1 #[.val (.ref a0x), .val (.int z), .val (.long q), .second] [(.ref a0x)])) rfl (by rw [hml]; rfl) (Steps.refl _) (a := a0x) (argsL := []) (rest := []) (lenOf pd_0 rfl) rfl (by show 2 * 0 + _ ≤ _; exact Nat.le_of_eq rfl) (hb hby d1_1) (fun _ _ => ⟨rfl, e0, (by decide : 0 + 0 ≤ _), (by decide : 0 + 0 ≤ _)⟩)
  dsimp only [Pt.U, Pt.locs, Pt.cells, Pt.slots] at X1 l1 y1 z1 st1 hQ1
  subst l1 y1 z1
  obtain ⟨rfl, N1q, e1⟩ := hQ1
  have N1 := Fr.app N0 N1q
  refine OEnds.tr (g' := (mkF m 4 #[.val (.ref a0x), .val (.int z), .val (.long q), .second] [])) st1 ?_
  refine OEnds.go (g' := (mkF m 5 #[.val (.ref a0x), .val (.int z), .val (.long q), .second] [(.ref a0x)])) (fun t k => XS.aloadN X1.here hx rfl (hb hby d1_4) rfl rfl k) ?_
  refine OEnds.go (g' := (mkF m 6 #[.val (.ref a0x), .val (.int z), .val (.long q), .second] [(.int z), (.ref a0x)])) (fun t k => XS.iloadN X1.here hx rfl (hb hby d1_5) rfl k) ?_
  obtain ⟨T2, h2, X2, e2, W2, st2⟩ := putFN X1 hx hZ hown (hw _ (List.mem_of_getElem? (i := 14) rfl)) Via.refl e1 Fn E0 (Or.inr ⟨(hw _ (List.mem_of_getElem? (i := 15) rfl)), rfl, hnm⟩) (hw _ (List.mem_of_getElem? (i := 1) rfl)) (ty := .boolean) (v' := (.int (nar .boolean z))) (by decide) rfl (fits_nar_bool _) (g := (mkF m 6 #[.val (.ref a0x), .val (.int z), .val (.long q), .second] [(.int z), (.ref a0x)])) rfl rfl (hb hby d1_6)
  have N2 := Fr.snoc X2 N1 g_a0x
  have K2 : Keep h0 h2 [a0x] := (Keep.refl h0 [a0x]).wr W2 (Or.inl (by simp))
  have Fw2 := Fn.same W2
  refine OEnds.go (g' := (mkF m 9 #[.val (.ref a0x), .val (.int z), .val (.long q), .second] [])) st2 ?_
  refine OEnds.go (g' := (mkF m 10 #[.val (.ref a0x), .val (.int z), .val (.long q), .second] [(.ref a0x)])) (fun t k => XS.aloadN X2.here hx rfl (hb hby d1_9) rfl rfl k) ?_
  refine OEnds.go (g' := (mkF m 11 #[.val (.ref a0x), .val (.int z), .val (.long q), .second] [(.long q), (.ref a0x)])) (fun t k => XS.lloadN X2.here hx rfl (hb hby d1_10) rfl k) ?_
  obtain ⟨T3, h3, X3, e3, W3, st3⟩ := putF X2 hx hZ hown (host := "") (Or.inl (hw _ (List.mem_of_getElem? (i := 16) rfl))) Via.refl e2 (Fa.other W2 (Or.inr (slot_ne (Or.inr (hw _ (List.mem_of_getElem? (i := 17) rfl))) (Or.inr (hw _ (List.mem_of_getElem? (i := 15) rfl))) (by decide) (t := .long) (t' := .boolean) (by decide) (by decide)))) (E0.wr W2) (Or.inr ⟨(hw _ (List.mem_of_getElem? (i := 17) rfl)), rfl, hnm⟩) (hw _ (List.mem_of_getElem? (i := 1) rfl)) (ty := .long) (by decide) rfl rfl (g := (mkF m 11 #[.val (.ref a0x), .val (.int z), .val (.long q), .second] [(.long q), (.ref a0x)])) rfl rfl (hb hby d1_11)
  have N3 := Fr.snoc X3 N2 g_a0x
  have K3 : Keep h0 h3 [a0x] := K2.wr W3 (Or.inl (by simp))
  have Fw3 := (Fa.other W2 (Or.inr (slot_ne (Or.inr (hw _ (List.mem_of_getElem? (i := 17) rfl))) (Or.inr (hw _ (List.mem_of_getElem? (i := 15) rfl))) (by decide) (t := .long) (t' := .boolean) (by decide) (by decide)))).same W3
  refine OEnds.go (g' := (mkF m 14 #[.val (.ref a0x), .val (.int z), .val (.long q), .second] [])) st3 ?_
  exact OEnds.outV X3 Bd.notSynchronized hx Bd.returns (hb hby d1_14) (by rw [e3]; exact ⟨rfl, N3, K3, ((E0.wr W2).wr W3), (Fw2.other W3 (Or.inr (slot_ne (Or.inr (hw _ (List.mem_of_getElem? (i := 15) rfl))) (Or.inr (hw _ (List.mem_of_getElem? (i := 17) rfl))) (by decide) (t := .boolean) (t' := .long) (by decide) (by decide)))), Fw3⟩) (by decide) (by decide)
theorem own_l2d {tb : Tables} [Ours tb] {e : Env} {below : List Frame} {T target : State} {m : MethodId} {c : Code} {g : JFrame} (h : At T m c below) (hx : tb.exec = Jvm.exec) (hg : g.method = m) {x : Int64} {rest : List Value} (hd : decode c.code g.pc = .ok (.l2d, 1)) (hs : g.stack = .long x :: rest)
    (hr : Steps tb e below (T.setTop { g with pc := g.pc + 1, stack := .double (FP.l2d x) :: rest }) target) : Steps tb e below (T.setTop g) target := by
  subst hg
  jvm_step h [h.top, hx, hd, hs]
  exact hr
theorem ef_rm8 (m : MethodId) (x0 : Addr) (x1 : UInt64) : entryFrame m #[(.ref x0), (.double x1)] 3 = mkF m 0 #[.val (.ref x0), .val (.double x1), .second] [] := by first | (simp [entryFrame, mkF, argsToLocals, Value.category]; done) | rfl
def Q_rm8 (Z : State) (a0x : Addr) (d : UInt64) (h0 : Heap) (n0 : Nat) (v : Option Value) (h : Heap) (L : List Loc) : Prop := v = none ∧ Fr n0 L ∧ Keep h0 h [a0x] ∧ Exa Z h a0x "com/example/chronotag/chronotag/cbor/CborFloat"
set_option maxRecDepth 65536 in
set_option maxHeartbeats 40000000 in
theorem rm8 (l : Launch) (Z : State) (a0 : Array Value) (hw : ∀ d ∈ tables_1, d.before a0 Z = true) (ws : List Jvm.Cond) (a0x : Addr) (d : UInt64) (h0 : Heap) (n0 : Nat) (Z0 : n0 ≤ h0.size) (E0 : Exa Z h0 a0x "com/example/chronotag/chronotag/cbor/CborFloat") (Fv : Fld Z h0 a0x "com/example/chronotag/chronotag/cbor/CborFloat" "value" "D" (.double (0 : UInt64))) (g_a0x : n0 ≤ a0x) :
    MetFree l (⟨"com/example/chronotag/chronotag/cbor/CborFloat", "<init>", "(D)V"⟩ : MethodName) (head1 (Jvm.Cond.code (⟨"com/example/chronotag/chronotag/cbor/CborFloat", "<init>", "(D)V"⟩ : MethodName) prog_25_method_1_code 3 none :: ws) ({ frames := 2, cells := 0, slots := 0, locals := 24 } : Room)) (fun aa_ U => aa_ = #[(.ref a0x), (.double d)] ∧ Z.Warmed39 U.vm ∧ U.heap = h0) (fun _ _ _ _ _ => True) (fun _ U o U' => ∃ v L, o = .returned v ∧ Q_rm8 Z a0x d h0 n0 v U'.heap L ∧ FrameEnd U o U' L ({ frames := 2, cells := 0, slots := 0, locals := 24 } : Room).cells ({ frames := 2, cells := 0, slots := 0, locals := 24 } : Room).slots) := by
  refine MetFree.of_bodySF (plainFor_of_name pn_2) hisR ?_
  intro p e s m args below meth c s₁ Bd hml0 hP hK
  obtain ⟨rfl, hZ, hh⟩ := hP
  have hx := Bd.exec
  have hby := Bd.bytes
  have hml : c.maxLocals = 3 := hml0
  have hown : s.vm.findClass "com/example/chronotag/chronotag/cbor/CborFloat" = some m.cls := findClass_of_methodNamed Bd.named
  have hnm := (name_of_methodNamed Bd.named Bd.method).1
  have X0 : Stand p l e ({ frames := 2, cells := 0, slots := 0, locals := 24 } : Room) s m #[(.ref a0x), (.double d)] below meth c s₁ [] 0 0 := Stand.of_body Bd
  have e0 : s₁.heap = h0 := by rw [← hh, Bd.state]; rfl
  have N0 := Fr.nil n0
  show OEnds p e below (OEndP s (Q_rm8 Z a0x d h0 n0) ({ frames := 2, cells := 0, slots := 0, locals := 24 } : Room).cells ({ frames := 2, cells := 0, slots := 0, locals := 24 } : Room).slots) s₁ (entryFrame m #[(.ref a0x), (.double d)] 3)
  rw [ef_rm8 m a0x d]
  refine OEnds.go (g' := (mkF m 1 #[.val (.ref a0x), .val (.double d), .second] [(.ref a0x)])) (fun t k => XS.aloadN X0.here hx rfl (hb hby d8_0) rfl rfl k) ?_
  obtain ⟨_, _, ⟨T1, L1, k1, n1⟩, -, X1, ⟨Lc1, hQ1, l1, y1, z1⟩, st1⟩ := X0.specialBack hx (y := (⟨"java/lang/Record", "<init>", "()V"⟩ : MethodName)) rfl hown (mvT hZ (hw _ (List.mem_of_getElem? (i := 45) rfl))) (mvT hZ (hw _ (List.mem_of_getElem? (i := 7) rfl))) (mvT hZ (hw _ (List.mem_of_getElem? (i := 10) rfl))) (by decide) (backOf (W := 0) (rm2 l Z a0 hw [] a0x h0 n0 Z0) hZ (hw _ (List.mem_of_getElem? (i := 10) rfl)) (hw _ (List.mem_of_getElem? (i := 9) rfl)) (by decide) (by decide)) (g := (mkF m 1 #[.val (.ref a0x), .val (.double d), .second] [(.ref a0x)])) rfl (by rw [hml]; rfl) (Steps.refl _) (a := a0x) (argsL := []) (rest := []) (lenOf pd_0 rfl) rfl (by show 2 * 0 + _ ≤ _; exact Nat.le_of_eq rfl) (hb hby d8_1) (fun _ _ => ⟨rfl, e0, (by decide : 0 + 0 ≤ _), (by decide : 0 + 0 ≤ _)⟩)
  dsimp only [Pt.U, Pt.locs, Pt.cells, Pt.slots] at X1 l1 y1 z1 st1 hQ1
  subst l1 y1 z1
  obtain ⟨rfl, N1q, e1⟩ := hQ1
  have N1 := Fr.app N0 N1q
  refine OEnds.tr (g' := (mkF m 4 #[.val (.ref a0x), .val (.double d), .second] [])) st1 ?_
  refine OEnds.go (g' := (mkF m 5 #[.val (.ref a0x), .val (.double d), .second] [(.ref a0x)])) (fun t k => XS.aloadN X1.here hx rfl (hb hby d8_4) rfl rfl k) ?_
  refine OEnds.go (g' := (mkF m 6 #[.val (.ref a0x), .val (.double d), .second] [(.double d), (.ref a0x)])) (fun t k => XS.dloadN X1.here hx rfl (hb hby d8_5) rfl k) ?_
  obtain ⟨T2, h2, X2, e2, W2, st2⟩ := putF X1 hx hZ hown (host := "") (Or.inl (hw _ (List.mem_of_getElem? (i := 46) rfl))) Via.refl e1 Fv E0 (Or.inr ⟨(hw _ (List.mem_of_getElem? (i := 47) rfl)), rfl, hnm⟩) (hw _ (List.mem_of_getElem? (i := 39) rfl)) (ty := .double) (by decide) rfl rfl (g := (mkF m 6 #[.val (.ref a0x), .val (.double d), .second] [(.double d), (.ref a0x)])) rfl rfl (hb hby d8_6)
  have N2 := Fr.snoc X2 N1 g_a0x
  have K2 : Keep h0 h2 [a0x] := (Keep.refl h0 [a0x]).wr W2 (Or.inl (by simp))
  have Fw2 := Fv.same W2
  refine OEnds.go (g' := (mkF m 9 #[.val (.ref a0x), .val (.double d), .second] [])) st2 ?_
  exact OEnds.outV X2 Bd.notSynchronized hx Bd.returns (hb hby d8_9) (by rw [e2]; exact ⟨rfl, N2, K2, (E0.wr W2)⟩) (by decide) (by decide)
theorem ef_rmE0 (m : MethodId) (x0 : Addr) : entryFrame m #[(.ref x0), .null] 3 = mkF m 0 #[.val (.ref x0), .val .null, .unset] [] := by first | (simp [entryFrame, mkF, argsToLocals, Value.category]; done) | rfl
def Q_rmE0 (Z : State) (a : Addr) (h0 : Heap) (n0 : Nat) (v : Option Value) (h : Heap) (L : List Loc) : Prop := v = some (.int 0) ∧ Fr n0 L ∧ h = h0
set_option maxRecDepth 65536 in
set_option maxHeartbeats 40000000 in
theorem rmE0 (l : Launch) (Z : State) (a0 : Array Value) (hw : ∀ d ∈ tables_1, d.before a0 Z = true) (ws : List Jvm.Cond) (a : Addr) (h0 : Heap) (n0 : Nat) (Z0 : n0 ≤ h0.size) :
    MetFree l (⟨"com/example/chronotag/chronotag/cbor/CborInteger", "equals", "(Ljava/lang/Object;)Z"⟩ : MethodName) (head1 (Jvm.Cond.code (⟨"com/example/chronotag/chronotag/cbor/CborInteger", "equals", "(Ljava/lang/Object;)Z"⟩ : MethodName) prog_26_method_5_code 3 (some .boolean) :: ws) ({ frames := 0, cells := 0, slots := 0, locals := 0 } : Room)) (fun aa_ U => aa_ = #[(.ref a), .null] ∧ Z.Warmed39 U.vm ∧ U.heap = h0) (fun _ _ _ _ _ => True) (fun _ U o U' => ∃ v L, o = .returned v ∧ Q_rmE0 Z a h0 n0 v U'.heap L ∧ FrameEnd U o U' L ({ frames := 0, cells := 0, slots := 0, locals := 0 } : Room).cells ({ frames := 0, cells := 0, slots := 0, locals := 0 } : Room).slots) := by
  refine MetFree.of_bodySF (plainFor_of_name pn_1) hisR ?_
  intro p e s m args below meth c s₁ Bd hml0 hP hK
  obtain ⟨rfl, hZ, hh⟩ := hP
  have hx := Bd.exec
  have hby := Bd.bytes
  have hml : c.maxLocals = 3 := hml0
  have hown : s.vm.findClass "com/example/chronotag/chronotag/cbor/CborInteger" = some m.cls := findClass_of_methodNamed Bd.named
  have hnm := (name_of_methodNamed Bd.named Bd.method).1
  have X0 : Stand p l e ({ frames := 0, cells := 0, slots := 0, locals := 0 } : Room) s m #[(.ref a), .null] below meth c s₁ [] 0 0 := Stand.of_body Bd
  have e0 : s₁.heap = h0 := by rw [← hh, Bd.state]; rfl
  have N0 := Fr.nil n0
  show OEnds p e below (OEndP s (Q_rmE0 Z a h0 n0) ({ frames := 0, cells := 0, slots := 0, locals := 0 } : Room).cells ({ frames := 0, cells := 0, slots := 0, locals := 0 } : Room).slots) s₁ (entryFrame m #[(.ref a), .null] 3)
  rw [ef_rmE0 m a]
  refine OEnds.go (g' := (mkF m 1 #[.val (.ref a), .val .null, .unset] [.null])) (fun t k => XS.aloadN X0.here hx rfl (hb hby d4_0) rfl rfl k) ?_
  refine OEnds.go (g' := (mkF m 4 #[.val (.ref a), .val .null, .unset] [(.int (0 : Int32))])) (X0.instanceofNull hx (g := (mkF m 1 #[.val (.ref a), .val .null, .unset] [.null])) rfl rfl (hb hby d4_1)) ?_
  refine OEnds.go (g' := (mkF m 39 #[.val (.ref a), .val .null, .unset] [])) (fun t k => XS.ifYes X0.here hx rfl (pc0 := 4) (pc' := 39) rfl (hb hby d4_4) rfl ((if0 _ _).trans (teq (by decide : ((0 : Int32) = (0 : Int32)))).1) (by decide) (by decide) k) ?_
  refine OEnds.go (g' := (mkF m 40 #[.val (.ref a), .val .null, .unset] [(.int (0 : Int32))])) (fun t k => XS.iconst X0.here hx rfl (hb hby d4_39) k) ?_
  exact OEnds.outN X0 Bd.notSynchronized hx (t := .boolean) Bd.returns (by simp) (hb hby d4_40) ⟨rfl, N0, e0⟩ (by decide) (by decide)
theorem ef_rmE1 (m : MethodId) (x0 : Addr) (x1 : Addr) : entryFrame m #[(.ref x0), (.ref x1)] 3 = mkF m 0 #[.val (.ref x0), .val (.ref x1), .unset] [] := by first | (simp [entryFrame, mkF, argsToLocals, Value.category]; done) | rfl
def fE (n1 : Int32) (q1 : Int64) (n2 : Int32) (q2 : Int64) : Int32 := if n1 = n2 then if q1 = q2 then (1 : Int32) else (0 : Int32) else (0 : Int32)
def Q_rmE1 (Z : State) (a : Addr) (b : Addr) (n1 : Int32) (q1 : Int64) (n2 : Int32) (q2 : Int64) (h0 : Heap) (n0 : Nat) (v : Option Value) (h : Heap) (L : List Loc) : Prop := v = some (.int (fE n1 q1 n2 q2)) ∧ Fr n0 L ∧ h = h0
set_option maxRecDepth 65536 in
set_option maxHeartbeats 40000000 in
theorem rmE1 (l : Launch) (Z : State) (a0 : Array Value) (hw : ∀ d ∈ tables_1, d.before a0 Z = true) (ws : List Jvm.Cond) (a : Addr) (b : Addr) (n1 : Int32) (q1 : Int64) (n2 : Int32) (q2 : Int64) (h0 : Heap) (n0 : Nat) (Z0 : n0 ≤ h0.size) (Fn1 : Fld Z h0 a "com/example/chronotag/chronotag/cbor/CborInteger" "negative" "Z" (.int n1)) (Fa1 : Fld Z h0 a "com/example/chronotag/chronotag/cbor/CborInteger" "argument" "J" (.long q1)) (E2 : Exa Z h0 b "com/example/chronotag/chronotag/cbor/CborInteger") (Fn2 : Fld Z h0 b "com/example/chronotag/chronotag/cbor/CborInteger" "negative" "Z" (.int n2)) (Fa2 : Fld Z h0 b "com/example/chronotag/chronotag/cbor/CborInteger" "argument" "J" (.long q2)) :
    MetFree l (⟨"com/example/chronotag/chronotag/cbor/CborInteger", "equals", "(Ljava/lang/Object;)Z"⟩ : MethodName) (head1 (Jvm.Cond.code (⟨"com/example/chronotag/chronotag/cbor/CborInteger", "equals", "(Ljava/lang/Object;)Z"⟩ : MethodName) prog_26_method_5_code 3 (some .boolean) :: ws) ({ frames := 0, cells := 0, slots := 0, locals := 0 } : Room)) (fun aa_ U => aa_ = #[(.ref a), (.ref b)] ∧ Z.Warmed39 U.vm ∧ U.heap = h0) (fun _ _ _ _ _ => True) (fun _ U o U' => ∃ v L, o = .returned v ∧ Q_rmE1 Z a b n1 q1 n2 q2 h0 n0 v U'.heap L ∧ FrameEnd U o U' L ({ frames := 0, cells := 0, slots := 0, locals := 0 } : Room).cells ({ frames := 0, cells := 0, slots := 0, locals := 0 } : Room).slots) := by
  refine MetFree.of_bodySF (plainFor_of_name pn_1) hisR ?_
  intro p e s m args below meth c s₁ Bd hml0 hP hK
  obtain ⟨rfl, hZ, hh⟩ := hP
  have hx := Bd.exec
  have hby := Bd.bytes
  have hml : c.maxLocals = 3 := hml0
  have hown : s.vm.findClass "com/example/chronotag/chronotag/cbor/CborInteger" = some m.cls := findClass_of_methodNamed Bd.named
  have hnm := (name_of_methodNamed Bd.named Bd.method).1
  have X0 : Stand p l e ({ frames := 0, cells := 0, slots := 0, locals := 0 } : Room) s m #[(.ref a), (.ref b)] below meth c s₁ [] 0 0 := Stand.of_body Bd
  have e0 : s₁.heap = h0 := by rw [← hh, Bd.state]; rfl
  have N0 := Fr.nil n0
  show OEnds p e below (OEndP s (Q_rmE1 Z a b n1 q1 n2 q2 h0 n0) ({ frames := 0, cells := 0, slots := 0, locals := 0 } : Room).cells ({ frames := 0, cells := 0, slots := 0, locals := 0 } : Room).slots) s₁ (entryFrame m #[(.ref a), (.ref b)] 3)
  rw [ef_rmE1 m a b]
  refine OEnds.go (g' := (mkF m 1 #[.val (.ref a), .val (.ref b), .unset] [(.ref b)])) (fun t k => XS.aloadN X0.here hx rfl (hb hby d4_0) rfl rfl k) ?_
  obtain ⟨T1, X1, e1, st1⟩ := instY X0 hx hZ hown (hw _ (List.mem_of_getElem? (i := 23) rfl)) e0 (Ins.self E2) (g := (mkF m 1 #[.val (.ref a), .val (.ref b), .unset] [(.ref b)])) rfl rfl (hb hby d4_1)
  refine OEnds.go (g' := (mkF m 4 #[.val (.ref a), .val (.ref b), .unset] [(.int (1 : Int32))])) st1 ?_
  refine OEnds.go (g' := (mkF m 7 #[.val (.ref a), .val (.ref b), .unset] [])) (fun t k => XS.ifNo X1.here hx rfl (hb hby d4_4) rfl ((if0 _ _).trans (feq (by decide : ¬ ((1 : Int32) = (0 : Int32)))).1) k) ?_
  refine OEnds.go (g' := (mkF m 8 #[.val (.ref a), .val (.ref b), .unset] [(.ref b)])) (fun t k => XS.aloadN X1.here hx rfl (hb hby d4_7) rfl rfl k) ?_
  obtain ⟨T2, X2, e2, st2⟩ := castY X1 hx hZ hown (hw _ (List.mem_of_getElem? (i := 23) rfl)) e1 (Ins.self E2) (g := (mkF m 8 #[.val (.ref a), .val (.ref b), .unset] [(.ref b)])) rfl rfl (hb hby d4_8)
  refine OEnds.go (g' := (mkF m 11 #[.val (.ref a), .val (.ref b), .unset] [(.ref b)])) st2 ?_
  refine OEnds.go (g' := (mkF m 12 #[.val (.ref a), .val (.ref b), .val (.ref b)] [])) (fun t k => XS.astoreN X2.here hx rfl (hb hby d4_11) rfl rfl (l' := #[.val (.ref a), .val (.ref b), .val (.ref b)]) rfl k) ?_
  refine OEnds.go (g' := (mkF m 13 #[.val (.ref a), .val (.ref b), .val (.ref b)] [(.ref a)])) (fun t k => XS.aloadN X2.here hx rfl (hb hby d4_12) rfl rfl k) ?_
  obtain ⟨T3, X3, e3, st3⟩ := getF X2 hx hZ hown (host := "") (Or.inl (hw _ (List.mem_of_getElem? (i := 14) rfl))) Via.refl e2 Fn1 (g := (mkF m 13 #[.val (.ref a), .val (.ref b), .val (.ref b)] [(.ref a)])) rfl rfl (hb hby d4_13)
  refine OEnds.go (g' := (mkF m 16 #[.val (.ref a), .val (.ref b), .val (.ref b)] [(.int n1)])) st3 ?_
  refine OEnds.go (g' := (mkF m 17 #[.val (.ref a), .val (.ref b), .val (.ref b)] [(.ref b), (.int n1)])) (fun t k => XS.aloadN X3.here hx rfl (hb hby d4_16) rfl rfl k) ?_
  obtain ⟨T4, X4, e4, st4⟩ := getF X3 hx hZ hown (host := "") (Or.inl (hw _ (List.mem_of_getElem? (i := 14) rfl))) Via.refl e3 Fn2 (g := (mkF m 17 #[.val (.ref a), .val (.ref b), .val (.ref b)] [(.ref b), (.int n1)])) rfl rfl (hb hby d4_17)
  refine OEnds.go (g' := (mkF m 20 #[.val (.ref a), .val (.ref b), .val (.ref b)] [(.int n2), (.int n1)])) st4 ?_
  by_cases c20_5 : n1 = n2
  · -- yes
    refine OEnds.go (g' := (mkF m 23 #[.val (.ref a), .val (.ref b), .val (.ref b)] [])) (fun t k => XS.icmpNo X4.here hx rfl (hb hby d4_20) rfl (teq c20_5).2 k) ?_
    refine OEnds.go (g' := (mkF m 24 #[.val (.ref a), .val (.ref b), .val (.ref b)] [(.ref a)])) (fun t k => XS.aloadN X4.here hx rfl (hb hby d4_23) rfl rfl k) ?_
    obtain ⟨T6, X6, e6, st6⟩ := getF X4 hx hZ hown (host := "") (Or.inl (hw _ (List.mem_of_getElem? (i := 16) rfl))) Via.refl e4 Fa1 (g := (mkF m 24 #[.val (.ref a), .val (.ref b), .val (.ref b)] [(.ref a)])) rfl rfl (hb hby d4_24)
    refine OEnds.go (g' := (mkF m 27 #[.val (.ref a), .val (.ref b), .val (.ref b)] [(.long q1)])) st6 ?_
    refine OEnds.go (g' := (mkF m 28 #[.val (.ref a), .val (.ref b), .val (.ref b)] [(.ref b), (.long q1)])) (fun t k => XS.aloadN X6.here hx rfl (hb hby d4_27) rfl rfl k) ?_
    obtain ⟨T7, X7, e7, st7⟩ := getF X6 hx hZ hown (host := "") (Or.inl (hw _ (List.mem_of_getElem? (i := 16) rfl))) Via.refl e6 Fa2 (g := (mkF m 28 #[.val (.ref a), .val (.ref b), .val (.ref b)] [(.ref b), (.long q1)])) rfl rfl (hb hby d4_28)
    refine OEnds.go (g' := (mkF m 31 #[.val (.ref a), .val (.ref b), .val (.ref b)] [(.long q2), (.long q1)])) st7 ?_
    refine OEnds.go (g' := (mkF m 32 #[.val (.ref a), .val (.ref b), .val (.ref b)] [(.int (lcmpW q1 q2))])) (fun t k => XS.lcmp X7.here hx rfl (hb hby d4_31) rfl k) ?_
    by_cases c32_8 : q1 = q2
    · -- yes
      refine OEnds.go (g' := (mkF m 35 #[.val (.ref a), .val (.ref b), .val (.ref b)] [])) (fun t k => XS.ifNo X7.here hx rfl (hb hby d4_32) rfl ((if0 _ _).trans (teq ((lw_eq _ _).mpr c32_8)).2) k) ?_
      refine OEnds.go (g' := (mkF m 36 #[.val (.ref a), .val (.ref b), .val (.ref b)] [(.int (1 : Int32))])) (fun t k => XS.iconst X7.here hx rfl (hb hby d4_35) k) ?_
      refine OEnds.go (g' := (mkF m 40 #[.val (.ref a), .val (.ref b), .val (.ref b)] [(.int (1 : Int32))])) (fun t k => XS.goto X7.here hx rfl (pc0 := 36) (pc' := 40) rfl (hb hby d4_36) (by decide) (by decide) k) ?_
      exact OEnds.outN X7 Bd.notSynchronized hx (t := .boolean) Bd.returns (by simp) (hb hby d4_40) ⟨by show (some (.int (1 : Int32)) : Option Value) = some (.int (fE n1 q1 n2 q2)); rw [fE, if_pos c20_5, if_pos c32_8], N0, e7⟩ (by decide) (by decide)
    · -- no
      refine OEnds.go (g' := (mkF m 39 #[.val (.ref a), .val (.ref b), .val (.ref b)] [])) (fun t k => XS.ifYes X7.here hx rfl (pc0 := 32) (pc' := 39) rfl (hb hby d4_32) rfl ((if0 _ _).trans (feq (fun q => c32_8 ((lw_eq _ _).mp q))).2) (by decide) (by decide) k) ?_
      refine OEnds.go (g' := (mkF m 40 #[.val (.ref a), .val (.ref b), .val (.ref b)] [(.int (0 : Int32))])) (fun t k => XS.iconst X7.here hx rfl (hb hby d4_39) k) ?_
      exact OEnds.outN X7 Bd.notSynchronized hx (t := .boolean) Bd.returns (by simp) (hb hby d4_40) ⟨by show (some (.int (0 : Int32)) : Option Value) = some (.int (fE n1 q1 n2 q2)); rw [fE, if_pos c20_5, if_neg c32_8], N0, e7⟩ (by decide) (by decide)
  · -- no
    refine OEnds.go (g' := (mkF m 39 #[.val (.ref a), .val (.ref b), .val (.ref b)] [])) (fun t k => XS.icmpYes X4.here hx rfl (pc0 := 20) (pc' := 39) rfl (hb hby d4_20) rfl (feq c20_5).2 (by decide) (by decide) k) ?_
    refine OEnds.go (g' := (mkF m 40 #[.val (.ref a), .val (.ref b), .val (.ref b)] [(.int (0 : Int32))])) (fun t k => XS.iconst X4.here hx rfl (hb hby d4_39) k) ?_
    exact OEnds.outN X4 Bd.notSynchronized hx (t := .boolean) Bd.returns (by simp) (hb hby d4_40) ⟨by show (some (.int (0 : Int32)) : Option Value) = some (.int (fE n1 q1 n2 q2)); rw [fE, if_neg c20_5], N0, e4⟩ (by decide) (by decide)
theorem own_nsroot {Z : State} {a0 : Array Value} {O K : String} {n : Nat} (w : (Jvm.Cond.noSuperclass O).before a0 Z = true) (wk : (Jvm.Cond.instantiable K n).before a0 Z = true) (hn : O ≠ K) : NS Z O K := by
  obtain ⟨c, k, h1, h2, h3, -, -⟩ := Cond.noSuperclass_spec w
  obtain ⟨t, k', g1, -⟩ := Cond.instantiable_spec wk
  have ne := ids_ne h1 g1 hn
  refine ⟨c, t, h1, g1, fun fuel => ?_⟩
  cases fuel with
  | zero => rfl
  | succ f => simp [Vm.isSubclassAux, ne, h2, h3]
theorem own_notSub {Z : State} {a0 : Array Value} {C S O K : String} {n : Nat} (w : (Jvm.Cond.superclass C S).before a0 Z = true) (w1 : (Jvm.Cond.superclass S O).before a0 Z = true) (w2 : (Jvm.Cond.noSuperclass O).before a0 Z = true) (wk : (Jvm.Cond.instantiable K n).before a0 Z = true) (h1 : C ≠ K) (h2 : S ≠ K) (h3 : O ≠ K) : ∃ c t, Z.vm.findClass C = some c ∧ Z.vm.findClass K = some t ∧ Z.vm.assignable c t = false := by
  obtain ⟨c, t, h0, g0, n3⟩ := NS.step w (NS.step w1 (own_nsroot w2 wk h3) h2) h1
  obtain ⟨p, k, kp, p1, p2, p3, p4, p5, -, p7⟩ := Cond.superclass_spec h0 w
  obtain ⟨t', k', q1, q2, q3, q4, -⟩ := Cond.instantiable_spec wk
  cases g0.symm.trans q1
  have q5 : k'.isInterface = false := by cases hq : k'.isInterface <;> simp [hq] at q4 ⊢
  have ne := ids_ne h0 g0 h1
  refine ⟨c, t, h0, g0, ?_⟩
  show Z.vm.assignableAux (255 + 1) c t = false
  simp [Vm.assignableAux, ne, p2, q2, p5, q3, q5, Vm.isSubclass, n3]
theorem ef_rmE2 (m : MethodId) (x0 : Addr) (x1 : Addr) : entryFrame m #[(.ref x0), (.ref x1)] 3 = mkF m 0 #[.val (.ref x0), .val (.ref x1), .unset] [] := by first | (simp [entryFrame, mkF, argsToLocals, Value.category]; done) | rfl
def Q_rmE2 (Z : State) (a : Addr) (b : Addr) (h0 : Heap) (n0 : Nat) (v : Option Value) (h : Heap) (L : List Loc) : Prop := v = some (.int 0) ∧ Fr n0 L ∧ h = h0
set_option maxRecDepth 65536 in
set_option maxHeartbeats 40000000 in
theorem rmE2 (l : Launch) (Z : State) (a0 : Array Value) (hw : ∀ d ∈ tables_1, d.before a0 Z = true) (ws : List Jvm.Cond) (a : Addr) (b : Addr) (h0 : Heap) (n0 : Nat) (Z0 : n0 ≤ h0.size) (E2 : Exa Z h0 b "com/example/chronotag/chronotag/cbor/CborFloat") :
    MetFree l (⟨"com/example/chronotag/chronotag/cbor/CborInteger", "equals", "(Ljava/lang/Object;)Z"⟩ : MethodName) (head1 (Jvm.Cond.code (⟨"com/example/chronotag/chronotag/cbor/CborInteger", "equals", "(Ljava/lang/Object;)Z"⟩ : MethodName) prog_26_method_5_code 3 (some .boolean) :: ws) ({ frames := 0, cells := 0, slots := 0, locals := 0 } : Room)) (fun aa_ U => aa_ = #[(.ref a), (.ref b)] ∧ Z.Warmed39 U.vm ∧ U.heap = h0) (fun _ _ _ _ _ => True) (fun _ U o U' => ∃ v L, o = .returned v ∧ Q_rmE2 Z a b h0 n0 v U'.heap L ∧ FrameEnd U o U' L ({ frames := 0, cells := 0, slots := 0, locals := 0 } : Room).cells ({ frames := 0, cells := 0, slots := 0, locals := 0 } : Room).slots) := by
  refine MetFree.of_bodySF (plainFor_of_name pn_1) hisR ?_
  intro p e s m args below meth c s₁ Bd hml0 hP hK
  obtain ⟨rfl, hZ, hh⟩ := hP
  have hx := Bd.exec
  have hby := Bd.bytes
  have hml : c.maxLocals = 3 := hml0
  have hown : s.vm.findClass "com/example/chronotag/chronotag/cbor/CborInteger" = some m.cls := findClass_of_methodNamed Bd.named
  have hnm := (name_of_methodNamed Bd.named Bd.method).1
  have X0 : Stand p l e ({ frames := 0, cells := 0, slots := 0, locals := 0 } : Room) s m #[(.ref a), (.ref b)] below meth c s₁ [] 0 0 := Stand.of_body Bd
  have e0 : s₁.heap = h0 := by rw [← hh, Bd.state]; rfl
  have N0 := Fr.nil n0
  show OEnds p e below (OEndP s (Q_rmE2 Z a b h0 n0) ({ frames := 0, cells := 0, slots := 0, locals := 0 } : Room).cells ({ frames := 0, cells := 0, slots := 0, locals := 0 } : Room).slots) s₁ (entryFrame m #[(.ref a), (.ref b)] 3)
  rw [ef_rmE2 m a b]
  refine OEnds.go (g' := (mkF m 1 #[.val (.ref a), .val (.ref b), .unset] [(.ref b)])) (fun t k => XS.aloadN X0.here hx rfl (hb hby d4_0) rfl rfl k) ?_
  obtain ⟨T1, X1, e1, st1⟩ := instNo X0 hx hZ hown (hw _ (List.mem_of_getElem? (i := 23) rfl)) e0 E2 (own_notSub (hw _ (List.mem_of_getElem? (i := 48) rfl)) (hw _ (List.mem_of_getElem? (i := 49) rfl)) (hw _ (List.mem_of_getElem? (i := 50) rfl)) (hw _ (List.mem_of_getElem? (i := 1) rfl)) (by decide) (by decide) (by decide)) (g := (mkF m 1 #[.val (.ref a), .val (.ref b), .unset] [(.ref b)])) rfl rfl (hb hby d4_1)
  refine OEnds.go (g' := (mkF m 4 #[.val (.ref a), .val (.ref b), .unset] [(.int (0 : Int32))])) st1 ?_
  refine OEnds.go (g' := (mkF m 39 #[.val (.ref a), .val (.ref b), .unset] [])) (fun t k => XS.ifYes X1.here hx rfl (pc0 := 4) (pc' := 39) rfl (hb hby d4_4) rfl ((if0 _ _).trans (teq (by decide : ((0 : Int32) = (0 : Int32)))).1) (by decide) (by decide) k) ?_
  refine OEnds.go (g' := (mkF m 40 #[.val (.ref a), .val (.ref b), .unset] [(.int (0 : Int32))])) (fun t k => XS.iconst X1.here hx rfl (hb hby d4_39) k) ?_
  exact OEnds.outN X1 Bd.notSynchronized hx (t := .boolean) Bd.returns (by simp) (hb hby d4_40) ⟨rfl, N0, e1⟩ (by decide) (by decide)
theorem ef_rm6 (m : MethodId) (x0 : Int32) : entryFrame m #[(.int x0)] 1 = mkF m 0 #[.val (.int x0)] [] := by first | (simp [entryFrame, mkF, argsToLocals, Value.category]; done) | rfl
def f6 (p0 : Int32) : Int32 := if p0 = (0 : Int32) then (1237 : Int32) else (1231 : Int32)
def Q_rm6 (Z : State) (p0 : Int32) (h0 : Heap) (n0 : Nat) (v : Option Value) (h : Heap) (L : List Loc) : Prop := v = some (.int (f6 p0)) ∧ Fr n0 L ∧ h = h0
set_option maxRecDepth 65536 in
set_option maxHeartbeats 40000000 in
theorem rm6 (l : Launch) (Z : State) (a0 : Array Value) (hw : ∀ d ∈ tables_1, d.before a0 Z = true) (ws : List Jvm.Cond) (p0 : Int32) (h0 : Heap) (n0 : Nat) (Z0 : n0 ≤ h0.size) :
    MetFree l (⟨"java/lang/Boolean", "hashCode", "(Z)I"⟩ : MethodName) (head1 (Jvm.Cond.code (⟨"java/lang/Boolean", "hashCode", "(Z)I"⟩ : MethodName) jdk_2055_method_10_code 1 (some .int) :: ws) ({ frames := 0, cells := 0, slots := 0, locals := 0 } : Room)) (fun aa_ U => aa_ = #[(.int p0)] ∧ Z.Warmed39 U.vm ∧ U.heap = h0) (fun _ _ _ _ _ => True) (fun _ U o U' => ∃ v L, o = .returned v ∧ Q_rm6 Z p0 h0 n0 v U'.heap L ∧ FrameEnd U o U' L ({ frames := 0, cells := 0, slots := 0, locals := 0 } : Room).cells ({ frames := 0, cells := 0, slots := 0, locals := 0 } : Room).slots) := by
  refine MetFree.of_bodySF (plainFor_of_name pn_3) hisR ?_
  intro p e s m args below meth c s₁ Bd hml0 hP hK
  obtain ⟨rfl, hZ, hh⟩ := hP
  have hx := Bd.exec
  have hby := Bd.bytes
  have hml : c.maxLocals = 1 := hml0
  have hown : s.vm.findClass "java/lang/Boolean" = some m.cls := findClass_of_methodNamed Bd.named
  have hnm := (name_of_methodNamed Bd.named Bd.method).1
  have X0 : Stand p l e ({ frames := 0, cells := 0, slots := 0, locals := 0 } : Room) s m #[(.int p0)] below meth c s₁ [] 0 0 := Stand.of_body Bd
  have e0 : s₁.heap = h0 := by rw [← hh, Bd.state]; rfl
  have N0 := Fr.nil n0
  show OEnds p e below (OEndP s (Q_rm6 Z p0 h0 n0) ({ frames := 0, cells := 0, slots := 0, locals := 0 } : Room).cells ({ frames := 0, cells := 0, slots := 0, locals := 0 } : Room).slots) s₁ (entryFrame m #[(.int p0)] 1)
  rw [ef_rm6 m p0]
  refine OEnds.go (g' := (mkF m 1 #[.val (.int p0)] [(.int p0)])) (fun t k => XS.iloadN X0.here hx rfl (hb hby d6_0) rfl k) ?_
  by_cases c1_1 : p0 = (0 : Int32)
  · -- yes
    refine OEnds.go (g' := (mkF m 10 #[.val (.int p0)] [])) (fun t k => XS.ifYes X0.here hx rfl (pc0 := 1) (pc' := 10) rfl (hb hby d6_1) rfl ((if0 _ _).trans (teq c1_1).1) (by decide) (by decide) k) ?_
    refine OEnds.go (g' := (mkF m 13 #[.val (.int p0)] [(.int (1237 : Int32))])) (fun t k => XS.sipush X0.here hx rfl (hb hby d6_10) k) ?_
    exact OEnds.outI X0 Bd.notSynchronized hx Bd.returns (hb hby d6_13) ⟨by show (some (.int (1237 : Int32)) : Option Value) = some (.int (f6 p0)); rw [f6, if_pos c1_1], N0, e0⟩ (by decide) (by decide)
  · -- no
    refine OEnds.go (g' := (mkF m 4 #[.val (.int p0)] [])) (fun t k => XS.ifNo X0.here hx rfl (hb hby d6_1) rfl ((if0 _ _).trans (feq c1_1).1) k) ?_
    refine OEnds.go (g' := (mkF m 7 #[.val (.int p0)] [(.int (1231 : Int32))])) (fun t k => XS.sipush X0.here hx rfl (hb hby d6_4) k) ?_
    refine OEnds.go (g' := (mkF m 13 #[.val (.int p0)] [(.int (1231 : Int32))])) (fun t k => XS.goto X0.here hx rfl (pc0 := 7) (pc' := 13) rfl (hb hby d6_7) (by decide) (by decide) k) ?_
    exact OEnds.outI X0 Bd.notSynchronized hx Bd.returns (hb hby d6_13) ⟨by show (some (.int (1231 : Int32)) : Option Value) = some (.int (f6 p0)); rw [f6, if_neg c1_1], N0, e0⟩ (by decide) (by decide)
theorem ef_rm7 (m : MethodId) (x0 : Int64) : entryFrame m #[(.long x0)] 2 = mkF m 0 #[.val (.long x0), .second] [] := by first | (simp [entryFrame, mkF, argsToLocals, Value.category]; done) | rfl
def f7 (q0 : Int64) : Int32 := ((q0 ^^^ ((q0.toUInt64 >>> ((32 : Int32) &&& 0x3f).toInt64.toUInt64).toInt64)).toInt32)
def Q_rm7 (Z : State) (q0 : Int64) (h0 : Heap) (n0 : Nat) (v : Option Value) (h : Heap) (L : List Loc) : Prop := v = some (.int (f7 q0)) ∧ Fr n0 L ∧ h = h0
set_option maxRecDepth 65536 in
set_option maxHeartbeats 40000000 in
theorem rm7 (l : Launch) (Z : State) (a0 : Array Value) (hw : ∀ d ∈ tables_1, d.before a0 Z = true) (ws : List Jvm.Cond) (q0 : Int64) (h0 : Heap) (n0 : Nat) (Z0 : n0 ≤ h0.size) :
    MetFree l (⟨"java/lang/Long", "hashCode", "(J)I"⟩ : MethodName) (head1 (Jvm.Cond.code (⟨"java/lang/Long", "hashCode", "(J)I"⟩ : MethodName) jdk_35_method_36_code 2 (some .int) :: ws) ({ frames := 0, cells := 0, slots := 0, locals := 0 } : Room)) (fun aa_ U => aa_ = #[(.long q0)] ∧ Z.Warmed39 U.vm ∧ U.heap = h0) (fun _ _ _ _ _ => True) (fun _ U o U' => ∃ v L, o = .returned v ∧ Q_rm7 Z q0 h0 n0 v U'.heap L ∧ FrameEnd U o U' L ({ frames := 0, cells := 0, slots := 0, locals := 0 } : Room).cells ({ frames := 0, cells := 0, slots := 0, locals := 0 } : Room).slots) := by
  refine MetFree.of_bodySF (plainFor_of_name pn_4) hisR ?_
  intro p e s m args below meth c s₁ Bd hml0 hP hK
  obtain ⟨rfl, hZ, hh⟩ := hP
  have hx := Bd.exec
  have hby := Bd.bytes
  have hml : c.maxLocals = 2 := hml0
  have hown : s.vm.findClass "java/lang/Long" = some m.cls := findClass_of_methodNamed Bd.named
  have hnm := (name_of_methodNamed Bd.named Bd.method).1
  have X0 : Stand p l e ({ frames := 0, cells := 0, slots := 0, locals := 0 } : Room) s m #[(.long q0)] below meth c s₁ [] 0 0 := Stand.of_body Bd
  have e0 : s₁.heap = h0 := by rw [← hh, Bd.state]; rfl
  have N0 := Fr.nil n0
  show OEnds p e below (OEndP s (Q_rm7 Z q0 h0 n0) ({ frames := 0, cells := 0, slots := 0, locals := 0 } : Room).cells ({ frames := 0, cells := 0, slots := 0, locals := 0 } : Room).slots) s₁ (entryFrame m #[(.long q0)] 2)
  rw [ef_rm7 m q0]
  refine OEnds.go (g' := (mkF m 1 #[.val (.long q0), .second] [(.long q0)])) (fun t k => XS.lloadN X0.here hx rfl (hb hby d7_0) rfl k) ?_
  refine OEnds.go (g' := (mkF m 2 #[.val (.long q0), .second] [(.long q0), (.long q0)])) (fun t k => XS.lloadN X0.here hx rfl (hb hby d7_1) rfl k) ?_
  refine OEnds.go (g' := (mkF m 4 #[.val (.long q0), .second] [(.int (32 : Int32)), (.long q0), (.long q0)])) (fun t k => XS.bipush X0.here hx rfl (hb hby d7_2) k) ?_
  refine OEnds.go (g' := (mkF m 5 #[.val (.long q0), .second] [(.long ((q0.toUInt64 >>> ((32 : Int32) &&& 0x3f).toInt64.toUInt64).toInt64)), (.long q0)])) (fun t k => XS.lushr X0.here hx rfl (hb hby d7_4) rfl k) ?_
  refine OEnds.go (g' := (mkF m 6 #[.val (.long q0), .second] [(.long (q0 ^^^ ((q0.toUInt64 >>> ((32 : Int32) &&& 0x3f).toInt64.toUInt64).toInt64)))])) (fun t k => XS.lxor X0.here hx rfl (hb hby d7_5) rfl k) ?_
  refine OEnds.go (g' := (mkF m 7 #[.val (.long q0), .second] [(.int ((q0 ^^^ ((q0.toUInt64 >>> ((32 : Int32) &&& 0x3f).toInt64.toUInt64).toInt64)).toInt32))])) (fun t k => XS.l2i X0.here hx rfl (hb hby d7_6) rfl k) ?_
  exact OEnds.outI X0 Bd.notSynchronized hx Bd.returns (hb hby d7_7) ⟨by show (some (.int ((q0 ^^^ ((q0.toUInt64 >>> ((32 : Int32) &&& 0x3f).toInt64.toUInt64).toInt64)).toInt32)) : Option Value) = some (.int (f7 q0)); rw [f7], N0, e0⟩ (by decide) (by decide)
theorem ef_rm5 (m : MethodId) (x0 : Addr) : entryFrame m #[(.ref x0)] 1 = mkF m 0 #[.val (.ref x0)] [] := by first | (simp [entryFrame, mkF, argsToLocals, Value.category]; done) | rfl
def f5 (n1 : Int32) (q1 : Int64) : Int32 := (((31 : Int32) * (f6 n1)) + (f7 q1))
def Q_rm5 (Z : State) (a : Addr) (n1 : Int32) (q1 : Int64) (h0 : Heap) (n0 : Nat) (v : Option Value) (h : Heap) (L : List Loc) : Prop := v = some (.int (f5 n1 q1)) ∧ Fr n0 L ∧ h = h0
set_option maxRecDepth 65536 in
set_option maxHeartbeats 40000000 in
theorem rm5 (l : Launch) (Z : State) (a0 : Array Value) (hw : ∀ d ∈ tables_1, d.before a0 Z = true) (ws : List Jvm.Cond) (a : Addr) (n1 : Int32) (q1 : Int64) (h0 : Heap) (n0 : Nat) (Z0 : n0 ≤ h0.size) (Fn1 : Fld Z h0 a "com/example/chronotag/chronotag/cbor/CborInteger" "negative" "Z" (.int n1)) (Fa1 : Fld Z h0 a "com/example/chronotag/chronotag/cbor/CborInteger" "argument" "J" (.long q1)) :
    MetFree l (⟨"com/example/chronotag/chronotag/cbor/CborInteger", "hashCode", "()I"⟩ : MethodName) (head1 (Jvm.Cond.code (⟨"com/example/chronotag/chronotag/cbor/CborInteger", "hashCode", "()I"⟩ : MethodName) prog_26_method_6_code 1 (some .int) :: ws) ({ frames := 1, cells := 0, slots := 0, locals := 20 } : Room)) (fun aa_ U => aa_ = #[(.ref a)] ∧ Z.Warmed39 U.vm ∧ U.heap = h0) (fun _ _ _ _ _ => True) (fun _ U o U' => ∃ v L, o = .returned v ∧ Q_rm5 Z a n1 q1 h0 n0 v U'.heap L ∧ FrameEnd U o U' L ({ frames := 1, cells := 0, slots := 0, locals := 20 } : Room).cells ({ frames := 1, cells := 0, slots := 0, locals := 20 } : Room).slots) := by
  refine MetFree.of_bodySF (plainFor_of_name pn_1) hisR ?_
  intro p e s m args below meth c s₁ Bd hml0 hP hK
  obtain ⟨rfl, hZ, hh⟩ := hP
  have hx := Bd.exec
  have hby := Bd.bytes
  have hml : c.maxLocals = 1 := hml0
  have hown : s.vm.findClass "com/example/chronotag/chronotag/cbor/CborInteger" = some m.cls := findClass_of_methodNamed Bd.named
  have hnm := (name_of_methodNamed Bd.named Bd.method).1
  have X0 : Stand p l e ({ frames := 1, cells := 0, slots := 0, locals := 20 } : Room) s m #[(.ref a)] below meth c s₁ [] 0 0 := Stand.of_body Bd
  have e0 : s₁.heap = h0 := by rw [← hh, Bd.state]; rfl
  have N0 := Fr.nil n0
  show OEnds p e below (OEndP s (Q_rm5 Z a n1 q1 h0 n0) ({ frames := 1, cells := 0, slots := 0, locals := 20 } : Room).cells ({ frames := 1, cells := 0, slots := 0, locals := 20 } : Room).slots) s₁ (entryFrame m #[(.ref a)] 1)
  rw [ef_rm5 m a]
  refine OEnds.go (g' := (mkF m 2 #[.val (.ref a)] [(.int (31 : Int32))])) (fun t k => XS.bipush X0.here hx rfl (hb hby d5_0) k) ?_
  refine OEnds.go (g' := (mkF m 3 #[.val (.ref a)] [(.ref a), (.int (31 : Int32))])) (fun t k => XS.aloadN X0.here hx rfl (hb hby d5_2) rfl rfl k) ?_
  obtain ⟨T1, X1, e1, st1⟩ := getF X0 hx hZ hown (host := "") (Or.inl (hw _ (List.mem_of_getElem? (i := 14) rfl))) Via.refl e0 Fn1 (g := (mkF m 3 #[.val (.ref a)] [(.ref a), (.int (31 : Int32))])) rfl rfl (hb hby d5_3)
  refine OEnds.go (g' := (mkF m 6 #[.val (.ref a)] [(.int n1), (.int (31 : Int32))])) st1 ?_
  obtain ⟨_, _, ⟨T2, L2, k2, n2⟩, -, X2, ⟨Lc2, hQ2, l2, y2, z2⟩, st2⟩ := Jvm.LawKit.callS X1 hx (y := (⟨"java/lang/Boolean", "hashCode", "(Z)I"⟩ : MethodName)) hown (mvT hZ (hw _ (List.mem_of_getElem? (i := 30) rfl))) (mvT hZ (hw _ (List.mem_of_getElem? (i := 31) rfl))) (mvT hZ (hw _ (List.mem_of_getElem? (i := 32) rfl))) (mvT hZ (hw _ (List.mem_of_getElem? (i := 33) rfl))) (by decide) (backOf (W := 1) (rm6 l Z a0 hw [] n1 h0 n0 Z0) hZ (hw _ (List.mem_of_getElem? (i := 33) rfl)) (hw _ (List.mem_of_getElem? (i := 32) rfl)) (by decide) (by decide)) (g := (mkF m 6 #[.val (.ref a)] [(.int n1), (.int (31 : Int32))])) rfl (by rw [hml]; rfl) (argsL := [(.int n1)]) (rest := [(.int (31 : Int32))]) (lenOf pd_1 rfl) rfl (by show 2 * 0 + _ ≤ _; exact Nat.le_of_eq rfl) (hb hby d5_6) (fun _ _ => ⟨rfl, e1, (by decide : 0 + 0 ≤ _), (by decide : 0 + 0 ≤ _)⟩)
  dsimp only [Pt.U, Pt.locs, Pt.cells, Pt.slots] at X2 l2 y2 z2 st2 hQ2
  subst l2 y2 z2
  obtain ⟨rfl, N2q, e2⟩ := hQ2
  have N2 := Fr.app N0 N2q
  refine OEnds.go (g' := (mkF m 9 #[.val (.ref a)] [(.int (f6 n1)), (.int (31 : Int32))])) st2 ?_
  refine OEnds.go (g' := (mkF m 10 #[.val (.ref a)] [(.int ((31 : Int32) * (f6 n1)))])) (fun t k => XS.imul X2.here hx rfl (hb hby d5_9) rfl k) ?_
  refine OEnds.go (g' := (mkF m 11 #[.val (.ref a)] [(.ref a), (.int ((31 : Int32) * (f6 n1)))])) (fun t k => XS.aloadN X2.here hx rfl (hb hby d5_10) rfl rfl k) ?_
  obtain ⟨T3, X3, e3, st3⟩ := getF X2 hx hZ hown (host := "") (Or.inl (hw _ (List.mem_of_getElem? (i := 16) rfl))) Via.refl e2 Fa1 (g := (mkF m 11 #[.val (.ref a)] [(.ref a), (.int ((31 : Int32) * (f6 n1)))])) rfl rfl (hb hby d5_11)
  refine OEnds.go (g' := (mkF m 14 #[.val (.ref a)] [(.long q1), (.int ((31 : Int32) * (f6 n1)))])) st3 ?_
  obtain ⟨_, _, ⟨T4, L4, k4, n4⟩, -, X4, ⟨Lc4, hQ4, l4, y4, z4⟩, st4⟩ := Jvm.LawKit.callS X3 hx (y := (⟨"java/lang/Long", "hashCode", "(J)I"⟩ : MethodName)) hown (mvT hZ (hw _ (List.mem_of_getElem? (i := 34) rfl))) (mvT hZ (hw _ (List.mem_of_getElem? (i := 35) rfl))) (mvT hZ (hw _ (List.mem_of_getElem? (i := 36) rfl))) (mvT hZ (hw _ (List.mem_of_getElem? (i := 37) rfl))) (by decide) (backOf (W := 1) (rm7 l Z a0 hw [] q1 h0 n0 Z0) hZ (hw _ (List.mem_of_getElem? (i := 37) rfl)) (hw _ (List.mem_of_getElem? (i := 36) rfl)) (by decide) (by decide)) (g := (mkF m 14 #[.val (.ref a)] [(.long q1), (.int ((31 : Int32) * (f6 n1)))])) rfl (by rw [hml]; rfl) (argsL := [(.long q1)]) (rest := [(.int ((31 : Int32) * (f6 n1)))]) (lenOf pd_2 rfl) rfl (by show 2 * 0 + _ ≤ _; exact Nat.le_of_eq rfl) (hb hby d5_14) (fun _ _ => ⟨rfl, e3, (by decide : 0 + 0 ≤ _), (by decide : 0 + 0 ≤ _)⟩)
  dsimp only [Pt.U, Pt.locs, Pt.cells, Pt.slots] at X4 l4 y4 z4 st4 hQ4
  subst l4 y4 z4
  obtain ⟨rfl, N4q, e4⟩ := hQ4
  have N4 := Fr.app N2 N4q
  refine OEnds.go (g' := (mkF m 17 #[.val (.ref a)] [(.int (f7 q1)), (.int ((31 : Int32) * (f6 n1)))])) st4 ?_
  refine OEnds.go (g' := (mkF m 18 #[.val (.ref a)] [(.int (((31 : Int32) * (f6 n1)) + (f7 q1)))])) (fun t k => XS.iadd X4.here hx rfl (hb hby d5_17) rfl k) ?_
  exact OEnds.outI X4 Bd.notSynchronized hx Bd.returns (hb hby d5_18) ⟨by show (some (.int (((31 : Int32) * (f6 n1)) + (f7 q1))) : Option Value) = some (.int (f5 n1 q1)); rw [f5], N4, e4⟩ (by decide) (by decide)
theorem own_01 {P : Prop} [Decidable P] : nar .boolean (if P then (0 : Int32) else (1 : Int32)) = if P then (0 : Int32) else (1 : Int32) := by split <;> rfl
theorem own_fE (n1 : Int32) (q1 : Int64) (n2 : Int32) (q2 : Int64) : fE n1 q1 n2 q2 = if n1 = n2 then if q1 = q2 then (1 : Int32) else (0 : Int32) else (0 : Int32) := by rw [fE]
theorem own_sym (n1 : Int32) (q1 : Int64) (n2 : Int32) (q2 : Int64) : fE n2 q2 n1 q1 = fE n1 q1 n2 q2 := by
  rw [own_fE, own_fE]
  by_cases h : n1 = n2 <;> by_cases h' : q1 = q2 <;> simp [h, h', Ne.symm, eq_comm]
theorem own_self (n1 : Int32) (q1 : Int64) : fE n1 q1 n1 q1 = 1 := by rw [own_fE, if_pos rfl, if_pos rfl]
theorem ef_rm0 (m : MethodId) (x0 : Int32) (x1 : Int64) (x2 : Int64) : entryFrame m #[(.int x0), (.long x1), (.long x2)] maxLocals = mkF m 0 #[.val (.int x0), .val (.long x1), .second, .val (.long x2), .second, .unset, .unset, .unset, .unset, .unset, .unset, .unset, .unset] [] := by first | (simp [entryFrame, mkF, argsToLocals, Value.category, maxLocals]; done) | rfl
def Q_rm0 (Z : State) (p0 : Int32) (q1 : Int64) (q2 : Int64) (h0 : Heap) (n0 : Nat) (v : Option Value) (h : Heap) (L : List Loc) : Prop := v = some (.int 1) ∧ Fr n0 L
def jrm0_11_s0 (p0 : Int32) (q1 : Int64) (q2 : Int64) : Int32 := if (p0 &&& (1 : Int32)) = (0 : Int32) then (0 : Int32) else (1 : Int32)
def jrm0_24_s0 (p0 : Int32) (q1 : Int64) (q2 : Int64) : Int32 := if (p0 &&& (2 : Int32)) = (0 : Int32) then (0 : Int32) else (1 : Int32)
def jrm0_37_s0 (p0 : Int32) (q1 : Int64) (q2 : Int64) : Int64 := if (p0 &&& (4 : Int32)) = (0 : Int32) then q2 else q1
def jrm0_95_s0 (p0 : Int32) (q1 : Int64) (q2 : Int64) : Int32 := if (jrm0_11_s0 p0 q1 q2) = (jrm0_24_s0 p0 q1 q2) then if q1 = (jrm0_37_s0 p0 q1 q2) then (1 : Int32) else (0 : Int32) else (0 : Int32)
theorem own_n1 (p0 : Int32) (q1 q2 : Int64) : nar .boolean (jrm0_11_s0 p0 q1 q2) = jrm0_11_s0 p0 q1 q2 := by rw [jrm0_11_s0]; exact own_01
theorem own_n2 (p0 : Int32) (q1 q2 : Int64) : nar .boolean (jrm0_24_s0 p0 q1 q2) = jrm0_24_s0 p0 q1 q2 := by rw [jrm0_24_s0]; exact own_01
theorem own_e1 (p0 : Int32) (q1 q2 : Int64) : fE (nar .boolean (jrm0_11_s0 p0 q1 q2)) q1 (nar .boolean (jrm0_24_s0 p0 q1 q2)) (jrm0_37_s0 p0 q1 q2) = jrm0_95_s0 p0 q1 q2 := by
  rw [own_n1, own_n2, own_fE, jrm0_95_s0]
theorem own_e2 (p0 : Int32) (q1 q2 : Int64) : fE (nar .boolean (jrm0_24_s0 p0 q1 q2)) (jrm0_37_s0 p0 q1 q2) (nar .boolean (jrm0_11_s0 p0 q1 q2)) q1 = jrm0_95_s0 p0 q1 q2 := by
  rw [own_sym, own_e1]
theorem own_h (p0 : Int32) (q1 q2 : Int64) (h : ¬ jrm0_95_s0 p0 q1 q2 = 0) : f5 (nar .boolean (jrm0_11_s0 p0 q1 q2)) q1 = f5 (nar .boolean (jrm0_24_s0 p0 q1 q2)) (jrm0_37_s0 p0 q1 q2) := by
  rw [jrm0_95_s0] at h
  by_cases h1 : jrm0_11_s0 p0 q1 q2 = jrm0_24_s0 p0 q1 q2
  · rw [if_pos h1] at h
    by_cases h2 : q1 = jrm0_37_s0 p0 q1 q2
    · rw [h1, ← h2]
    · rw [if_neg h2] at h; exact absurd rfl h
  · rw [if_neg h1] at h; exact absurd rfl h
set_option maxRecDepth 65536 in
set_option maxHeartbeats 40000000 in
theorem rm0 (l : Launch) (Z : State) (a0 : Array Value) (hw : ∀ d ∈ tables_1, d.before a0 Z = true) (ws : List Jvm.Cond) (p0 : Int32) (q1 : Int64) (q2 : Int64) (h0 : Heap) (n0 : Nat) (Z0 : n0 ≤ h0.size) :
    MetFree l x (head1 (Jvm.Cond.code x code maxLocals ret :: ws) room_1) (fun aa_ U => aa_ = #[(.int p0), (.long q1), (.long q2)] ∧ Z.Warmed39 U.vm ∧ U.heap = h0) (fun _ _ _ _ _ => True) (fun _ U o U' => ∃ v L, o = .returned v ∧ Q_rm0 Z p0 q1 q2 h0 n0 v U'.heap L ∧ FrameEnd U o U' L room_1.cells room_1.slots) := by
  refine MetFree.of_bodySF (plainFor_of_name pn_5) hisR ?_
  intro p e s m args below meth c s₁ Bd hml0 hP hK
  obtain ⟨rfl, hZ, hh⟩ := hP
  have hx := Bd.exec
  have hby := Bd.bytes
  have hml : c.maxLocals = 13 := hml0
  have hown : s.vm.findClass "com/example/chronotag/chronotag/cbor/CborIntegerEqualsPinLaw" = some m.cls := findClass_of_methodNamed Bd.named
  have hnm := (name_of_methodNamed Bd.named Bd.method).1
  have X0 : Stand p l e room_1 s m #[(.int p0), (.long q1), (.long q2)] below meth c s₁ [] 0 0 := Stand.of_body Bd
  have e0 : s₁.heap = h0 := by rw [← hh, Bd.state]; rfl
  have N0 := Fr.nil n0
  show OEnds p e below (OEndP s (Q_rm0 Z p0 q1 q2 h0 n0) room_1.cells room_1.slots) s₁ (entryFrame m #[(.int p0), (.long q1), (.long q2)] maxLocals)
  rw [ef_rm0 m p0 q1 q2]
  refine OEnds.go (g' := (mkF m 1 #[.val (.int p0), .val (.long q1), .second, .val (.long q2), .second, .unset, .unset, .unset, .unset, .unset, .unset, .unset, .unset] [(.int p0)])) (fun t k => XS.iloadN X0.here hx rfl (hb hby at_0) rfl k) ?_
  refine OEnds.go (g' := (mkF m 2 #[.val (.int p0), .val (.long q1), .second, .val (.long q2), .second, .unset, .unset, .unset, .unset, .unset, .unset, .unset, .unset] [(.int (1 : Int32)), (.int p0)])) (fun t k => XS.iconst X0.here hx rfl (hb hby at_1) k) ?_
  refine OEnds.go (g' := (mkF m 3 #[.val (.int p0), .val (.long q1), .second, .val (.long q2), .second, .unset, .unset, .unset, .unset, .unset, .unset, .unset, .unset] [(.int (p0 &&& (1 : Int32)))])) (fun t k => XS.iand X0.here hx rfl (hb hby at_2) rfl k) ?_
  have J1 : OEnds p e below (OEndP s (Q_rm0 Z p0 q1 q2 h0 n0) room_1.cells room_1.slots) s₁ (mkF m 11 #[.val (.int p0), .val (.long q1), .second, .val (.long q2), .second, .unset, .unset, .unset, .unset, .unset, .unset, .unset, .unset] [(.int (jrm0_11_s0 p0 q1 q2))]) := by
    refine OEnds.go (g' := (mkF m 13 #[.val (.int p0), .val (.long q1), .second, .val (.long q2), .second, .val (.int (jrm0_11_s0 p0 q1 q2)), .unset, .unset, .unset, .unset, .unset, .unset, .unset] [])) (fun t k => XS.istore X0.here hx rfl (hb hby at_11) rfl (l' := #[.val (.int p0), .val (.long q1), .second, .val (.long q2), .second, .val (.int (jrm0_11_s0 p0 q1 q2)), .unset, .unset, .unset, .unset, .unset, .unset, .unset]) rfl k) ?_
    refine OEnds.go (g' := (mkF m 14 #[.val (.int p0), .val (.long q1), .second, .val (.long q2), .second, .val (.int (jrm0_11_s0 p0 q1 q2)), .unset, .unset, .unset, .unset, .unset, .unset, .unset] [(.int p0)])) (fun t k => XS.iloadN X0.here hx rfl (hb hby at_13) rfl k) ?_
    refine OEnds.go (g' := (mkF m 15 #[.val (.int p0), .val (.long q1), .second, .val (.long q2), .second, .val (.int (jrm0_11_s0 p0 q1 q2)), .unset, .unset, .unset, .unset, .unset, .unset, .unset] [(.int (2 : Int32)), (.int p0)])) (fun t k => XS.iconst X0.here hx rfl (hb hby at_14) k) ?_
    refine OEnds.go (g' := (mkF m 16 #[.val (.int p0), .val (.long q1), .second, .val (.long q2), .second, .val (.int (jrm0_11_s0 p0 q1 q2)), .unset, .unset, .unset, .unset, .unset, .unset, .unset] [(.int (p0 &&& (2 : Int32)))])) (fun t k => XS.iand X0.here hx rfl (hb hby at_15) rfl k) ?_
    have J2 : OEnds p e below (OEndP s (Q_rm0 Z p0 q1 q2 h0 n0) room_1.cells room_1.slots) s₁ (mkF m 24 #[.val (.int p0), .val (.long q1), .second, .val (.long q2), .second, .val (.int (jrm0_11_s0 p0 q1 q2)), .unset, .unset, .unset, .unset, .unset, .unset, .unset] [(.int (jrm0_24_s0 p0 q1 q2))]) := by
      refine OEnds.go (g' := (mkF m 26 #[.val (.int p0), .val (.long q1), .second, .val (.long q2), .second, .val (.int (jrm0_11_s0 p0 q1 q2)), .val (.int (jrm0_24_s0 p0 q1 q2)), .unset, .unset, .unset, .unset, .unset, .unset] [])) (fun t k => XS.istore X0.here hx rfl (hb hby at_24) rfl (l' := #[.val (.int p0), .val (.long q1), .second, .val (.long q2), .second, .val (.int (jrm0_11_s0 p0 q1 q2)), .val (.int (jrm0_24_s0 p0 q1 q2)), .unset, .unset, .unset, .unset, .unset, .unset]) rfl k) ?_
      refine OEnds.go (g' := (mkF m 27 #[.val (.int p0), .val (.long q1), .second, .val (.long q2), .second, .val (.int (jrm0_11_s0 p0 q1 q2)), .val (.int (jrm0_24_s0 p0 q1 q2)), .unset, .unset, .unset, .unset, .unset, .unset] [(.int p0)])) (fun t k => XS.iloadN X0.here hx rfl (hb hby at_26) rfl k) ?_
      refine OEnds.go (g' := (mkF m 28 #[.val (.int p0), .val (.long q1), .second, .val (.long q2), .second, .val (.int (jrm0_11_s0 p0 q1 q2)), .val (.int (jrm0_24_s0 p0 q1 q2)), .unset, .unset, .unset, .unset, .unset, .unset] [(.int (4 : Int32)), (.int p0)])) (fun t k => XS.iconst X0.here hx rfl (hb hby at_27) k) ?_
      refine OEnds.go (g' := (mkF m 29 #[.val (.int p0), .val (.long q1), .second, .val (.long q2), .second, .val (.int (jrm0_11_s0 p0 q1 q2)), .val (.int (jrm0_24_s0 p0 q1 q2)), .unset, .unset, .unset, .unset, .unset, .unset] [(.int (p0 &&& (4 : Int32)))])) (fun t k => XS.iand X0.here hx rfl (hb hby at_28) rfl k) ?_
      have J3 : OEnds p e below (OEndP s (Q_rm0 Z p0 q1 q2 h0 n0) room_1.cells room_1.slots) s₁ (mkF m 37 #[.val (.int p0), .val (.long q1), .second, .val (.long q2), .second, .val (.int (jrm0_11_s0 p0 q1 q2)), .val (.int (jrm0_24_s0 p0 q1 q2)), .unset, .unset, .unset, .unset, .unset, .unset] [(.long (jrm0_37_s0 p0 q1 q2))]) := by
        refine OEnds.go (g' := (mkF m 39 #[.val (.int p0), .val (.long q1), .second, .val (.long q2), .second, .val (.int (jrm0_11_s0 p0 q1 q2)), .val (.int (jrm0_24_s0 p0 q1 q2)), .val (.long (jrm0_37_s0 p0 q1 q2)), .second, .unset, .unset, .unset, .unset] [])) (fun t k => XS.lstore X0.here hx rfl (hb hby at_37) rfl (l' := #[.val (.int p0), .val (.long q1), .second, .val (.long q2), .second, .val (.int (jrm0_11_s0 p0 q1 q2)), .val (.int (jrm0_24_s0 p0 q1 q2)), .val (.long (jrm0_37_s0 p0 q1 q2)), .second, .unset, .unset, .unset, .unset]) rfl k) ?_
        refine OEnds.go (g' := (mkF m 40 #[.val (.int p0), .val (.long q1), .second, .val (.long q2), .second, .val (.int (jrm0_11_s0 p0 q1 q2)), .val (.int (jrm0_24_s0 p0 q1 q2)), .val (.long (jrm0_37_s0 p0 q1 q2)), .second, .unset, .unset, .unset, .unset] [(.int p0)])) (fun t k => XS.iloadN X0.here hx rfl (hb hby at_39) rfl k) ?_
        refine OEnds.go (g' := (mkF m 41 #[.val (.int p0), .val (.long q1), .second, .val (.long q2), .second, .val (.int (jrm0_11_s0 p0 q1 q2)), .val (.int (jrm0_24_s0 p0 q1 q2)), .val (.long (jrm0_37_s0 p0 q1 q2)), .second, .unset, .unset, .unset, .unset] [(.int (3 : Int32)), (.int p0)])) (fun t k => XS.iconst X0.here hx rfl (hb hby at_40) k) ?_
        refine OEnds.go (g' := (mkF m 42 #[.val (.int p0), .val (.long q1), .second, .val (.long q2), .second, .val (.int (jrm0_11_s0 p0 q1 q2)), .val (.int (jrm0_24_s0 p0 q1 q2)), .val (.long (jrm0_37_s0 p0 q1 q2)), .second, .unset, .unset, .unset, .unset] [(.int ((p0.toUInt32 >>> ((3 : Int32) &&& 31).toUInt32).toInt32))])) (fun t k => XS.iushr X0.here hx rfl (hb hby at_41) rfl k) ?_
        refine OEnds.go (g' := (mkF m 43 #[.val (.int p0), .val (.long q1), .second, .val (.long q2), .second, .val (.int (jrm0_11_s0 p0 q1 q2)), .val (.int (jrm0_24_s0 p0 q1 q2)), .val (.long (jrm0_37_s0 p0 q1 q2)), .second, .unset, .unset, .unset, .unset] [(.int (3 : Int32)), (.int ((p0.toUInt32 >>> ((3 : Int32) &&& 31).toUInt32).toInt32))])) (fun t k => XS.iconst X0.here hx rfl (hb hby at_42) k) ?_
        refine OEnds.go (g' := (mkF m 44 #[.val (.int p0), .val (.long q1), .second, .val (.long q2), .second, .val (.int (jrm0_11_s0 p0 q1 q2)), .val (.int (jrm0_24_s0 p0 q1 q2)), .val (.long (jrm0_37_s0 p0 q1 q2)), .second, .unset, .unset, .unset, .unset] [(.int (((p0.toUInt32 >>> ((3 : Int32) &&& 31).toUInt32).toInt32) &&& (3 : Int32)))])) (fun t k => XS.iand X0.here hx rfl (hb hby at_43) rfl k) ?_
        refine OEnds.go (g' := (mkF m 46 #[.val (.int p0), .val (.long q1), .second, .val (.long q2), .second, .val (.int (jrm0_11_s0 p0 q1 q2)), .val (.int (jrm0_24_s0 p0 q1 q2)), .val (.long (jrm0_37_s0 p0 q1 q2)), .second, .val (.int (((p0.toUInt32 >>> ((3 : Int32) &&& 31).toUInt32).toInt32) &&& (3 : Int32))), .unset, .unset, .unset] [])) (fun t k => XS.istore X0.here hx rfl (hb hby at_44) rfl (l' := #[.val (.int p0), .val (.long q1), .second, .val (.long q2), .second, .val (.int (jrm0_11_s0 p0 q1 q2)), .val (.int (jrm0_24_s0 p0 q1 q2)), .val (.long (jrm0_37_s0 p0 q1 q2)), .second, .val (.int (((p0.toUInt32 >>> ((3 : Int32) &&& 31).toUInt32).toInt32) &&& (3 : Int32))), .unset, .unset, .unset]) rfl k) ?_
        obtain ⟨T4, h4, X4, e4, E4, A4, D4, -, st4⟩ := newO X0 hx hZ hown (hw _ (List.mem_of_getElem? (i := 0) rfl)) (hw _ (List.mem_of_getElem? (i := 1) rfl)) (hw _ (List.mem_of_getElem? (i := 2) rfl)) e0 (g := (mkF m 46 #[.val (.int p0), .val (.long q1), .second, .val (.long q2), .second, .val (.int (jrm0_11_s0 p0 q1 q2)), .val (.int (jrm0_24_s0 p0 q1 q2)), .val (.long (jrm0_37_s0 p0 q1 q2)), .second, .val (.int (((p0.toUInt32 >>> ((3 : Int32) &&& 31).toUInt32).toInt32) &&& (3 : Int32))), .unset, .unset, .unset] [])) rfl (hb hby at_46) (by decide) (by decide)
        obtain ⟨b4, g4⟩ : ∃ z, z = h0.size := ⟨_, rfl⟩
        rw [← g4] at A4 D4 st4
        have g_b4 : n0 ≤ b4 := Nat.le_trans Z0 (Nat.le_of_eq g4.symm)
        have F_negative_b4 : Fld Z h4 b4 "com/example/chronotag/chronotag/cbor/CborInteger" "negative" "Z" (.int (0 : Int32)) := D4 (Or.inr (hw _ (List.mem_of_getElem? (i := 15) rfl))) (ty := .boolean) (by decide)
        have F_argument_b4 : Fld Z h4 b4 "com/example/chronotag/chronotag/cbor/CborInteger" "argument" "J" (.long (0 : Int64)) := D4 (Or.inr (hw _ (List.mem_of_getElem? (i := 17) rfl))) (ty := .long) (by decide)
        refine OEnds.go (g' := (mkF m 49 #[.val (.int p0), .val (.long q1), .second, .val (.long q2), .second, .val (.int (jrm0_11_s0 p0 q1 q2)), .val (.int (jrm0_24_s0 p0 q1 q2)), .val (.long (jrm0_37_s0 p0 q1 q2)), .second, .val (.int (((p0.toUInt32 >>> ((3 : Int32) &&& 31).toUInt32).toInt32) &&& (3 : Int32))), .unset, .unset, .unset] [(.ref b4)])) st4 ?_
        refine OEnds.go (g' := (mkF m 50 #[.val (.int p0), .val (.long q1), .second, .val (.long q2), .second, .val (.int (jrm0_11_s0 p0 q1 q2)), .val (.int (jrm0_24_s0 p0 q1 q2)), .val (.long (jrm0_37_s0 p0 q1 q2)), .second, .val (.int (((p0.toUInt32 >>> ((3 : Int32) &&& 31).toUInt32).toInt32) &&& (3 : Int32))), .unset, .unset, .unset] [(.ref b4), (.ref b4)])) (fun t k => XS.dup X4.here hx rfl (hb hby at_49) rfl rfl k) ?_
        refine OEnds.go (g' := (mkF m 52 #[.val (.int p0), .val (.long q1), .second, .val (.long q2), .second, .val (.int (jrm0_11_s0 p0 q1 q2)), .val (.int (jrm0_24_s0 p0 q1 q2)), .val (.long (jrm0_37_s0 p0 q1 q2)), .second, .val (.int (((p0.toUInt32 >>> ((3 : Int32) &&& 31).toUInt32).toInt32) &&& (3 : Int32))), .unset, .unset, .unset] [(.int (jrm0_11_s0 p0 q1 q2)), (.ref b4), (.ref b4)])) (fun t k => XS.iload X4.here hx rfl (hb hby at_50) rfl k) ?_
        refine OEnds.go (g' := (mkF m 53 #[.val (.int p0), .val (.long q1), .second, .val (.long q2), .second, .val (.int (jrm0_11_s0 p0 q1 q2)), .val (.int (jrm0_24_s0 p0 q1 q2)), .val (.long (jrm0_37_s0 p0 q1 q2)), .second, .val (.int (((p0.toUInt32 >>> ((3 : Int32) &&& 31).toUInt32).toInt32) &&& (3 : Int32))), .unset, .unset, .unset] [(.long q1), (.int (jrm0_11_s0 p0 q1 q2)), (.ref b4), (.ref b4)])) (fun t k => XS.lloadN X4.here hx rfl (hb hby at_52) rfl k) ?_
        obtain ⟨_, _, ⟨T5, L5, k5, n5⟩, -, X5, ⟨Lc5, hQ5, l5, y5, z5⟩, st5⟩ := X4.specialBack hx (y := (⟨"com/example/chronotag/chronotag/cbor/CborInteger", "<init>", "(ZJ)V"⟩ : MethodName)) rfl hown (mvT hZ (hw _ (List.mem_of_getElem? (i := 3) rfl))) (mvT hZ (hw _ (List.mem_of_getElem? (i := 4) rfl))) (mvT hZ (hw _ (List.mem_of_getElem? (i := 5) rfl))) (by decide) (backOf (W := 1) (rm1 l Z a0 hw [] b4 (jrm0_11_s0 p0 q1 q2) q1 h4 n0 (Nat.le_trans Z0 E4.1) A4 F_negative_b4 F_argument_b4 g_b4) hZ (hw _ (List.mem_of_getElem? (i := 5) rfl)) (hw _ (List.mem_of_getElem? (i := 2) rfl)) (by decide) (by decide)) (g := (mkF m 53 #[.val (.int p0), .val (.long q1), .second, .val (.long q2), .second, .val (.int (jrm0_11_s0 p0 q1 q2)), .val (.int (jrm0_24_s0 p0 q1 q2)), .val (.long (jrm0_37_s0 p0 q1 q2)), .second, .val (.int (((p0.toUInt32 >>> ((3 : Int32) &&& 31).toUInt32).toInt32) &&& (3 : Int32))), .unset, .unset, .unset] [(.long q1), (.int (jrm0_11_s0 p0 q1 q2)), (.ref b4), (.ref b4)])) rfl (by rw [hml]; rfl) (Steps.refl _) (a := b4) (argsL := [(.int (jrm0_11_s0 p0 q1 q2)), (.long q1)]) (rest := [(.ref b4)]) (lenOf pd_3 rfl) rfl (by show 2 * 0 + _ ≤ _; exact Nat.le_of_eq rfl) (hb hby at_53) (fun _ _ => ⟨rfl, e4, (by decide : 1 + 0 ≤ _), (by decide : 2 + 0 ≤ _)⟩)
        dsimp only [Pt.U, Pt.locs, Pt.cells, Pt.slots] at X5 l5 y5 z5 st5 hQ5
        subst l5 y5 z5
        obtain ⟨rfl, N5q, K5q, E5q, Fn5q, Fa5q⟩ := hQ5
        have N5 := Fr.app N0 N5q
        refine OEnds.tr (g' := (mkF m 56 #[.val (.int p0), .val (.long q1), .second, .val (.long q2), .second, .val (.int (jrm0_11_s0 p0 q1 q2)), .val (.int (jrm0_24_s0 p0 q1 q2)), .val (.long (jrm0_37_s0 p0 q1 q2)), .second, .val (.int (((p0.toUInt32 >>> ((3 : Int32) &&& 31).toUInt32).toInt32) &&& (3 : Int32))), .unset, .unset, .unset] [(.ref b4)])) st5 ?_
        refine OEnds.go (g' := (mkF m 58 #[.val (.int p0), .val (.long q1), .second, .val (.long q2), .second, .val (.int (jrm0_11_s0 p0 q1 q2)), .val (.int (jrm0_24_s0 p0 q1 q2)), .val (.long (jrm0_37_s0 p0 q1 q2)), .second, .val (.int (((p0.toUInt32 >>> ((3 : Int32) &&& 31).toUInt32).toInt32) &&& (3 : Int32))), .val (.ref b4), .unset, .unset] [])) (fun t k => XS.astore X5.here hx rfl (hb hby at_56) rfl rfl (l' := #[.val (.int p0), .val (.long q1), .second, .val (.long q2), .second, .val (.int (jrm0_11_s0 p0 q1 q2)), .val (.int (jrm0_24_s0 p0 q1 q2)), .val (.long (jrm0_37_s0 p0 q1 q2)), .second, .val (.int (((p0.toUInt32 >>> ((3 : Int32) &&& 31).toUInt32).toInt32) &&& (3 : Int32))), .val (.ref b4), .unset, .unset]) rfl k) ?_
        refine OEnds.go (g' := (mkF m 60 #[.val (.int p0), .val (.long q1), .second, .val (.long q2), .second, .val (.int (jrm0_11_s0 p0 q1 q2)), .val (.int (jrm0_24_s0 p0 q1 q2)), .val (.long (jrm0_37_s0 p0 q1 q2)), .second, .val (.int (((p0.toUInt32 >>> ((3 : Int32) &&& 31).toUInt32).toInt32) &&& (3 : Int32))), .val (.ref b4), .unset, .unset] [(.int (((p0.toUInt32 >>> ((3 : Int32) &&& 31).toUInt32).toInt32) &&& (3 : Int32)))])) (fun t k => XS.iload X5.here hx rfl (hb hby at_58) rfl k) ?_
        by_cases c60_6 : (((p0.toUInt32 >>> ((3 : Int32) &&& 31).toUInt32).toInt32) &&& (3 : Int32)) = (0 : Int32)
        · -- yes
          refine OEnds.go (g' := (mkF m 63 #[.val (.int p0), .val (.long q1), .second, .val (.long q2), .second, .val (.int (jrm0_11_s0 p0 q1 q2)), .val (.int (jrm0_24_s0 p0 q1 q2)), .val (.long (jrm0_37_s0 p0 q1 q2)), .second, .val (.int (((p0.toUInt32 >>> ((3 : Int32) &&& 31).toUInt32).toInt32) &&& (3 : Int32))), .val (.ref b4), .unset, .unset] [])) (fun t k => XS.ifNo X5.here hx rfl (hb hby at_60) rfl ((if0 _ _).trans (teq c60_6).2) k) ?_
          obtain ⟨T7, h7, X7, e7, E7, A7, D7, -, st7⟩ := newO X5 hx hZ hown (hw _ (List.mem_of_getElem? (i := 0) rfl)) (hw _ (List.mem_of_getElem? (i := 1) rfl)) (hw _ (List.mem_of_getElem? (i := 2) rfl)) rfl (g := (mkF m 63 #[.val (.int p0), .val (.long q1), .second, .val (.long q2), .second, .val (.int (jrm0_11_s0 p0 q1 q2)), .val (.int (jrm0_24_s0 p0 q1 q2)), .val (.long (jrm0_37_s0 p0 q1 q2)), .second, .val (.int (((p0.toUInt32 >>> ((3 : Int32) &&& 31).toUInt32).toInt32) &&& (3 : Int32))), .val (.ref b4), .unset, .unset] [])) rfl (hb hby at_63) (by decide) (by decide)
          obtain ⟨b7, g7⟩ : ∃ z, z = T5.heap.size := ⟨_, rfl⟩
          rw [← g7] at A7 D7 st7
          have g_b7 : n0 ≤ b7 := Nat.le_trans (Nat.le_trans (Nat.le_trans Z0 E4.1) K5q.1) (Nat.le_of_eq g7.symm)
          have F_negative_b7 : Fld Z h7 b7 "com/example/chronotag/chronotag/cbor/CborInteger" "negative" "Z" (.int (0 : Int32)) := D7 (Or.inr (hw _ (List.mem_of_getElem? (i := 15) rfl))) (ty := .boolean) (by decide)
          have F_argument_b7 : Fld Z h7 b7 "com/example/chronotag/chronotag/cbor/CborInteger" "argument" "J" (.long (0 : Int64)) := D7 (Or.inr (hw _ (List.mem_of_getElem? (i := 17) rfl))) (ty := .long) (by decide)
          refine OEnds.go (g' := (mkF m 66 #[.val (.int p0), .val (.long q1), .second, .val (.long q2), .second, .val (.int (jrm0_11_s0 p0 q1 q2)), .val (.int (jrm0_24_s0 p0 q1 q2)), .val (.long (jrm0_37_s0 p0 q1 q2)), .second, .val (.int (((p0.toUInt32 >>> ((3 : Int32) &&& 31).toUInt32).toInt32) &&& (3 : Int32))), .val (.ref b4), .unset, .unset] [(.ref b7)])) st7 ?_
          refine OEnds.go (g' := (mkF m 67 #[.val (.int p0), .val (.long q1), .second, .val (.long q2), .second, .val (.int (jrm0_11_s0 p0 q1 q2)), .val (.int (jrm0_24_s0 p0 q1 q2)), .val (.long (jrm0_37_s0 p0 q1 q2)), .second, .val (.int (((p0.toUInt32 >>> ((3 : Int32) &&& 31).toUInt32).toInt32) &&& (3 : Int32))), .val (.ref b4), .unset, .unset] [(.ref b7), (.ref b7)])) (fun t k => XS.dup X7.here hx rfl (hb hby at_66) rfl rfl k) ?_
          refine OEnds.go (g' := (mkF m 69 #[.val (.int p0), .val (.long q1), .second, .val (.long q2), .second, .val (.int (jrm0_11_s0 p0 q1 q2)), .val (.int (jrm0_24_s0 p0 q1 q2)), .val (.long (jrm0_37_s0 p0 q1 q2)), .second, .val (.int (((p0.toUInt32 >>> ((3 : Int32) &&& 31).toUInt32).toInt32) &&& (3 : Int32))), .val (.ref b4), .unset, .unset] [(.int (jrm0_24_s0 p0 q1 q2)), (.ref b7), (.ref b7)])) (fun t k => XS.iload X7.here hx rfl (hb hby at_67) rfl k) ?_
          refine OEnds.go (g' := (mkF m 71 #[.val (.int p0), .val (.long q1), .second, .val (.long q2), .second, .val (.int (jrm0_11_s0 p0 q1 q2)), .val (.int (jrm0_24_s0 p0 q1 q2)), .val (.long (jrm0_37_s0 p0 q1 q2)), .second, .val (.int (((p0.toUInt32 >>> ((3 : Int32) &&& 31).toUInt32).toInt32) &&& (3 : Int32))), .val (.ref b4), .unset, .unset] [(.long (jrm0_37_s0 p0 q1 q2)), (.int (jrm0_24_s0 p0 q1 q2)), (.ref b7), (.ref b7)])) (fun t k => XS.lload X7.here hx rfl (hb hby at_69) rfl k) ?_
          obtain ⟨_, _, ⟨T8, L8, k8, n8⟩, -, X8, ⟨Lc8, hQ8, l8, y8, z8⟩, st8⟩ := X7.specialBack hx (y := (⟨"com/example/chronotag/chronotag/cbor/CborInteger", "<init>", "(ZJ)V"⟩ : MethodName)) rfl hown (mvT hZ (hw _ (List.mem_of_getElem? (i := 3) rfl))) (mvT hZ (hw _ (List.mem_of_getElem? (i := 4) rfl))) (mvT hZ (hw _ (List.mem_of_getElem? (i := 5) rfl))) (by decide) (backOf (W := 1) (rm1 l Z a0 hw [] b7 (jrm0_24_s0 p0 q1 q2) (jrm0_37_s0 p0 q1 q2) h7 n0 (Nat.le_trans (Nat.le_trans (Nat.le_trans Z0 E4.1) K5q.1) E7.1) A7 F_negative_b7 F_argument_b7 g_b7) hZ (hw _ (List.mem_of_getElem? (i := 5) rfl)) (hw _ (List.mem_of_getElem? (i := 2) rfl)) (by decide) (by decide)) (g := (mkF m 71 #[.val (.int p0), .val (.long q1), .second, .val (.long q2), .second, .val (.int (jrm0_11_s0 p0 q1 q2)), .val (.int (jrm0_24_s0 p0 q1 q2)), .val (.long (jrm0_37_s0 p0 q1 q2)), .second, .val (.int (((p0.toUInt32 >>> ((3 : Int32) &&& 31).toUInt32).toInt32) &&& (3 : Int32))), .val (.ref b4), .unset, .unset] [(.long (jrm0_37_s0 p0 q1 q2)), (.int (jrm0_24_s0 p0 q1 q2)), (.ref b7), (.ref b7)])) rfl (by rw [hml]; rfl) (Steps.refl _) (a := b7) (argsL := [(.int (jrm0_24_s0 p0 q1 q2)), (.long (jrm0_37_s0 p0 q1 q2))]) (rest := [(.ref b7)]) (lenOf pd_3 rfl) rfl (by show 2 * 0 + _ ≤ _; exact Nat.le_of_eq rfl) (hb hby at_71) (fun _ _ => ⟨rfl, e7, (by decide : 2 + 0 ≤ _), (by decide : 4 + 0 ≤ _)⟩)
          dsimp only [Pt.U, Pt.locs, Pt.cells, Pt.slots] at X8 l8 y8 z8 st8 hQ8
          subst l8 y8 z8
          obtain ⟨rfl, N8q, K8q, E8q, Fn8q, Fa8q⟩ := hQ8
          have N8 := Fr.app N5 N8q
          refine OEnds.tr (g' := (mkF m 74 #[.val (.int p0), .val (.long q1), .second, .val (.long q2), .second, .val (.int (jrm0_11_s0 p0 q1 q2)), .val (.int (jrm0_24_s0 p0 q1 q2)), .val (.long (jrm0_37_s0 p0 q1 q2)), .second, .val (.int (((p0.toUInt32 >>> ((3 : Int32) &&& 31).toUInt32).toInt32) &&& (3 : Int32))), .val (.ref b4), .unset, .unset] [(.ref b7)])) st8 ?_
          refine OEnds.go (g' := (mkF m 76 #[.val (.int p0), .val (.long q1), .second, .val (.long q2), .second, .val (.int (jrm0_11_s0 p0 q1 q2)), .val (.int (jrm0_24_s0 p0 q1 q2)), .val (.long (jrm0_37_s0 p0 q1 q2)), .second, .val (.int (((p0.toUInt32 >>> ((3 : Int32) &&& 31).toUInt32).toInt32) &&& (3 : Int32))), .val (.ref b4), .val (.ref b7), .unset] [])) (fun t k => XS.astore X8.here hx rfl (hb hby at_74) rfl rfl (l' := #[.val (.int p0), .val (.long q1), .second, .val (.long q2), .second, .val (.int (jrm0_11_s0 p0 q1 q2)), .val (.int (jrm0_24_s0 p0 q1 q2)), .val (.long (jrm0_37_s0 p0 q1 q2)), .second, .val (.int (((p0.toUInt32 >>> ((3 : Int32) &&& 31).toUInt32).toInt32) &&& (3 : Int32))), .val (.ref b4), .val (.ref b7), .unset]) rfl k) ?_
          have J9 : OEnds p e below (OEndP s (Q_rm0 Z p0 q1 q2 h0 n0) room_1.cells room_1.slots) T8 (mkF m 95 #[.val (.int p0), .val (.long q1), .second, .val (.long q2), .second, .val (.int (jrm0_11_s0 p0 q1 q2)), .val (.int (jrm0_24_s0 p0 q1 q2)), .val (.long (jrm0_37_s0 p0 q1 q2)), .second, .val (.int (((p0.toUInt32 >>> ((3 : Int32) &&& 31).toUInt32).toInt32) &&& (3 : Int32))), .val (.ref b4), .val (.ref b7), .unset] [(.int (jrm0_95_s0 p0 q1 q2))]) := by
            refine OEnds.go (g' := (mkF m 97 #[.val (.int p0), .val (.long q1), .second, .val (.long q2), .second, .val (.int (jrm0_11_s0 p0 q1 q2)), .val (.int (jrm0_24_s0 p0 q1 q2)), .val (.long (jrm0_37_s0 p0 q1 q2)), .second, .val (.int (((p0.toUInt32 >>> ((3 : Int32) &&& 31).toUInt32).toInt32) &&& (3 : Int32))), .val (.ref b4), .val (.ref b7), .val (.int (jrm0_95_s0 p0 q1 q2))] [])) (fun t k => XS.istore X8.here hx rfl (hb hby at_95) rfl (l' := #[.val (.int p0), .val (.long q1), .second, .val (.long q2), .second, .val (.int (jrm0_11_s0 p0 q1 q2)), .val (.int (jrm0_24_s0 p0 q1 q2)), .val (.long (jrm0_37_s0 p0 q1 q2)), .second, .val (.int (((p0.toUInt32 >>> ((3 : Int32) &&& 31).toUInt32).toInt32) &&& (3 : Int32))), .val (.ref b4), .val (.ref b7), .val (.int (jrm0_95_s0 p0 q1 q2))]) rfl k) ?_
            refine OEnds.go (g' := (mkF m 99 #[.val (.int p0), .val (.long q1), .second, .val (.long q2), .second, .val (.int (jrm0_11_s0 p0 q1 q2)), .val (.int (jrm0_24_s0 p0 q1 q2)), .val (.long (jrm0_37_s0 p0 q1 q2)), .second, .val (.int (((p0.toUInt32 >>> ((3 : Int32) &&& 31).toUInt32).toInt32) &&& (3 : Int32))), .val (.ref b4), .val (.ref b7), .val (.int (jrm0_95_s0 p0 q1 q2))] [(.ref b4)])) (fun t k => XS.aload X8.here hx rfl (hb hby at_97) rfl rfl k) ?_
            refine OEnds.go (g' := (mkF m 101 #[.val (.int p0), .val (.long q1), .second, .val (.long q2), .second, .val (.int (jrm0_11_s0 p0 q1 q2)), .val (.int (jrm0_24_s0 p0 q1 q2)), .val (.long (jrm0_37_s0 p0 q1 q2)), .second, .val (.int (((p0.toUInt32 >>> ((3 : Int32) &&& 31).toUInt32).toInt32) &&& (3 : Int32))), .val (.ref b4), .val (.ref b7), .val (.int (jrm0_95_s0 p0 q1 q2))] [(.ref b7), (.ref b4)])) (fun t k => XS.aload X8.here hx rfl (hb hby at_99) rfl rfl k) ?_
            obtain ⟨cq10, kq10, q10a, q10b, q10c⟩ := isOf hZ rfl ((E5q.ext E7).keep K8q)
            obtain ⟨_, _, ⟨T10, L10, k10, n10⟩, -, X10, ⟨Lc10, hQ10, l10, y10, z10⟩, st10⟩ := X8.virtualBack hx (y := (⟨"com/example/chronotag/chronotag/cbor/CborInteger", "equals", "(Ljava/lang/Object;)Z"⟩ : MethodName)) (z := (⟨"com/example/chronotag/chronotag/cbor/CborInteger", "equals", "(Ljava/lang/Object;)Z"⟩ : MethodName)) hown (mvT hZ (hw _ (List.mem_of_getElem? (i := 18) rfl))) (mvT hZ (hw _ (List.mem_of_getElem? (i := 19) rfl))) (notFace_of_selects (args := #[]) (mvT hZ (hw _ (List.mem_of_getElem? (i := 21) rfl)))) (mvT hZ (hw _ (List.mem_of_getElem? (i := 21) rfl))) (mvT hZ (hw _ (List.mem_of_getElem? (i := 20) rfl))) (by decide) (backOf (W := 0) (rmE1 l Z a0 hw [] b4 b7 (nar .boolean (jrm0_11_s0 p0 q1 q2)) q1 (nar .boolean (jrm0_24_s0 p0 q1 q2)) (jrm0_37_s0 p0 q1 q2) T8.heap n0 (Nat.le_trans (Nat.le_trans (Nat.le_trans (Nat.le_trans Z0 E4.1) K5q.1) E7.1) K8q.1) ((Fn5q.ext E7).keep K8q (ninS (Nat.ne_of_lt (Nat.lt_of_lt_of_le (A4.keep K5q).lt (Nat.le_of_eq g7.symm))) nin0)) ((Fa5q.ext E7).keep K8q (ninS (Nat.ne_of_lt (Nat.lt_of_lt_of_le (A4.keep K5q).lt (Nat.le_of_eq g7.symm))) nin0)) E8q Fn8q Fa8q) hZ (hw _ (List.mem_of_getElem? (i := 22) rfl)) (hw _ (List.mem_of_getElem? (i := 2) rfl)) (by decide) (by decide)) q10a q10c (g := (mkF m 101 #[.val (.int p0), .val (.long q1), .second, .val (.long q2), .second, .val (.int (jrm0_11_s0 p0 q1 q2)), .val (.int (jrm0_24_s0 p0 q1 q2)), .val (.long (jrm0_37_s0 p0 q1 q2)), .second, .val (.int (((p0.toUInt32 >>> ((3 : Int32) &&& 31).toUInt32).toInt32) &&& (3 : Int32))), .val (.ref b4), .val (.ref b7), .val (.int (jrm0_95_s0 p0 q1 q2))] [(.ref b7), (.ref b4)])) rfl (by rw [hml]; rfl) (Steps.refl _) (argsL := [(.ref b7)]) (rest := []) (lenOf pd_4 rfl) rfl (by show 2 * 0 + _ ≤ _; exact Nat.le_of_eq rfl) (hb hby at_101) (fun _ _ => ⟨rfl, rfl, (by decide : 2 + 0 ≤ _), (by decide : 4 + 0 ≤ _)⟩)
            dsimp only [Pt.U, Pt.locs, Pt.cells, Pt.slots] at X10 l10 y10 z10 st10 hQ10
            subst l10 y10 z10
            obtain ⟨rfl, N10q, e10⟩ := hQ10
            have N10 := Fr.app N8 N10q
            refine OEnds.tr (g' := (mkF m 104 #[.val (.int p0), .val (.long q1), .second, .val (.long q2), .second, .val (.int (jrm0_11_s0 p0 q1 q2)), .val (.int (jrm0_24_s0 p0 q1 q2)), .val (.long (jrm0_37_s0 p0 q1 q2)), .second, .val (.int (((p0.toUInt32 >>> ((3 : Int32) &&& 31).toUInt32).toInt32) &&& (3 : Int32))), .val (.ref b4), .val (.ref b7), .val (.int (jrm0_95_s0 p0 q1 q2))] [(.int (fE (nar .boolean (jrm0_11_s0 p0 q1 q2)) q1 (nar .boolean (jrm0_24_s0 p0 q1 q2)) (jrm0_37_s0 p0 q1 q2)))])) st10 ?_
            refine OEnds.go (g' := (mkF m 106 #[.val (.int p0), .val (.long q1), .second, .val (.long q2), .second, .val (.int (jrm0_11_s0 p0 q1 q2)), .val (.int (jrm0_24_s0 p0 q1 q2)), .val (.long (jrm0_37_s0 p0 q1 q2)), .second, .val (.int (((p0.toUInt32 >>> ((3 : Int32) &&& 31).toUInt32).toInt32) &&& (3 : Int32))), .val (.ref b4), .val (.ref b7), .val (.int (jrm0_95_s0 p0 q1 q2))] [(.int (jrm0_95_s0 p0 q1 q2)), (.int (fE (nar .boolean (jrm0_11_s0 p0 q1 q2)) q1 (nar .boolean (jrm0_24_s0 p0 q1 q2)) (jrm0_37_s0 p0 q1 q2)))])) (fun t k => XS.iload X10.here hx rfl (hb hby at_104) rfl k) ?_
            refine OEnds.go (g' := (mkF m 111 #[.val (.int p0), .val (.long q1), .second, .val (.long q2), .second, .val (.int (jrm0_11_s0 p0 q1 q2)), .val (.int (jrm0_24_s0 p0 q1 q2)), .val (.long (jrm0_37_s0 p0 q1 q2)), .second, .val (.int (((p0.toUInt32 >>> ((3 : Int32) &&& 31).toUInt32).toInt32) &&& (3 : Int32))), .val (.ref b4), .val (.ref b7), .val (.int (jrm0_95_s0 p0 q1 q2))] [])) (fun t k => XS.icmpYes X10.here hx rfl (pc0 := 106) (pc' := 111) rfl (hb hby at_106) rfl (teq (own_e1 p0 q1 q2 : ((fE (nar .boolean (jrm0_11_s0 p0 q1 q2)) q1 (nar .boolean (jrm0_24_s0 p0 q1 q2)) (jrm0_37_s0 p0 q1 q2)) = (jrm0_95_s0 p0 q1 q2)))).1 (by decide) (by decide) k) ?_
            refine OEnds.go (g' := (mkF m 113 #[.val (.int p0), .val (.long q1), .second, .val (.long q2), .second, .val (.int (jrm0_11_s0 p0 q1 q2)), .val (.int (jrm0_24_s0 p0 q1 q2)), .val (.long (jrm0_37_s0 p0 q1 q2)), .second, .val (.int (((p0.toUInt32 >>> ((3 : Int32) &&& 31).toUInt32).toInt32) &&& (3 : Int32))), .val (.ref b4), .val (.ref b7), .val (.int (jrm0_95_s0 p0 q1 q2))] [(.ref b7)])) (fun t k => XS.aload X10.here hx rfl (hb hby at_111) rfl rfl k) ?_
            refine OEnds.go (g' := (mkF m 115 #[.val (.int p0), .val (.long q1), .second, .val (.long q2), .second, .val (.int (jrm0_11_s0 p0 q1 q2)), .val (.int (jrm0_24_s0 p0 q1 q2)), .val (.long (jrm0_37_s0 p0 q1 q2)), .second, .val (.int (((p0.toUInt32 >>> ((3 : Int32) &&& 31).toUInt32).toInt32) &&& (3 : Int32))), .val (.ref b4), .val (.ref b7), .val (.int (jrm0_95_s0 p0 q1 q2))] [(.ref b4), (.ref b7)])) (fun t k => XS.aload X10.here hx rfl (hb hby at_113) rfl rfl k) ?_
            obtain ⟨cq11, kq11, q11a, q11b, q11c⟩ := isOf hZ e10 E8q
            obtain ⟨_, _, ⟨T11, L11, k11, n11⟩, -, X11, ⟨Lc11, hQ11, l11, y11, z11⟩, st11⟩ := X10.virtualBack hx (y := (⟨"com/example/chronotag/chronotag/cbor/CborInteger", "equals", "(Ljava/lang/Object;)Z"⟩ : MethodName)) (z := (⟨"com/example/chronotag/chronotag/cbor/CborInteger", "equals", "(Ljava/lang/Object;)Z"⟩ : MethodName)) hown (mvT hZ (hw _ (List.mem_of_getElem? (i := 18) rfl))) (mvT hZ (hw _ (List.mem_of_getElem? (i := 19) rfl))) (notFace_of_selects (args := #[]) (mvT hZ (hw _ (List.mem_of_getElem? (i := 21) rfl)))) (mvT hZ (hw _ (List.mem_of_getElem? (i := 21) rfl))) (mvT hZ (hw _ (List.mem_of_getElem? (i := 20) rfl))) (by decide) (backOf (W := 0) (rmE1 l Z a0 hw [] b7 b4 (nar .boolean (jrm0_24_s0 p0 q1 q2)) (jrm0_37_s0 p0 q1 q2) (nar .boolean (jrm0_11_s0 p0 q1 q2)) q1 T8.heap n0 (Nat.le_trans (Nat.le_trans (Nat.le_trans (Nat.le_trans Z0 E4.1) K5q.1) E7.1) K8q.1) Fn8q Fa8q ((E5q.ext E7).keep K8q) ((Fn5q.ext E7).keep K8q (ninS (Nat.ne_of_lt (Nat.lt_of_lt_of_le (A4.keep K5q).lt (Nat.le_of_eq g7.symm))) nin0)) ((Fa5q.ext E7).keep K8q (ninS (Nat.ne_of_lt (Nat.lt_of_lt_of_le (A4.keep K5q).lt (Nat.le_of_eq g7.symm))) nin0))) hZ (hw _ (List.mem_of_getElem? (i := 22) rfl)) (hw _ (List.mem_of_getElem? (i := 2) rfl)) (by decide) (by decide)) q11a q11c (g := (mkF m 115 #[.val (.int p0), .val (.long q1), .second, .val (.long q2), .second, .val (.int (jrm0_11_s0 p0 q1 q2)), .val (.int (jrm0_24_s0 p0 q1 q2)), .val (.long (jrm0_37_s0 p0 q1 q2)), .second, .val (.int (((p0.toUInt32 >>> ((3 : Int32) &&& 31).toUInt32).toInt32) &&& (3 : Int32))), .val (.ref b4), .val (.ref b7), .val (.int (jrm0_95_s0 p0 q1 q2))] [(.ref b4), (.ref b7)])) rfl (by rw [hml]; rfl) (Steps.refl _) (argsL := [(.ref b4)]) (rest := []) (lenOf pd_4 rfl) rfl (by show 2 * 0 + _ ≤ _; exact Nat.le_of_eq rfl) (hb hby at_115) (fun _ _ => ⟨rfl, e10, (by decide : 2 + 0 ≤ _), (by decide : 4 + 0 ≤ _)⟩)
            dsimp only [Pt.U, Pt.locs, Pt.cells, Pt.slots] at X11 l11 y11 z11 st11 hQ11
            subst l11 y11 z11
            obtain ⟨rfl, N11q, e11⟩ := hQ11
            have N11 := Fr.app N10 N11q
            refine OEnds.tr (g' := (mkF m 118 #[.val (.int p0), .val (.long q1), .second, .val (.long q2), .second, .val (.int (jrm0_11_s0 p0 q1 q2)), .val (.int (jrm0_24_s0 p0 q1 q2)), .val (.long (jrm0_37_s0 p0 q1 q2)), .second, .val (.int (((p0.toUInt32 >>> ((3 : Int32) &&& 31).toUInt32).toInt32) &&& (3 : Int32))), .val (.ref b4), .val (.ref b7), .val (.int (jrm0_95_s0 p0 q1 q2))] [(.int (fE (nar .boolean (jrm0_24_s0 p0 q1 q2)) (jrm0_37_s0 p0 q1 q2) (nar .boolean (jrm0_11_s0 p0 q1 q2)) q1))])) st11 ?_
            refine OEnds.go (g' := (mkF m 120 #[.val (.int p0), .val (.long q1), .second, .val (.long q2), .second, .val (.int (jrm0_11_s0 p0 q1 q2)), .val (.int (jrm0_24_s0 p0 q1 q2)), .val (.long (jrm0_37_s0 p0 q1 q2)), .second, .val (.int (((p0.toUInt32 >>> ((3 : Int32) &&& 31).toUInt32).toInt32) &&& (3 : Int32))), .val (.ref b4), .val (.ref b7), .val (.int (jrm0_95_s0 p0 q1 q2))] [(.int (jrm0_95_s0 p0 q1 q2)), (.int (fE (nar .boolean (jrm0_24_s0 p0 q1 q2)) (jrm0_37_s0 p0 q1 q2) (nar .boolean (jrm0_11_s0 p0 q1 q2)) q1))])) (fun t k => XS.iload X11.here hx rfl (hb hby at_118) rfl k) ?_
            refine OEnds.go (g' := (mkF m 125 #[.val (.int p0), .val (.long q1), .second, .val (.long q2), .second, .val (.int (jrm0_11_s0 p0 q1 q2)), .val (.int (jrm0_24_s0 p0 q1 q2)), .val (.long (jrm0_37_s0 p0 q1 q2)), .second, .val (.int (((p0.toUInt32 >>> ((3 : Int32) &&& 31).toUInt32).toInt32) &&& (3 : Int32))), .val (.ref b4), .val (.ref b7), .val (.int (jrm0_95_s0 p0 q1 q2))] [])) (fun t k => XS.icmpYes X11.here hx rfl (pc0 := 120) (pc' := 125) rfl (hb hby at_120) rfl (teq (own_e2 p0 q1 q2 : ((fE (nar .boolean (jrm0_24_s0 p0 q1 q2)) (jrm0_37_s0 p0 q1 q2) (nar .boolean (jrm0_11_s0 p0 q1 q2)) q1) = (jrm0_95_s0 p0 q1 q2)))).1 (by decide) (by decide) k) ?_
            refine OEnds.go (g' := (mkF m 127 #[.val (.int p0), .val (.long q1), .second, .val (.long q2), .second, .val (.int (jrm0_11_s0 p0 q1 q2)), .val (.int (jrm0_24_s0 p0 q1 q2)), .val (.long (jrm0_37_s0 p0 q1 q2)), .second, .val (.int (((p0.toUInt32 >>> ((3 : Int32) &&& 31).toUInt32).toInt32) &&& (3 : Int32))), .val (.ref b4), .val (.ref b7), .val (.int (jrm0_95_s0 p0 q1 q2))] [(.int (jrm0_95_s0 p0 q1 q2))])) (fun t k => XS.iload X11.here hx rfl (hb hby at_125) rfl k) ?_
            by_cases c127_12 : (jrm0_95_s0 p0 q1 q2) = (0 : Int32)
            · -- yes
              refine OEnds.go (g' := (mkF m 145 #[.val (.int p0), .val (.long q1), .second, .val (.long q2), .second, .val (.int (jrm0_11_s0 p0 q1 q2)), .val (.int (jrm0_24_s0 p0 q1 q2)), .val (.long (jrm0_37_s0 p0 q1 q2)), .second, .val (.int (((p0.toUInt32 >>> ((3 : Int32) &&& 31).toUInt32).toInt32) &&& (3 : Int32))), .val (.ref b4), .val (.ref b7), .val (.int (jrm0_95_s0 p0 q1 q2))] [])) (fun t k => XS.ifYes X11.here hx rfl (pc0 := 127) (pc' := 145) rfl (hb hby at_127) rfl ((if0 _ _).trans (teq c127_12).1) (by decide) (by decide) k) ?_
              refine OEnds.go (g' := (mkF m 146 #[.val (.int p0), .val (.long q1), .second, .val (.long q2), .second, .val (.int (jrm0_11_s0 p0 q1 q2)), .val (.int (jrm0_24_s0 p0 q1 q2)), .val (.long (jrm0_37_s0 p0 q1 q2)), .second, .val (.int (((p0.toUInt32 >>> ((3 : Int32) &&& 31).toUInt32).toInt32) &&& (3 : Int32))), .val (.ref b4), .val (.ref b7), .val (.int (jrm0_95_s0 p0 q1 q2))] [(.int (1 : Int32))])) (fun t k => XS.iconst X11.here hx rfl (hb hby at_145) k) ?_
              exact OEnds.outN X11 Bd.notSynchronized hx (t := .boolean) Bd.returns (by simp) (hb hby at_146) ⟨rfl, N11⟩ (by decide) (by decide)
            · -- no
              refine OEnds.go (g' := (mkF m 130 #[.val (.int p0), .val (.long q1), .second, .val (.long q2), .second, .val (.int (jrm0_11_s0 p0 q1 q2)), .val (.int (jrm0_24_s0 p0 q1 q2)), .val (.long (jrm0_37_s0 p0 q1 q2)), .second, .val (.int (((p0.toUInt32 >>> ((3 : Int32) &&& 31).toUInt32).toInt32) &&& (3 : Int32))), .val (.ref b4), .val (.ref b7), .val (.int (jrm0_95_s0 p0 q1 q2))] [])) (fun t k => XS.ifNo X11.here hx rfl (hb hby at_127) rfl ((if0 _ _).trans (feq c127_12).1) k) ?_
              refine OEnds.go (g' := (mkF m 132 #[.val (.int p0), .val (.long q1), .second, .val (.long q2), .second, .val (.int (jrm0_11_s0 p0 q1 q2)), .val (.int (jrm0_24_s0 p0 q1 q2)), .val (.long (jrm0_37_s0 p0 q1 q2)), .second, .val (.int (((p0.toUInt32 >>> ((3 : Int32) &&& 31).toUInt32).toInt32) &&& (3 : Int32))), .val (.ref b4), .val (.ref b7), .val (.int (jrm0_95_s0 p0 q1 q2))] [(.ref b4)])) (fun t k => XS.aload X11.here hx rfl (hb hby at_130) rfl rfl k) ?_
              obtain ⟨cq13, kq13, q13a, q13b, q13c⟩ := isOf hZ e11 ((E5q.ext E7).keep K8q)
              obtain ⟨_, _, ⟨T13, L13, k13, n13⟩, -, X13, ⟨Lc13, hQ13, l13, y13, z13⟩, st13⟩ := X11.virtualBack hx (y := (⟨"com/example/chronotag/chronotag/cbor/CborInteger", "hashCode", "()I"⟩ : MethodName)) (z := (⟨"com/example/chronotag/chronotag/cbor/CborInteger", "hashCode", "()I"⟩ : MethodName)) hown (mvT hZ (hw _ (List.mem_of_getElem? (i := 25) rfl))) (mvT hZ (hw _ (List.mem_of_getElem? (i := 26) rfl))) (notFace_of_selects (args := #[]) (mvT hZ (hw _ (List.mem_of_getElem? (i := 28) rfl)))) (mvT hZ (hw _ (List.mem_of_getElem? (i := 28) rfl))) (mvT hZ (hw _ (List.mem_of_getElem? (i := 27) rfl))) (by decide) (backOf (W := 0) (rm5 l Z a0 hw [] b4 (nar .boolean (jrm0_11_s0 p0 q1 q2)) q1 T8.heap n0 (Nat.le_trans (Nat.le_trans (Nat.le_trans (Nat.le_trans Z0 E4.1) K5q.1) E7.1) K8q.1) ((Fn5q.ext E7).keep K8q (ninS (Nat.ne_of_lt (Nat.lt_of_lt_of_le (A4.keep K5q).lt (Nat.le_of_eq g7.symm))) nin0)) ((Fa5q.ext E7).keep K8q (ninS (Nat.ne_of_lt (Nat.lt_of_lt_of_le (A4.keep K5q).lt (Nat.le_of_eq g7.symm))) nin0))) hZ (hw _ (List.mem_of_getElem? (i := 29) rfl)) (hw _ (List.mem_of_getElem? (i := 2) rfl)) (by decide) (by decide)) q13a q13c (g := (mkF m 132 #[.val (.int p0), .val (.long q1), .second, .val (.long q2), .second, .val (.int (jrm0_11_s0 p0 q1 q2)), .val (.int (jrm0_24_s0 p0 q1 q2)), .val (.long (jrm0_37_s0 p0 q1 q2)), .second, .val (.int (((p0.toUInt32 >>> ((3 : Int32) &&& 31).toUInt32).toInt32) &&& (3 : Int32))), .val (.ref b4), .val (.ref b7), .val (.int (jrm0_95_s0 p0 q1 q2))] [(.ref b4)])) rfl (by rw [hml]; rfl) (Steps.refl _) (argsL := []) (rest := []) (lenOf pd_5 rfl) rfl (by show 2 * 0 + _ ≤ _; exact Nat.le_of_eq rfl) (hb hby at_132) (fun _ _ => ⟨rfl, e11, (by decide : 2 + 0 ≤ _), (by decide : 4 + 0 ≤ _)⟩)
              dsimp only [Pt.U, Pt.locs, Pt.cells, Pt.slots] at X13 l13 y13 z13 st13 hQ13
              subst l13 y13 z13
              obtain ⟨rfl, N13q, e13⟩ := hQ13
              have N13 := Fr.app N11 N13q
              refine OEnds.tr (g' := (mkF m 135 #[.val (.int p0), .val (.long q1), .second, .val (.long q2), .second, .val (.int (jrm0_11_s0 p0 q1 q2)), .val (.int (jrm0_24_s0 p0 q1 q2)), .val (.long (jrm0_37_s0 p0 q1 q2)), .second, .val (.int (((p0.toUInt32 >>> ((3 : Int32) &&& 31).toUInt32).toInt32) &&& (3 : Int32))), .val (.ref b4), .val (.ref b7), .val (.int (jrm0_95_s0 p0 q1 q2))] [(.int (f5 (nar .boolean (jrm0_11_s0 p0 q1 q2)) q1))])) st13 ?_
              refine OEnds.go (g' := (mkF m 137 #[.val (.int p0), .val (.long q1), .second, .val (.long q2), .second, .val (.int (jrm0_11_s0 p0 q1 q2)), .val (.int (jrm0_24_s0 p0 q1 q2)), .val (.long (jrm0_37_s0 p0 q1 q2)), .second, .val (.int (((p0.toUInt32 >>> ((3 : Int32) &&& 31).toUInt32).toInt32) &&& (3 : Int32))), .val (.ref b4), .val (.ref b7), .val (.int (jrm0_95_s0 p0 q1 q2))] [(.ref b7), (.int (f5 (nar .boolean (jrm0_11_s0 p0 q1 q2)) q1))])) (fun t k => XS.aload X13.here hx rfl (hb hby at_135) rfl rfl k) ?_
              obtain ⟨cq14, kq14, q14a, q14b, q14c⟩ := isOf hZ e13 E8q
              obtain ⟨_, _, ⟨T14, L14, k14, n14⟩, -, X14, ⟨Lc14, hQ14, l14, y14, z14⟩, st14⟩ := X13.virtualBack hx (y := (⟨"com/example/chronotag/chronotag/cbor/CborInteger", "hashCode", "()I"⟩ : MethodName)) (z := (⟨"com/example/chronotag/chronotag/cbor/CborInteger", "hashCode", "()I"⟩ : MethodName)) hown (mvT hZ (hw _ (List.mem_of_getElem? (i := 25) rfl))) (mvT hZ (hw _ (List.mem_of_getElem? (i := 26) rfl))) (notFace_of_selects (args := #[]) (mvT hZ (hw _ (List.mem_of_getElem? (i := 28) rfl)))) (mvT hZ (hw _ (List.mem_of_getElem? (i := 28) rfl))) (mvT hZ (hw _ (List.mem_of_getElem? (i := 27) rfl))) (by decide) (backOf (W := 1) (rm5 l Z a0 hw [] b7 (nar .boolean (jrm0_24_s0 p0 q1 q2)) (jrm0_37_s0 p0 q1 q2) T8.heap n0 (Nat.le_trans (Nat.le_trans (Nat.le_trans (Nat.le_trans Z0 E4.1) K5q.1) E7.1) K8q.1) Fn8q Fa8q) hZ (hw _ (List.mem_of_getElem? (i := 29) rfl)) (hw _ (List.mem_of_getElem? (i := 2) rfl)) (by decide) (by decide)) q14a q14c (g := (mkF m 137 #[.val (.int p0), .val (.long q1), .second, .val (.long q2), .second, .val (.int (jrm0_11_s0 p0 q1 q2)), .val (.int (jrm0_24_s0 p0 q1 q2)), .val (.long (jrm0_37_s0 p0 q1 q2)), .second, .val (.int (((p0.toUInt32 >>> ((3 : Int32) &&& 31).toUInt32).toInt32) &&& (3 : Int32))), .val (.ref b4), .val (.ref b7), .val (.int (jrm0_95_s0 p0 q1 q2))] [(.ref b7), (.int (f5 (nar .boolean (jrm0_11_s0 p0 q1 q2)) q1))])) rfl (by rw [hml]; rfl) (Steps.refl _) (argsL := []) (rest := [(.int (f5 (nar .boolean (jrm0_11_s0 p0 q1 q2)) q1))]) (lenOf pd_5 rfl) rfl (by show 2 * 0 + _ ≤ _; exact Nat.le_of_eq rfl) (hb hby at_137) (fun _ _ => ⟨rfl, e13, (by decide : 2 + 0 ≤ _), (by decide : 4 + 0 ≤ _)⟩)
              dsimp only [Pt.U, Pt.locs, Pt.cells, Pt.slots] at X14 l14 y14 z14 st14 hQ14
              subst l14 y14 z14
              obtain ⟨rfl, N14q, e14⟩ := hQ14
              have N14 := Fr.app N13 N14q
              refine OEnds.tr (g' := (mkF m 140 #[.val (.int p0), .val (.long q1), .second, .val (.long q2), .second, .val (.int (jrm0_11_s0 p0 q1 q2)), .val (.int (jrm0_24_s0 p0 q1 q2)), .val (.long (jrm0_37_s0 p0 q1 q2)), .second, .val (.int (((p0.toUInt32 >>> ((3 : Int32) &&& 31).toUInt32).toInt32) &&& (3 : Int32))), .val (.ref b4), .val (.ref b7), .val (.int (jrm0_95_s0 p0 q1 q2))] [(.int (f5 (nar .boolean (jrm0_24_s0 p0 q1 q2)) (jrm0_37_s0 p0 q1 q2))), (.int (f5 (nar .boolean (jrm0_11_s0 p0 q1 q2)) q1))])) st14 ?_
              refine OEnds.go (g' := (mkF m 145 #[.val (.int p0), .val (.long q1), .second, .val (.long q2), .second, .val (.int (jrm0_11_s0 p0 q1 q2)), .val (.int (jrm0_24_s0 p0 q1 q2)), .val (.long (jrm0_37_s0 p0 q1 q2)), .second, .val (.int (((p0.toUInt32 >>> ((3 : Int32) &&& 31).toUInt32).toInt32) &&& (3 : Int32))), .val (.ref b4), .val (.ref b7), .val (.int (jrm0_95_s0 p0 q1 q2))] [])) (fun t k => XS.icmpYes X14.here hx rfl (pc0 := 140) (pc' := 145) rfl (hb hby at_140) rfl (teq (own_h p0 q1 q2 c127_12 : ((f5 (nar .boolean (jrm0_11_s0 p0 q1 q2)) q1) = (f5 (nar .boolean (jrm0_24_s0 p0 q1 q2)) (jrm0_37_s0 p0 q1 q2))))).1 (by decide) (by decide) k) ?_
              refine OEnds.go (g' := (mkF m 146 #[.val (.int p0), .val (.long q1), .second, .val (.long q2), .second, .val (.int (jrm0_11_s0 p0 q1 q2)), .val (.int (jrm0_24_s0 p0 q1 q2)), .val (.long (jrm0_37_s0 p0 q1 q2)), .second, .val (.int (((p0.toUInt32 >>> ((3 : Int32) &&& 31).toUInt32).toInt32) &&& (3 : Int32))), .val (.ref b4), .val (.ref b7), .val (.int (jrm0_95_s0 p0 q1 q2))] [(.int (1 : Int32))])) (fun t k => XS.iconst X14.here hx rfl (hb hby at_145) k) ?_
              exact OEnds.outN X14 Bd.notSynchronized hx (t := .boolean) Bd.returns (by simp) (hb hby at_146) ⟨rfl, N14⟩ (by decide) (by decide)
          refine OEnds.go (g' := (mkF m 78 #[.val (.int p0), .val (.long q1), .second, .val (.long q2), .second, .val (.int (jrm0_11_s0 p0 q1 q2)), .val (.int (jrm0_24_s0 p0 q1 q2)), .val (.long (jrm0_37_s0 p0 q1 q2)), .second, .val (.int (((p0.toUInt32 >>> ((3 : Int32) &&& 31).toUInt32).toInt32) &&& (3 : Int32))), .val (.ref b4), .val (.ref b7), .unset] [(.int (jrm0_11_s0 p0 q1 q2))])) (fun t k => XS.iload X8.here hx rfl (hb hby at_76) rfl k) ?_
          refine OEnds.go (g' := (mkF m 80 #[.val (.int p0), .val (.long q1), .second, .val (.long q2), .second, .val (.int (jrm0_11_s0 p0 q1 q2)), .val (.int (jrm0_24_s0 p0 q1 q2)), .val (.long (jrm0_37_s0 p0 q1 q2)), .second, .val (.int (((p0.toUInt32 >>> ((3 : Int32) &&& 31).toUInt32).toInt32) &&& (3 : Int32))), .val (.ref b4), .val (.ref b7), .unset] [(.int (jrm0_24_s0 p0 q1 q2)), (.int (jrm0_11_s0 p0 q1 q2))])) (fun t k => XS.iload X8.here hx rfl (hb hby at_78) rfl k) ?_
          by_cases c80_15 : (jrm0_11_s0 p0 q1 q2) = (jrm0_24_s0 p0 q1 q2)
          · -- yes
            refine OEnds.go (g' := (mkF m 83 #[.val (.int p0), .val (.long q1), .second, .val (.long q2), .second, .val (.int (jrm0_11_s0 p0 q1 q2)), .val (.int (jrm0_24_s0 p0 q1 q2)), .val (.long (jrm0_37_s0 p0 q1 q2)), .second, .val (.int (((p0.toUInt32 >>> ((3 : Int32) &&& 31).toUInt32).toInt32) &&& (3 : Int32))), .val (.ref b4), .val (.ref b7), .unset] [])) (fun t k => XS.icmpNo X8.here hx rfl (hb hby at_80) rfl (teq c80_15).2 k) ?_
            refine OEnds.go (g' := (mkF m 84 #[.val (.int p0), .val (.long q1), .second, .val (.long q2), .second, .val (.int (jrm0_11_s0 p0 q1 q2)), .val (.int (jrm0_24_s0 p0 q1 q2)), .val (.long (jrm0_37_s0 p0 q1 q2)), .second, .val (.int (((p0.toUInt32 >>> ((3 : Int32) &&& 31).toUInt32).toInt32) &&& (3 : Int32))), .val (.ref b4), .val (.ref b7), .unset] [(.long q1)])) (fun t k => XS.lloadN X8.here hx rfl (hb hby at_83) rfl k) ?_
            refine OEnds.go (g' := (mkF m 86 #[.val (.int p0), .val (.long q1), .second, .val (.long q2), .second, .val (.int (jrm0_11_s0 p0 q1 q2)), .val (.int (jrm0_24_s0 p0 q1 q2)), .val (.long (jrm0_37_s0 p0 q1 q2)), .second, .val (.int (((p0.toUInt32 >>> ((3 : Int32) &&& 31).toUInt32).toInt32) &&& (3 : Int32))), .val (.ref b4), .val (.ref b7), .unset] [(.long (jrm0_37_s0 p0 q1 q2)), (.long q1)])) (fun t k => XS.lload X8.here hx rfl (hb hby at_84) rfl k) ?_
            refine OEnds.go (g' := (mkF m 87 #[.val (.int p0), .val (.long q1), .second, .val (.long q2), .second, .val (.int (jrm0_11_s0 p0 q1 q2)), .val (.int (jrm0_24_s0 p0 q1 q2)), .val (.long (jrm0_37_s0 p0 q1 q2)), .second, .val (.int (((p0.toUInt32 >>> ((3 : Int32) &&& 31).toUInt32).toInt32) &&& (3 : Int32))), .val (.ref b4), .val (.ref b7), .unset] [(.int (lcmpW q1 (jrm0_37_s0 p0 q1 q2)))])) (fun t k => XS.lcmp X8.here hx rfl (hb hby at_86) rfl k) ?_
            by_cases c87_16 : q1 = (jrm0_37_s0 p0 q1 q2)
            · -- yes
              refine OEnds.go (g' := (mkF m 90 #[.val (.int p0), .val (.long q1), .second, .val (.long q2), .second, .val (.int (jrm0_11_s0 p0 q1 q2)), .val (.int (jrm0_24_s0 p0 q1 q2)), .val (.long (jrm0_37_s0 p0 q1 q2)), .second, .val (.int (((p0.toUInt32 >>> ((3 : Int32) &&& 31).toUInt32).toInt32) &&& (3 : Int32))), .val (.ref b4), .val (.ref b7), .unset] [])) (fun t k => XS.ifNo X8.here hx rfl (hb hby at_87) rfl ((if0 _ _).trans (teq ((lw_eq _ _).mpr c87_16)).2) k) ?_
              refine OEnds.go (g' := (mkF m 91 #[.val (.int p0), .val (.long q1), .second, .val (.long q2), .second, .val (.int (jrm0_11_s0 p0 q1 q2)), .val (.int (jrm0_24_s0 p0 q1 q2)), .val (.long (jrm0_37_s0 p0 q1 q2)), .second, .val (.int (((p0.toUInt32 >>> ((3 : Int32) &&& 31).toUInt32).toInt32) &&& (3 : Int32))), .val (.ref b4), .val (.ref b7), .unset] [(.int (1 : Int32))])) (fun t k => XS.iconst X8.here hx rfl (hb hby at_90) k) ?_
              refine OEnds.go (g' := (mkF m 95 #[.val (.int p0), .val (.long q1), .second, .val (.long q2), .second, .val (.int (jrm0_11_s0 p0 q1 q2)), .val (.int (jrm0_24_s0 p0 q1 q2)), .val (.long (jrm0_37_s0 p0 q1 q2)), .second, .val (.int (((p0.toUInt32 >>> ((3 : Int32) &&& 31).toUInt32).toInt32) &&& (3 : Int32))), .val (.ref b4), .val (.ref b7), .unset] [(.int (1 : Int32))])) (fun t k => XS.goto X8.here hx rfl (pc0 := 91) (pc' := 95) rfl (hb hby at_91) (by decide) (by decide) k) ?_
              rw [show jrm0_95_s0 p0 q1 q2 = (1 : Int32) from by rw [jrm0_95_s0, if_pos c80_15, if_pos c87_16]] at J9
              exact J9
            · -- no
              refine OEnds.go (g' := (mkF m 94 #[.val (.int p0), .val (.long q1), .second, .val (.long q2), .second, .val (.int (jrm0_11_s0 p0 q1 q2)), .val (.int (jrm0_24_s0 p0 q1 q2)), .val (.long (jrm0_37_s0 p0 q1 q2)), .second, .val (.int (((p0.toUInt32 >>> ((3 : Int32) &&& 31).toUInt32).toInt32) &&& (3 : Int32))), .val (.ref b4), .val (.ref b7), .unset] [])) (fun t k => XS.ifYes X8.here hx rfl (pc0 := 87) (pc' := 94) rfl (hb hby at_87) rfl ((if0 _ _).trans (feq (fun q => c87_16 ((lw_eq _ _).mp q))).2) (by decide) (by decide) k) ?_
              refine OEnds.go (g' := (mkF m 95 #[.val (.int p0), .val (.long q1), .second, .val (.long q2), .second, .val (.int (jrm0_11_s0 p0 q1 q2)), .val (.int (jrm0_24_s0 p0 q1 q2)), .val (.long (jrm0_37_s0 p0 q1 q2)), .second, .val (.int (((p0.toUInt32 >>> ((3 : Int32) &&& 31).toUInt32).toInt32) &&& (3 : Int32))), .val (.ref b4), .val (.ref b7), .unset] [(.int (0 : Int32))])) (fun t k => XS.iconst X8.here hx rfl (hb hby at_94) k) ?_
              rw [show jrm0_95_s0 p0 q1 q2 = (0 : Int32) from by rw [jrm0_95_s0, if_pos c80_15, if_neg c87_16]] at J9
              exact J9
          · -- no
            refine OEnds.go (g' := (mkF m 94 #[.val (.int p0), .val (.long q1), .second, .val (.long q2), .second, .val (.int (jrm0_11_s0 p0 q1 q2)), .val (.int (jrm0_24_s0 p0 q1 q2)), .val (.long (jrm0_37_s0 p0 q1 q2)), .second, .val (.int (((p0.toUInt32 >>> ((3 : Int32) &&& 31).toUInt32).toInt32) &&& (3 : Int32))), .val (.ref b4), .val (.ref b7), .unset] [])) (fun t k => XS.icmpYes X8.here hx rfl (pc0 := 80) (pc' := 94) rfl (hb hby at_80) rfl (feq c80_15).2 (by decide) (by decide) k) ?_
            refine OEnds.go (g' := (mkF m 95 #[.val (.int p0), .val (.long q1), .second, .val (.long q2), .second, .val (.int (jrm0_11_s0 p0 q1 q2)), .val (.int (jrm0_24_s0 p0 q1 q2)), .val (.long (jrm0_37_s0 p0 q1 q2)), .second, .val (.int (((p0.toUInt32 >>> ((3 : Int32) &&& 31).toUInt32).toInt32) &&& (3 : Int32))), .val (.ref b4), .val (.ref b7), .unset] [(.int (0 : Int32))])) (fun t k => XS.iconst X8.here hx rfl (hb hby at_94) k) ?_
            rw [show jrm0_95_s0 p0 q1 q2 = (0 : Int32) from by rw [jrm0_95_s0, if_neg c80_15]] at J9
            exact J9
        · -- no
          refine OEnds.go (g' := (mkF m 147 #[.val (.int p0), .val (.long q1), .second, .val (.long q2), .second, .val (.int (jrm0_11_s0 p0 q1 q2)), .val (.int (jrm0_24_s0 p0 q1 q2)), .val (.long (jrm0_37_s0 p0 q1 q2)), .second, .val (.int (((p0.toUInt32 >>> ((3 : Int32) &&& 31).toUInt32).toInt32) &&& (3 : Int32))), .val (.ref b4), .unset, .unset] [])) (fun t k => XS.ifYes X5.here hx rfl (pc0 := 60) (pc' := 147) rfl (hb hby at_60) rfl ((if0 _ _).trans (feq c60_6).2) (by decide) (by decide) k) ?_
          refine OEnds.go (g' := (mkF m 149 #[.val (.int p0), .val (.long q1), .second, .val (.long q2), .second, .val (.int (jrm0_11_s0 p0 q1 q2)), .val (.int (jrm0_24_s0 p0 q1 q2)), .val (.long (jrm0_37_s0 p0 q1 q2)), .second, .val (.int (((p0.toUInt32 >>> ((3 : Int32) &&& 31).toUInt32).toInt32) &&& (3 : Int32))), .val (.ref b4), .unset, .unset] [(.int (((p0.toUInt32 >>> ((3 : Int32) &&& 31).toUInt32).toInt32) &&& (3 : Int32)))])) (fun t k => XS.iload X5.here hx rfl (hb hby at_147) rfl k) ?_
          refine OEnds.go (g' := (mkF m 150 #[.val (.int p0), .val (.long q1), .second, .val (.long q2), .second, .val (.int (jrm0_11_s0 p0 q1 q2)), .val (.int (jrm0_24_s0 p0 q1 q2)), .val (.long (jrm0_37_s0 p0 q1 q2)), .second, .val (.int (((p0.toUInt32 >>> ((3 : Int32) &&& 31).toUInt32).toInt32) &&& (3 : Int32))), .val (.ref b4), .unset, .unset] [(.int (1 : Int32)), (.int (((p0.toUInt32 >>> ((3 : Int32) &&& 31).toUInt32).toInt32) &&& (3 : Int32)))])) (fun t k => XS.iconst X5.here hx rfl (hb hby at_149) k) ?_
          by_cases c150_17 : (((p0.toUInt32 >>> ((3 : Int32) &&& 31).toUInt32).toInt32) &&& (3 : Int32)) = (1 : Int32)
          · -- yes
            refine OEnds.go (g' := (mkF m 153 #[.val (.int p0), .val (.long q1), .second, .val (.long q2), .second, .val (.int (jrm0_11_s0 p0 q1 q2)), .val (.int (jrm0_24_s0 p0 q1 q2)), .val (.long (jrm0_37_s0 p0 q1 q2)), .second, .val (.int (((p0.toUInt32 >>> ((3 : Int32) &&& 31).toUInt32).toInt32) &&& (3 : Int32))), .val (.ref b4), .unset, .unset] [])) (fun t k => XS.icmpNo X5.here hx rfl (hb hby at_150) rfl (teq c150_17).2 k) ?_
            obtain ⟨T18, h18, X18, e18, E18, A18, D18, -, st18⟩ := newO X5 hx hZ hown (hw _ (List.mem_of_getElem? (i := 38) rfl)) (hw _ (List.mem_of_getElem? (i := 39) rfl)) (hw _ (List.mem_of_getElem? (i := 40) rfl)) rfl (g := (mkF m 153 #[.val (.int p0), .val (.long q1), .second, .val (.long q2), .second, .val (.int (jrm0_11_s0 p0 q1 q2)), .val (.int (jrm0_24_s0 p0 q1 q2)), .val (.long (jrm0_37_s0 p0 q1 q2)), .second, .val (.int (((p0.toUInt32 >>> ((3 : Int32) &&& 31).toUInt32).toInt32) &&& (3 : Int32))), .val (.ref b4), .unset, .unset] [])) rfl (hb hby at_153) (by decide) (by decide)
            obtain ⟨b18, g18⟩ : ∃ z, z = T5.heap.size := ⟨_, rfl⟩
            rw [← g18] at A18 D18 st18
            have g_b18 : n0 ≤ b18 := Nat.le_trans (Nat.le_trans (Nat.le_trans Z0 E4.1) K5q.1) (Nat.le_of_eq g18.symm)
            have F_value_b18 : Fld Z h18 b18 "com/example/chronotag/chronotag/cbor/CborFloat" "value" "D" (.double (0 : UInt64)) := D18 (Or.inr (hw _ (List.mem_of_getElem? (i := 47) rfl))) (ty := .double) (by decide)
            refine OEnds.go (g' := (mkF m 156 #[.val (.int p0), .val (.long q1), .second, .val (.long q2), .second, .val (.int (jrm0_11_s0 p0 q1 q2)), .val (.int (jrm0_24_s0 p0 q1 q2)), .val (.long (jrm0_37_s0 p0 q1 q2)), .second, .val (.int (((p0.toUInt32 >>> ((3 : Int32) &&& 31).toUInt32).toInt32) &&& (3 : Int32))), .val (.ref b4), .unset, .unset] [(.ref b18)])) st18 ?_
            refine OEnds.go (g' := (mkF m 157 #[.val (.int p0), .val (.long q1), .second, .val (.long q2), .second, .val (.int (jrm0_11_s0 p0 q1 q2)), .val (.int (jrm0_24_s0 p0 q1 q2)), .val (.long (jrm0_37_s0 p0 q1 q2)), .second, .val (.int (((p0.toUInt32 >>> ((3 : Int32) &&& 31).toUInt32).toInt32) &&& (3 : Int32))), .val (.ref b4), .unset, .unset] [(.ref b18), (.ref b18)])) (fun t k => XS.dup X18.here hx rfl (hb hby at_156) rfl rfl k) ?_
            refine OEnds.go (g' := (mkF m 158 #[.val (.int p0), .val (.long q1), .second, .val (.long q2), .second, .val (.int (jrm0_11_s0 p0 q1 q2)), .val (.int (jrm0_24_s0 p0 q1 q2)), .val (.long (jrm0_37_s0 p0 q1 q2)), .second, .val (.int (((p0.toUInt32 >>> ((3 : Int32) &&& 31).toUInt32).toInt32) &&& (3 : Int32))), .val (.ref b4), .unset, .unset] [(.long q1), (.ref b18), (.ref b18)])) (fun t k => XS.lloadN X18.here hx rfl (hb hby at_157) rfl k) ?_
            refine OEnds.go (g' := (mkF m 161 #[.val (.int p0), .val (.long q1), .second, .val (.long q2), .second, .val (.int (jrm0_11_s0 p0 q1 q2)), .val (.int (jrm0_24_s0 p0 q1 q2)), .val (.long (jrm0_37_s0 p0 q1 q2)), .second, .val (.int (((p0.toUInt32 >>> ((3 : Int32) &&& 31).toUInt32).toInt32) &&& (3 : Int32))), .val (.ref b4), .unset, .unset] [(.long (255 : Int64)), (.long q1), (.ref b18), (.ref b18)])) (X18.ldc2Long hx hown (mvT hZ (hw _ (List.mem_of_getElem? (i := 41) rfl))) (g := (mkF m 158 #[.val (.int p0), .val (.long q1), .second, .val (.long q2), .second, .val (.int (jrm0_11_s0 p0 q1 q2)), .val (.int (jrm0_24_s0 p0 q1 q2)), .val (.long (jrm0_37_s0 p0 q1 q2)), .second, .val (.int (((p0.toUInt32 >>> ((3 : Int32) &&& 31).toUInt32).toInt32) &&& (3 : Int32))), .val (.ref b4), .unset, .unset] [(.long q1), (.ref b18), (.ref b18)])) rfl (hb hby at_158)) ?_
            refine OEnds.go (g' := (mkF m 162 #[.val (.int p0), .val (.long q1), .second, .val (.long q2), .second, .val (.int (jrm0_11_s0 p0 q1 q2)), .val (.int (jrm0_24_s0 p0 q1 q2)), .val (.long (jrm0_37_s0 p0 q1 q2)), .second, .val (.int (((p0.toUInt32 >>> ((3 : Int32) &&& 31).toUInt32).toInt32) &&& (3 : Int32))), .val (.ref b4), .unset, .unset] [(.long (q1 &&& (255 : Int64))), (.ref b18), (.ref b18)])) (fun t k => XS.land X18.here hx rfl (hb hby at_161) rfl k) ?_
            refine OEnds.go (g' := (mkF m 163 #[.val (.int p0), .val (.long q1), .second, .val (.long q2), .second, .val (.int (jrm0_11_s0 p0 q1 q2)), .val (.int (jrm0_24_s0 p0 q1 q2)), .val (.long (jrm0_37_s0 p0 q1 q2)), .second, .val (.int (((p0.toUInt32 >>> ((3 : Int32) &&& 31).toUInt32).toInt32) &&& (3 : Int32))), .val (.ref b4), .unset, .unset] [(.double (FP.l2d (q1 &&& (255 : Int64)))), (.ref b18), (.ref b18)])) (fun t k => own_l2d X18.here hx rfl (hb hby at_162) rfl k) ?_
            obtain ⟨_, _, ⟨T19, L19, k19, n19⟩, -, X19, ⟨Lc19, hQ19, l19, y19, z19⟩, st19⟩ := X18.specialBack hx (y := (⟨"com/example/chronotag/chronotag/cbor/CborFloat", "<init>", "(D)V"⟩ : MethodName)) rfl hown (mvT hZ (hw _ (List.mem_of_getElem? (i := 42) rfl))) (mvT hZ (hw _ (List.mem_of_getElem? (i := 43) rfl))) (mvT hZ (hw _ (List.mem_of_getElem? (i := 44) rfl))) (by decide) (backOf (W := 1) (rm8 l Z a0 hw [] b18 (FP.l2d (q1 &&& (255 : Int64))) h18 n0 (Nat.le_trans (Nat.le_trans (Nat.le_trans Z0 E4.1) K5q.1) E18.1) A18 F_value_b18 g_b18) hZ (hw _ (List.mem_of_getElem? (i := 44) rfl)) (hw _ (List.mem_of_getElem? (i := 40) rfl)) (by decide) (by decide)) (g := (mkF m 163 #[.val (.int p0), .val (.long q1), .second, .val (.long q2), .second, .val (.int (jrm0_11_s0 p0 q1 q2)), .val (.int (jrm0_24_s0 p0 q1 q2)), .val (.long (jrm0_37_s0 p0 q1 q2)), .second, .val (.int (((p0.toUInt32 >>> ((3 : Int32) &&& 31).toUInt32).toInt32) &&& (3 : Int32))), .val (.ref b4), .unset, .unset] [(.double (FP.l2d (q1 &&& (255 : Int64)))), (.ref b18), (.ref b18)])) rfl (by rw [hml]; rfl) (Steps.refl _) (a := b18) (argsL := [(.double (FP.l2d (q1 &&& (255 : Int64))))]) (rest := [(.ref b18)]) (lenOf pd_6 rfl) rfl (by show 2 * 0 + _ ≤ _; exact Nat.le_of_eq rfl) (hb hby at_163) (fun _ _ => ⟨rfl, e18, (by decide : 2 + 0 ≤ _), (by decide : 3 + 0 ≤ _)⟩)
            dsimp only [Pt.U, Pt.locs, Pt.cells, Pt.slots] at X19 l19 y19 z19 st19 hQ19
            subst l19 y19 z19
            obtain ⟨rfl, N19q, K19q, E19q⟩ := hQ19
            have N19 := Fr.app N5 N19q
            refine OEnds.tr (g' := (mkF m 166 #[.val (.int p0), .val (.long q1), .second, .val (.long q2), .second, .val (.int (jrm0_11_s0 p0 q1 q2)), .val (.int (jrm0_24_s0 p0 q1 q2)), .val (.long (jrm0_37_s0 p0 q1 q2)), .second, .val (.int (((p0.toUInt32 >>> ((3 : Int32) &&& 31).toUInt32).toInt32) &&& (3 : Int32))), .val (.ref b4), .unset, .unset] [(.ref b18)])) st19 ?_
            refine OEnds.go (g' := (mkF m 168 #[.val (.int p0), .val (.long q1), .second, .val (.long q2), .second, .val (.int (jrm0_11_s0 p0 q1 q2)), .val (.int (jrm0_24_s0 p0 q1 q2)), .val (.long (jrm0_37_s0 p0 q1 q2)), .second, .val (.int (((p0.toUInt32 >>> ((3 : Int32) &&& 31).toUInt32).toInt32) &&& (3 : Int32))), .val (.ref b4), .val (.ref b18), .unset] [])) (fun t k => XS.astore X19.here hx rfl (hb hby at_166) rfl rfl (l' := #[.val (.int p0), .val (.long q1), .second, .val (.long q2), .second, .val (.int (jrm0_11_s0 p0 q1 q2)), .val (.int (jrm0_24_s0 p0 q1 q2)), .val (.long (jrm0_37_s0 p0 q1 q2)), .second, .val (.int (((p0.toUInt32 >>> ((3 : Int32) &&& 31).toUInt32).toInt32) &&& (3 : Int32))), .val (.ref b4), .val (.ref b18), .unset]) rfl k) ?_
            refine OEnds.go (g' := (mkF m 170 #[.val (.int p0), .val (.long q1), .second, .val (.long q2), .second, .val (.int (jrm0_11_s0 p0 q1 q2)), .val (.int (jrm0_24_s0 p0 q1 q2)), .val (.long (jrm0_37_s0 p0 q1 q2)), .second, .val (.int (((p0.toUInt32 >>> ((3 : Int32) &&& 31).toUInt32).toInt32) &&& (3 : Int32))), .val (.ref b4), .val (.ref b18), .unset] [(.ref b4)])) (fun t k => XS.aload X19.here hx rfl (hb hby at_168) rfl rfl k) ?_
            refine OEnds.go (g' := (mkF m 172 #[.val (.int p0), .val (.long q1), .second, .val (.long q2), .second, .val (.int (jrm0_11_s0 p0 q1 q2)), .val (.int (jrm0_24_s0 p0 q1 q2)), .val (.long (jrm0_37_s0 p0 q1 q2)), .second, .val (.int (((p0.toUInt32 >>> ((3 : Int32) &&& 31).toUInt32).toInt32) &&& (3 : Int32))), .val (.ref b4), .val (.ref b18), .unset] [(.ref b18), (.ref b4)])) (fun t k => XS.aload X19.here hx rfl (hb hby at_170) rfl rfl k) ?_
            obtain ⟨cq20, kq20, q20a, q20b, q20c⟩ := isOf hZ rfl ((E5q.ext E18).keep K19q)
            obtain ⟨_, _, ⟨T20, L20, k20, n20⟩, -, X20, ⟨Lc20, hQ20, l20, y20, z20⟩, st20⟩ := X19.virtualBack hx (y := (⟨"com/example/chronotag/chronotag/cbor/CborInteger", "equals", "(Ljava/lang/Object;)Z"⟩ : MethodName)) (z := (⟨"com/example/chronotag/chronotag/cbor/CborInteger", "equals", "(Ljava/lang/Object;)Z"⟩ : MethodName)) hown (mvT hZ (hw _ (List.mem_of_getElem? (i := 18) rfl))) (mvT hZ (hw _ (List.mem_of_getElem? (i := 19) rfl))) (notFace_of_selects (args := #[]) (mvT hZ (hw _ (List.mem_of_getElem? (i := 21) rfl)))) (mvT hZ (hw _ (List.mem_of_getElem? (i := 21) rfl))) (mvT hZ (hw _ (List.mem_of_getElem? (i := 20) rfl))) (by decide) (backOf (W := 0) (rmE2 l Z a0 hw [] b4 b18 T19.heap n0 (Nat.le_trans (Nat.le_trans (Nat.le_trans (Nat.le_trans Z0 E4.1) K5q.1) E18.1) K19q.1) E19q) hZ (hw _ (List.mem_of_getElem? (i := 22) rfl)) (hw _ (List.mem_of_getElem? (i := 2) rfl)) (by decide) (by decide)) q20a q20c (g := (mkF m 172 #[.val (.int p0), .val (.long q1), .second, .val (.long q2), .second, .val (.int (jrm0_11_s0 p0 q1 q2)), .val (.int (jrm0_24_s0 p0 q1 q2)), .val (.long (jrm0_37_s0 p0 q1 q2)), .second, .val (.int (((p0.toUInt32 >>> ((3 : Int32) &&& 31).toUInt32).toInt32) &&& (3 : Int32))), .val (.ref b4), .val (.ref b18), .unset] [(.ref b18), (.ref b4)])) rfl (by rw [hml]; rfl) (Steps.refl _) (argsL := [(.ref b18)]) (rest := []) (lenOf pd_4 rfl) rfl (by show 2 * 0 + _ ≤ _; exact Nat.le_of_eq rfl) (hb hby at_172) (fun _ _ => ⟨rfl, rfl, (by decide : 2 + 0 ≤ _), (by decide : 3 + 0 ≤ _)⟩)
            dsimp only [Pt.U, Pt.locs, Pt.cells, Pt.slots] at X20 l20 y20 z20 st20 hQ20
            subst l20 y20 z20
            obtain ⟨rfl, N20q, e20⟩ := hQ20
            have N20 := Fr.app N19 N20q
            refine OEnds.tr (g' := (mkF m 175 #[.val (.int p0), .val (.long q1), .second, .val (.long q2), .second, .val (.int (jrm0_11_s0 p0 q1 q2)), .val (.int (jrm0_24_s0 p0 q1 q2)), .val (.long (jrm0_37_s0 p0 q1 q2)), .second, .val (.int (((p0.toUInt32 >>> ((3 : Int32) &&& 31).toUInt32).toInt32) &&& (3 : Int32))), .val (.ref b4), .val (.ref b18), .unset] [(.int (0 : Int32))])) st20 ?_
            refine OEnds.go (g' := (mkF m 178 #[.val (.int p0), .val (.long q1), .second, .val (.long q2), .second, .val (.int (jrm0_11_s0 p0 q1 q2)), .val (.int (jrm0_24_s0 p0 q1 q2)), .val (.long (jrm0_37_s0 p0 q1 q2)), .second, .val (.int (((p0.toUInt32 >>> ((3 : Int32) &&& 31).toUInt32).toInt32) &&& (3 : Int32))), .val (.ref b4), .val (.ref b18), .unset] [])) (fun t k => XS.ifNo X20.here hx rfl (hb hby at_175) rfl ((if0 _ _).trans (teq (by decide : ((0 : Int32) = (0 : Int32)))).2) k) ?_
            refine OEnds.go (g' := (mkF m 179 #[.val (.int p0), .val (.long q1), .second, .val (.long q2), .second, .val (.int (jrm0_11_s0 p0 q1 q2)), .val (.int (jrm0_24_s0 p0 q1 q2)), .val (.long (jrm0_37_s0 p0 q1 q2)), .second, .val (.int (((p0.toUInt32 >>> ((3 : Int32) &&& 31).toUInt32).toInt32) &&& (3 : Int32))), .val (.ref b4), .val (.ref b18), .unset] [(.int (1 : Int32))])) (fun t k => XS.iconst X20.here hx rfl (hb hby at_178) k) ?_
            refine OEnds.go (g' := (mkF m 183 #[.val (.int p0), .val (.long q1), .second, .val (.long q2), .second, .val (.int (jrm0_11_s0 p0 q1 q2)), .val (.int (jrm0_24_s0 p0 q1 q2)), .val (.long (jrm0_37_s0 p0 q1 q2)), .second, .val (.int (((p0.toUInt32 >>> ((3 : Int32) &&& 31).toUInt32).toInt32) &&& (3 : Int32))), .val (.ref b4), .val (.ref b18), .unset] [(.int (1 : Int32))])) (fun t k => XS.goto X20.here hx rfl (pc0 := 179) (pc' := 183) rfl (hb hby at_179) (by decide) (by decide) k) ?_
            exact OEnds.outN X20 Bd.notSynchronized hx (t := .boolean) Bd.returns (by simp) (hb hby at_183) ⟨rfl, N20⟩ (by decide) (by decide)
          · -- no
            refine OEnds.go (g' := (mkF m 184 #[.val (.int p0), .val (.long q1), .second, .val (.long q2), .second, .val (.int (jrm0_11_s0 p0 q1 q2)), .val (.int (jrm0_24_s0 p0 q1 q2)), .val (.long (jrm0_37_s0 p0 q1 q2)), .second, .val (.int (((p0.toUInt32 >>> ((3 : Int32) &&& 31).toUInt32).toInt32) &&& (3 : Int32))), .val (.ref b4), .unset, .unset] [])) (fun t k => XS.icmpYes X5.here hx rfl (pc0 := 150) (pc' := 184) rfl (hb hby at_150) rfl (feq c150_17).2 (by decide) (by decide) k) ?_
            refine OEnds.go (g' := (mkF m 186 #[.val (.int p0), .val (.long q1), .second, .val (.long q2), .second, .val (.int (jrm0_11_s0 p0 q1 q2)), .val (.int (jrm0_24_s0 p0 q1 q2)), .val (.long (jrm0_37_s0 p0 q1 q2)), .second, .val (.int (((p0.toUInt32 >>> ((3 : Int32) &&& 31).toUInt32).toInt32) &&& (3 : Int32))), .val (.ref b4), .unset, .unset] [(.int (((p0.toUInt32 >>> ((3 : Int32) &&& 31).toUInt32).toInt32) &&& (3 : Int32)))])) (fun t k => XS.iload X5.here hx rfl (hb hby at_184) rfl k) ?_
            refine OEnds.go (g' := (mkF m 187 #[.val (.int p0), .val (.long q1), .second, .val (.long q2), .second, .val (.int (jrm0_11_s0 p0 q1 q2)), .val (.int (jrm0_24_s0 p0 q1 q2)), .val (.long (jrm0_37_s0 p0 q1 q2)), .second, .val (.int (((p0.toUInt32 >>> ((3 : Int32) &&& 31).toUInt32).toInt32) &&& (3 : Int32))), .val (.ref b4), .unset, .unset] [(.int (2 : Int32)), (.int (((p0.toUInt32 >>> ((3 : Int32) &&& 31).toUInt32).toInt32) &&& (3 : Int32)))])) (fun t k => XS.iconst X5.here hx rfl (hb hby at_186) k) ?_
            by_cases c187_21 : (((p0.toUInt32 >>> ((3 : Int32) &&& 31).toUInt32).toInt32) &&& (3 : Int32)) = (2 : Int32)
            · -- yes
              refine OEnds.go (g' := (mkF m 190 #[.val (.int p0), .val (.long q1), .second, .val (.long q2), .second, .val (.int (jrm0_11_s0 p0 q1 q2)), .val (.int (jrm0_24_s0 p0 q1 q2)), .val (.long (jrm0_37_s0 p0 q1 q2)), .second, .val (.int (((p0.toUInt32 >>> ((3 : Int32) &&& 31).toUInt32).toInt32) &&& (3 : Int32))), .val (.ref b4), .unset, .unset] [])) (fun t k => XS.icmpNo X5.here hx rfl (hb hby at_187) rfl (teq c187_21).2 k) ?_
              refine OEnds.go (g' := (mkF m 192 #[.val (.int p0), .val (.long q1), .second, .val (.long q2), .second, .val (.int (jrm0_11_s0 p0 q1 q2)), .val (.int (jrm0_24_s0 p0 q1 q2)), .val (.long (jrm0_37_s0 p0 q1 q2)), .second, .val (.int (((p0.toUInt32 >>> ((3 : Int32) &&& 31).toUInt32).toInt32) &&& (3 : Int32))), .val (.ref b4), .unset, .unset] [(.ref b4)])) (fun t k => XS.aload X5.here hx rfl (hb hby at_190) rfl rfl k) ?_
              refine OEnds.go (g' := (mkF m 193 #[.val (.int p0), .val (.long q1), .second, .val (.long q2), .second, .val (.int (jrm0_11_s0 p0 q1 q2)), .val (.int (jrm0_24_s0 p0 q1 q2)), .val (.long (jrm0_37_s0 p0 q1 q2)), .second, .val (.int (((p0.toUInt32 >>> ((3 : Int32) &&& 31).toUInt32).toInt32) &&& (3 : Int32))), .val (.ref b4), .unset, .unset] [.null, (.ref b4)])) (fun t k => XS.aconstNull X5.here hx rfl (hb hby at_192) k) ?_
              obtain ⟨cq22, kq22, q22a, q22b, q22c⟩ := isOf hZ rfl E5q
              obtain ⟨_, _, ⟨T22, L22, k22, n22⟩, -, X22, ⟨Lc22, hQ22, l22, y22, z22⟩, st22⟩ := X5.virtualBack hx (y := (⟨"com/example/chronotag/chronotag/cbor/CborInteger", "equals", "(Ljava/lang/Object;)Z"⟩ : MethodName)) (z := (⟨"com/example/chronotag/chronotag/cbor/CborInteger", "equals", "(Ljava/lang/Object;)Z"⟩ : MethodName)) hown (mvT hZ (hw _ (List.mem_of_getElem? (i := 18) rfl))) (mvT hZ (hw _ (List.mem_of_getElem? (i := 19) rfl))) (notFace_of_selects (args := #[]) (mvT hZ (hw _ (List.mem_of_getElem? (i := 21) rfl)))) (mvT hZ (hw _ (List.mem_of_getElem? (i := 21) rfl))) (mvT hZ (hw _ (List.mem_of_getElem? (i := 20) rfl))) (by decide) (backOf (W := 0) (rmE0 l Z a0 hw [] b4 T5.heap n0 (Nat.le_trans (Nat.le_trans Z0 E4.1) K5q.1)) hZ (hw _ (List.mem_of_getElem? (i := 22) rfl)) (hw _ (List.mem_of_getElem? (i := 2) rfl)) (by decide) (by decide)) q22a q22c (g := (mkF m 193 #[.val (.int p0), .val (.long q1), .second, .val (.long q2), .second, .val (.int (jrm0_11_s0 p0 q1 q2)), .val (.int (jrm0_24_s0 p0 q1 q2)), .val (.long (jrm0_37_s0 p0 q1 q2)), .second, .val (.int (((p0.toUInt32 >>> ((3 : Int32) &&& 31).toUInt32).toInt32) &&& (3 : Int32))), .val (.ref b4), .unset, .unset] [.null, (.ref b4)])) rfl (by rw [hml]; rfl) (Steps.refl _) (argsL := [.null]) (rest := []) (lenOf pd_4 rfl) rfl (by show 2 * 0 + _ ≤ _; exact Nat.le_of_eq rfl) (hb hby at_193) (fun _ _ => ⟨rfl, rfl, (by decide : 1 + 0 ≤ _), (by decide : 2 + 0 ≤ _)⟩)
              dsimp only [Pt.U, Pt.locs, Pt.cells, Pt.slots] at X22 l22 y22 z22 st22 hQ22
              subst l22 y22 z22
              obtain ⟨rfl, N22q, e22⟩ := hQ22
              have N22 := Fr.app N5 N22q
              refine OEnds.tr (g' := (mkF m 196 #[.val (.int p0), .val (.long q1), .second, .val (.long q2), .second, .val (.int (jrm0_11_s0 p0 q1 q2)), .val (.int (jrm0_24_s0 p0 q1 q2)), .val (.long (jrm0_37_s0 p0 q1 q2)), .second, .val (.int (((p0.toUInt32 >>> ((3 : Int32) &&& 31).toUInt32).toInt32) &&& (3 : Int32))), .val (.ref b4), .unset, .unset] [(.int (0 : Int32))])) st22 ?_
              refine OEnds.go (g' := (mkF m 199 #[.val (.int p0), .val (.long q1), .second, .val (.long q2), .second, .val (.int (jrm0_11_s0 p0 q1 q2)), .val (.int (jrm0_24_s0 p0 q1 q2)), .val (.long (jrm0_37_s0 p0 q1 q2)), .second, .val (.int (((p0.toUInt32 >>> ((3 : Int32) &&& 31).toUInt32).toInt32) &&& (3 : Int32))), .val (.ref b4), .unset, .unset] [])) (fun t k => XS.ifNo X22.here hx rfl (hb hby at_196) rfl ((if0 _ _).trans (teq (by decide : ((0 : Int32) = (0 : Int32)))).2) k) ?_
              refine OEnds.go (g' := (mkF m 200 #[.val (.int p0), .val (.long q1), .second, .val (.long q2), .second, .val (.int (jrm0_11_s0 p0 q1 q2)), .val (.int (jrm0_24_s0 p0 q1 q2)), .val (.long (jrm0_37_s0 p0 q1 q2)), .second, .val (.int (((p0.toUInt32 >>> ((3 : Int32) &&& 31).toUInt32).toInt32) &&& (3 : Int32))), .val (.ref b4), .unset, .unset] [(.int (1 : Int32))])) (fun t k => XS.iconst X22.here hx rfl (hb hby at_199) k) ?_
              refine OEnds.go (g' := (mkF m 204 #[.val (.int p0), .val (.long q1), .second, .val (.long q2), .second, .val (.int (jrm0_11_s0 p0 q1 q2)), .val (.int (jrm0_24_s0 p0 q1 q2)), .val (.long (jrm0_37_s0 p0 q1 q2)), .second, .val (.int (((p0.toUInt32 >>> ((3 : Int32) &&& 31).toUInt32).toInt32) &&& (3 : Int32))), .val (.ref b4), .unset, .unset] [(.int (1 : Int32))])) (fun t k => XS.goto X22.here hx rfl (pc0 := 200) (pc' := 204) rfl (hb hby at_200) (by decide) (by decide) k) ?_
              exact OEnds.outN X22 Bd.notSynchronized hx (t := .boolean) Bd.returns (by simp) (hb hby at_204) ⟨rfl, N22⟩ (by decide) (by decide)
            · -- no
              refine OEnds.go (g' := (mkF m 205 #[.val (.int p0), .val (.long q1), .second, .val (.long q2), .second, .val (.int (jrm0_11_s0 p0 q1 q2)), .val (.int (jrm0_24_s0 p0 q1 q2)), .val (.long (jrm0_37_s0 p0 q1 q2)), .second, .val (.int (((p0.toUInt32 >>> ((3 : Int32) &&& 31).toUInt32).toInt32) &&& (3 : Int32))), .val (.ref b4), .unset, .unset] [])) (fun t k => XS.icmpYes X5.here hx rfl (pc0 := 187) (pc' := 205) rfl (hb hby at_187) rfl (feq c187_21).2 (by decide) (by decide) k) ?_
              refine OEnds.go (g' := (mkF m 207 #[.val (.int p0), .val (.long q1), .second, .val (.long q2), .second, .val (.int (jrm0_11_s0 p0 q1 q2)), .val (.int (jrm0_24_s0 p0 q1 q2)), .val (.long (jrm0_37_s0 p0 q1 q2)), .second, .val (.int (((p0.toUInt32 >>> ((3 : Int32) &&& 31).toUInt32).toInt32) &&& (3 : Int32))), .val (.ref b4), .unset, .unset] [(.ref b4)])) (fun t k => XS.aload X5.here hx rfl (hb hby at_205) rfl rfl k) ?_
              refine OEnds.go (g' := (mkF m 209 #[.val (.int p0), .val (.long q1), .second, .val (.long q2), .second, .val (.int (jrm0_11_s0 p0 q1 q2)), .val (.int (jrm0_24_s0 p0 q1 q2)), .val (.long (jrm0_37_s0 p0 q1 q2)), .second, .val (.int (((p0.toUInt32 >>> ((3 : Int32) &&& 31).toUInt32).toInt32) &&& (3 : Int32))), .val (.ref b4), .unset, .unset] [(.ref b4), (.ref b4)])) (fun t k => XS.aload X5.here hx rfl (hb hby at_207) rfl rfl k) ?_
              obtain ⟨cq23, kq23, q23a, q23b, q23c⟩ := isOf hZ rfl E5q
              obtain ⟨_, _, ⟨T23, L23, k23, n23⟩, -, X23, ⟨Lc23, hQ23, l23, y23, z23⟩, st23⟩ := X5.virtualBack hx (y := (⟨"com/example/chronotag/chronotag/cbor/CborInteger", "equals", "(Ljava/lang/Object;)Z"⟩ : MethodName)) (z := (⟨"com/example/chronotag/chronotag/cbor/CborInteger", "equals", "(Ljava/lang/Object;)Z"⟩ : MethodName)) hown (mvT hZ (hw _ (List.mem_of_getElem? (i := 18) rfl))) (mvT hZ (hw _ (List.mem_of_getElem? (i := 19) rfl))) (notFace_of_selects (args := #[]) (mvT hZ (hw _ (List.mem_of_getElem? (i := 21) rfl)))) (mvT hZ (hw _ (List.mem_of_getElem? (i := 21) rfl))) (mvT hZ (hw _ (List.mem_of_getElem? (i := 20) rfl))) (by decide) (backOf (W := 0) (rmE1 l Z a0 hw [] b4 b4 (nar .boolean (jrm0_11_s0 p0 q1 q2)) q1 (nar .boolean (jrm0_11_s0 p0 q1 q2)) q1 T5.heap n0 (Nat.le_trans (Nat.le_trans Z0 E4.1) K5q.1) Fn5q Fa5q E5q Fn5q Fa5q) hZ (hw _ (List.mem_of_getElem? (i := 22) rfl)) (hw _ (List.mem_of_getElem? (i := 2) rfl)) (by decide) (by decide)) q23a q23c (g := (mkF m 209 #[.val (.int p0), .val (.long q1), .second, .val (.long q2), .second, .val (.int (jrm0_11_s0 p0 q1 q2)), .val (.int (jrm0_24_s0 p0 q1 q2)), .val (.long (jrm0_37_s0 p0 q1 q2)), .second, .val (.int (((p0.toUInt32 >>> ((3 : Int32) &&& 31).toUInt32).toInt32) &&& (3 : Int32))), .val (.ref b4), .unset, .unset] [(.ref b4), (.ref b4)])) rfl (by rw [hml]; rfl) (Steps.refl _) (argsL := [(.ref b4)]) (rest := []) (lenOf pd_4 rfl) rfl (by show 2 * 0 + _ ≤ _; exact Nat.le_of_eq rfl) (hb hby at_209) (fun _ _ => ⟨rfl, rfl, (by decide : 1 + 0 ≤ _), (by decide : 2 + 0 ≤ _)⟩)
              dsimp only [Pt.U, Pt.locs, Pt.cells, Pt.slots] at X23 l23 y23 z23 st23 hQ23
              subst l23 y23 z23
              obtain ⟨rfl, N23q, e23⟩ := hQ23
              have N23 := Fr.app N5 N23q
              refine OEnds.tr (g' := (mkF m 212 #[.val (.int p0), .val (.long q1), .second, .val (.long q2), .second, .val (.int (jrm0_11_s0 p0 q1 q2)), .val (.int (jrm0_24_s0 p0 q1 q2)), .val (.long (jrm0_37_s0 p0 q1 q2)), .second, .val (.int (((p0.toUInt32 >>> ((3 : Int32) &&& 31).toUInt32).toInt32) &&& (3 : Int32))), .val (.ref b4), .unset, .unset] [(.int (fE (nar .boolean (jrm0_11_s0 p0 q1 q2)) q1 (nar .boolean (jrm0_11_s0 p0 q1 q2)) q1))])) st23 ?_
              exact OEnds.outN X23 Bd.notSynchronized hx (t := .boolean) Bd.returns (by simp) (hb hby at_212) ⟨(by show some (Value.int (nar .boolean (fE (nar .boolean (jrm0_11_s0 p0 q1 q2)) q1 (nar .boolean (jrm0_11_s0 p0 q1 q2)) q1))) = some (.int 1); rw [own_self]; rfl), N23⟩ (by decide) (by decide)
      by_cases c29_24 : (p0 &&& (4 : Int32)) = (0 : Int32)
      · -- yes
        refine OEnds.go (g' := (mkF m 36 #[.val (.int p0), .val (.long q1), .second, .val (.long q2), .second, .val (.int (jrm0_11_s0 p0 q1 q2)), .val (.int (jrm0_24_s0 p0 q1 q2)), .unset, .unset, .unset, .unset, .unset, .unset] [])) (fun t k => XS.ifYes X0.here hx rfl (pc0 := 29) (pc' := 36) rfl (hb hby at_29) rfl ((if0 _ _).trans (teq c29_24).1) (by decide) (by decide) k) ?_
        refine OEnds.go (g' := (mkF m 37 #[.val (.int p0), .val (.long q1), .second, .val (.long q2), .second, .val (.int (jrm0_11_s0 p0 q1 q2)), .val (.int (jrm0_24_s0 p0 q1 q2)), .unset, .unset, .unset, .unset, .unset, .unset] [(.long q2)])) (fun t k => XS.lloadN X0.here hx rfl (hb hby at_36) rfl k) ?_
        rw [show jrm0_37_s0 p0 q1 q2 = q2 from by rw [jrm0_37_s0, if_pos c29_24]] at J3
        exact J3
      · -- no
        refine OEnds.go (g' := (mkF m 32 #[.val (.int p0), .val (.long q1), .second, .val (.long q2), .second, .val (.int (jrm0_11_s0 p0 q1 q2)), .val (.int (jrm0_24_s0 p0 q1 q2)), .unset, .unset, .unset, .unset, .unset, .unset] [])) (fun t k => XS.ifNo X0.here hx rfl (hb hby at_29) rfl ((if0 _ _).trans (feq c29_24).1) k) ?_
        refine OEnds.go (g' := (mkF m 33 #[.val (.int p0), .val (.long q1), .second, .val (.long q2), .second, .val (.int (jrm0_11_s0 p0 q1 q2)), .val (.int (jrm0_24_s0 p0 q1 q2)), .unset, .unset, .unset, .unset, .unset, .unset] [(.long q1)])) (fun t k => XS.lloadN X0.here hx rfl (hb hby at_32) rfl k) ?_
        refine OEnds.go (g' := (mkF m 37 #[.val (.int p0), .val (.long q1), .second, .val (.long q2), .second, .val (.int (jrm0_11_s0 p0 q1 q2)), .val (.int (jrm0_24_s0 p0 q1 q2)), .unset, .unset, .unset, .unset, .unset, .unset] [(.long q1)])) (fun t k => XS.goto X0.here hx rfl (pc0 := 33) (pc' := 37) rfl (hb hby at_33) (by decide) (by decide) k) ?_
        rw [show jrm0_37_s0 p0 q1 q2 = q1 from by rw [jrm0_37_s0, if_neg c29_24]] at J3
        exact J3
    by_cases c16_25 : (p0 &&& (2 : Int32)) = (0 : Int32)
    · -- yes
      refine OEnds.go (g' := (mkF m 23 #[.val (.int p0), .val (.long q1), .second, .val (.long q2), .second, .val (.int (jrm0_11_s0 p0 q1 q2)), .unset, .unset, .unset, .unset, .unset, .unset, .unset] [])) (fun t k => XS.ifYes X0.here hx rfl (pc0 := 16) (pc' := 23) rfl (hb hby at_16) rfl ((if0 _ _).trans (teq c16_25).1) (by decide) (by decide) k) ?_
      refine OEnds.go (g' := (mkF m 24 #[.val (.int p0), .val (.long q1), .second, .val (.long q2), .second, .val (.int (jrm0_11_s0 p0 q1 q2)), .unset, .unset, .unset, .unset, .unset, .unset, .unset] [(.int (0 : Int32))])) (fun t k => XS.iconst X0.here hx rfl (hb hby at_23) k) ?_
      rw [show jrm0_24_s0 p0 q1 q2 = (0 : Int32) from by rw [jrm0_24_s0, if_pos c16_25]] at J2
      exact J2
    · -- no
      refine OEnds.go (g' := (mkF m 19 #[.val (.int p0), .val (.long q1), .second, .val (.long q2), .second, .val (.int (jrm0_11_s0 p0 q1 q2)), .unset, .unset, .unset, .unset, .unset, .unset, .unset] [])) (fun t k => XS.ifNo X0.here hx rfl (hb hby at_16) rfl ((if0 _ _).trans (feq c16_25).1) k) ?_
      refine OEnds.go (g' := (mkF m 20 #[.val (.int p0), .val (.long q1), .second, .val (.long q2), .second, .val (.int (jrm0_11_s0 p0 q1 q2)), .unset, .unset, .unset, .unset, .unset, .unset, .unset] [(.int (1 : Int32))])) (fun t k => XS.iconst X0.here hx rfl (hb hby at_19) k) ?_
      refine OEnds.go (g' := (mkF m 24 #[.val (.int p0), .val (.long q1), .second, .val (.long q2), .second, .val (.int (jrm0_11_s0 p0 q1 q2)), .unset, .unset, .unset, .unset, .unset, .unset, .unset] [(.int (1 : Int32))])) (fun t k => XS.goto X0.here hx rfl (pc0 := 20) (pc' := 24) rfl (hb hby at_20) (by decide) (by decide) k) ?_
      rw [show jrm0_24_s0 p0 q1 q2 = (1 : Int32) from by rw [jrm0_24_s0, if_neg c16_25]] at J2
      exact J2
  by_cases c3_26 : (p0 &&& (1 : Int32)) = (0 : Int32)
  · -- yes
    refine OEnds.go (g' := (mkF m 10 #[.val (.int p0), .val (.long q1), .second, .val (.long q2), .second, .unset, .unset, .unset, .unset, .unset, .unset, .unset, .unset] [])) (fun t k => XS.ifYes X0.here hx rfl (pc0 := 3) (pc' := 10) rfl (hb hby at_3) rfl ((if0 _ _).trans (teq c3_26).1) (by decide) (by decide) k) ?_
    refine OEnds.go (g' := (mkF m 11 #[.val (.int p0), .val (.long q1), .second, .val (.long q2), .second, .unset, .unset, .unset, .unset, .unset, .unset, .unset, .unset] [(.int (0 : Int32))])) (fun t k => XS.iconst X0.here hx rfl (hb hby at_10) k) ?_
    rw [show jrm0_11_s0 p0 q1 q2 = (0 : Int32) from by rw [jrm0_11_s0, if_pos c3_26]] at J1
    exact J1
  · -- no
    refine OEnds.go (g' := (mkF m 6 #[.val (.int p0), .val (.long q1), .second, .val (.long q2), .second, .unset, .unset, .unset, .unset, .unset, .unset, .unset, .unset] [])) (fun t k => XS.ifNo X0.here hx rfl (hb hby at_3) rfl ((if0 _ _).trans (feq c3_26).1) k) ?_
    refine OEnds.go (g' := (mkF m 7 #[.val (.int p0), .val (.long q1), .second, .val (.long q2), .second, .unset, .unset, .unset, .unset, .unset, .unset, .unset, .unset] [(.int (1 : Int32))])) (fun t k => XS.iconst X0.here hx rfl (hb hby at_6) k) ?_
    refine OEnds.go (g' := (mkF m 11 #[.val (.int p0), .val (.long q1), .second, .val (.long q2), .second, .unset, .unset, .unset, .unset, .unset, .unset, .unset, .unset] [(.int (1 : Int32))])) (fun t k => XS.goto X0.here hx rfl (pc0 := 7) (pc' := 11) rfl (hb hby at_7) (by decide) (by decide) k) ?_
    rw [show jrm0_11_s0 p0 q1 q2 = (1 : Int32) from by rw [jrm0_11_s0, if_neg c3_26]] at J1
    exact J1
set_option maxRecDepth 65536 in
set_option maxHeartbeats 40000000 in
theorem comes_1 {Post : Tables → Env → Array Value → State → Outcome → State → Prop} (hpost : ∀ tb e args s v u, (limb_1_1.after args s (.returned v) u = true ∧ limb_1_2.after args s (.returned v) u = true ∧ True) → FrameEnd s (.returned v) u (Jvm.fieldLocs frame_1_writes args s ++ Jvm.arrayLocs frame_1_arrays args s ++ Jvm.staticLocs frame_1_statics s) 16 128 → Post tb e args s (.returned v) u) :
    ArmFor flags0 classFile x code maxLocals ret World_1 tables_1 room_1 Calls_1 rest_1 Pre_1 Post := by
  intro l hfl _ _ p e ha hc hk s m args below hf hA hF happ hP
  obtain ⟨hcalls, hrest, hpre⟩ := hP
  obtain ⟨-, -, -, hnamed, -, -, -, hat⟩ := (Spec.applies_iff hf).mp happ
  obtain ⟨hg, hn⟩ := and_e (Cond.before_iff.mp (show (Jvm.Cond.and given_1 narrow_1).before args s = true from hpre))
  obtain ⟨g1, g2⟩ := and_e hg
  obtain ⟨g3, g4⟩ := and_e g2
  obtain ⟨g5, g6⟩ := and_e g4
  obtain ⟨w0, w1, w2, rfl⟩ : ∃ w0 w1 w2 : Value, args = #[w0, w1, w2] := by
    have hs : args.size = 3 := by simpa [Cond.value, given_1] using g1
    obtain ⟨L⟩ := args
    match L, hs with
    | [w0, w1, w2], _ => exact ⟨w0, w1, w2, rfl⟩
  have hw := fun d (hd : d ∈ tables_1) => atoms_spec (ws := Jvm.Cond.code x code maxLocals ret :: tables_1) hat d (List.mem_cons_of_mem _ hd)
  have hfit : Fit s := fun {y c} hc i hi => by
    obtain ⟨ha, rfl⟩ := Array.getElem?_eq_some_iff.mp hc
    have q := List.all_eq_true.mp ((Array.all_eq_true_iff_forall_mem.mp hF) _ (Array.getElem_mem ha)) i (List.mem_range.mpr hi)
    simpa [Array.getElem?_eq_getElem hi] using q
  obtain ⟨i0, ei0⟩ := is_v g3
  obtain rfl : w0 = (.int i0) := Option.some.inj ei0
  obtain ⟨i1, ei1⟩ := isL_v g5
  obtain rfl : w1 = (.long i1) := Option.some.inj ei1
  obtain ⟨i2, ei2⟩ := isL_v g6
  obtain rfl : w2 = (.long i2) := Option.some.inj ei2
  obtain ⟨n, o, h1, h2, h3, _, L, rfl, ⟨rfl, N⟩, hq⟩ := rm0 l s _ hw tables_1 i0 i1 i2 s.heap s.heap.size (Nat.le_refl _) p e ha hc hk s m _ below hf ((Spec.applies_iff_loose hf).mp happ).1 ⟨rfl, State.Warmed39.refl s, rfl⟩ trivial
  refine ⟨n, _, h1, h2, h3, hpost _ _ _ _ _ _ ⟨Cond.after_iff.mpr rfl, Cond.after_iff.mpr (eq_i res_at (Term.int_eval (1)) rfl), trivial⟩ ⟨hq.1, hq.2.1, (hq.2.2.sift fun y hy => Or.inr (N y hy)).mono (by decide) (by decide)⟩⟩
theorem main_1_1 : Claimed_1_1 := comes_1 fun _ _ _ _ _ _ h hF => ⟨h.1, hF⟩
theorem main_1_2 : Claimed_1_2 := comes_1 fun _ _ _ _ _ _ h hF => ⟨h.2.1, hF⟩
end Jvm.Pilot.@@N@@
namespace Jvm.Pilot.@@N@@
open Jvm Jvm.ClassFile Sem Op Lib Jvm.Free Jvm.Stand Jvm.Pilot.@@N@@.Jvm.D
/-! MADE BY PROGRAM (witnessworld.py) out of the Statement's table words and the real class files: 18 classes; the members and pool entries that the words name. The judged class is class 1, her method 1. -/
namespace start1
open Jvm.ClassFile
def u (s : String) : CpInfo := .utf8 (stringToUtf16 s)
/-- a pool by its gaps: so many unusable entries, then the entry; so many at the end -/
def gap : Nat → List CpInfo → List CpInfo
  | 0, r => r
  | n + 1, r => .unusable :: gap n r
def poolList (es : List (Nat × CpInfo)) (last : Nat) : List CpInfo := es.foldr (fun e r => gap e.1 (e.2 :: r)) (gap last [])
def pool (es : List (Nat × CpInfo)) (last : Nat) : Array CpInfo := ⟨poolList es last⟩
def fileOf (pool : Array CpInfo) (this : Nat) (attrs : Array Attribute := #[]) (ms : Array MethodInfo := #[]) (fl : Nat := 33) (sup : Nat := 0) (ifs : Array Nat := #[]) (fds : Array FieldInfo := #[]) : ClassFile where
  minorVersion := 0
  majorVersion := 65
  constantPool := pool
  accessFlags := fl
  thisClass := this
  superClass := sup
  interfaces := ifs
  fields := fds
  methods := ms
  attributes := attrs
def plain (name : String) (sup : Option ClassId) : Class where
  name := name
  kind := .ordinary
  loader := none
  accessFlags := 33
  super := sup
  interfaces := #[]
  cf := none
  fields := #[]
  methods := #[]
  instanceTypes := #[]
  staticTypes := #[]
  resolved := #[]
  callSites := []
  init := .initialized
  statics := none
  mirror := none

def pool0 : Array CpInfo := pool [(5, u "<init>"), (0, u "()V"), (1, .class_ 10), (1, u "java/lang/Object")] 113

def k0c0 : Code := { maxStack := 0, maxLocals := 1, code := object_method_1_code, exceptionTable := #[], attributes := #[] }
def k0m0 : Method := { name := "<init>", desc := "()V", sig := { parameters := [], returnType := none }, accessFlags := 1, code := some k0c0 }
/-- java/lang/Object -/
def k0 : Class := { plain "java/lang/Object" none with
  accessFlags := 33
  interfaces := #[]
  cf := some (fileOf pool0 8 #[] #[{ accessFlags := 1, nameIndex := 5, descriptorIndex := 6, attributes := #[] }] 33 0 #[] #[])
  fields := #[]
  methods := #[k0m0]
  instanceTypes := #[]
  staticTypes := #[]
  resolved := Array.replicate 124 none
  statics := none }

def pool1 : Array CpInfo := pool [(2, .class_ 4), (1, u "java/lang/Object"), (0, u "<init>"), (0, u "()V"), (0, .class_ 8), (0, u "com/example/chronotag/chronotag/cbor/CborInteger"), (0, .methodref 7 10), (0, .nameAndType 5 11), (0, u "(ZJ)V"), (0, .methodref 7 13), (0, .nameAndType 14 15), (0, u "equals"), (0, u "(Ljava/lang/Object;)Z"), (0, .methodref 7 17), (0, .nameAndType 18 19), (0, u "hashCode"), (0, u "()I"), (0, .class_ 21), (0, u "com/example/chronotag/chronotag/cbor/CborFloat"), (0, .long 255), (1, .methodref 20 25), (0, .nameAndType 5 26), (0, u "(D)V"), (0, .class_ 28), (0, u "com/example/chronotag/chronotag/cbor/CborIntegerEqualsPinLaw"), (2, u "law"), (0, u "(IJJ)Z")] 3

def k1m0 : Method := { name := "<init>", desc := "()V", sig := { parameters := [], returnType := none }, accessFlags := 1, code := none }
def k1c1 : Code := { maxStack := 6, maxLocals := 13, code := code, exceptionTable := #[], attributes := #[] }
def k1m1 : Method := { name := "law", desc := "(IJJ)Z", sig := { parameters := [.int, .long, .long], returnType := some .boolean }, accessFlags := 9, code := some k1c1 }
/-- com/example/chronotag/chronotag/cbor/CborIntegerEqualsPinLaw -/
def k1 : Class := { plain "com/example/chronotag/chronotag/cbor/CborIntegerEqualsPinLaw" (some 0) with
  accessFlags := 49
  interfaces := #[]
  cf := some (fileOf pool1 27 #[] #[{ accessFlags := 1, nameIndex := 5, descriptorIndex := 6, attributes := #[] }, { accessFlags := 9, nameIndex := 31, descriptorIndex := 32, attributes := #[] }] 49 2 #[] #[])
  fields := #[]
  methods := #[k1m0, k1m1]
  instanceTypes := #[]
  staticTypes := #[]
  resolved := Array.replicate 36 none
  statics := none }

def pool2 : Array CpInfo := pool [(1, .methodref 2 3), (0, .class_ 4), (0, .nameAndType 5 6), (0, u "java/lang/Object"), (0, u "<init>"), (0, u "()V"), (0, .class_ 8), (0, u "java/lang/Record")] 13

def k2c0 : Code := { maxStack := 1, maxLocals := 1, code := jdk_30_method_1_code, exceptionTable := #[], attributes := #[] }
def k2m0 : Method := { name := "<init>", desc := "()V", sig := { parameters := [], returnType := none }, accessFlags := 4, code := some k2c0 }
/-- java/lang/Record -/
def k2 : Class := { plain "java/lang/Record" (some 0) with
  accessFlags := 1057
  interfaces := #[]
  cf := some (fileOf pool2 7 #[] #[{ accessFlags := 4, nameIndex := 5, descriptorIndex := 6, attributes := #[] }] 1057 2 #[] #[])
  fields := #[]
  methods := #[k2m0]
  instanceTypes := #[]
  staticTypes := #[]
  resolved := Array.replicate 22 none
  statics := none }

def pool3 : Array CpInfo := pool [(1, .class_ 2), (0, u "com/example/chronotag/chronotag/cbor/CborItem"), (0, .class_ 4), (0, u "java/lang/Object")] 19

/-- com/example/chronotag/chronotag/cbor/CborItem -/
def k3 : Class := { plain "com/example/chronotag/chronotag/cbor/CborItem" (some 0) with
  accessFlags := 1537
  interfaces := #[]
  cf := some (fileOf pool3 1 #[] #[] 1537 3 #[] #[])
  fields := #[]
  methods := #[]
  instanceTypes := #[]
  staticTypes := #[]
  resolved := Array.replicate 24 none
  statics := none }

def pool4 : Array CpInfo := pool [(1, .methodref 2 3), (0, .class_ 4), (0, .nameAndType 5 6), (0, u "java/lang/Record"), (0, u "<init>"), (0, u "()V"), (0, .fieldref 8 9), (0, .class_ 10), (0, .nameAndType 11 12), (0, u "com/example/chronotag/chronotag/cbor/CborInteger"), (0, u "negative"), (0, u "Z"), (0, .fieldref 8 14), (0, .nameAndType 15 16), (0, u "argument"), (0, u "J"), (4, u "(ZJ)V"), (5, u "()I"), (0, .class_ 29), (0, u "java/lang/Long"), (36, .methodref 67 68), (0, .class_ 69), (0, .nameAndType 70 71), (0, u "java/lang/Boolean"), (0, u "hashCode"), (0, u "(Z)I"), (0, .methodref 28 73), (0, .nameAndType 70 74), (0, u "(J)I"), (7, .class_ 83), (0, u "com/example/chronotag/chronotag/cbor/CborItem"), (7, u "equals"), (0, u "(Ljava/lang/Object;)Z")] 19

def k4c0 : Code := { maxStack := 3, maxLocals := 4, code := prog_26_method_1_code, exceptionTable := #[], attributes := #[] }
def k4m0 : Method := { name := "<init>", desc := "(ZJ)V", sig := { parameters := [.boolean, .long], returnType := none }, accessFlags := 1, code := some k4c0 }
def k4c1 : Code := { maxStack := 4, maxLocals := 3, code := prog_26_method_5_code, exceptionTable := #[], attributes := #[] }
def k4m1 : Method := { name := "equals", desc := "(Ljava/lang/Object;)Z", sig := { parameters := [(.object "java/lang/Object")], returnType := some .boolean }, accessFlags := 1, code := some k4c1 }
def k4c2 : Code := { maxStack := 3, maxLocals := 1, code := prog_26_method_6_code, exceptionTable := #[], attributes := #[] }
def k4m2 : Method := { name := "hashCode", desc := "()I", sig := { parameters := [], returnType := some .int }, accessFlags := 1, code := some k4c2 }
/-- com/example/chronotag/chronotag/cbor/CborInteger -/
def k4 : Class := { plain "com/example/chronotag/chronotag/cbor/CborInteger" (some 2) with
  accessFlags := 49
  interfaces := #[3]
  cf := some (fileOf pool4 8 #[] #[{ accessFlags := 1, nameIndex := 5, descriptorIndex := 21, attributes := #[] }, { accessFlags := 1, nameIndex := 91, descriptorIndex := 92, attributes := #[] }, { accessFlags := 1, nameIndex := 70, descriptorIndex := 27, attributes := #[] }] 49 2 #[82] #[{ accessFlags := 18, nameIndex := 11, descriptorIndex := 12, attributes := #[] }, { accessFlags := 18, nameIndex := 15, descriptorIndex := 16, attributes := #[] }])
  fields := #[{ name := "negative", type := .boolean, accessFlags := 18, slot := 0, constantValue := 0 }, { name := "argument", type := .long, accessFlags := 18, slot := 1, constantValue := 0 }]
  methods := #[k4m0, k4m1, k4m2]
  instanceTypes := #[.boolean, .long]
  staticTypes := #[]
  resolved := Array.replicate 112 none
  statics := none }

def pool5 : Array CpInfo := pool [(1, .class_ 2), (0, u "java/io/Serializable"), (0, .class_ 4), (0, u "java/lang/Object")] 2

/-- java/io/Serializable -/
def k5 : Class := { plain "java/io/Serializable" (some 0) with
  accessFlags := 1537
  interfaces := #[]
  cf := some (fileOf pool5 1 #[] #[] 1537 3 #[] #[])
  fields := #[]
  methods := #[]
  instanceTypes := #[]
  staticTypes := #[]
  resolved := Array.replicate 7 none
  statics := none }

def pool6 : Array CpInfo := pool [(1, .class_ 2), (0, u "java/lang/Comparable"), (0, .class_ 4), (0, u "java/lang/Object")] 7

/-- java/lang/Comparable -/
def k6 : Class := { plain "java/lang/Comparable" (some 0) with
  accessFlags := 1537
  interfaces := #[]
  cf := some (fileOf pool6 1 #[] #[] 1537 3 #[] #[])
  fields := #[]
  methods := #[]
  instanceTypes := #[]
  staticTypes := #[]
  resolved := Array.replicate 12 none
  statics := none }

def pool7 : Array CpInfo := pool [(1, .class_ 2), (0, u "java/lang/constant/Constable"), (0, .class_ 4), (0, u "java/lang/Object")] 6

/-- java/lang/constant/Constable -/
def k7 : Class := { plain "java/lang/constant/Constable" (some 0) with
  accessFlags := 1537
  interfaces := #[]
  cf := some (fileOf pool7 1 #[] #[] 1537 3 #[] #[])
  fields := #[]
  methods := #[]
  instanceTypes := #[]
  staticTypes := #[]
  resolved := Array.replicate 11 none
  statics := none }

def pool8 : Array CpInfo := pool [(2, .class_ 4), (1, u "java/lang/Object"), (3, .class_ 10), (1, u "java/lang/Boolean"), (0, u "value"), (0, u "Z"), (16, u "TRUE"), (0, u "Ljava/lang/Boolean;"), (2, u "FALSE"), (6, u "hashCode"), (0, u "(Z)I"), (45, u "TYPE"), (0, u "Ljava/lang/Class;"), (0, .class_ 90), (0, u "java/io/Serializable"), (0, .class_ 92), (0, u "java/lang/Comparable"), (0, .class_ 94), (0, u "java/lang/constant/Constable"), (2, u "serialVersionUID"), (0, u "J")] 53

def k8c0 : Code := { maxStack := 1, maxLocals := 1, code := jdk_2055_method_10_code, exceptionTable := #[], attributes := #[] }
def k8m0 : Method := { name := "hashCode", desc := "(Z)I", sig := { parameters := [.boolean], returnType := some .int }, accessFlags := 9, code := some k8c0 }
/-- java/lang/Boolean -/
def k8 : Class := { plain "java/lang/Boolean" (some 0) with
  accessFlags := 49
  interfaces := #[5, 6, 7]
  cf := some (fileOf pool8 8 #[] #[{ accessFlags := 9, nameIndex := 40, descriptorIndex := 41, attributes := #[] }] 49 2 #[89, 91, 93] #[{ accessFlags := 25, nameIndex := 29, descriptorIndex := 30, attributes := #[] }, { accessFlags := 25, nameIndex := 33, descriptorIndex := 30, attributes := #[] }, { accessFlags := 25, nameIndex := 87, descriptorIndex := 88, attributes := #[] }, { accessFlags := 18, nameIndex := 11, descriptorIndex := 12, attributes := #[] }, { accessFlags := 26, nameIndex := 97, descriptorIndex := 98, attributes := #[] }])
  fields := #[{ name := "TRUE", type := (.object "java/lang/Boolean"), accessFlags := 25, slot := 0, constantValue := 0 }, { name := "FALSE", type := (.object "java/lang/Boolean"), accessFlags := 25, slot := 1, constantValue := 0 }, { name := "TYPE", type := (.object "java/lang/Class"), accessFlags := 25, slot := 2, constantValue := 0 }, { name := "value", type := .boolean, accessFlags := 18, slot := 0, constantValue := 0 }, { name := "serialVersionUID", type := .long, accessFlags := 26, slot := 3, constantValue := 0 }]
  methods := #[k8m0]
  instanceTypes := #[.boolean]
  staticTypes := #[(.object "java/lang/Boolean"), (.object "java/lang/Boolean"), (.object "java/lang/Class"), .long]
  resolved := Array.replicate 152 none
  statics := none }

def pool9 : Array CpInfo := pool [(2, .class_ 4), (1, u "java/lang/Object"), (0, u "<init>"), (0, u "()V"), (1, .class_ 10), (1, u "java/lang/Number"), (2, .class_ 14), (0, u "java/io/Serializable"), (0, u "serialVersionUID"), (0, u "J")] 20

def k9m0 : Method := { name := "<init>", desc := "()V", sig := { parameters := [], returnType := none }, accessFlags := 1, code := none }
/-- java/lang/Number -/
def k9 : Class := { plain "java/lang/Number" (some 0) with
  accessFlags := 1057
  interfaces := #[5]
  cf := some (fileOf pool9 8 #[] #[{ accessFlags := 1, nameIndex := 5, descriptorIndex := 6, attributes := #[] }] 1057 2 #[13] #[{ accessFlags := 26, nameIndex := 15, descriptorIndex := 16, attributes := #[] }])
  fields := #[{ name := "serialVersionUID", type := .long, accessFlags := 26, slot := 0, constantValue := 0 }]
  methods := #[k9m0]
  instanceTypes := #[]
  staticTypes := #[.long]
  resolved := Array.replicate 37 none
  statics := none }

def pool10 : Array CpInfo := pool [(1, .class_ 2), (0, u "java/lang/constant/ConstantDesc"), (0, .class_ 4), (0, u "java/lang/Object")] 32

/-- java/lang/constant/ConstantDesc -/
def k10 : Class := { plain "java/lang/constant/ConstantDesc" (some 0) with
  accessFlags := 1537
  interfaces := #[]
  cf := some (fileOf pool10 1 #[] #[] 1537 3 #[] #[])
  fields := #[]
  methods := #[]
  instanceTypes := #[]
  staticTypes := #[]
  resolved := Array.replicate 37 none
  statics := none }

def pool11 : Array CpInfo := pool [(1, .class_ 2), (0, u "java/lang/Long"), (98, u "(J)I"), (133, .class_ 237), (1, u "java/lang/Long$LongCache"), (33, .class_ 272), (0, u "java/lang/Number"), (2, u "value"), (0, u "J"), (2, u "hashCode"), (81, u "TYPE"), (0, u "Ljava/lang/Class;"), (0, .class_ 364), (0, u "java/lang/Comparable"), (0, .class_ 366), (0, u "java/lang/constant/Constable"), (0, .class_ 368), (0, u "java/lang/constant/ConstantDesc"), (0, u "MIN_VALUE"), (1, u "MAX_VALUE"), (4, u "SIZE"), (0, u "I"), (1, u "BYTES"), (1, u "serialVersionUID")] 142

def k11c0 : Code := { maxStack := 5, maxLocals := 2, code := jdk_35_method_36_code, exceptionTable := #[], attributes := #[] }
def k11m0 : Method := { name := "hashCode", desc := "(J)I", sig := { parameters := [.long], returnType := some .int }, accessFlags := 9, code := some k11c0 }
/-- java/lang/Long -/
def k11 : Class := { plain "java/lang/Long" (some 9) with
  accessFlags := 49
  interfaces := #[6, 7, 10]
  cf := some (fileOf pool11 1 #[.nestMembers #[235]] #[{ accessFlags := 9, nameIndex := 279, descriptorIndex := 101, attributes := #[] }] 49 271 #[363, 365, 367] #[{ accessFlags := 25, nameIndex := 369, descriptorIndex := 276, attributes := #[] }, { accessFlags := 25, nameIndex := 371, descriptorIndex := 276, attributes := #[] }, { accessFlags := 25, nameIndex := 361, descriptorIndex := 362, attributes := #[] }, { accessFlags := 18, nameIndex := 275, descriptorIndex := 276, attributes := #[] }, { accessFlags := 25, nameIndex := 376, descriptorIndex := 377, attributes := #[] }, { accessFlags := 25, nameIndex := 379, descriptorIndex := 377, attributes := #[] }, { accessFlags := 26, nameIndex := 381, descriptorIndex := 276, attributes := #[] }])
  fields := #[{ name := "MIN_VALUE", type := .long, accessFlags := 25, slot := 0, constantValue := 0 }, { name := "MAX_VALUE", type := .long, accessFlags := 25, slot := 1, constantValue := 0 }, { name := "TYPE", type := (.object "java/lang/Class"), accessFlags := 25, slot := 2, constantValue := 0 }, { name := "value", type := .long, accessFlags := 18, slot := 0, constantValue := 0 }, { name := "SIZE", type := .int, accessFlags := 25, slot := 3, constantValue := 0 }, { name := "BYTES", type := .int, accessFlags := 25, slot := 4, constantValue := 0 }, { name := "serialVersionUID", type := .long, accessFlags := 26, slot := 5, constantValue := 0 }]
  methods := #[k11m0]
  instanceTypes := #[.long]
  staticTypes := #[.long, .long, (.object "java/lang/Class"), .int, .int, .long]
  resolved := Array.replicate 524 none
  statics := none }

def pool12 : Array CpInfo := pool [(1, .methodref 2 3), (0, .class_ 4), (0, .nameAndType 5 6), (0, u "java/lang/Record"), (0, u "<init>"), (0, u "()V"), (0, .fieldref 8 9), (0, .class_ 10), (0, .nameAndType 11 12), (0, u "com/example/chronotag/chronotag/cbor/CborFloat"), (0, u "value"), (0, u "D"), (20, .class_ 34), (0, u "com/example/chronotag/chronotag/cbor/CborItem"), (0, u "(D)V")] 26

def k12c0 : Code := { maxStack := 3, maxLocals := 3, code := prog_25_method_1_code, exceptionTable := #[], attributes := #[] }
def k12m0 : Method := { name := "<init>", desc := "(D)V", sig := { parameters := [.double], returnType := none }, accessFlags := 1, code := some k12c0 }
/-- com/example/chronotag/chronotag/cbor/CborFloat -/
def k12 : Class := { plain "com/example/chronotag/chronotag/cbor/CborFloat" (some 2) with
  accessFlags := 49
  interfaces := #[3]
  cf := some (fileOf pool12 8 #[] #[{ accessFlags := 1, nameIndex := 5, descriptorIndex := 35, attributes := #[] }] 49 2 #[33] #[{ accessFlags := 18, nameIndex := 11, descriptorIndex := 12, attributes := #[] }])
  fields := #[{ name := "value", type := .double, accessFlags := 18, slot := 0, constantValue := 0 }]
  methods := #[k12m0]
  instanceTypes := #[.double]
  staticTypes := #[]
  resolved := Array.replicate 62 none
  statics := none }

def pool13 : Array CpInfo := pool [(1, u "java/lang/Cloneable"), (0, .class_ 1), (0, u "java/lang/Object"), (0, .class_ 3)] 3

/-- java/lang/Cloneable -/
def k13 : Class := { plain "java/lang/Cloneable" (some 0) with
  accessFlags := 1537
  interfaces := #[]
  cf := some (fileOf pool13 2 #[] #[] 1537 4 #[] #[])
  fields := #[]
  methods := #[]
  instanceTypes := #[]
  staticTypes := #[]
  resolved := Array.replicate 8 none
  statics := none }

/-- the primitive byte -/
def k14 : Class := { plain "byte" none with kind := .primitive 'B', accessFlags := 0x411 }
/-- [B -/
def k15 : Class := { plain "[B" (some 0) with kind := .array 14 .byte, interfaces := #[13, 5], accessFlags := 1041 }

/-- the primitive int -/
def k16 : Class := { plain "int" none with kind := .primitive 'I', accessFlags := 0x411 }
/-- [I -/
def k17 : Class := { plain "[I" (some 0) with kind := .array 16 .int, interfaces := #[13, 5], accessFlags := 1041 }

def heap : Heap := #[]
def classes : Array Class := #[k0, k1, k2, k3, k4, k5, k6, k7, k8, k9, k10, k11, k12, k13, k14, k15, k16, k17]
def interned : List (Array UInt16 × Addr) := []
def slotsUsed : Nat := 0
def theMethod : MethodId := ⟨1, 1⟩
def args0 : Array Value := #[.int 5, .long 5, .long 5]
def aboutOver (below : List Frame) : State where
  vm := { classes := classes, interned := interned.toArray }
  heap := heap
  slotsUsed := slotsUsed
  threads := #[{ frames := .invoking theMethod args0 :: below }]
def below0 : List Frame := [.native { method := ⟨0, 0⟩, args := #[] }]
def about1 : State := aboutOver below0
def p0 : Program := .bare "" "" ""
def e0 : Env := launch0.env 0 0 0
theorem w_frames : about1.frames = Frame.invoking theMethod args0 :: below0 := rfl
set_option maxRecDepth 65536 in
theorem w_args : argsFit about1.vm theMethod args0 = true := by decide +kernel
set_option maxRecDepth 65536 in
theorem w_heap : heapFits about1 = true := by decide +kernel
set_option maxRecDepth 65536 in
theorem w_runnable : about1.curStatus? = some .runnable := by decide +kernel
set_option maxRecDepth 65536 in
theorem w_alone : about1.alone = true := by decide +kernel
set_option maxRecDepth 65536 in
theorem w_named : about1.methodNamed? x = some theMethod := by decide +kernel
set_option maxRecDepth 65536 in
theorem w_hears : about1.hears theMethod below0 = true := by decide +kernel
set_option maxRecDepth 65536 in
theorem w_ripe : about1.ripe theMethod args0 below0 = true := by decide +kernel
theorem w_running : about1.status = .running := rfl
set_option maxRecDepth 65536 in
theorem w_room : about1.hasRoom e0.platform room_1 = true :=
  launch0.hasRoom_least _ room_1 (by decide +kernel) (by decide +kernel) (by decide +kernel) (by decide +kernel) (by decide +kernel) (by decide +kernel)
theorem allAtoms_all (ts : List Jvm.Cond) (a : Array Jvm.Value) (st : Jvm.State) : (allAtoms ts).before a st = ts.all (fun c => c.before a st) := by
  induction ts with
  | nil => rfl
  | cons c t ih =>
    show (Jvm.Cond.and c (allAtoms t)).before a st = _
    rw [Jvm.Cond.before_and, ih, List.all_cons]
def words1 : List Jvm.Cond := Jvm.Cond.code x code maxLocals ret :: tables_1
/-- a 'code' word, met by the world's own term for the bytes: nothing is compared byte by byte -/
theorem code_word {y : MethodName} {bytes : ByteArray} {mx : Nat} {rt : Option FieldType} {a : Array Value} {s : State} {m : MethodId} {meth : Method} {c : Code} (h1 : s.methodNamed? y = some m) (h2 : s.vm.method? m = some meth) (h3 : meth.code = some c) (h4 : c.code = bytes)
    (h5 : (c.maxLocals == mx && c.exceptionTable.isEmpty && decide (c.maxStack ≤ mostOperands) && decide (meth.sig.returnType = rt) && !meth.locks && decide (parseMethodDescriptor y.desc = some meth.sig)) = true) : (Jvm.Cond.code y bytes mx rt).before a s = true := by
  simp only [Bool.and_eq_true, beq_iff_eq, Bool.not_eq_true', decide_eq_true_eq] at h5
  obtain ⟨⟨⟨⟨⟨g1, g2⟩, g3⟩, g4⟩, g5⟩, g6⟩ := h5
  simp [Cond.before, Cond.holds, Cond.value, h1, h2, h3, h4, g1, g2, g3, g4, g5, g6]
def isCode : Jvm.Cond → Bool
  | .code _ _ _ _ => true
  | _ => false
theorem all_split {L : List Jvm.Cond} {P : Jvm.Cond → Bool} (h1 : L.all (fun c => isCode c || P c) = true) (h2 : ∀ c ∈ L.filter isCode, P c = true) : L.all P = true := by
  refine List.all_eq_true.mpr fun c hc => ?_
  have h := List.all_eq_true.mp h1 c hc
  rcases Bool.eq_false_or_eq_true (isCode c) with hi | hi
  · exact h2 c (List.mem_filter.mpr ⟨hc, hi⟩)
  · simpa [hi] using h
set_option maxRecDepth 65536 in
theorem w_c0 : (Jvm.Cond.code x code maxLocals ret).before args0 about1 = true := code_word (m := ⟨1, 1⟩) (meth := k1m1) (c := k1c1) (by decide +kernel) rfl rfl rfl (by decide +kernel)
set_option maxRecDepth 65536 in
theorem w_c1 : (Jvm.Cond.code ({ cls := "com/example/chronotag/chronotag/cbor/CborInteger", name := "<init>", desc := "(ZJ)V" } : Jvm.MethodName) prog_26_method_1_code (4 : Nat) (Option.none : Option Jvm.ClassFile.FieldType)).before args0 about1 = true := code_word (m := ⟨4, 0⟩) (meth := k4m0) (c := k4c0) (by decide +kernel) rfl rfl rfl (by decide +kernel)
set_option maxRecDepth 65536 in
theorem w_c2 : (Jvm.Cond.code ({ cls := "java/lang/Record", name := "<init>", desc := "()V" } : Jvm.MethodName) jdk_30_method_1_code (1 : Nat) (Option.none : Option Jvm.ClassFile.FieldType)).before args0 about1 = true := code_word (m := ⟨2, 0⟩) (meth := k2m0) (c := k2c0) (by decide +kernel) rfl rfl rfl (by decide +kernel)
set_option maxRecDepth 65536 in
theorem w_c3 : (Jvm.Cond.code ({ cls := "java/lang/Object", name := "<init>", desc := "()V" } : Jvm.MethodName) object_method_1_code (1 : Nat) (Option.none : Option Jvm.ClassFile.FieldType)).before args0 about1 = true := code_word (m := ⟨0, 0⟩) (meth := k0m0) (c := k0c0) (by decide +kernel) rfl rfl rfl (by decide +kernel)
set_option maxRecDepth 65536 in
theorem w_c4 : (Jvm.Cond.code ({ cls := "com/example/chronotag/chronotag/cbor/CborInteger", name := "equals", desc := "(Ljava/lang/Object;)Z" } : Jvm.MethodName) prog_26_method_5_code (3 : Nat) (Option.some Jvm.ClassFile.FieldType.boolean)).before args0 about1 = true := code_word (m := ⟨4, 1⟩) (meth := k4m1) (c := k4c1) (by decide +kernel) rfl rfl rfl (by decide +kernel)
set_option maxRecDepth 65536 in
theorem w_c5 : (Jvm.Cond.code ({ cls := "com/example/chronotag/chronotag/cbor/CborInteger", name := "hashCode", desc := "()I" } : Jvm.MethodName) prog_26_method_6_code (1 : Nat) (Option.some Jvm.ClassFile.FieldType.int)).before args0 about1 = true := code_word (m := ⟨4, 2⟩) (meth := k4m2) (c := k4c2) (by decide +kernel) rfl rfl rfl (by decide +kernel)
set_option maxRecDepth 65536 in
theorem w_c6 : (Jvm.Cond.code ({ cls := "java/lang/Boolean", name := "hashCode", desc := "(Z)I" } : Jvm.MethodName) jdk_2055_method_10_code (1 : Nat) (Option.some Jvm.ClassFile.FieldType.int)).before args0 about1 = true := code_word (m := ⟨8, 0⟩) (meth := k8m0) (c := k8c0) (by decide +kernel) rfl rfl rfl (by decide +kernel)
set_option maxRecDepth 65536 in
theorem w_c7 : (Jvm.Cond.code ({ cls := "java/lang/Long", name := "hashCode", desc := "(J)I" } : Jvm.MethodName) jdk_35_method_36_code (2 : Nat) (Option.some Jvm.ClassFile.FieldType.int)).before args0 about1 = true := code_word (m := ⟨11, 0⟩) (meth := k11m0) (c := k11c0) (by decide +kernel) rfl rfl rfl (by decide +kernel)
set_option maxRecDepth 65536 in
theorem w_c8 : (Jvm.Cond.code ({ cls := "com/example/chronotag/chronotag/cbor/CborFloat", name := "<init>", desc := "(D)V" } : Jvm.MethodName) prog_25_method_1_code (3 : Nat) (Option.none : Option Jvm.ClassFile.FieldType)).before args0 about1 = true := code_word (m := ⟨12, 0⟩) (meth := k12m0) (c := k12c0) (by decide +kernel) rfl rfl rfl (by decide +kernel)
def codes1 : List Jvm.Cond := [Jvm.Cond.code x code maxLocals ret, Jvm.Cond.code ({ cls := "com/example/chronotag/chronotag/cbor/CborInteger", name := "<init>", desc := "(ZJ)V" } : Jvm.MethodName) prog_26_method_1_code (4 : Nat) (Option.none : Option Jvm.ClassFile.FieldType), Jvm.Cond.code ({ cls := "java/lang/Record", name := "<init>", desc := "()V" } : Jvm.MethodName) jdk_30_method_1_code (1 : Nat) (Option.none : Option Jvm.ClassFile.FieldType), Jvm.Cond.code ({ cls := "java/lang/Object", name := "<init>", desc := "()V" } : Jvm.MethodName) object_method_1_code (1 : Nat) (Option.none : Option Jvm.ClassFile.FieldType), Jvm.Cond.code ({ cls := "com/example/chronotag/chronotag/cbor/CborInteger", name := "equals", desc := "(Ljava/lang/Object;)Z" } : Jvm.MethodName) prog_26_method_5_code (3 : Nat) (Option.some Jvm.ClassFile.FieldType.boolean), Jvm.Cond.code ({ cls := "com/example/chronotag/chronotag/cbor/CborInteger", name := "hashCode", desc := "()I" } : Jvm.MethodName) prog_26_method_6_code (1 : Nat) (Option.some Jvm.ClassFile.FieldType.int), Jvm.Cond.code ({ cls := "java/lang/Boolean", name := "hashCode", desc := "(Z)I" } : Jvm.MethodName) jdk_2055_method_10_code (1 : Nat) (Option.some Jvm.ClassFile.FieldType.int), Jvm.Cond.code ({ cls := "java/lang/Long", name := "hashCode", desc := "(J)I" } : Jvm.MethodName) jdk_35_method_36_code (2 : Nat) (Option.some Jvm.ClassFile.FieldType.int), Jvm.Cond.code ({ cls := "com/example/chronotag/chronotag/cbor/CborFloat", name := "<init>", desc := "(D)V" } : Jvm.MethodName) prog_25_method_1_code (3 : Nat) (Option.none : Option Jvm.ClassFile.FieldType)]
set_option maxRecDepth 65536 in
theorem codes_eq : words1.filter isCode = codes1 := rfl
theorem w_codes : ∀ c ∈ words1.filter isCode, c.before args0 about1 = true := by
  rw [codes_eq]
  intro c hc
  simp only [codes1, List.mem_cons, List.not_mem_nil, or_false] at hc
  rcases hc with rfl | rfl | rfl | rfl | rfl | rfl | rfl | rfl | rfl
  · exact w_c0
  · exact w_c1
  · exact w_c2
  · exact w_c3
  · exact w_c4
  · exact w_c5
  · exact w_c6
  · exact w_c7
  · exact w_c8
set_option maxRecDepth 65536 in
theorem w_t1 : (words1.take 24).all (fun c => isCode c || c.before args0 about1) = true := by decide +kernel
set_option maxRecDepth 65536 in
theorem w_t2 : ((words1.drop 24).take 24).all (fun c => isCode c || c.before args0 about1) = true := by decide +kernel
set_option maxRecDepth 65536 in
theorem w_t3 : ((words1.drop 24).drop 24).all (fun c => isCode c || c.before args0 about1) = true := by decide +kernel
theorem w_tables : (allAtoms (Jvm.Cond.code x code maxLocals ret :: tables_1)).before args0 about1 = true := by
  rw [allAtoms_all]
  show words1.all (fun c => c.before args0 about1) = true
  refine all_split ?_ w_codes
  rw [← List.take_append_drop 24 words1, List.all_append, w_t1, ← List.take_append_drop 24 (words1.drop 24), List.all_append, w_t2, w_t3]
  rfl
set_option maxRecDepth 65536 in
theorem w_case : (Jvm.Cond.and given_1 narrow_1).before args0 about1 = true := by decide +kernel
theorem w_applies : (headSpec (Jvm.Cond.code x code maxLocals ret :: tables_1) room_1).applies x e0.platform about1 = true :=
  (Spec.applies_iff w_frames).mpr ⟨w_running, w_runnable, w_alone, w_named, w_hears, w_ripe, w_room, w_tables⟩
theorem atStart : AtStart classFile x code maxLocals ret World_1 tables_1 room_1 Calls_1 rest_1 Pre_1 launch0 p0 e0 about1 theMethod args0 below0 :=
  ⟨lists_1, trivial, launch0.admits_env _ _ _, launch0.least_env, fairChoices_fair.cas, fairChoices_fair.clock, w_frames, w_args, w_heap, w_applies, trivial, trivial, w_case⟩
end start1
theorem witness_1 : WitnessClaimed_1 := ⟨start1.p0, start1.e0, start1.about1, start1.theMethod, start1.args0, start1.below0, start1.atStart⟩
end Jvm.Pilot.@@N@@
