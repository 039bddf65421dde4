import JvmDerived
import JvmDerived.Pilot.@@N@@Statement
import JvmDerived.Pilot.@@N@@Code
set_option linter.unusedVariables false
set_option linter.unusedSimpArgs false
namespace Jvm.RoadKit
open Sem ClassFile Op Lib Jvm.Stand Jvm.Free Jvm.LawKit
section New
variable {p : Program} {l : Launch} {e : Env} {R : Room} {s : State} {m : MethodId} {args : Array Value} {below : List Frame} {meth : Method} {c : Code} {T T' : State} {locs : List Loc} {cells slots : Nat}
theorem retI (X : Stand p l e R s m args below meth c T locs cells slots) (hx : p.tables.exec = Jvm.exec) {pc : Nat} {Ls : Array Slot} {z : Int32} {rest : List Value} (hret : meth.sig.returnType = some .int) (hd : decode c.code pc = .ok (.ireturn, 1)) {fs : List Frame}
    (hl : ∀ (f : JFrame) (acts : List Action), f.method = m → f.locked = none → f.entered = [] → (doReturn e (T.setTop f) acts (some (.int z))).1 = T.setFrames fs) : Steps p.tables e below (T.setTop (mkF m pc Ls (.int z :: rest))) (T.setFrames fs) := by
  have hm' : T.vm.method? m = some meth := X.method'
  have hn : narrow .int (.int z) = .int z := rfl
  show Steps p.tables e below (T.setTop { method := m, pc := pc, locals := Ls, stack := _ :: rest, locked := none }) _
  jvm_step X.here [X.here.top, hx, hd, hm', hret, hn]
  first | (intro acts; rw [hl _ acts rfl rfl rfl]) | rw [hl _ _ rfl rfl rfl]
  exact Steps.refl _
/-- from this frame the run comes to an end of which P holds -/
def OEnds (p : Program) (e : Env) (below : List Frame) (P : Outcome → State → Prop) (T : State) (g : JFrame) : Prop :=
  ∃ s₂ o, Steps p.tables e below (T.setTop g) s₂ ∧ s₂.status = .running ∧ Ended s₂ below o ∧ P o s₂
theorem OEnds.go {P : Outcome → State → Prop} {g g' : JFrame} (h : ∀ t, Steps p.tables e below (T'.setTop g') t → Steps p.tables e below (T.setTop g) t) (k : OEnds p e below P T' g') : OEnds p e below P T g := by
  obtain ⟨s₂, o, h1, h2⟩ := k
  exact ⟨s₂, o, h _ h1, h2⟩
theorem OEnds.tr {P : Outcome → State → Prop} {g g' : JFrame} (h : Steps p.tables e below (T.setTop g) (T'.setTop g')) (k : OEnds p e below P T' g') : OEnds p e below P T g :=
  OEnds.go (fun _ q => h.trans q) k
/-- what a contract of this family says of the end -/
def OEndP (s : State) (Q : Option Value → Heap → List Loc → Prop) (C N : Nat) (o : Outcome) (U' : State) : Prop := ∃ v L, o = .returned v ∧ Q v U'.heap L ∧ FrameEnd s o U' L C N
theorem OEnds.out (X : Stand p l e R s m args below meth c T locs cells slots) (hlocks : meth.locks = false) {v : Option Value} (hv : meth.sig.returnType = none → v = none) {Q : Option Value → Heap → List Loc → Prop} {C N : Nat} {g : JFrame}
    (hs : ∀ fs, (∀ (f : JFrame) (acts : List Action), f.method = m → f.locked = none → f.entered = [] → (doReturn e (T.setTop f) acts v).1 = T.setFrames fs) → Steps p.tables e below (T.setTop g) (T.setFrames fs))
    (hq : Q v T.heap locs) (hc : cells ≤ C) (hn : slots ≤ N) : OEnds p e below (OEndP s Q C N) T g := by
  obtain ⟨fs, hr, hrun, hended, hW, hsame⟩ := X.leave (v := v) hv hlocks
  exact ⟨_, _, hs fs hr, hrun, hended, _, _, rfl, hq, ⟨_, rfl⟩, hW, hsame.mono hc hn⟩
theorem OEnds.outN (X : Stand p l e R s m args below meth c T locs cells slots) (hlocks : meth.locks = false) (hx : p.tables.exec = Jvm.exec) {pc : Nat} {Ls : Array Slot} {z : Int32} {t : FieldType} {rest : List Value} (hret : meth.sig.returnType = some t) (ht : t = .boolean ∨ t = .byte ∨ t = .char ∨ t = .short)
    (hd : decode c.code pc = .ok (.ireturn, 1)) {Q : Option Value → Heap → List Loc → Prop} {C N : Nat} (hq : Q (some (.int (nar t z))) T.heap locs) (hc : cells ≤ C) (hn : slots ≤ N) : OEnds p e below (OEndP s Q C N) T (mkF m pc Ls (.int z :: rest)) :=
  OEnds.out X hlocks (fun h => by rw [hret] at h; cases h) (fun fs hr => retN X hx hret ht hd hr) hq hc hn
theorem OEnds.outI (X : Stand p l e R s m args below meth c T locs cells slots) (hlocks : meth.locks = false) (hx : p.tables.exec = Jvm.exec) {pc : Nat} {Ls : Array Slot} {z : Int32} {rest : List Value} (hret : meth.sig.returnType = some .int)
    (hd : decode c.code pc = .ok (.ireturn, 1)) {Q : Option Value → Heap → List Loc → Prop} {C N : Nat} (hq : Q (some (.int z)) T.heap locs) (hc : cells ≤ C) (hn : slots ≤ N) : OEnds p e below (OEndP s Q C N) T (mkF m pc Ls (.int z :: rest)) :=
  OEnds.out X hlocks (fun h => by rw [hret] at h; cases h) (fun fs hr => retI X hx hret hd hr) hq hc hn
theorem OEnds.outJ (X : Stand p l e R s m args below meth c T locs cells slots) (hlocks : meth.locks = false) (hx : p.tables.exec = Jvm.exec) {pc : Nat} {Ls : Array Slot} {z : Int64} {rest : List Value} (hret : meth.sig.returnType = some .long)
    (hd : decode c.code pc = .ok (.lreturn, 1)) {Q : Option Value → Heap → List Loc → Prop} {C N : Nat} (hq : Q (some (.long z)) T.heap locs) (hc : cells ≤ C) (hn : slots ≤ N) : OEnds p e below (OEndP s Q C N) T (mkF m pc Ls (.long z :: rest)) :=
  OEnds.out X hlocks (fun h => by rw [hret] at h; cases h) (fun fs hr => retOut X hx hret rfl (Or.inr (Or.inl ⟨rfl, rfl, z, rfl⟩)) hd hr) hq hc hn
theorem OEnds.outA (X : Stand p l e R s m args below meth c T locs cells slots) (hlocks : meth.locks = false) (hx : p.tables.exec = Jvm.exec) {pc : Nat} {Ls : Array Slot} {w : Value} {t : FieldType} {rest : List Value} (hret : meth.sig.returnType = some t) (ht : t.isReference = true) (hw : w.isRef = true)
    (hd : decode c.code pc = .ok (.areturn, 1)) {Q : Option Value → Heap → List Loc → Prop} {C N : Nat} (hq : Q (some w) T.heap locs) (hc : cells ≤ C) (hn : slots ≤ N) : OEnds p e below (OEndP s Q C N) T (mkF m pc Ls (w :: rest)) :=
  OEnds.out X hlocks (fun h => by rw [hret] at h; cases h) (fun fs hr => retOut X hx hret (by rcases ref_cases hw with rfl | ⟨a, rfl⟩ <;> cases t <;> first | rfl | cases ht) (Or.inr (Or.inr (Or.inr (Or.inr ⟨rfl, ht, hw⟩)))) hd hr) hq hc hn
theorem OEnds.outV (X : Stand p l e R s m args below meth c T locs cells slots) (hlocks : meth.locks = false) (hx : p.tables.exec = Jvm.exec) {pc : Nat} {Ls : Array Slot} (hret : meth.sig.returnType = none)
    (hd : decode c.code pc = .ok (.return_, 1)) {Q : Option Value → Heap → List Loc → Prop} {C N : Nat} (hq : Q none T.heap locs) (hc : cells ≤ C) (hn : slots ≤ N) : OEnds p e below (OEndP s Q C N) T (mkF m pc Ls []) :=
  OEnds.out X hlocks (fun _ => rfl) (fun fs hr => X.returnOut hx hret hd hr) hq hc hn
end New
end Jvm.RoadKit
namespace Jvm.Pilot.@@N@@
open Jvm Jvm.ClassFile Sem Op Lib Jvm.Free Jvm.Stand Jvm.LawKit Jvm.RoadKit Bundle Jvm.Pilot.@@N@@.Jvm.D
theorem d1_0 : decode method_2_code 0 = .ok (.iload_n 0, 1) := by decide +kernel
theorem d1_1 : decode method_2_code 1 = .ok (.sipush 208, 3) := by decide +kernel
theorem d1_4 : decode method_2_code 4 = .ok (.if_icmp .ne 7, 3) := by decide +kernel
theorem d1_7 : decode method_2_code 7 = .ok (.getstatic 7, 3) := by decide +kernel
theorem d1_10 : decode method_2_code 10 = .ok (.areturn, 1) := by decide +kernel
theorem d1_11 : decode method_2_code 11 = .ok (.iload_n 0, 1) := by decide +kernel
theorem d1_12 : decode method_2_code 12 = .ok (.iconst 4, 1) := by decide +kernel
theorem d1_13 : decode method_2_code 13 = .ok (.ishr, 1) := by decide +kernel
theorem d1_14 : decode method_2_code 14 = .ok (.bipush 13, 2) := by decide +kernel
theorem d1_16 : decode method_2_code 16 = .ok (.if_icmp .ne 7, 3) := by decide +kernel
theorem d1_19 : decode method_2_code 19 = .ok (.getstatic 13, 3) := by decide +kernel
theorem d1_22 : decode method_2_code 22 = .ok (.areturn, 1) := by decide +kernel
theorem d1_23 : decode method_2_code 23 = .ok (.iload_n 0, 1) := by decide +kernel
theorem d1_24 : decode method_2_code 24 = .ok (.iconst 1, 1) := by decide +kernel
theorem d1_25 : decode method_2_code 25 = .ok (.if_icmp .eq 10, 3) := by decide +kernel
theorem d1_28 : decode method_2_code 28 = .ok (.iload_n 0, 1) := by decide +kernel
theorem d1_29 : decode method_2_code 29 = .ok (.sipush 129, 3) := by decide +kernel
theorem d1_32 : decode method_2_code 32 = .ok (.if_icmp .ne 7, 3) := by decide +kernel
theorem d1_35 : decode method_2_code 35 = .ok (.getstatic 16, 3) := by decide +kernel
theorem d1_38 : decode method_2_code 38 = .ok (.areturn, 1) := by decide +kernel
theorem d1_39 : decode method_2_code 39 = .ok (.aconst_null, 1) := by decide +kernel
theorem d1_40 : decode method_2_code 40 = .ok (.areturn, 1) := by decide +kernel
theorem d2_0 : decode prog_61_method_4_code 0 = .ok (.iload_n 0, 1) := by decide +kernel
theorem d2_1 : decode prog_61_method_4_code 1 = .ok (.sipush 208, 3) := by decide +kernel
theorem d2_4 : decode prog_61_method_4_code 4 = .ok (.if_icmp .ne 7, 3) := by decide +kernel
theorem d2_7 : decode prog_61_method_4_code 7 = .ok (.getstatic 3, 3) := by decide +kernel
theorem d2_10 : decode prog_61_method_4_code 10 = .ok (.areturn, 1) := by decide +kernel
theorem d2_11 : decode prog_61_method_4_code 11 = .ok (.iload_n 0, 1) := by decide +kernel
theorem d2_12 : decode prog_61_method_4_code 12 = .ok (.sipush 208, 3) := by decide +kernel
theorem d2_15 : decode prog_61_method_4_code 15 = .ok (.if_icmp .le 14, 3) := by decide +kernel
theorem d2_18 : decode prog_61_method_4_code 18 = .ok (.iload_n 0, 1) := by decide +kernel
theorem d2_19 : decode prog_61_method_4_code 19 = .ok (.sipush 223, 3) := by decide +kernel
theorem d2_22 : decode prog_61_method_4_code 22 = .ok (.if_icmp .gt 7, 3) := by decide +kernel
theorem d2_25 : decode prog_61_method_4_code 25 = .ok (.getstatic 7, 3) := by decide +kernel
theorem d2_28 : decode prog_61_method_4_code 28 = .ok (.areturn, 1) := by decide +kernel
theorem d2_29 : decode prog_61_method_4_code 29 = .ok (.iload_n 0, 1) := by decide +kernel
theorem d2_30 : decode prog_61_method_4_code 30 = .ok (.bipush 127, 2) := by decide +kernel
theorem d2_32 : decode prog_61_method_4_code 32 = .ok (.iand, 1) := by decide +kernel
theorem d2_33 : decode prog_61_method_4_code 33 = .ok (.iconst 1, 1) := by decide +kernel
theorem d2_34 : decode prog_61_method_4_code 34 = .ok (.if_icmp .ne 7, 3) := by decide +kernel
theorem d2_37 : decode prog_61_method_4_code 37 = .ok (.getstatic 10, 3) := by decide +kernel
theorem d2_40 : decode prog_61_method_4_code 40 = .ok (.areturn, 1) := by decide +kernel
theorem d2_41 : decode prog_61_method_4_code 41 = .ok (.aconst_null, 1) := by decide +kernel
theorem d2_42 : decode prog_61_method_4_code 42 = .ok (.areturn, 1) := by decide +kernel
theorem pn_0 : plainName "cardtalk/message/MessageKindOfFirstBytePinLaw" = true := by first | (simp [plainName, overriddenIn]; done) | decide +kernel
theorem pn_1 : plainName "cardtalk/message/MessageKind" = true := by first | (simp [plainName, overriddenIn]; done) | decide +kernel
theorem pd_0 : parseMethodDescriptor "(I)Lcardtalk/message/MessageKind;" = some ⟨[.int], some (.object "cardtalk/message/MessageKind")⟩ := by decide +kernel
theorem own_nat (c : Int32) (h0 : 0 ≤ c.toInt) : c = Int32.ofNat c.toInt.toNat := by
  apply Int32.toInt_inj.mp
  have h1 := c.toInt_lt
  rw [Int32.toInt_ofNat_of_lt (by omega)]
  omega
theorem own_fin {P : Int32 → Prop} (K : Nat) (h : ∀ n : Fin K, P (Int32.ofNat n.1)) (c : Int32) (h0 : 0 ≤ c.toInt) (h1 : c.toInt < K) : P c := by
  rw [own_nat c h0]; exact h ⟨c.toInt.toNat, by omega⟩
theorem own_fin' {P : Int32 → Prop} (K : Nat) (c : Int32) (h0 : 0 ≤ c.toInt) (h1 : c.toInt < K) (h : ∀ n : Fin K, P (Int32.ofNat n.1)) : P c := own_fin K h c h0 h1
theorem own_no {G : Prop} {x : Int32} (h : x = 1) (h' : x = 0) : G := absurd (h.symm.trans h') (by decide)
theorem own_eqint {args : Array Value} {Z : State} {t : Term} {n : Int32} (h : (Jvm.Cond.eq t (.int n)).value args Z none Z [] = some true) : t.eval args Z none [] Z = some (.int n) := by
  simp only [Cond.value, Term.eval] at h
  cases ht : t.eval args Z none [] Z with
  | none => simp [ht] at h
  | some x => cases x <;> simp [ht] at h ⊢; exact h
theorem own_len {args : Array Value} {Z : State} {t : Term} {x : Addr} {cl : Cell} {ty : FieldType} {n : Int32} (ht : t.eval args Z none [] Z = some (.ref x)) (A : Arr Z Z.heap x cl ty) (h : (Jvm.Cond.eq (.length t) (.int n)).value args Z none Z [] = some true) : cl.slots.size < 2 ^ 31 ∧ cl.slots.size.toInt32 = n := by
  have e := own_eqint h
  have ha : Z.arrayAt? x = some cl := A.fin (Vm.Alike.refl _)
  by_cases hl : cl.slots.size < 2 ^ 31
  · rw [len_f ht ha hl] at e
    exact ⟨hl, Value.int.inj (Option.some.inj e)⟩
  · simp [Term.eval, ht, ha, hl] at e
theorem own_elem {args : Array Value} {Z : State} {t u : Term} {x y : Addr} {cl : Cell} {j : Int32} (ht : t.eval args Z none [] Z = some (.ref x)) (hc : Z.heap[x]? = some cl) (hu : u.eval args Z none [] Z = some (.ref y)) (h : (Jvm.Cond.eq (.elem t (.int j)) u).value args Z none Z [] = some true) : cl.slots[j.toNatClampNeg]? = some (.ref y) := by
  obtain ⟨v, w, e1, e2, -⟩ := cmp_v (Or.inl h)
  cases hu.symm.trans e2
  obtain ⟨h1, h2⟩ := elem_in e1 ht (Term.int_eval j) hc
  have hr : v.isRef = true := by
    have := h
    cases v <;> simp [Cond.value, e1, e2, Value.isRef] at this ⊢
  have q := gotT (eq_R e1 e2 hr rfl) h
  rw [h2, q]
theorem own_fldI {args : Array Value} {Z : State} {t : Term} {x : Addr} {C n d : String} {v : Int32} (ht : t.eval args Z none [] Z = some (.ref x)) (h : (Jvm.Cond.eq (.field t C n d) (.int v)).value args Z none Z [] = some true) : Fld Z Z.heap x C n d (.int v) := by
  have e := own_eqint h
  rw [fld_at ht] at e
  exact Fld.start e
theorem own_catI (x : Int32) : (Value.int x).category = 1 := rfl
theorem own_catJ (x : Int64) : (Value.long x).category = 2 := rfl
theorem own_catR (x : Addr) : (Value.ref x).category = 1 := rfl
theorem own_catN : (Value.null).category = 1 := rfl
theorem own_cat {v : Value} (h : v.isRef = true) : v.category = 1 := by rcases ref_cases h with rfl | ⟨_, rfl⟩ <;> rfl
theorem ef_rm1 (m : MethodId) (x0 : Int32) : entryFrame m #[(.int x0)] 1 = mkF m 0 #[.val (.int x0)] [] := by first | (simp [entryFrame, mkF, argsToLocals, Value.category]; done) | rfl
def f1 (p0 : Int32) (a_RESPONSE : Addr) (a_ENVELOPE : Addr) (a_COMMAND : Addr) : Value := if p0 = (208 : Int32) then (.ref a_COMMAND) else if (p0 >>> ((4 : Int32) &&& 31)) = (13 : Int32) then (.ref a_ENVELOPE) else if p0 = (1 : Int32) then (.ref a_RESPONSE) else if p0 = (129 : Int32) then (.ref a_RESPONSE) else .null
def Q_rm1 (Z : State) (p0 : Int32) (a_RESPONSE : Addr) (a_ENVELOPE : Addr) (a_COMMAND : Addr) (h0 : Heap) (n0 : Nat) (v : Option Value) (h : Heap) (L : List Loc) : Prop := v = some ((f1 p0 a_RESPONSE a_ENVELOPE a_COMMAND)) ∧ Fr n0 L ∧ h = h0
set_option maxRecDepth 65536 in
set_option maxHeartbeats 40000000 in
theorem rm1 (l : Launch) (Z : State) (a0 : Array Value) (hw : ∀ d ∈ tables_1, d.before a0 Z = true) (ws : List Jvm.Cond) (p0 : Int32) (a_RESPONSE : Addr) (a_ENVELOPE : Addr) (a_COMMAND : Addr) (h0 : Heap) (n0 : Nat) (Z0 : n0 ≤ h0.size) (S_RESPONSE : Sta Z h0 "cardtalk/message/MessageKind" "RESPONSE" "Lcardtalk/message/MessageKind;" (.ref a_RESPONSE)) (S_ENVELOPE : Sta Z h0 "cardtalk/message/MessageKind" "ENVELOPE" "Lcardtalk/message/MessageKind;" (.ref a_ENVELOPE)) (S_COMMAND : Sta Z h0 "cardtalk/message/MessageKind" "COMMAND" "Lcardtalk/message/MessageKind;" (.ref a_COMMAND)) :
    MetFree l (⟨"cardtalk/message/MessageKindOfFirstBytePinLaw", "expected", "(I)Lcardtalk/message/MessageKind;"⟩ : MethodName) (head1 (Jvm.Cond.code (⟨"cardtalk/message/MessageKindOfFirstBytePinLaw", "expected", "(I)Lcardtalk/message/MessageKind;"⟩ : MethodName) method_2_code 1 (some (.object "cardtalk/message/MessageKind")) :: ws) ({ frames := 0, cells := 0, slots := 0, locals := 0 } : Room)) (fun aa_ U => aa_ = #[(.int p0)] ∧ Z.Warmed39 U.vm ∧ U.heap = h0) (fun _ _ _ _ _ => True) (fun _ U o U' => ∃ v L, o = .returned v ∧ Q_rm1 Z p0 a_RESPONSE a_ENVELOPE a_COMMAND h0 n0 v U'.heap L ∧ FrameEnd U o U' L ({ frames := 0, cells := 0, slots := 0, locals := 0 } : Room).cells ({ frames := 0, cells := 0, slots := 0, locals := 0 } : Room).slots) := by
  refine MetFree.of_bodySF (plainFor_of_name pn_0) hisR ?_
  intro p e s m args below meth c s₁ Bd hml0 hP hK
  obtain ⟨rfl, hZ, hh⟩ := hP
  have hx := Bd.exec
  have hby := Bd.bytes
  have hml : c.maxLocals = 1 := hml0
  have hown : s.vm.findClass "cardtalk/message/MessageKindOfFirstBytePinLaw" = some m.cls := findClass_of_methodNamed Bd.named
  have hnm := (name_of_methodNamed Bd.named Bd.method).1
  have X0 : Stand p l e ({ frames := 0, cells := 0, slots := 0, locals := 0 } : Room) s m #[(.int p0)] below meth c s₁ [] 0 0 := Stand.of_body Bd
  have e0 : s₁.heap = h0 := by rw [← hh, Bd.state]; rfl
  have N0 := Fr.nil n0
  show OEnds p e below (OEndP s (Q_rm1 Z p0 a_RESPONSE a_ENVELOPE a_COMMAND h0 n0) ({ frames := 0, cells := 0, slots := 0, locals := 0 } : Room).cells ({ frames := 0, cells := 0, slots := 0, locals := 0 } : Room).slots) s₁ (entryFrame m #[(.int p0)] 1)
  rw [ef_rm1 m p0]
  refine OEnds.go (g' := (mkF m 1 #[.val (.int p0)] [(.int p0)])) (fun t k => XS.iloadN X0.here hx rfl (hb hby d1_0) rfl k) ?_
  refine OEnds.go (g' := (mkF m 4 #[.val (.int p0)] [(.int (208 : Int32)), (.int p0)])) (fun t k => XS.sipush X0.here hx rfl (hb hby d1_1) k) ?_
  by_cases c4_1 : p0 = (208 : Int32)
  · -- yes
    refine OEnds.go (g' := (mkF m 7 #[.val (.int p0)] [])) (fun t k => XS.icmpNo X0.here hx rfl (hb hby d1_4) rfl (teq c4_1).2 k) ?_
    obtain ⟨T2, X2, e2, st2⟩ := getS2 X0 hx hZ hown (host := "") (Or.inl (hw _ (List.mem_of_getElem? (i := 14) rfl))) Via.refl e0 S_COMMAND (g := (mkF m 7 #[.val (.int p0)] [])) rfl (hb hby d1_7)
    refine OEnds.go (g' := (mkF m 10 #[.val (.int p0)] [(.ref a_COMMAND)])) st2 ?_
    exact OEnds.outA X2 Bd.notSynchronized hx Bd.returns rfl rfl (hb hby d1_10) ⟨by show (some (((.ref a_COMMAND) : Value)) : Option Value) = some ((f1 p0 a_RESPONSE a_ENVELOPE a_COMMAND)); rw [f1, if_pos c4_1], N0, e2⟩ (by decide) (by decide)
  · -- no
    refine OEnds.go (g' := (mkF m 11 #[.val (.int p0)] [])) (fun t k => XS.icmpYes X0.here hx rfl (pc0 := 4) (pc' := 11) rfl (hb hby d1_4) rfl (feq c4_1).2 (by decide) (by decide) k) ?_
    refine OEnds.go (g' := (mkF m 12 #[.val (.int p0)] [(.int p0)])) (fun t k => XS.iloadN X0.here hx rfl (hb hby d1_11) rfl k) ?_
    refine OEnds.go (g' := (mkF m 13 #[.val (.int p0)] [(.int (4 : Int32)), (.int p0)])) (fun t k => XS.iconst X0.here hx rfl (hb hby d1_12) k) ?_
    refine OEnds.go (g' := (mkF m 14 #[.val (.int p0)] [(.int (p0 >>> ((4 : Int32) &&& 31)))])) (fun t k => XS.ishr X0.here hx rfl (hb hby d1_13) rfl k) ?_
    refine OEnds.go (g' := (mkF m 16 #[.val (.int p0)] [(.int (13 : Int32)), (.int (p0 >>> ((4 : Int32) &&& 31)))])) (fun t k => XS.bipush X0.here hx rfl (hb hby d1_14) k) ?_
    by_cases c16_3 : (p0 >>> ((4 : Int32) &&& 31)) = (13 : Int32)
    · -- yes
      refine OEnds.go (g' := (mkF m 19 #[.val (.int p0)] [])) (fun t k => XS.icmpNo X0.here hx rfl (hb hby d1_16) rfl (teq c16_3).2 k) ?_
      obtain ⟨T4, X4, e4, st4⟩ := getS2 X0 hx hZ hown (host := "") (Or.inl (hw _ (List.mem_of_getElem? (i := 11) rfl))) Via.refl e0 S_ENVELOPE (g := (mkF m 19 #[.val (.int p0)] [])) rfl (hb hby d1_19)
      refine OEnds.go (g' := (mkF m 22 #[.val (.int p0)] [(.ref a_ENVELOPE)])) st4 ?_
      exact OEnds.outA X4 Bd.notSynchronized hx Bd.returns rfl rfl (hb hby d1_22) ⟨by show (some (((.ref a_ENVELOPE) : Value)) : Option Value) = some ((f1 p0 a_RESPONSE a_ENVELOPE a_COMMAND)); rw [f1, if_neg c4_1, if_pos c16_3], N0, e4⟩ (by decide) (by decide)
    · -- no
      refine OEnds.go (g' := (mkF m 23 #[.val (.int p0)] [])) (fun t k => XS.icmpYes X0.here hx rfl (pc0 := 16) (pc' := 23) rfl (hb hby d1_16) rfl (feq c16_3).2 (by decide) (by decide) k) ?_
      refine OEnds.go (g' := (mkF m 24 #[.val (.int p0)] [(.int p0)])) (fun t k => XS.iloadN X0.here hx rfl (hb hby d1_23) rfl k) ?_
      refine OEnds.go (g' := (mkF m 25 #[.val (.int p0)] [(.int (1 : Int32)), (.int p0)])) (fun t k => XS.iconst X0.here hx rfl (hb hby d1_24) k) ?_
      by_cases c25_5 : p0 = (1 : Int32)
      · -- yes
        refine OEnds.go (g' := (mkF m 35 #[.val (.int p0)] [])) (fun t k => XS.icmpYes X0.here hx rfl (pc0 := 25) (pc' := 35) rfl (hb hby d1_25) rfl (teq c25_5).1 (by decide) (by decide) k) ?_
        obtain ⟨T6, X6, e6, st6⟩ := getS2 X0 hx hZ hown (host := "") (Or.inl (hw _ (List.mem_of_getElem? (i := 8) rfl))) Via.refl e0 S_RESPONSE (g := (mkF m 35 #[.val (.int p0)] [])) rfl (hb hby d1_35)
        refine OEnds.go (g' := (mkF m 38 #[.val (.int p0)] [(.ref a_RESPONSE)])) st6 ?_
        exact OEnds.outA X6 Bd.notSynchronized hx Bd.returns rfl rfl (hb hby d1_38) ⟨by show (some (((.ref a_RESPONSE) : Value)) : Option Value) = some ((f1 p0 a_RESPONSE a_ENVELOPE a_COMMAND)); rw [f1, if_neg c4_1, if_neg c16_3, if_pos c25_5], N0, e6⟩ (by decide) (by decide)
      · -- no
        refine OEnds.go (g' := (mkF m 28 #[.val (.int p0)] [])) (fun t k => XS.icmpNo X0.here hx rfl (hb hby d1_25) rfl (feq c25_5).1 k) ?_
        refine OEnds.go (g' := (mkF m 29 #[.val (.int p0)] [(.int p0)])) (fun t k => XS.iloadN X0.here hx rfl (hb hby d1_28) rfl k) ?_
        refine OEnds.go (g' := (mkF m 32 #[.val (.int p0)] [(.int (129 : Int32)), (.int p0)])) (fun t k => XS.sipush X0.here hx rfl (hb hby d1_29) k) ?_
        by_cases c32_7 : p0 = (129 : Int32)
        · -- yes
          refine OEnds.go (g' := (mkF m 35 #[.val (.int p0)] [])) (fun t k => XS.icmpNo X0.here hx rfl (hb hby d1_32) rfl (teq c32_7).2 k) ?_
          obtain ⟨T8, X8, e8, st8⟩ := getS2 X0 hx hZ hown (host := "") (Or.inl (hw _ (List.mem_of_getElem? (i := 8) rfl))) Via.refl e0 S_RESPONSE (g := (mkF m 35 #[.val (.int p0)] [])) rfl (hb hby d1_35)
          refine OEnds.go (g' := (mkF m 38 #[.val (.int p0)] [(.ref a_RESPONSE)])) st8 ?_
          exact OEnds.outA X8 Bd.notSynchronized hx Bd.returns rfl rfl (hb hby d1_38) ⟨by show (some (((.ref a_RESPONSE) : Value)) : Option Value) = some ((f1 p0 a_RESPONSE a_ENVELOPE a_COMMAND)); rw [f1, if_neg c4_1, if_neg c16_3, if_neg c25_5, if_pos c32_7], N0, e8⟩ (by decide) (by decide)
        · -- no
          refine OEnds.go (g' := (mkF m 39 #[.val (.int p0)] [])) (fun t k => XS.icmpYes X0.here hx rfl (pc0 := 32) (pc' := 39) rfl (hb hby d1_32) rfl (feq c32_7).2 (by decide) (by decide) k) ?_
          refine OEnds.go (g' := (mkF m 40 #[.val (.int p0)] [.null])) (fun t k => XS.aconstNull X0.here hx rfl (hb hby d1_39) k) ?_
          exact OEnds.outA X0 Bd.notSynchronized hx Bd.returns rfl rfl (hb hby d1_40) ⟨by show (some ((.null : Value)) : Option Value) = some ((f1 p0 a_RESPONSE a_ENVELOPE a_COMMAND)); rw [f1, if_neg c4_1, if_neg c16_3, if_neg c25_5, if_neg c32_7], N0, e0⟩ (by decide) (by decide)
theorem ef_rm2 (m : MethodId) (x0 : Int32) : entryFrame m #[(.int x0)] 1 = mkF m 0 #[.val (.int x0)] [] := by first | (simp [entryFrame, mkF, argsToLocals, Value.category]; done) | rfl
def f2 (p0 : Int32) (a_RESPONSE : Addr) (a_ENVELOPE : Addr) (a_COMMAND : Addr) : Value := if p0 = (208 : Int32) then (.ref a_COMMAND) else if (208 : Int32) < p0 then if (223 : Int32) < p0 then if (p0 &&& (127 : Int32)) = (1 : Int32) then (.ref a_RESPONSE) else .null else (.ref a_ENVELOPE) else if (p0 &&& (127 : Int32)) = (1 : Int32) then (.ref a_RESPONSE) else .null
def Q_rm2 (Z : State) (p0 : Int32) (a_RESPONSE : Addr) (a_ENVELOPE : Addr) (a_COMMAND : Addr) (h0 : Heap) (n0 : Nat) (v : Option Value) (h : Heap) (L : List Loc) : Prop := v = some ((f2 p0 a_RESPONSE a_ENVELOPE a_COMMAND)) ∧ Fr n0 L ∧ h = h0
set_option maxRecDepth 65536 in
set_option maxHeartbeats 40000000 in
theorem rm2 (l : Launch) (Z : State) (a0 : Array Value) (hw : ∀ d ∈ tables_1, d.before a0 Z = true) (ws : List Jvm.Cond) (p0 : Int32) (a_RESPONSE : Addr) (a_ENVELOPE : Addr) (a_COMMAND : Addr) (h0 : Heap) (n0 : Nat) (Z0 : n0 ≤ h0.size) (S_RESPONSE : Sta Z h0 "cardtalk/message/MessageKind" "RESPONSE" "Lcardtalk/message/MessageKind;" (.ref a_RESPONSE)) (S_ENVELOPE : Sta Z h0 "cardtalk/message/MessageKind" "ENVELOPE" "Lcardtalk/message/MessageKind;" (.ref a_ENVELOPE)) (S_COMMAND : Sta Z h0 "cardtalk/message/MessageKind" "COMMAND" "Lcardtalk/message/MessageKind;" (.ref a_COMMAND)) :
    MetFree l (⟨"cardtalk/message/MessageKind", "ofFirstByte", "(I)Lcardtalk/message/MessageKind;"⟩ : MethodName) (head1 (Jvm.Cond.code (⟨"cardtalk/message/MessageKind", "ofFirstByte", "(I)Lcardtalk/message/MessageKind;"⟩ : MethodName) prog_61_method_4_code 1 (some (.object "cardtalk/message/MessageKind")) :: ws) ({ frames := 0, cells := 0, slots := 0, locals := 0 } : Room)) (fun aa_ U => aa_ = #[(.int p0)] ∧ Z.Warmed39 U.vm ∧ U.heap = h0) (fun _ _ _ _ _ => True) (fun _ U o U' => ∃ v L, o = .returned v ∧ Q_rm2 Z p0 a_RESPONSE a_ENVELOPE a_COMMAND h0 n0 v U'.heap L ∧ FrameEnd U o U' L ({ frames := 0, cells := 0, slots := 0, locals := 0 } : Room).cells ({ frames := 0, cells := 0, slots := 0, locals := 0 } : Room).slots) := by
  refine MetFree.of_bodySF (plainFor_of_name pn_1) hisR ?_
  intro p e s m args below meth c s₁ Bd hml0 hP hK
  obtain ⟨rfl, hZ, hh⟩ := hP
  have hx := Bd.exec
  have hby := Bd.bytes
  have hml : c.maxLocals = 1 := hml0
  have hown : s.vm.findClass "cardtalk/message/MessageKind" = some m.cls := findClass_of_methodNamed Bd.named
  have hnm := (name_of_methodNamed Bd.named Bd.method).1
  have X0 : Stand p l e ({ frames := 0, cells := 0, slots := 0, locals := 0 } : Room) s m #[(.int p0)] below meth c s₁ [] 0 0 := Stand.of_body Bd
  have e0 : s₁.heap = h0 := by rw [← hh, Bd.state]; rfl
  have N0 := Fr.nil n0
  show OEnds p e below (OEndP s (Q_rm2 Z p0 a_RESPONSE a_ENVELOPE a_COMMAND h0 n0) ({ frames := 0, cells := 0, slots := 0, locals := 0 } : Room).cells ({ frames := 0, cells := 0, slots := 0, locals := 0 } : Room).slots) s₁ (entryFrame m #[(.int p0)] 1)
  rw [ef_rm2 m p0]
  refine OEnds.go (g' := (mkF m 1 #[.val (.int p0)] [(.int p0)])) (fun t k => XS.iloadN X0.here hx rfl (hb hby d2_0) rfl k) ?_
  refine OEnds.go (g' := (mkF m 4 #[.val (.int p0)] [(.int (208 : Int32)), (.int p0)])) (fun t k => XS.sipush X0.here hx rfl (hb hby d2_1) k) ?_
  by_cases c4_1 : p0 = (208 : Int32)
  · -- yes
    refine OEnds.go (g' := (mkF m 7 #[.val (.int p0)] [])) (fun t k => XS.icmpNo X0.here hx rfl (hb hby d2_4) rfl (teq c4_1).2 k) ?_
    obtain ⟨T2, X2, e2, st2⟩ := getS2 X0 hx hZ hown (host := "") (Or.inl (hw _ (List.mem_of_getElem? (i := 16) rfl))) Via.refl e0 S_COMMAND (g := (mkF m 7 #[.val (.int p0)] [])) rfl (hb hby d2_7)
    refine OEnds.go (g' := (mkF m 10 #[.val (.int p0)] [(.ref a_COMMAND)])) st2 ?_
    exact OEnds.outA X2 Bd.notSynchronized hx Bd.returns rfl rfl (hb hby d2_10) ⟨by show (some (((.ref a_COMMAND) : Value)) : Option Value) = some ((f2 p0 a_RESPONSE a_ENVELOPE a_COMMAND)); rw [f2, if_pos c4_1], N0, e2⟩ (by decide) (by decide)
  · -- no
    refine OEnds.go (g' := (mkF m 11 #[.val (.int p0)] [])) (fun t k => XS.icmpYes X0.here hx rfl (pc0 := 4) (pc' := 11) rfl (hb hby d2_4) rfl (feq c4_1).2 (by decide) (by decide) k) ?_
    refine OEnds.go (g' := (mkF m 12 #[.val (.int p0)] [(.int p0)])) (fun t k => XS.iloadN X0.here hx rfl (hb hby d2_11) rfl k) ?_
    refine OEnds.go (g' := (mkF m 15 #[.val (.int p0)] [(.int (208 : Int32)), (.int p0)])) (fun t k => XS.sipush X0.here hx rfl (hb hby d2_12) k) ?_
    by_cases c15_3 : (208 : Int32) < p0
    · -- yes
      refine OEnds.go (g' := (mkF m 18 #[.val (.int p0)] [])) (fun t k => XS.icmpNo X0.here hx rfl (hb hby d2_15) rfl (tlt c15_3).2.2.2 k) ?_
      refine OEnds.go (g' := (mkF m 19 #[.val (.int p0)] [(.int p0)])) (fun t k => XS.iloadN X0.here hx rfl (hb hby d2_18) rfl k) ?_
      refine OEnds.go (g' := (mkF m 22 #[.val (.int p0)] [(.int (223 : Int32)), (.int p0)])) (fun t k => XS.sipush X0.here hx rfl (hb hby d2_19) k) ?_
      by_cases c22_4 : (223 : Int32) < p0
      · -- yes
        refine OEnds.go (g' := (mkF m 29 #[.val (.int p0)] [])) (fun t k => XS.icmpYes X0.here hx rfl (pc0 := 22) (pc' := 29) rfl (hb hby d2_22) rfl (tlt c22_4).2.2.1 (by decide) (by decide) k) ?_
        refine OEnds.go (g' := (mkF m 30 #[.val (.int p0)] [(.int p0)])) (fun t k => XS.iloadN X0.here hx rfl (hb hby d2_29) rfl k) ?_
        refine OEnds.go (g' := (mkF m 32 #[.val (.int p0)] [(.int (127 : Int32)), (.int p0)])) (fun t k => XS.bipush X0.here hx rfl (hb hby d2_30) k) ?_
        refine OEnds.go (g' := (mkF m 33 #[.val (.int p0)] [(.int (p0 &&& (127 : Int32)))])) (fun t k => XS.iand X0.here hx rfl (hb hby d2_32) rfl k) ?_
        refine OEnds.go (g' := (mkF m 34 #[.val (.int p0)] [(.int (1 : Int32)), (.int (p0 &&& (127 : Int32)))])) (fun t k => XS.iconst X0.here hx rfl (hb hby d2_33) k) ?_
        by_cases c34_5 : (p0 &&& (127 : Int32)) = (1 : Int32)
        · -- yes
          refine OEnds.go (g' := (mkF m 37 #[.val (.int p0)] [])) (fun t k => XS.icmpNo X0.here hx rfl (hb hby d2_34) rfl (teq c34_5).2 k) ?_
          obtain ⟨T6, X6, e6, st6⟩ := getS2 X0 hx hZ hown (host := "") (Or.inl (hw _ (List.mem_of_getElem? (i := 10) rfl))) Via.refl e0 S_RESPONSE (g := (mkF m 37 #[.val (.int p0)] [])) rfl (hb hby d2_37)
          refine OEnds.go (g' := (mkF m 40 #[.val (.int p0)] [(.ref a_RESPONSE)])) st6 ?_
          exact OEnds.outA X6 Bd.notSynchronized hx Bd.returns rfl rfl (hb hby d2_40) ⟨by show (some (((.ref a_RESPONSE) : Value)) : Option Value) = some ((f2 p0 a_RESPONSE a_ENVELOPE a_COMMAND)); rw [f2, if_neg c4_1, if_pos c15_3, if_pos c22_4, if_pos c34_5], N0, e6⟩ (by decide) (by decide)
        · -- no
          refine OEnds.go (g' := (mkF m 41 #[.val (.int p0)] [])) (fun t k => XS.icmpYes X0.here hx rfl (pc0 := 34) (pc' := 41) rfl (hb hby d2_34) rfl (feq c34_5).2 (by decide) (by decide) k) ?_
          refine OEnds.go (g' := (mkF m 42 #[.val (.int p0)] [.null])) (fun t k => XS.aconstNull X0.here hx rfl (hb hby d2_41) k) ?_
          exact OEnds.outA X0 Bd.notSynchronized hx Bd.returns rfl rfl (hb hby d2_42) ⟨by show (some ((.null : Value)) : Option Value) = some ((f2 p0 a_RESPONSE a_ENVELOPE a_COMMAND)); rw [f2, if_neg c4_1, if_pos c15_3, if_pos c22_4, if_neg c34_5], N0, e0⟩ (by decide) (by decide)
      · -- no
        refine OEnds.go (g' := (mkF m 25 #[.val (.int p0)] [])) (fun t k => XS.icmpNo X0.here hx rfl (hb hby d2_22) rfl (flt c22_4).2.2.1 k) ?_
        obtain ⟨T7, X7, e7, st7⟩ := getS2 X0 hx hZ hown (host := "") (Or.inl (hw _ (List.mem_of_getElem? (i := 13) rfl))) Via.refl e0 S_ENVELOPE (g := (mkF m 25 #[.val (.int p0)] [])) rfl (hb hby d2_25)
        refine OEnds.go (g' := (mkF m 28 #[.val (.int p0)] [(.ref a_ENVELOPE)])) st7 ?_
        exact OEnds.outA X7 Bd.notSynchronized hx Bd.returns rfl rfl (hb hby d2_28) ⟨by show (some (((.ref a_ENVELOPE) : Value)) : Option Value) = some ((f2 p0 a_RESPONSE a_ENVELOPE a_COMMAND)); rw [f2, if_neg c4_1, if_pos c15_3, if_neg c22_4], N0, e7⟩ (by decide) (by decide)
    · -- no
      refine OEnds.go (g' := (mkF m 29 #[.val (.int p0)] [])) (fun t k => XS.icmpYes X0.here hx rfl (pc0 := 15) (pc' := 29) rfl (hb hby d2_15) rfl (flt c15_3).2.2.2 (by decide) (by decide) k) ?_
      refine OEnds.go (g' := (mkF m 30 #[.val (.int p0)] [(.int p0)])) (fun t k => XS.iloadN X0.here hx rfl (hb hby d2_29) rfl k) ?_
      refine OEnds.go (g' := (mkF m 32 #[.val (.int p0)] [(.int (127 : Int32)), (.int p0)])) (fun t k => XS.bipush X0.here hx rfl (hb hby d2_30) k) ?_
      refine OEnds.go (g' := (mkF m 33 #[.val (.int p0)] [(.int (p0 &&& (127 : Int32)))])) (fun t k => XS.iand X0.here hx rfl (hb hby d2_32) rfl k) ?_
      refine OEnds.go (g' := (mkF m 34 #[.val (.int p0)] [(.int (1 : Int32)), (.int (p0 &&& (127 : Int32)))])) (fun t k => XS.iconst X0.here hx rfl (hb hby d2_33) k) ?_
      by_cases c34_8 : (p0 &&& (127 : Int32)) = (1 : Int32)
      · -- yes
        refine OEnds.go (g' := (mkF m 37 #[.val (.int p0)] [])) (fun t k => XS.icmpNo X0.here hx rfl (hb hby d2_34) rfl (teq c34_8).2 k) ?_
        obtain ⟨T9, X9, e9, st9⟩ := getS2 X0 hx hZ hown (host := "") (Or.inl (hw _ (List.mem_of_getElem? (i := 10) rfl))) Via.refl e0 S_RESPONSE (g := (mkF m 37 #[.val (.int p0)] [])) rfl (hb hby d2_37)
        refine OEnds.go (g' := (mkF m 40 #[.val (.int p0)] [(.ref a_RESPONSE)])) st9 ?_
        exact OEnds.outA X9 Bd.notSynchronized hx Bd.returns rfl rfl (hb hby d2_40) ⟨by show (some (((.ref a_RESPONSE) : Value)) : Option Value) = some ((f2 p0 a_RESPONSE a_ENVELOPE a_COMMAND)); rw [f2, if_neg c4_1, if_neg c15_3, if_pos c34_8], N0, e9⟩ (by decide) (by decide)
      · -- no
        refine OEnds.go (g' := (mkF m 41 #[.val (.int p0)] [])) (fun t k => XS.icmpYes X0.here hx rfl (pc0 := 34) (pc' := 41) rfl (hb hby d2_34) rfl (feq c34_8).2 (by decide) (by decide) k) ?_
        refine OEnds.go (g' := (mkF m 42 #[.val (.int p0)] [.null])) (fun t k => XS.aconstNull X0.here hx rfl (hb hby d2_41) k) ?_
        exact OEnds.outA X0 Bd.notSynchronized hx Bd.returns rfl rfl (hb hby d2_42) ⟨by show (some ((.null : Value)) : Option Value) = some ((f2 p0 a_RESPONSE a_ENVELOPE a_COMMAND)); rw [f2, if_neg c4_1, if_neg c15_3, if_neg c34_8], N0, e0⟩ (by decide) (by decide)
theorem own_ref1 (x : Int32) (a b c : Addr) : (f1 x a b c).isRef = true := by
  unfold f1
  repeat' split
  all_goals rfl
theorem own_ref2 (x : Int32) (a b c : Addr) : (f2 x a b c).isRef = true := by
  unfold f2
  repeat' split
  all_goals rfl
theorem ef_rm0 (m : MethodId) (x0 : Int32) : entryFrame m #[(.int x0)] maxLocals = mkF m 0 #[.val (.int x0), .unset, .unset, .unset] [] := by first | (simp [entryFrame, mkF, argsToLocals, Value.category, maxLocals]; done) | rfl
def Q_rm0 (Z : State) (p0 : Int32) (a_RESPONSE : Addr) (a_ENVELOPE : Addr) (a_COMMAND : Addr) (h0 : Heap) (n0 : Nat) (v : Option Value) (h : Heap) (L : List Loc) : Prop := v = some (.int 1) ∧ Fr n0 L
def f0 (p0 : Int32) (a_RESPONSE : Addr) (a_ENVELOPE : Addr) (a_COMMAND : Addr) : Int32 := if ((f2 (p0 &&& (255 : Int32)) a_RESPONSE a_ENVELOPE a_COMMAND) : Value) = ((f1 (p0 &&& (255 : Int32)) a_RESPONSE a_ENVELOPE a_COMMAND) : Value) then (1 : Int32) else (0 : Int32)
def own_sel (a b c : Addr) : Value → Value
  | .ref 0 => .ref a
  | .ref 1 => .ref b
  | .ref 2 => .ref c
  | _ => .null
theorem own_s1 (x : Int32) (a b c : Addr) : f1 x a b c = own_sel a b c (f1 x 0 1 2) := by
  unfold f1
  repeat' split
  all_goals rfl
theorem own_s2 (x : Int32) (a b c : Addr) : f2 x a b c = own_sel a b c (f2 x 0 1 2) := by
  unfold f2
  repeat' split
  all_goals rfl
theorem own_eq (x : Int32) (a b c : Addr) : f2 (x &&& 255) a b c = f1 (x &&& 255) a b c := by
  have h1 := c_mask x 255 8 (by decide) (by decide)
  generalize x &&& (255 : Int32) = z at h1
  rw [own_s1, own_s2]
  refine congrArg _ ?_
  apply own_fin' 256 z <;> first | omega | decide +kernel
theorem own_law (x : Int32) (a b c : Addr) : f0 x a b c = 1 := by
  rw [f0, if_pos (own_eq x a b c)]
set_option maxRecDepth 65536 in
set_option maxHeartbeats 40000000 in
theorem rm0 (l : Launch) (Z : State) (a0 : Array Value) (hw : ∀ d ∈ tables_1, d.before a0 Z = true) (ws : List Jvm.Cond) (p0 : Int32) (a_RESPONSE : Addr) (a_ENVELOPE : Addr) (a_COMMAND : Addr) (h0 : Heap) (n0 : Nat) (Z0 : n0 ≤ h0.size) (S_RESPONSE : Sta Z h0 "cardtalk/message/MessageKind" "RESPONSE" "Lcardtalk/message/MessageKind;" (.ref a_RESPONSE)) (S_ENVELOPE : Sta Z h0 "cardtalk/message/MessageKind" "ENVELOPE" "Lcardtalk/message/MessageKind;" (.ref a_ENVELOPE)) (S_COMMAND : Sta Z h0 "cardtalk/message/MessageKind" "COMMAND" "Lcardtalk/message/MessageKind;" (.ref a_COMMAND)) :
    MetFree l x (head1 (Jvm.Cond.code x code maxLocals ret :: ws) room_1) (fun aa_ U => aa_ = #[(.int p0)] ∧ Z.Warmed39 U.vm ∧ U.heap = h0) (fun _ _ _ _ _ => True) (fun _ U o U' => ∃ v L, o = .returned v ∧ Q_rm0 Z p0 a_RESPONSE a_ENVELOPE a_COMMAND h0 n0 v U'.heap L ∧ FrameEnd U o U' L room_1.cells room_1.slots) := by
  refine MetFree.of_bodySF (plainFor_of_name pn_0) hisR ?_
  intro p e s m args below meth c s₁ Bd hml0 hP hK
  obtain ⟨rfl, hZ, hh⟩ := hP
  have hx := Bd.exec
  have hby := Bd.bytes
  have hml : c.maxLocals = 4 := hml0
  have hown : s.vm.findClass "cardtalk/message/MessageKindOfFirstBytePinLaw" = some m.cls := findClass_of_methodNamed Bd.named
  have hnm := (name_of_methodNamed Bd.named Bd.method).1
  have X0 : Stand p l e room_1 s m #[(.int p0)] below meth c s₁ [] 0 0 := Stand.of_body Bd
  have e0 : s₁.heap = h0 := by rw [← hh, Bd.state]; rfl
  have N0 := Fr.nil n0
  show OEnds p e below (OEndP s (Q_rm0 Z p0 a_RESPONSE a_ENVELOPE a_COMMAND h0 n0) room_1.cells room_1.slots) s₁ (entryFrame m #[(.int p0)] maxLocals)
  rw [ef_rm0 m p0]
  refine OEnds.go (g' := (mkF m 1 #[.val (.int p0), .unset, .unset, .unset] [(.int p0)])) (fun t k => XS.iloadN X0.here hx rfl (hb hby at_0) rfl k) ?_
  refine OEnds.go (g' := (mkF m 4 #[.val (.int p0), .unset, .unset, .unset] [(.int (255 : Int32)), (.int p0)])) (fun t k => XS.sipush X0.here hx rfl (hb hby at_1) k) ?_
  refine OEnds.go (g' := (mkF m 5 #[.val (.int p0), .unset, .unset, .unset] [(.int (p0 &&& (255 : Int32)))])) (fun t k => XS.iand X0.here hx rfl (hb hby at_4) rfl k) ?_
  refine OEnds.go (g' := (mkF m 6 #[.val (.int p0), .val (.int (p0 &&& (255 : Int32))), .unset, .unset] [])) (fun t k => XS.istoreN X0.here hx rfl (hb hby at_5) rfl (l' := #[.val (.int p0), .val (.int (p0 &&& (255 : Int32))), .unset, .unset]) rfl k) ?_
  refine OEnds.go (g' := (mkF m 7 #[.val (.int p0), .val (.int (p0 &&& (255 : Int32))), .unset, .unset] [(.int (p0 &&& (255 : Int32)))])) (fun t k => XS.iloadN X0.here hx rfl (hb hby at_6) rfl k) ?_
  obtain ⟨_, _, ⟨T1, L1, k1, n1⟩, -, X1, ⟨Lc1, hQ1, l1, y1, z1⟩, st1⟩ := Jvm.LawKit.callS X0 hx (y := (⟨"cardtalk/message/MessageKindOfFirstBytePinLaw", "expected", "(I)Lcardtalk/message/MessageKind;"⟩ : MethodName)) hown (mvT hZ (hw _ (List.mem_of_getElem? (i := 0) rfl))) (mvT hZ (hw _ (List.mem_of_getElem? (i := 1) rfl))) (mvT hZ (hw _ (List.mem_of_getElem? (i := 2) rfl))) (mvT hZ (hw _ (List.mem_of_getElem? (i := 3) rfl))) (by decide) (backOf (W := 0) (rm1 l Z a0 hw [] (p0 &&& (255 : Int32)) a_RESPONSE a_ENVELOPE a_COMMAND h0 n0 Z0 S_RESPONSE S_ENVELOPE S_COMMAND) hZ (hw _ (List.mem_of_getElem? (i := 3) rfl)) (hw _ (List.mem_of_getElem? (i := 2) rfl)) (by decide) (by decide)) (g := (mkF m 7 #[.val (.int p0), .val (.int (p0 &&& (255 : Int32))), .unset, .unset] [(.int (p0 &&& (255 : Int32)))])) rfl (by rw [hml]; rfl) (argsL := [(.int (p0 &&& (255 : Int32)))]) (rest := []) (lenOf pd_0 rfl) rfl (by show 2 * 0 + _ ≤ _; exact Nat.le_of_eq rfl) (hb hby at_7) (fun _ _ => ⟨rfl, e0, (by decide : 0 + 0 ≤ _), (by decide : 0 + 0 ≤ _)⟩)
  dsimp only [Pt.U, Pt.locs, Pt.cells, Pt.slots] at X1 l1 y1 z1 st1 hQ1
  subst l1 y1 z1
  obtain ⟨rfl, N1q, e1⟩ := hQ1
  have N1 := Fr.app N0 N1q
  refine OEnds.go (g' := (mkF m 10 #[.val (.int p0), .val (.int (p0 &&& (255 : Int32))), .unset, .unset] [(f1 (p0 &&& (255 : Int32)) a_RESPONSE a_ENVELOPE a_COMMAND)])) st1 ?_
  refine OEnds.go (g' := (mkF m 11 #[.val (.int p0), .val (.int (p0 &&& (255 : Int32))), .val (f1 (p0 &&& (255 : Int32)) a_RESPONSE a_ENVELOPE a_COMMAND), .unset] [])) (fun t k => XS.astoreN X1.here hx rfl (hb hby at_10) rfl (own_ref1 (p0 &&& (255 : Int32)) a_RESPONSE a_ENVELOPE a_COMMAND) (l' := #[.val (.int p0), .val (.int (p0 &&& (255 : Int32))), .val (f1 (p0 &&& (255 : Int32)) a_RESPONSE a_ENVELOPE a_COMMAND), .unset]) (XS.store1 rfl (Or.inl rfl) (own_cat (own_ref1 (p0 &&& (255 : Int32)) a_RESPONSE a_ENVELOPE a_COMMAND))) k) ?_
  refine OEnds.go (g' := (mkF m 12 #[.val (.int p0), .val (.int (p0 &&& (255 : Int32))), .val (f1 (p0 &&& (255 : Int32)) a_RESPONSE a_ENVELOPE a_COMMAND), .unset] [(.int (p0 &&& (255 : Int32)))])) (fun t k => XS.iloadN X1.here hx rfl (hb hby at_11) rfl k) ?_
  obtain ⟨_, _, ⟨T2, L2, k2, n2⟩, -, X2, ⟨Lc2, hQ2, l2, y2, z2⟩, st2⟩ := Jvm.LawKit.callS X1 hx (y := (⟨"cardtalk/message/MessageKind", "ofFirstByte", "(I)Lcardtalk/message/MessageKind;"⟩ : MethodName)) hown (mvT hZ (hw _ (List.mem_of_getElem? (i := 4) rfl))) (mvT hZ (hw _ (List.mem_of_getElem? (i := 5) rfl))) (mvT hZ (hw _ (List.mem_of_getElem? (i := 6) rfl))) (mvT hZ (hw _ (List.mem_of_getElem? (i := 7) rfl))) (by decide) (backOf (W := 0) (rm2 l Z a0 hw [] (p0 &&& (255 : Int32)) a_RESPONSE a_ENVELOPE a_COMMAND h0 n0 Z0 S_RESPONSE S_ENVELOPE S_COMMAND) hZ (hw _ (List.mem_of_getElem? (i := 7) rfl)) (hw _ (List.mem_of_getElem? (i := 6) rfl)) (by decide) (by decide)) (g := (mkF m 12 #[.val (.int p0), .val (.int (p0 &&& (255 : Int32))), .val (f1 (p0 &&& (255 : Int32)) a_RESPONSE a_ENVELOPE a_COMMAND), .unset] [(.int (p0 &&& (255 : Int32)))])) rfl (by rw [hml]; rfl) (argsL := [(.int (p0 &&& (255 : Int32)))]) (rest := []) (lenOf pd_0 rfl) rfl (by show 2 * 0 + _ ≤ _; exact Nat.le_of_eq rfl) (hb hby at_12) (fun _ _ => ⟨rfl, e1, (by decide : 0 + 0 ≤ _), (by decide : 0 + 0 ≤ _)⟩)
  dsimp only [Pt.U, Pt.locs, Pt.cells, Pt.slots] at X2 l2 y2 z2 st2 hQ2
  subst l2 y2 z2
  obtain ⟨rfl, N2q, e2⟩ := hQ2
  have N2 := Fr.app N1 N2q
  refine OEnds.go (g' := (mkF m 15 #[.val (.int p0), .val (.int (p0 &&& (255 : Int32))), .val (f1 (p0 &&& (255 : Int32)) a_RESPONSE a_ENVELOPE a_COMMAND), .unset] [(f2 (p0 &&& (255 : Int32)) a_RESPONSE a_ENVELOPE a_COMMAND)])) st2 ?_
  refine OEnds.go (g' := (mkF m 16 #[.val (.int p0), .val (.int (p0 &&& (255 : Int32))), .val (f1 (p0 &&& (255 : Int32)) a_RESPONSE a_ENVELOPE a_COMMAND), .val (f2 (p0 &&& (255 : Int32)) a_RESPONSE a_ENVELOPE a_COMMAND)] [])) (fun t k => XS.astoreN X2.here hx rfl (hb hby at_15) rfl (own_ref2 (p0 &&& (255 : Int32)) a_RESPONSE a_ENVELOPE a_COMMAND) (l' := #[.val (.int p0), .val (.int (p0 &&& (255 : Int32))), .val (f1 (p0 &&& (255 : Int32)) a_RESPONSE a_ENVELOPE a_COMMAND), .val (f2 (p0 &&& (255 : Int32)) a_RESPONSE a_ENVELOPE a_COMMAND)]) (XS.store1 rfl (Or.inl rfl) (own_cat (own_ref2 (p0 &&& (255 : Int32)) a_RESPONSE a_ENVELOPE a_COMMAND))) k) ?_
  refine OEnds.go (g' := (mkF m 17 #[.val (.int p0), .val (.int (p0 &&& (255 : Int32))), .val (f1 (p0 &&& (255 : Int32)) a_RESPONSE a_ENVELOPE a_COMMAND), .val (f2 (p0 &&& (255 : Int32)) a_RESPONSE a_ENVELOPE a_COMMAND)] [(f2 (p0 &&& (255 : Int32)) a_RESPONSE a_ENVELOPE a_COMMAND)])) (fun t k => XS.aloadN X2.here hx rfl (hb hby at_16) rfl (own_ref2 (p0 &&& (255 : Int32)) a_RESPONSE a_ENVELOPE a_COMMAND) k) ?_
  refine OEnds.go (g' := (mkF m 18 #[.val (.int p0), .val (.int (p0 &&& (255 : Int32))), .val (f1 (p0 &&& (255 : Int32)) a_RESPONSE a_ENVELOPE a_COMMAND), .val (f2 (p0 &&& (255 : Int32)) a_RESPONSE a_ENVELOPE a_COMMAND)] [(f1 (p0 &&& (255 : Int32)) a_RESPONSE a_ENVELOPE a_COMMAND), (f2 (p0 &&& (255 : Int32)) a_RESPONSE a_ENVELOPE a_COMMAND)])) (fun t k => XS.aloadN X2.here hx rfl (hb hby at_17) rfl (own_ref1 (p0 &&& (255 : Int32)) a_RESPONSE a_ENVELOPE a_COMMAND) k) ?_
  by_cases c18_3 : ((f2 (p0 &&& (255 : Int32)) a_RESPONSE a_ENVELOPE a_COMMAND) : Value) = ((f1 (p0 &&& (255 : Int32)) a_RESPONSE a_ENVELOPE a_COMMAND) : Value)
  · -- yes
    refine OEnds.go (g' := (mkF m 21 #[.val (.int p0), .val (.int (p0 &&& (255 : Int32))), .val (f1 (p0 &&& (255 : Int32)) a_RESPONSE a_ENVELOPE a_COMMAND), .val (f2 (p0 &&& (255 : Int32)) a_RESPONSE a_ENVELOPE a_COMMAND)] [])) (fun t k => Jvm.RoadKit.acmp (g := (mkF m 18 #[.val (.int p0), .val (.int (p0 &&& (255 : Int32))), .val (f1 (p0 &&& (255 : Int32)) a_RESPONSE a_ENVELOPE a_COMMAND), .val (f2 (p0 &&& (255 : Int32)) a_RESPONSE a_ENVELOPE a_COMMAND)] [(f1 (p0 &&& (255 : Int32)) a_RESPONSE a_ENVELOPE a_COMMAND), (f2 (p0 &&& (255 : Int32)) a_RESPONSE a_ENVELOPE a_COMMAND)])) X2 hx rfl (own_ref2 (p0 &&& (255 : Int32)) a_RESPONSE a_ENVELOPE a_COMMAND) (own_ref1 (p0 &&& (255 : Int32)) a_RESPONSE a_ENVELOPE a_COMMAND) (pc0 := 18) (pc' := 21) (same := true) rfl (hb hby at_18) rfl (decide_eq_true c18_3) (by decide) (by decide) k) ?_
    refine OEnds.go (g' := (mkF m 22 #[.val (.int p0), .val (.int (p0 &&& (255 : Int32))), .val (f1 (p0 &&& (255 : Int32)) a_RESPONSE a_ENVELOPE a_COMMAND), .val (f2 (p0 &&& (255 : Int32)) a_RESPONSE a_ENVELOPE a_COMMAND)] [(.int (1 : Int32))])) (fun t k => XS.iconst X2.here hx rfl (hb hby at_21) k) ?_
    refine OEnds.go (g' := (mkF m 26 #[.val (.int p0), .val (.int (p0 &&& (255 : Int32))), .val (f1 (p0 &&& (255 : Int32)) a_RESPONSE a_ENVELOPE a_COMMAND), .val (f2 (p0 &&& (255 : Int32)) a_RESPONSE a_ENVELOPE a_COMMAND)] [(.int (1 : Int32))])) (fun t k => XS.goto X2.here hx rfl (pc0 := 22) (pc' := 26) rfl (hb hby at_22) (by decide) (by decide) k) ?_
    exact OEnds.outN X2 Bd.notSynchronized hx (t := .boolean) Bd.returns (by simp) (hb hby at_26) ⟨rfl, N2⟩ (by decide) (by decide)
  · -- no
    refine OEnds.go (g' := (mkF m 25 #[.val (.int p0), .val (.int (p0 &&& (255 : Int32))), .val (f1 (p0 &&& (255 : Int32)) a_RESPONSE a_ENVELOPE a_COMMAND), .val (f2 (p0 &&& (255 : Int32)) a_RESPONSE a_ENVELOPE a_COMMAND)] [])) (fun t k => Jvm.RoadKit.acmp (g := (mkF m 18 #[.val (.int p0), .val (.int (p0 &&& (255 : Int32))), .val (f1 (p0 &&& (255 : Int32)) a_RESPONSE a_ENVELOPE a_COMMAND), .val (f2 (p0 &&& (255 : Int32)) a_RESPONSE a_ENVELOPE a_COMMAND)] [(f1 (p0 &&& (255 : Int32)) a_RESPONSE a_ENVELOPE a_COMMAND), (f2 (p0 &&& (255 : Int32)) a_RESPONSE a_ENVELOPE a_COMMAND)])) X2 hx rfl (own_ref2 (p0 &&& (255 : Int32)) a_RESPONSE a_ENVELOPE a_COMMAND) (own_ref1 (p0 &&& (255 : Int32)) a_RESPONSE a_ENVELOPE a_COMMAND) (pc0 := 18) (pc' := 25) (same := false) rfl (hb hby at_18) rfl (decide_eq_false c18_3) (by decide) (by decide) k) ?_
    refine OEnds.go (g' := (mkF m 26 #[.val (.int p0), .val (.int (p0 &&& (255 : Int32))), .val (f1 (p0 &&& (255 : Int32)) a_RESPONSE a_ENVELOPE a_COMMAND), .val (f2 (p0 &&& (255 : Int32)) a_RESPONSE a_ENVELOPE a_COMMAND)] [(.int (0 : Int32))])) (fun t k => XS.iconst X2.here hx rfl (hb hby at_25) k) ?_
    exact OEnds.outN X2 Bd.notSynchronized hx (t := .boolean) Bd.returns (by simp) (hb hby at_26) (own_no (own_law p0 a_RESPONSE a_ENVELOPE a_COMMAND) (by rw [f0, if_neg c18_3])) (by decide) (by decide)
set_option maxRecDepth 65536 in
set_option maxHeartbeats 40000000 in
theorem comes_1 {Post : Tables → Env → Array Value → State → Outcome → State → Prop} (hpost : ∀ tb e args s v u, (limb_1_1.after args s (.returned v) u = true ∧ limb_1_2.after args s (.returned v) u = true ∧ True) → FrameEnd s (.returned v) u (Jvm.fieldLocs frame_1_writes args s ++ Jvm.arrayLocs frame_1_arrays args s ++ Jvm.staticLocs frame_1_statics s) 0 0 → Post tb e args s (.returned v) u) :
    ArmFor flags0 classFile x code maxLocals ret World_1 tables_1 room_1 Calls_1 rest_1 Pre_1 Post := by
  intro l hfl _ _ p e ha hc hk s m args below hf hA hF happ hP
  obtain ⟨hcalls, hrest, hpre⟩ := hP
  obtain ⟨-, -, -, hnamed, -, -, -, hat⟩ := (Spec.applies_iff hf).mp happ
  obtain ⟨hg, hn⟩ := and_e (Cond.before_iff.mp (show (Jvm.Cond.and given_1 narrow_1).before args s = true from hpre))
  obtain ⟨g1, g2⟩ := and_e hg
  obtain ⟨g3, g4⟩ := and_e hn
  obtain ⟨g5, g6⟩ := and_e g4
  obtain ⟨w0, rfl⟩ : ∃ w0 : Value, args = #[w0] := by
    have hs : args.size = 1 := by simpa [Cond.value, given_1] using g1
    obtain ⟨L⟩ := args
    match L, hs with
    | [w0], _ => exact ⟨w0, rfl⟩
  have hw := fun d (hd : d ∈ tables_1) => atoms_spec (ws := Jvm.Cond.code x code maxLocals ret :: tables_1) hat d (List.mem_cons_of_mem _ hd)
  have hfit : Fit s := fun {y c} hc i hi => by
    obtain ⟨ha, rfl⟩ := Array.getElem?_eq_some_iff.mp hc
    have q := List.all_eq_true.mp ((Array.all_eq_true_iff_forall_mem.mp hF) _ (Array.getElem_mem ha)) i (List.mem_range.mpr hi)
    simpa [Array.getElem?_eq_getElem hi] using q
  obtain ⟨i0, ei0⟩ := is_v g2
  obtain rfl : w0 = (.int i0) := Option.some.inj ei0
  obtain ⟨a_RESPONSE, _, _, _, ev_RESPONSE, -⟩ := Cond.exactly_spec (Cond.before_iff.mpr g3)
  have S_RESPONSE := Sta.start ev_RESPONSE (Or.inr ⟨(hw _ (List.mem_of_getElem? (i := 6) rfl)), (hw _ (List.mem_of_getElem? (i := 9) rfl))⟩)
  obtain ⟨a_ENVELOPE, _, _, _, ev_ENVELOPE, -⟩ := Cond.exactly_spec (Cond.before_iff.mpr g5)
  have S_ENVELOPE := Sta.start ev_ENVELOPE (Or.inr ⟨(hw _ (List.mem_of_getElem? (i := 6) rfl)), (hw _ (List.mem_of_getElem? (i := 12) rfl))⟩)
  obtain ⟨a_COMMAND, _, _, _, ev_COMMAND, -⟩ := Cond.exactly_spec (Cond.before_iff.mpr g6)
  have S_COMMAND := Sta.start ev_COMMAND (Or.inr ⟨(hw _ (List.mem_of_getElem? (i := 6) rfl)), (hw _ (List.mem_of_getElem? (i := 15) rfl))⟩)
  obtain ⟨n, o, h1, h2, h3, _, L, rfl, ⟨rfl, N⟩, hq⟩ := rm0 l s _ hw tables_1 i0 a_RESPONSE a_ENVELOPE a_COMMAND s.heap s.heap.size (Nat.le_refl _) S_RESPONSE S_ENVELOPE S_COMMAND p e ha hc hk s m _ below hf ((Spec.applies_iff_loose hf).mp happ).1 ⟨rfl, State.Warmed39.refl s, rfl⟩ trivial
  refine ⟨n, _, h1, h2, h3, hpost _ _ _ _ _ _ ⟨Cond.after_iff.mpr rfl, Cond.after_iff.mpr (eq_i res_at (Term.int_eval (1)) rfl), trivial⟩ ⟨hq.1, hq.2.1, (hq.2.2.sift fun y hy => Or.inr (N y hy)).mono (by decide) (by decide)⟩⟩
theorem main_1_1 : Claimed_1_1 := comes_1 fun _ _ _ _ _ _ h hF => ⟨h.1, hF⟩
theorem main_1_2 : Claimed_1_2 := comes_1 fun _ _ _ _ _ _ h hF => ⟨h.2.1, hF⟩
end Jvm.Pilot.@@N@@
namespace Jvm.Pilot.@@N@@
open Jvm Jvm.ClassFile Sem Op Lib Jvm.Free Jvm.Stand Jvm.Pilot.@@N@@.Jvm.D
/-! MADE BY PROGRAM (witnessworld.py) out of the Statement's table words and the real class files: 12 classes; the members and pool entries that the words name. The judged class is class 1, her method 2. -/
namespace start1
open Jvm.ClassFile
def u (s : String) : CpInfo := .utf8 (stringToUtf16 s)
/-- a pool by its gaps: so many unusable entries, then the entry; so many at the end -/
def gap : Nat → List CpInfo → List CpInfo
  | 0, r => r
  | n + 1, r => .unusable :: gap n r
def poolList (es : List (Nat × CpInfo)) (last : Nat) : List CpInfo := es.foldr (fun e r => gap e.1 (e.2 :: r)) (gap last [])
def pool (es : List (Nat × CpInfo)) (last : Nat) : Array CpInfo := ⟨poolList es last⟩
def fileOf (pool : Array CpInfo) (this : Nat) (attrs : Array Attribute := #[]) (ms : Array MethodInfo := #[]) (fl : Nat := 33) (sup : Nat := 0) (ifs : Array Nat := #[]) (fds : Array FieldInfo := #[]) : ClassFile where
  minorVersion := 0
  majorVersion := 65
  constantPool := pool
  accessFlags := fl
  thisClass := this
  superClass := sup
  interfaces := ifs
  fields := fds
  methods := ms
  attributes := attrs
def plain (name : String) (sup : Option ClassId) : Class where
  name := name
  kind := .ordinary
  loader := none
  accessFlags := 33
  super := sup
  interfaces := #[]
  cf := none
  fields := #[]
  methods := #[]
  instanceTypes := #[]
  staticTypes := #[]
  resolved := #[]
  callSites := []
  init := .initialized
  statics := none
  mirror := none

def pool0 : Array CpInfo := pool [(5, u "<init>"), (0, u "()V"), (1, .class_ 10), (1, u "java/lang/Object")] 113

def k0m0 : Method := { name := "<init>", desc := "()V", sig := { parameters := [], returnType := none }, accessFlags := 1, code := none }
/-- java/lang/Object -/
def k0 : Class := { plain "java/lang/Object" none with
  accessFlags := 33
  interfaces := #[]
  cf := some (fileOf pool0 8 #[] #[{ accessFlags := 1, nameIndex := 5, descriptorIndex := 6, attributes := #[] }] 33 0 #[] #[])
  fields := #[]
  methods := #[k0m0]
  instanceTypes := #[]
  staticTypes := #[]
  resolved := Array.replicate 124 none
  statics := none }

def pool1 : Array CpInfo := pool [(2, .class_ 4), (1, u "java/lang/Object"), (0, u "<init>"), (0, u "()V"), (0, .fieldref 8 9), (0, .class_ 10), (0, .nameAndType 11 12), (0, u "cardtalk/message/MessageKind"), (0, u "COMMAND"), (0, u "Lcardtalk/message/MessageKind;"), (0, .fieldref 8 14), (0, .nameAndType 15 12), (0, u "ENVELOPE"), (0, .fieldref 8 17), (0, .nameAndType 18 12), (0, u "RESPONSE"), (0, .methodref 20 21), (0, .class_ 22), (0, .nameAndType 23 24), (0, u "cardtalk/message/MessageKindOfFirstBytePinLaw"), (0, u "expected"), (0, u "(I)Lcardtalk/message/MessageKind;"), (0, .methodref 8 26), (0, .nameAndType 27 24), (0, u "ofFirstByte"), (3, u "law"), (0, u "(I)Z")] 2

def k1m0 : Method := { name := "<init>", desc := "()V", sig := { parameters := [], returnType := none }, accessFlags := 1, code := none }
def k1c1 : Code := { maxStack := 2, maxLocals := 1, code := method_2_code, exceptionTable := #[], attributes := #[] }
def k1m1 : Method := { name := "expected", desc := "(I)Lcardtalk/message/MessageKind;", sig := { parameters := [.int], returnType := some (.object "cardtalk/message/MessageKind") }, accessFlags := 10, code := some k1c1 }
def k1c2 : Code := { maxStack := 2, maxLocals := 4, code := code, exceptionTable := #[], attributes := #[] }
def k1m2 : Method := { name := "law", desc := "(I)Z", sig := { parameters := [.int], returnType := some .boolean }, accessFlags := 9, code := some k1c2 }
/-- cardtalk/message/MessageKindOfFirstBytePinLaw -/
def k1 : Class := { plain "cardtalk/message/MessageKindOfFirstBytePinLaw" (some 0) with
  accessFlags := 49
  interfaces := #[]
  cf := some (fileOf pool1 20 #[] #[{ accessFlags := 1, nameIndex := 5, descriptorIndex := 6, attributes := #[] }, { accessFlags := 10, nameIndex := 23, descriptorIndex := 24, attributes := #[] }, { accessFlags := 9, nameIndex := 31, descriptorIndex := 32, attributes := #[] }] 49 2 #[] #[])
  fields := #[]
  methods := #[k1m0, k1m1, k1m2]
  instanceTypes := #[]
  staticTypes := #[]
  resolved := Array.replicate 35 none
  statics := none }

def pool2 : Array CpInfo := pool [(1, .class_ 2), (0, u "java/lang/constant/Constable"), (0, .class_ 4), (0, u "java/lang/Object")] 6

/-- java/lang/constant/Constable -/
def k2 : Class := { plain "java/lang/constant/Constable" (some 0) with
  accessFlags := 1537
  interfaces := #[]
  cf := some (fileOf pool2 1 #[] #[] 1537 3 #[] #[])
  fields := #[]
  methods := #[]
  instanceTypes := #[]
  staticTypes := #[]
  resolved := Array.replicate 11 none
  statics := none }

def pool3 : Array CpInfo := pool [(1, .class_ 2), (0, u "java/lang/Comparable"), (0, .class_ 4), (0, u "java/lang/Object")] 7

/-- java/lang/Comparable -/
def k3 : Class := { plain "java/lang/Comparable" (some 0) with
  accessFlags := 1537
  interfaces := #[]
  cf := some (fileOf pool3 1 #[] #[] 1537 3 #[] #[])
  fields := #[]
  methods := #[]
  instanceTypes := #[]
  staticTypes := #[]
  resolved := Array.replicate 12 none
  statics := none }

def pool4 : Array CpInfo := pool [(1, .class_ 2), (0, u "java/io/Serializable"), (0, .class_ 4), (0, u "java/lang/Object")] 2

/-- java/io/Serializable -/
def k4 : Class := { plain "java/io/Serializable" (some 0) with
  accessFlags := 1537
  interfaces := #[]
  cf := some (fileOf pool4 1 #[] #[] 1537 3 #[] #[])
  fields := #[]
  methods := #[]
  instanceTypes := #[]
  staticTypes := #[]
  resolved := Array.replicate 7 none
  statics := none }

def pool5 : Array CpInfo := pool [(2, .class_ 4), (1, u "java/lang/Enum"), (0, u "name"), (0, u "Ljava/lang/String;"), (2, u "ordinal"), (0, u "I"), (1, .class_ 14), (1, u "java/lang/Object"), (4, u "hash"), (86, .class_ 108), (1, u "java/lang/Enum$EnumDesc"), (2, .class_ 112), (0, u "java/lang/constant/Constable"), (0, .class_ 114), (0, u "java/lang/Comparable"), (0, .class_ 116), (0, u "java/io/Serializable")] 87

/-- java/lang/Enum -/
def k5 : Class := { plain "java/lang/Enum" (some 0) with
  accessFlags := 1057
  interfaces := #[2, 3, 4]
  cf := some (fileOf pool5 2 #[.nestMembers #[106]] #[] 1057 12 #[111, 113, 115] #[{ accessFlags := 18, nameIndex := 5, descriptorIndex := 6, attributes := #[] }, { accessFlags := 18, nameIndex := 9, descriptorIndex := 10, attributes := #[] }, { accessFlags := 2, nameIndex := 19, descriptorIndex := 10, attributes := #[] }])
  fields := #[{ name := "name", type := (.object "java/lang/String"), accessFlags := 18, slot := 0, constantValue := 0 }, { name := "ordinal", type := .int, accessFlags := 18, slot := 1, constantValue := 0 }, { name := "hash", type := .int, accessFlags := 2, slot := 2, constantValue := 0 }]
  methods := #[]
  instanceTypes := #[(.object "java/lang/String"), .int, .int]
  staticTypes := #[]
  resolved := Array.replicate 204 none
  statics := none }

def pool6 : Array CpInfo := pool [(1, .class_ 2), (0, u "cardtalk/message/MessageKind"), (0, .fieldref 1 4), (0, .nameAndType 5 6), (0, u "COMMAND"), (0, u "Lcardtalk/message/MessageKind;"), (0, .fieldref 1 8), (0, .nameAndType 9 6), (0, u "ENVELOPE"), (0, .fieldref 1 11), (0, .nameAndType 12 6), (0, u "RESPONSE"), (2, u "$VALUES"), (0, u "[Lcardtalk/message/MessageKind;"), (6, .class_ 25), (1, u "java/lang/Enum"), (24, u "jsonName"), (0, u "Ljava/lang/String;"), (27, u "ofFirstByte"), (0, u "(I)Lcardtalk/message/MessageKind;")] 6

def k6c0 : Code := { maxStack := 2, maxLocals := 1, code := prog_61_method_4_code, exceptionTable := #[], attributes := #[] }
def k6m0 : Method := { name := "ofFirstByte", desc := "(I)Lcardtalk/message/MessageKind;", sig := { parameters := [.int], returnType := some (.object "cardtalk/message/MessageKind") }, accessFlags := 9, code := some k6c0 }
/-- cardtalk/message/MessageKind -/
def k6 : Class := { plain "cardtalk/message/MessageKind" (some 5) with
  accessFlags := 16433
  interfaces := #[]
  cf := some (fileOf pool6 1 #[] #[{ accessFlags := 9, nameIndex := 79, descriptorIndex := 80, attributes := #[] }] 16433 23 #[] #[{ accessFlags := 16409, nameIndex := 5, descriptorIndex := 6, attributes := #[] }, { accessFlags := 16409, nameIndex := 9, descriptorIndex := 6, attributes := #[] }, { accessFlags := 16409, nameIndex := 12, descriptorIndex := 6, attributes := #[] }, { accessFlags := 18, nameIndex := 50, descriptorIndex := 51, attributes := #[] }, { accessFlags := 4122, nameIndex := 15, descriptorIndex := 16, attributes := #[] }])
  fields := #[{ name := "COMMAND", type := (.object "cardtalk/message/MessageKind"), accessFlags := 16409, slot := 0, constantValue := 0 }, { name := "ENVELOPE", type := (.object "cardtalk/message/MessageKind"), accessFlags := 16409, slot := 1, constantValue := 0 }, { name := "RESPONSE", type := (.object "cardtalk/message/MessageKind"), accessFlags := 16409, slot := 2, constantValue := 0 }, { name := "jsonName", type := (.object "java/lang/String"), accessFlags := 18, slot := 3, constantValue := 0 }, { name := "$VALUES", type := (.array (.object "cardtalk/message/MessageKind")), accessFlags := 4122, slot := 3, constantValue := 0 }]
  methods := #[k6m0]
  instanceTypes := #[(.object "java/lang/String"), .int, .int, (.object "java/lang/String")]
  staticTypes := #[(.object "cardtalk/message/MessageKind"), (.object "cardtalk/message/MessageKind"), (.object "cardtalk/message/MessageKind"), (.array (.object "cardtalk/message/MessageKind"))]
  resolved := Array.replicate 87 none
  statics := some 0 }

def pool7 : Array CpInfo := pool [(1, u "java/lang/Cloneable"), (0, .class_ 1), (0, u "java/lang/Object"), (0, .class_ 3)] 3

/-- java/lang/Cloneable -/
def k7 : Class := { plain "java/lang/Cloneable" (some 0) with
  accessFlags := 1537
  interfaces := #[]
  cf := some (fileOf pool7 2 #[] #[] 1537 4 #[] #[])
  fields := #[]
  methods := #[]
  instanceTypes := #[]
  staticTypes := #[]
  resolved := Array.replicate 8 none
  statics := none }

/-- the primitive byte -/
def k8 : Class := { plain "byte" none with kind := .primitive 'B', accessFlags := 0x411 }
/-- [B -/
def k9 : Class := { plain "[B" (some 0) with kind := .array 8 .byte, interfaces := #[7, 4], accessFlags := 1041 }

/-- the primitive int -/
def k10 : Class := { plain "int" none with kind := .primitive 'I', accessFlags := 0x411 }
/-- [I -/
def k11 : Class := { plain "[I" (some 0) with kind := .array 10 .int, interfaces := #[7, 4], accessFlags := 1041 }

def heap : Heap := #[{ cls := 6, slots := #[.ref 3, .ref 2, .ref 1, .null], vm := .statics 6 },
  { cls := 6, slots := #[.null, .int 0, .int 0, .null], vm := .none },
  { cls := 6, slots := #[.null, .int 0, .int 0, .null], vm := .none },
  { cls := 6, slots := #[.null, .int 0, .int 0, .null], vm := .none }]
def classes : Array Class := #[k0, k1, k2, k3, k4, k5, k6, k7, k8, k9, k10, k11]
def interned : List (Array UInt16 × Addr) := []
def slotsUsed : Nat := 16
def theMethod : MethodId := ⟨1, 2⟩
def args0 : Array Value := #[.int 5]
def aboutOver (below : List Frame) : State where
  vm := { classes := classes, interned := interned.toArray }
  heap := heap
  slotsUsed := slotsUsed
  threads := #[{ frames := .invoking theMethod args0 :: below }]
def below0 : List Frame := [.native { method := ⟨0, 0⟩, args := #[] }]
def about1 : State := aboutOver below0
def p0 : Program := .bare "" "" ""
def e0 : Env := launch0.env 0 0 0
theorem w_frames : about1.frames = Frame.invoking theMethod args0 :: below0 := rfl
set_option maxRecDepth 65536 in
theorem w_args : argsFit about1.vm theMethod args0 = true := by decide +kernel
set_option maxRecDepth 65536 in
theorem w_heap : heapFits about1 = true := by decide +kernel
set_option maxRecDepth 65536 in
theorem w_runnable : about1.curStatus? = some .runnable := by decide +kernel
set_option maxRecDepth 65536 in
theorem w_alone : about1.alone = true := by decide +kernel
set_option maxRecDepth 65536 in
theorem w_named : about1.methodNamed? x = some theMethod := by decide +kernel
set_option maxRecDepth 65536 in
theorem w_hears : about1.hears theMethod below0 = true := by decide +kernel
set_option maxRecDepth 65536 in
theorem w_ripe : about1.ripe theMethod args0 below0 = true := by decide +kernel
theorem w_running : about1.status = .running := rfl
set_option maxRecDepth 65536 in
theorem w_room : about1.hasRoom e0.platform room_1 = true :=
  launch0.hasRoom_least _ room_1 (by decide +kernel) (by decide +kernel) (by decide +kernel) (by decide +kernel) (by decide +kernel) (by decide +kernel)
theorem allAtoms_all (ts : List Jvm.Cond) (a : Array Jvm.Value) (st : Jvm.State) : (allAtoms ts).before a st = ts.all (fun c => c.before a st) := by
  induction ts with
  | nil => rfl
  | cons c t ih =>
    show (Jvm.Cond.and c (allAtoms t)).before a st = _
    rw [Jvm.Cond.before_and, ih, List.all_cons]
def words1 : List Jvm.Cond := Jvm.Cond.code x code maxLocals ret :: tables_1
/-- a 'code' word, met by the world's own term for the bytes: nothing is compared byte by byte -/
theorem code_word {y : MethodName} {bytes : ByteArray} {mx : Nat} {rt : Option FieldType} {a : Array Value} {s : State} {m : MethodId} {meth : Method} {c : Code} (h1 : s.methodNamed? y = some m) (h2 : s.vm.method? m = some meth) (h3 : meth.code = some c) (h4 : c.code = bytes)
    (h5 : (c.maxLocals == mx && c.exceptionTable.isEmpty && decide (c.maxStack ≤ mostOperands) && decide (meth.sig.returnType = rt) && !meth.locks && decide (parseMethodDescriptor y.desc = some meth.sig)) = true) : (Jvm.Cond.code y bytes mx rt).before a s = true := by
  simp only [Bool.and_eq_true, beq_iff_eq, Bool.not_eq_true', decide_eq_true_eq] at h5
  obtain ⟨⟨⟨⟨⟨g1, g2⟩, g3⟩, g4⟩, g5⟩, g6⟩ := h5
  simp [Cond.before, Cond.holds, Cond.value, h1, h2, h3, h4, g1, g2, g3, g4, g5, g6]
def isCode : Jvm.Cond → Bool
  | .code _ _ _ _ => true
  | _ => false
theorem all_split {L : List Jvm.Cond} {P : Jvm.Cond → Bool} (h1 : L.all (fun c => isCode c || P c) = true) (h2 : ∀ c ∈ L.filter isCode, P c = true) : L.all P = true := by
  refine List.all_eq_true.mpr fun c hc => ?_
  have h := List.all_eq_true.mp h1 c hc
  rcases Bool.eq_false_or_eq_true (isCode c) with hi | hi
  · exact h2 c (List.mem_filter.mpr ⟨hc, hi⟩)
  · simpa [hi] using h
set_option maxRecDepth 65536 in
theorem w_c0 : (Jvm.Cond.code x code maxLocals ret).before args0 about1 = true := code_word (m := ⟨1, 2⟩) (meth := k1m2) (c := k1c2) (by decide +kernel) rfl rfl rfl (by decide +kernel)
set_option maxRecDepth 65536 in
theorem w_c1 : (Jvm.Cond.code ({ cls := "cardtalk/message/MessageKindOfFirstBytePinLaw", name := "expected", desc := "(I)Lcardtalk/message/MessageKind;" } : Jvm.MethodName) method_2_code (1 : Nat) (Option.some (Jvm.ClassFile.FieldType.object "cardtalk/message/MessageKind"))).before args0 about1 = true := code_word (m := ⟨1, 1⟩) (meth := k1m1) (c := k1c1) (by decide +kernel) rfl rfl rfl (by decide +kernel)
set_option maxRecDepth 65536 in
theorem w_c2 : (Jvm.Cond.code ({ cls := "cardtalk/message/MessageKind", name := "ofFirstByte", desc := "(I)Lcardtalk/message/MessageKind;" } : Jvm.MethodName) prog_61_method_4_code (1 : Nat) (Option.some (Jvm.ClassFile.FieldType.object "cardtalk/message/MessageKind"))).before args0 about1 = true := code_word (m := ⟨6, 0⟩) (meth := k6m0) (c := k6c0) (by decide +kernel) rfl rfl rfl (by decide +kernel)
def codes1 : List Jvm.Cond := [Jvm.Cond.code x code maxLocals ret, Jvm.Cond.code ({ cls := "cardtalk/message/MessageKindOfFirstBytePinLaw", name := "expected", desc := "(I)Lcardtalk/message/MessageKind;" } : Jvm.MethodName) method_2_code (1 : Nat) (Option.some (Jvm.ClassFile.FieldType.object "cardtalk/message/MessageKind")), Jvm.Cond.code ({ cls := "cardtalk/message/MessageKind", name := "ofFirstByte", desc := "(I)Lcardtalk/message/MessageKind;" } : Jvm.MethodName) prog_61_method_4_code (1 : Nat) (Option.some (Jvm.ClassFile.FieldType.object "cardtalk/message/MessageKind"))]
set_option maxRecDepth 65536 in
theorem codes_eq : words1.filter isCode = codes1 := rfl
theorem w_codes : ∀ c ∈ words1.filter isCode, c.before args0 about1 = true := by
  rw [codes_eq]
  intro c hc
  simp only [codes1, List.mem_cons, List.not_mem_nil, or_false] at hc
  rcases hc with rfl | rfl | rfl
  · exact w_c0
  · exact w_c1
  · exact w_c2
set_option maxRecDepth 65536 in
theorem w_t1 : words1.all (fun c => isCode c || c.before args0 about1) = true := by decide +kernel
theorem w_tables : (allAtoms (Jvm.Cond.code x code maxLocals ret :: tables_1)).before args0 about1 = true := by
  rw [allAtoms_all]
  show words1.all (fun c => c.before args0 about1) = true
  refine all_split ?_ w_codes
  rw [w_t1]
set_option maxRecDepth 65536 in
theorem w_case : (Jvm.Cond.and given_1 narrow_1).before args0 about1 = true := by decide +kernel
theorem w_applies : (headSpec (Jvm.Cond.code x code maxLocals ret :: tables_1) room_1).applies x e0.platform about1 = true :=
  (Spec.applies_iff w_frames).mpr ⟨w_running, w_runnable, w_alone, w_named, w_hears, w_ripe, w_room, w_tables⟩
theorem atStart : AtStart classFile x code maxLocals ret World_1 tables_1 room_1 Calls_1 rest_1 Pre_1 launch0 p0 e0 about1 theMethod args0 below0 :=
  ⟨lists_1, trivial, launch0.admits_env _ _ _, launch0.least_env, fairChoices_fair.cas, fairChoices_fair.clock, w_frames, w_args, w_heap, w_applies, trivial, trivial, w_case⟩
end start1
theorem witness_1 : WitnessClaimed_1 := ⟨start1.p0, start1.e0, start1.about1, start1.theMethod, start1.args0, start1.below0, start1.atStart⟩
end Jvm.Pilot.@@N@@
