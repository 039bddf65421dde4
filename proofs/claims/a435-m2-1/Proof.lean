import JvmDerived
import JvmDerived.Pilot.@@N@@Statement
import JvmDerived.Pilot.@@N@@Code
set_option linter.unusedVariables false
set_option linter.unusedSimpArgs false
namespace Jvm.RoadKit
open Sem ClassFile Op Lib Jvm.Stand Jvm.Free Jvm.LawKit
section New
variable {p : Program} {l : Launch} {e : Env} {R : Room} {s : State} {m : MethodId} {args : Array Value} {below : List Frame} {meth : Method} {c : Code} {T T' : State} {locs : List Loc} {cells slots : Nat}
theorem retI (X : Stand p l e R s m args below meth c T locs cells slots) (hx : p.tables.exec = Jvm.exec) {pc : Nat} {Ls : Array Slot} {z : Int32} {rest : List Value} (hret : meth.sig.returnType = some .int) (hd : decode c.code pc = .ok (.ireturn, 1)) {fs : List Frame}
    (hl : ∀ (f : JFrame) (acts : List Action), f.method = m → f.locked = none → f.entered = [] → (doReturn e (T.setTop f) acts (some (.int z))).1 = T.setFrames fs) : Steps p.tables e below (T.setTop (mkF m pc Ls (.int z :: rest))) (T.setFrames fs) := by
  have hm' : T.vm.method? m = some meth := X.method'
  have hn : narrow .int (.int z) = .int z := rfl
  show Steps p.tables e below (T.setTop { method := m, pc := pc, locals := Ls, stack := _ :: rest, locked := none }) _
  jvm_step X.here [X.here.top, hx, hd, hm', hret, hn]
  first | (intro acts; rw [hl _ acts rfl rfl rfl]) | rw [hl _ _ rfl rfl rfl]
  exact Steps.refl _
/-- from this frame the run comes to an end of which P holds -/
def OEnds (p : Program) (e : Env) (below : List Frame) (P : Outcome → State → Prop) (T : State) (g : JFrame) : Prop :=
  ∃ s₂ o, Steps p.tables e below (T.setTop g) s₂ ∧ s₂.status = .running ∧ Ended s₂ below o ∧ P o s₂
theorem OEnds.go {P : Outcome → State → Prop} {g g' : JFrame} (h : ∀ t, Steps p.tables e below (T'.setTop g') t → Steps p.tables e below (T.setTop g) t) (k : OEnds p e below P T' g') : OEnds p e below P T g := by
  obtain ⟨s₂, o, h1, h2⟩ := k
  exact ⟨s₂, o, h _ h1, h2⟩
theorem OEnds.tr {P : Outcome → State → Prop} {g g' : JFrame} (h : Steps p.tables e below (T.setTop g) (T'.setTop g')) (k : OEnds p e below P T' g') : OEnds p e below P T g :=
  OEnds.go (fun _ q => h.trans q) k
/-- what a contract of this family says of the end -/
def OEndP (s : State) (Q : Option Value → Heap → List Loc → Prop) (C N : Nat) (o : Outcome) (U' : State) : Prop := ∃ v L, o = .returned v ∧ Q v U'.heap L ∧ FrameEnd s o U' L C N
theorem OEnds.out (X : Stand p l e R s m args below meth c T locs cells slots) (hlocks : meth.locks = false) {v : Option Value} (hv : meth.sig.returnType = none → v = none) {Q : Option Value → Heap → List Loc → Prop} {C N : Nat} {g : JFrame}
    (hs : ∀ fs, (∀ (f : JFrame) (acts : List Action), f.method = m → f.locked = none → f.entered = [] → (doReturn e (T.setTop f) acts v).1 = T.setFrames fs) → Steps p.tables e below (T.setTop g) (T.setFrames fs))
    (hq : Q v T.heap locs) (hc : cells ≤ C) (hn : slots ≤ N) : OEnds p e below (OEndP s Q C N) T g := by
  obtain ⟨fs, hr, hrun, hended, hW, hsame⟩ := X.leave (v := v) hv hlocks
  exact ⟨_, _, hs fs hr, hrun, hended, _, _, rfl, hq, ⟨_, rfl⟩, hW, hsame.mono hc hn⟩
theorem OEnds.outN (X : Stand p l e R s m args below meth c T locs cells slots) (hlocks : meth.locks = false) (hx : p.tables.exec = Jvm.exec) {pc : Nat} {Ls : Array Slot} {z : Int32} {t : FieldType} {rest : List Value} (hret : meth.sig.returnType = some t) (ht : t = .boolean ∨ t = .byte ∨ t = .char ∨ t = .short)
    (hd : decode c.code pc = .ok (.ireturn, 1)) {Q : Option Value → Heap → List Loc → Prop} {C N : Nat} (hq : Q (some (.int (nar t z))) T.heap locs) (hc : cells ≤ C) (hn : slots ≤ N) : OEnds p e below (OEndP s Q C N) T (mkF m pc Ls (.int z :: rest)) :=
  OEnds.out X hlocks (fun h => by rw [hret] at h; cases h) (fun fs hr => retN X hx hret ht hd hr) hq hc hn
theorem OEnds.outI (X : Stand p l e R s m args below meth c T locs cells slots) (hlocks : meth.locks = false) (hx : p.tables.exec = Jvm.exec) {pc : Nat} {Ls : Array Slot} {z : Int32} {rest : List Value} (hret : meth.sig.returnType = some .int)
    (hd : decode c.code pc = .ok (.ireturn, 1)) {Q : Option Value → Heap → List Loc → Prop} {C N : Nat} (hq : Q (some (.int z)) T.heap locs) (hc : cells ≤ C) (hn : slots ≤ N) : OEnds p e below (OEndP s Q C N) T (mkF m pc Ls (.int z :: rest)) :=
  OEnds.out X hlocks (fun h => by rw [hret] at h; cases h) (fun fs hr => retI X hx hret hd hr) hq hc hn
theorem OEnds.outJ (X : Stand p l e R s m args below meth c T locs cells slots) (hlocks : meth.locks = false) (hx : p.tables.exec = Jvm.exec) {pc : Nat} {Ls : Array Slot} {z : Int64} {rest : List Value} (hret : meth.sig.returnType = some .long)
    (hd : decode c.code pc = .ok (.lreturn, 1)) {Q : Option Value → Heap → List Loc → Prop} {C N : Nat} (hq : Q (some (.long z)) T.heap locs) (hc : cells ≤ C) (hn : slots ≤ N) : OEnds p e below (OEndP s Q C N) T (mkF m pc Ls (.long z :: rest)) :=
  OEnds.out X hlocks (fun h => by rw [hret] at h; cases h) (fun fs hr => retOut X hx hret rfl (Or.inr (Or.inl ⟨rfl, rfl, z, rfl⟩)) hd hr) hq hc hn
theorem OEnds.outA (X : Stand p l e R s m args below meth c T locs cells slots) (hlocks : meth.locks = false) (hx : p.tables.exec = Jvm.exec) {pc : Nat} {Ls : Array Slot} {w : Value} {t : FieldType} {rest : List Value} (hret : meth.sig.returnType = some t) (ht : t.isReference = true) (hw : w.isRef = true)
    (hd : decode c.code pc = .ok (.areturn, 1)) {Q : Option Value → Heap → List Loc → Prop} {C N : Nat} (hq : Q (some w) T.heap locs) (hc : cells ≤ C) (hn : slots ≤ N) : OEnds p e below (OEndP s Q C N) T (mkF m pc Ls (w :: rest)) :=
  OEnds.out X hlocks (fun h => by rw [hret] at h; cases h) (fun fs hr => retOut X hx hret (by rcases ref_cases hw with rfl | ⟨a, rfl⟩ <;> cases t <;> first | rfl | cases ht) (Or.inr (Or.inr (Or.inr (Or.inr ⟨rfl, ht, hw⟩)))) hd hr) hq hc hn
theorem OEnds.outV (X : Stand p l e R s m args below meth c T locs cells slots) (hlocks : meth.locks = false) (hx : p.tables.exec = Jvm.exec) {pc : Nat} {Ls : Array Slot} (hret : meth.sig.returnType = none)
    (hd : decode c.code pc = .ok (.return_, 1)) {Q : Option Value → Heap → List Loc → Prop} {C N : Nat} (hq : Q none T.heap locs) (hc : cells ≤ C) (hn : slots ≤ N) : OEnds p e below (OEndP s Q C N) T (mkF m pc Ls []) :=
  OEnds.out X hlocks (fun _ => rfl) (fun fs hr => X.returnOut hx hret hd hr) hq hc hn
end New
end Jvm.RoadKit
namespace Jvm.Pilot.@@N@@
open Jvm Jvm.ClassFile Sem Op Lib Jvm.Free Jvm.Stand Jvm.LawKit Jvm.RoadKit Bundle Jvm.Pilot.@@N@@.Jvm.D
theorem d1_0 : decode prog_44_method_4_code 0 = .ok (.getstatic 47, 3) := by decide +kernel
theorem d1_3 : decode prog_44_method_4_code 3 = .ok (.iload_n 0, 1) := by decide +kernel
theorem d1_4 : decode prog_44_method_4_code 4 = .ok (.sipush 255, 3) := by decide +kernel
theorem d1_7 : decode prog_44_method_4_code 7 = .ok (.iand, 1) := by decide +kernel
theorem d1_8 : decode prog_44_method_4_code 8 = .ok (.iconst 5, 1) := by decide +kernel
theorem d1_9 : decode prog_44_method_4_code 9 = .ok (.iushr, 1) := by decide +kernel
theorem d1_10 : decode prog_44_method_4_code 10 = .ok (.aaload, 1) := by decide +kernel
theorem d1_11 : decode prog_44_method_4_code 11 = .ok (.areturn, 1) := by decide +kernel
theorem d2_0 : decode method_2_code 0 = .ok (.iload_n 0, 1) := by decide +kernel
theorem d2_1 : decode method_2_code 1 = .ok (.sipush 128, 3) := by decide +kernel
theorem d2_4 : decode method_2_code 4 = .ok (.if_icmp .ge 37, 3) := by decide +kernel
theorem d2_7 : decode method_2_code 7 = .ok (.iload_n 0, 1) := by decide +kernel
theorem d2_8 : decode method_2_code 8 = .ok (.bipush 64, 2) := by decide +kernel
theorem d2_10 : decode method_2_code 10 = .ok (.if_icmp .ge 17, 3) := by decide +kernel
theorem d2_13 : decode method_2_code 13 = .ok (.iload_n 0, 1) := by decide +kernel
theorem d2_14 : decode method_2_code 14 = .ok (.bipush 32, 2) := by decide +kernel
theorem d2_16 : decode method_2_code 16 = .ok (.if_icmp .ge 7, 3) := by decide +kernel
theorem d2_19 : decode method_2_code 19 = .ok (.getstatic 7, 3) := by decide +kernel
theorem d2_22 : decode method_2_code 22 = .ok (.areturn, 1) := by decide +kernel
theorem d2_23 : decode method_2_code 23 = .ok (.getstatic 13, 3) := by decide +kernel
theorem d2_26 : decode method_2_code 26 = .ok (.areturn, 1) := by decide +kernel
theorem d2_27 : decode method_2_code 27 = .ok (.iload_n 0, 1) := by decide +kernel
theorem d2_28 : decode method_2_code 28 = .ok (.bipush 96, 2) := by decide +kernel
theorem d2_30 : decode method_2_code 30 = .ok (.if_icmp .ge 7, 3) := by decide +kernel
theorem d2_33 : decode method_2_code 33 = .ok (.getstatic 16, 3) := by decide +kernel
theorem d2_36 : decode method_2_code 36 = .ok (.areturn, 1) := by decide +kernel
theorem d2_37 : decode method_2_code 37 = .ok (.getstatic 19, 3) := by decide +kernel
theorem d2_40 : decode method_2_code 40 = .ok (.areturn, 1) := by decide +kernel
theorem d2_41 : decode method_2_code 41 = .ok (.iload_n 0, 1) := by decide +kernel
theorem d2_42 : decode method_2_code 42 = .ok (.sipush 192, 3) := by decide +kernel
theorem d2_45 : decode method_2_code 45 = .ok (.if_icmp .ge 18, 3) := by decide +kernel
theorem d2_48 : decode method_2_code 48 = .ok (.iload_n 0, 1) := by decide +kernel
theorem d2_49 : decode method_2_code 49 = .ok (.sipush 160, 3) := by decide +kernel
theorem d2_52 : decode method_2_code 52 = .ok (.if_icmp .ge 7, 3) := by decide +kernel
theorem d2_55 : decode method_2_code 55 = .ok (.getstatic 22, 3) := by decide +kernel
theorem d2_58 : decode method_2_code 58 = .ok (.areturn, 1) := by decide +kernel
theorem d2_59 : decode method_2_code 59 = .ok (.getstatic 25, 3) := by decide +kernel
theorem d2_62 : decode method_2_code 62 = .ok (.areturn, 1) := by decide +kernel
theorem d2_63 : decode method_2_code 63 = .ok (.iload_n 0, 1) := by decide +kernel
theorem d2_64 : decode method_2_code 64 = .ok (.sipush 224, 3) := by decide +kernel
theorem d2_67 : decode method_2_code 67 = .ok (.if_icmp .ge 7, 3) := by decide +kernel
theorem d2_70 : decode method_2_code 70 = .ok (.getstatic 28, 3) := by decide +kernel
theorem d2_73 : decode method_2_code 73 = .ok (.areturn, 1) := by decide +kernel
theorem d2_74 : decode method_2_code 74 = .ok (.getstatic 31, 3) := by decide +kernel
theorem d2_77 : decode method_2_code 77 = .ok (.areturn, 1) := by decide +kernel
theorem pn_0 : plainName "com/example/chronotag/chronotag/cbor/MajorType" = true := by first | (simp [plainName, overriddenIn]; done) | decide +kernel
theorem pn_1 : plainName "com/example/chronotag/chronotag/cbor/MajorTypeOfInitialBytePinLaw" = true := by first | (simp [plainName, overriddenIn]; done) | decide +kernel
theorem pd_0 : parseMethodDescriptor "(B)Lcom/example/chronotag/chronotag/cbor/MajorType;" = some ⟨[.byte], some (.object "com/example/chronotag/chronotag/cbor/MajorType")⟩ := by decide +kernel
theorem pd_1 : parseMethodDescriptor "(I)Lcom/example/chronotag/chronotag/cbor/MajorType;" = some ⟨[.int], some (.object "com/example/chronotag/chronotag/cbor/MajorType")⟩ := by decide +kernel
theorem own_nat (c : Int32) (h0 : 0 ≤ c.toInt) : c = Int32.ofNat c.toInt.toNat := by
  apply Int32.toInt_inj.mp
  have h1 := c.toInt_lt
  rw [Int32.toInt_ofNat_of_lt (by omega)]
  omega
theorem own_fin {P : Int32 → Prop} (K : Nat) (h : ∀ n : Fin K, P (Int32.ofNat n.1)) (c : Int32) (h0 : 0 ≤ c.toInt) (h1 : c.toInt < K) : P c := by
  rw [own_nat c h0]; exact h ⟨c.toInt.toNat, by omega⟩
theorem own_fin' {P : Int32 → Prop} (K : Nat) (c : Int32) (h0 : 0 ≤ c.toInt) (h1 : c.toInt < K) (h : ∀ n : Fin K, P (Int32.ofNat n.1)) : P c := own_fin K h c h0 h1
theorem own_no {G : Prop} {x : Int32} (h : x = 1) (h' : x = 0) : G := absurd (h.symm.trans h') (by decide)
theorem own_eqint {args : Array Value} {Z : State} {t : Term} {n : Int32} (h : (Jvm.Cond.eq t (.int n)).value args Z none Z [] = some true) : t.eval args Z none [] Z = some (.int n) := by
  simp only [Cond.value, Term.eval] at h
  cases ht : t.eval args Z none [] Z with
  | none => simp [ht] at h
  | some x => cases x <;> simp [ht] at h ⊢; exact h
theorem own_len {args : Array Value} {Z : State} {t : Term} {x : Addr} {cl : Cell} {ty : FieldType} {n : Int32} (ht : t.eval args Z none [] Z = some (.ref x)) (A : Arr Z Z.heap x cl ty) (h : (Jvm.Cond.eq (.length t) (.int n)).value args Z none Z [] = some true) : cl.slots.size < 2 ^ 31 ∧ cl.slots.size.toInt32 = n := by
  have e := own_eqint h
  have ha : Z.arrayAt? x = some cl := A.fin (Vm.Alike.refl _)
  by_cases hl : cl.slots.size < 2 ^ 31
  · rw [len_f ht ha hl] at e
    exact ⟨hl, Value.int.inj (Option.some.inj e)⟩
  · simp [Term.eval, ht, ha, hl] at e
theorem own_elem {args : Array Value} {Z : State} {t u : Term} {x y : Addr} {cl : Cell} {j : Int32} (ht : t.eval args Z none [] Z = some (.ref x)) (hc : Z.heap[x]? = some cl) (hu : u.eval args Z none [] Z = some (.ref y)) (h : (Jvm.Cond.eq (.elem t (.int j)) u).value args Z none Z [] = some true) : cl.slots[j.toNatClampNeg]? = some (.ref y) := by
  obtain ⟨v, w, e1, e2, -⟩ := cmp_v (Or.inl h)
  cases hu.symm.trans e2
  obtain ⟨h1, h2⟩ := elem_in e1 ht (Term.int_eval j) hc
  have hr : v.isRef = true := by
    have := h
    cases v <;> simp [Cond.value, e1, e2, Value.isRef] at this ⊢
  have q := gotT (eq_R e1 e2 hr rfl) h
  rw [h2, q]
theorem own_fldI {args : Array Value} {Z : State} {t : Term} {x : Addr} {C n d : String} {v : Int32} (ht : t.eval args Z none [] Z = some (.ref x)) (h : (Jvm.Cond.eq (.field t C n d) (.int v)).value args Z none Z [] = some true) : Fld Z Z.heap x C n d (.int v) := by
  have e := own_eqint h
  rw [fld_at ht] at e
  exact Fld.start e
theorem own_catI (x : Int32) : (Value.int x).category = 1 := rfl
theorem own_catJ (x : Int64) : (Value.long x).category = 2 := rfl
theorem own_catR (x : Addr) : (Value.ref x).category = 1 := rfl
theorem own_catN : (Value.null).category = 1 := rfl
theorem own_cat {v : Value} (h : v.isRef = true) : v.category = 1 := by rcases ref_cases h with rfl | ⟨_, rfl⟩ <;> rfl
theorem own_ix (p0 : Int32) : (((p0 &&& (255 : Int32)).toUInt32 >>> ((5 : Int32) &&& 31).toUInt32).toInt32) = (0 : Int32) ∨ (((p0 &&& (255 : Int32)).toUInt32 >>> ((5 : Int32) &&& 31).toUInt32).toInt32) = (1 : Int32) ∨ (((p0 &&& (255 : Int32)).toUInt32 >>> ((5 : Int32) &&& 31).toUInt32).toInt32) = (2 : Int32) ∨ (((p0 &&& (255 : Int32)).toUInt32 >>> ((5 : Int32) &&& 31).toUInt32).toInt32) = (3 : Int32) ∨ (((p0 &&& (255 : Int32)).toUInt32 >>> ((5 : Int32) &&& 31).toUInt32).toInt32) = (4 : Int32) ∨ (((p0 &&& (255 : Int32)).toUInt32 >>> ((5 : Int32) &&& 31).toUInt32).toInt32) = (5 : Int32) ∨ (((p0 &&& (255 : Int32)).toUInt32 >>> ((5 : Int32) &&& 31).toUInt32).toInt32) = (6 : Int32) ∨ (((p0 &&& (255 : Int32)).toUInt32 >>> ((5 : Int32) &&& 31).toUInt32).toInt32) = (7 : Int32) := by
  have h1 := c_mask p0 255 8 (by decide) (by decide)
  have h2 := c_iushr (p0 &&& 255) 5 5 (by decide) (by decide)
  generalize (((p0 &&& (255 : Int32)).toUInt32 >>> ((5 : Int32) &&& 31).toUInt32).toInt32) = c at *
  exact own_fin (P := fun c => c = (0 : Int32) ∨ c = (1 : Int32) ∨ c = (2 : Int32) ∨ c = (3 : Int32) ∨ c = (4 : Int32) ∨ c = (5 : Int32) ∨ c = (6 : Int32) ∨ c = (7 : Int32)) 8 (by decide) c (by omega) (by omega)
theorem ef_rm1 (m : MethodId) (x0 : Int32) : entryFrame m #[(.int x0)] 1 = mkF m 0 #[.val (.int x0)] [] := by first | (simp [entryFrame, mkF, argsToLocals, Value.category]; done) | rfl
def f1 (p0 : Int32) (ad0 : Addr) (ad1 : Addr) (ad2 : Addr) (ad3 : Addr) (ad4 : Addr) (ad5 : Addr) (ad6 : Addr) (ad7 : Addr) : Value := if (((p0 &&& (255 : Int32)).toUInt32 >>> ((5 : Int32) &&& 31).toUInt32).toInt32) = (0 : Int32) then (.ref ad0) else if (((p0 &&& (255 : Int32)).toUInt32 >>> ((5 : Int32) &&& 31).toUInt32).toInt32) = (1 : Int32) then (.ref ad1) else if (((p0 &&& (255 : Int32)).toUInt32 >>> ((5 : Int32) &&& 31).toUInt32).toInt32) = (2 : Int32) then (.ref ad2) else if (((p0 &&& (255 : Int32)).toUInt32 >>> ((5 : Int32) &&& 31).toUInt32).toInt32) = (3 : Int32) then (.ref ad3) else if (((p0 &&& (255 : Int32)).toUInt32 >>> ((5 : Int32) &&& 31).toUInt32).toInt32) = (4 : Int32) then (.ref ad4) else if (((p0 &&& (255 : Int32)).toUInt32 >>> ((5 : Int32) &&& 31).toUInt32).toInt32) = (5 : Int32) then (.ref ad5) else if (((p0 &&& (255 : Int32)).toUInt32 >>> ((5 : Int32) &&& 31).toUInt32).toInt32) = (6 : Int32) then (.ref ad6) else (.ref ad7)
def Q_rm1 (Z : State) (p0 : Int32) (arr : Addr) (kk : ClassId) (ad0 : Addr) (ad1 : Addr) (ad2 : Addr) (ad3 : Addr) (ad4 : Addr) (ad5 : Addr) (ad6 : Addr) (ad7 : Addr) (h0 : Heap) (n0 : Nat) (v : Option Value) (h : Heap) (L : List Loc) : Prop := v = some ((f1 p0 ad0 ad1 ad2 ad3 ad4 ad5 ad6 ad7)) ∧ Fr n0 L ∧ h = h0
set_option maxRecDepth 65536 in
set_option maxHeartbeats 40000000 in
theorem rm1 (l : Launch) (Z : State) (a0 : Array Value) (hw : ∀ d ∈ tables_1, d.before a0 Z = true) (ws : List Jvm.Cond) (p0 : Int32) (arr : Addr) (kk : ClassId) (ad0 : Addr) (ad1 : Addr) (ad2 : Addr) (ad3 : Addr) (ad4 : Addr) (ad5 : Addr) (ad6 : Addr) (ad7 : Addr) (h0 : Heap) (n0 : Nat) (Z0 : n0 ≤ h0.size) (SB : Sta Z h0 "com/example/chronotag/chronotag/cbor/MajorType" "BY_NUMBER" "[Lcom/example/chronotag/chronotag/cbor/MajorType;" (.ref arr)) (V0 : Arv Z h0 arr kk (.object "com/example/chronotag/chronotag/cbor/MajorType") (8 : Int32) [(.ref ad0), (.ref ad1), (.ref ad2), (.ref ad3), (.ref ad4), (.ref ad5), (.ref ad6), (.ref ad7)] .null) :
    MetFree l (⟨"com/example/chronotag/chronotag/cbor/MajorType", "ofInitialByte", "(B)Lcom/example/chronotag/chronotag/cbor/MajorType;"⟩ : MethodName) (head1 (Jvm.Cond.code (⟨"com/example/chronotag/chronotag/cbor/MajorType", "ofInitialByte", "(B)Lcom/example/chronotag/chronotag/cbor/MajorType;"⟩ : MethodName) prog_44_method_4_code 1 (some (.object "com/example/chronotag/chronotag/cbor/MajorType")) :: ws) ({ frames := 0, cells := 0, slots := 0, locals := 0 } : Room)) (fun aa_ U => aa_ = #[(.int p0)] ∧ Z.Warmed39 U.vm ∧ U.heap = h0) (fun _ _ _ _ _ => True) (fun _ U o U' => ∃ v L, o = .returned v ∧ Q_rm1 Z p0 arr kk ad0 ad1 ad2 ad3 ad4 ad5 ad6 ad7 h0 n0 v U'.heap L ∧ FrameEnd U o U' L ({ frames := 0, cells := 0, slots := 0, locals := 0 } : Room).cells ({ frames := 0, cells := 0, slots := 0, locals := 0 } : Room).slots) := by
  refine MetFree.of_bodySF (plainFor_of_name pn_0) hisR ?_
  intro p e s m args below meth c s₁ Bd hml0 hP hK
  obtain ⟨rfl, hZ, hh⟩ := hP
  have hx := Bd.exec
  have hby := Bd.bytes
  have hml : c.maxLocals = 1 := hml0
  have hown : s.vm.findClass "com/example/chronotag/chronotag/cbor/MajorType" = some m.cls := findClass_of_methodNamed Bd.named
  have hnm := (name_of_methodNamed Bd.named Bd.method).1
  have X0 : Stand p l e ({ frames := 0, cells := 0, slots := 0, locals := 0 } : Room) s m #[(.int p0)] below meth c s₁ [] 0 0 := Stand.of_body Bd
  have e0 : s₁.heap = h0 := by rw [← hh, Bd.state]; rfl
  have N0 := Fr.nil n0
  show OEnds p e below (OEndP s (Q_rm1 Z p0 arr kk ad0 ad1 ad2 ad3 ad4 ad5 ad6 ad7 h0 n0) ({ frames := 0, cells := 0, slots := 0, locals := 0 } : Room).cells ({ frames := 0, cells := 0, slots := 0, locals := 0 } : Room).slots) s₁ (entryFrame m #[(.int p0)] 1)
  rw [ef_rm1 m p0]
  obtain ⟨T1, X1, e1, st1⟩ := getS2 X0 hx hZ hown (host := "") (Or.inl (hw _ (List.mem_of_getElem? (i := 4) rfl))) Via.refl e0 SB (g := (mkF m 0 #[.val (.int p0)] [])) rfl (hb hby d1_0)
  refine OEnds.go (g' := (mkF m 3 #[.val (.int p0)] [(.ref arr)])) st1 ?_
  refine OEnds.go (g' := (mkF m 4 #[.val (.int p0)] [(.int p0), (.ref arr)])) (fun t k => XS.iloadN X1.here hx rfl (hb hby d1_3) rfl k) ?_
  refine OEnds.go (g' := (mkF m 7 #[.val (.int p0)] [(.int (255 : Int32)), (.int p0), (.ref arr)])) (fun t k => XS.sipush X1.here hx rfl (hb hby d1_4) k) ?_
  refine OEnds.go (g' := (mkF m 8 #[.val (.int p0)] [(.int (p0 &&& (255 : Int32))), (.ref arr)])) (fun t k => XS.iand X1.here hx rfl (hb hby d1_7) rfl k) ?_
  refine OEnds.go (g' := (mkF m 9 #[.val (.int p0)] [(.int (5 : Int32)), (.int (p0 &&& (255 : Int32))), (.ref arr)])) (fun t k => XS.iconst X1.here hx rfl (hb hby d1_8) k) ?_
  refine OEnds.go (g' := (mkF m 10 #[.val (.int p0)] [(.int (((p0 &&& (255 : Int32)).toUInt32 >>> ((5 : Int32) &&& 31).toUInt32).toInt32)), (.ref arr)])) (fun t k => XS.iushr X1.here hx rfl (hb hby d1_9) rfl k) ?_
  rcases (own_ix p0 : (((p0 &&& (255 : Int32)).toUInt32 >>> ((5 : Int32) &&& 31).toUInt32).toInt32) = (0 : Int32) ∨ (((p0 &&& (255 : Int32)).toUInt32 >>> ((5 : Int32) &&& 31).toUInt32).toInt32) = (1 : Int32) ∨ (((p0 &&& (255 : Int32)).toUInt32 >>> ((5 : Int32) &&& 31).toUInt32).toInt32) = (2 : Int32) ∨ (((p0 &&& (255 : Int32)).toUInt32 >>> ((5 : Int32) &&& 31).toUInt32).toInt32) = (3 : Int32) ∨ (((p0 &&& (255 : Int32)).toUInt32 >>> ((5 : Int32) &&& 31).toUInt32).toInt32) = (4 : Int32) ∨ (((p0 &&& (255 : Int32)).toUInt32 >>> ((5 : Int32) &&& 31).toUInt32).toInt32) = (5 : Int32) ∨ (((p0 &&& (255 : Int32)).toUInt32 >>> ((5 : Int32) &&& 31).toUInt32).toInt32) = (6 : Int32) ∨ (((p0 &&& (255 : Int32)).toUInt32 >>> ((5 : Int32) &&& 31).toUInt32).toInt32) = (7 : Int32)) with k10_2 | k10_2 | k10_2 | k10_2 | k10_2 | k10_2 | k10_2 | k10_2
  · -- (0 : Int32)
    rw [k10_2]
    obtain ⟨cl3, Ar3, qa3, Sa3, Na3, Ha3, Ga3⟩ := @id _ V0
    have hin3 : ¬ ((0 : Int32) < 0 ∨ cl3.slots.size ≤ ((0 : Int32)).toNatClampNeg) := inb_of Sa3 ⟨by decide, by decide⟩
    have hat3 : cl3.slots[((0 : Int32)).toNatClampNeg]? = some (.ref ad0) := Has.at Ha3 hin3 rfl
    refine OEnds.go (g' := (mkF m 11 #[.val (.int p0)] [(.ref ad0)])) (X1.aaload hx (j := (0 : Int32)) (v := (.ref ad0)) (by rw [e1]; exact Ar3.1) (State.isArrayOf_alike hZ.alike Ar3.2.1) rfl Ar3.2.2 hin3 hat3 (g := (mkF m 10 #[.val (.int p0)] [(.int (0 : Int32)), (.ref arr)])) rfl rfl (hb hby d1_10)) ?_
    exact OEnds.outA X1 Bd.notSynchronized hx Bd.returns rfl rfl (hb hby d1_11) ⟨by show (some (((.ref ad0) : Value)) : Option Value) = some ((f1 p0 ad0 ad1 ad2 ad3 ad4 ad5 ad6 ad7)); rw [f1, if_pos k10_2], N0, e1⟩ (by decide) (by decide)
  · -- (1 : Int32)
    rw [k10_2]
    obtain ⟨cl4, Ar4, qa4, Sa4, Na4, Ha4, Ga4⟩ := @id _ V0
    have hin4 : ¬ ((1 : Int32) < 0 ∨ cl4.slots.size ≤ ((1 : Int32)).toNatClampNeg) := inb_of Sa4 ⟨by decide, by decide⟩
    have hat4 : cl4.slots[((1 : Int32)).toNatClampNeg]? = some (.ref ad1) := Has.at Ha4 hin4 rfl
    refine OEnds.go (g' := (mkF m 11 #[.val (.int p0)] [(.ref ad1)])) (X1.aaload hx (j := (1 : Int32)) (v := (.ref ad1)) (by rw [e1]; exact Ar4.1) (State.isArrayOf_alike hZ.alike Ar4.2.1) rfl Ar4.2.2 hin4 hat4 (g := (mkF m 10 #[.val (.int p0)] [(.int (1 : Int32)), (.ref arr)])) rfl rfl (hb hby d1_10)) ?_
    exact OEnds.outA X1 Bd.notSynchronized hx Bd.returns rfl rfl (hb hby d1_11) ⟨by show (some (((.ref ad1) : Value)) : Option Value) = some ((f1 p0 ad0 ad1 ad2 ad3 ad4 ad5 ad6 ad7)); rw [f1, if_neg (show ¬ (((p0 &&& (255 : Int32)).toUInt32 >>> ((5 : Int32) &&& 31).toUInt32).toInt32) = (0 : Int32) from by rw [k10_2]; decide), if_pos k10_2], N0, e1⟩ (by decide) (by decide)
  · -- (2 : Int32)
    rw [k10_2]
    obtain ⟨cl5, Ar5, qa5, Sa5, Na5, Ha5, Ga5⟩ := @id _ V0
    have hin5 : ¬ ((2 : Int32) < 0 ∨ cl5.slots.size ≤ ((2 : Int32)).toNatClampNeg) := inb_of Sa5 ⟨by decide, by decide⟩
    have hat5 : cl5.slots[((2 : Int32)).toNatClampNeg]? = some (.ref ad2) := Has.at Ha5 hin5 rfl
    refine OEnds.go (g' := (mkF m 11 #[.val (.int p0)] [(.ref ad2)])) (X1.aaload hx (j := (2 : Int32)) (v := (.ref ad2)) (by rw [e1]; exact Ar5.1) (State.isArrayOf_alike hZ.alike Ar5.2.1) rfl Ar5.2.2 hin5 hat5 (g := (mkF m 10 #[.val (.int p0)] [(.int (2 : Int32)), (.ref arr)])) rfl rfl (hb hby d1_10)) ?_
    exact OEnds.outA X1 Bd.notSynchronized hx Bd.returns rfl rfl (hb hby d1_11) ⟨by show (some (((.ref ad2) : Value)) : Option Value) = some ((f1 p0 ad0 ad1 ad2 ad3 ad4 ad5 ad6 ad7)); rw [f1, if_neg (show ¬ (((p0 &&& (255 : Int32)).toUInt32 >>> ((5 : Int32) &&& 31).toUInt32).toInt32) = (0 : Int32) from by rw [k10_2]; decide), if_neg (show ¬ (((p0 &&& (255 : Int32)).toUInt32 >>> ((5 : Int32) &&& 31).toUInt32).toInt32) = (1 : Int32) from by rw [k10_2]; decide), if_pos k10_2], N0, e1⟩ (by decide) (by decide)
  · -- (3 : Int32)
    rw [k10_2]
    obtain ⟨cl6, Ar6, qa6, Sa6, Na6, Ha6, Ga6⟩ := @id _ V0
    have hin6 : ¬ ((3 : Int32) < 0 ∨ cl6.slots.size ≤ ((3 : Int32)).toNatClampNeg) := inb_of Sa6 ⟨by decide, by decide⟩
    have hat6 : cl6.slots[((3 : Int32)).toNatClampNeg]? = some (.ref ad3) := Has.at Ha6 hin6 rfl
    refine OEnds.go (g' := (mkF m 11 #[.val (.int p0)] [(.ref ad3)])) (X1.aaload hx (j := (3 : Int32)) (v := (.ref ad3)) (by rw [e1]; exact Ar6.1) (State.isArrayOf_alike hZ.alike Ar6.2.1) rfl Ar6.2.2 hin6 hat6 (g := (mkF m 10 #[.val (.int p0)] [(.int (3 : Int32)), (.ref arr)])) rfl rfl (hb hby d1_10)) ?_
    exact OEnds.outA X1 Bd.notSynchronized hx Bd.returns rfl rfl (hb hby d1_11) ⟨by show (some (((.ref ad3) : Value)) : Option Value) = some ((f1 p0 ad0 ad1 ad2 ad3 ad4 ad5 ad6 ad7)); rw [f1, if_neg (show ¬ (((p0 &&& (255 : Int32)).toUInt32 >>> ((5 : Int32) &&& 31).toUInt32).toInt32) = (0 : Int32) from by rw [k10_2]; decide), if_neg (show ¬ (((p0 &&& (255 : Int32)).toUInt32 >>> ((5 : Int32) &&& 31).toUInt32).toInt32) = (1 : Int32) from by rw [k10_2]; decide), if_neg (show ¬ (((p0 &&& (255 : Int32)).toUInt32 >>> ((5 : Int32) &&& 31).toUInt32).toInt32) = (2 : Int32) from by rw [k10_2]; decide), if_pos k10_2], N0, e1⟩ (by decide) (by decide)
  · -- (4 : Int32)
    rw [k10_2]
    obtain ⟨cl7, Ar7, qa7, Sa7, Na7, Ha7, Ga7⟩ := @id _ V0
    have hin7 : ¬ ((4 : Int32) < 0 ∨ cl7.slots.size ≤ ((4 : Int32)).toNatClampNeg) := inb_of Sa7 ⟨by decide, by decide⟩
    have hat7 : cl7.slots[((4 : Int32)).toNatClampNeg]? = some (.ref ad4) := Has.at Ha7 hin7 rfl
    refine OEnds.go (g' := (mkF m 11 #[.val (.int p0)] [(.ref ad4)])) (X1.aaload hx (j := (4 : Int32)) (v := (.ref ad4)) (by rw [e1]; exact Ar7.1) (State.isArrayOf_alike hZ.alike Ar7.2.1) rfl Ar7.2.2 hin7 hat7 (g := (mkF m 10 #[.val (.int p0)] [(.int (4 : Int32)), (.ref arr)])) rfl rfl (hb hby d1_10)) ?_
    exact OEnds.outA X1 Bd.notSynchronized hx Bd.returns rfl rfl (hb hby d1_11) ⟨by show (some (((.ref ad4) : Value)) : Option Value) = some ((f1 p0 ad0 ad1 ad2 ad3 ad4 ad5 ad6 ad7)); rw [f1, if_neg (show ¬ (((p0 &&& (255 : Int32)).toUInt32 >>> ((5 : Int32) &&& 31).toUInt32).toInt32) = (0 : Int32) from by rw [k10_2]; decide), if_neg (show ¬ (((p0 &&& (255 : Int32)).toUInt32 >>> ((5 : Int32) &&& 31).toUInt32).toInt32) = (1 : Int32) from by rw [k10_2]; decide), if_neg (show ¬ (((p0 &&& (255 : Int32)).toUInt32 >>> ((5 : Int32) &&& 31).toUInt32).toInt32) = (2 : Int32) from by rw [k10_2]; decide), if_neg (show ¬ (((p0 &&& (255 : Int32)).toUInt32 >>> ((5 : Int32) &&& 31).toUInt32).toInt32) = (3 : Int32) from by rw [k10_2]; decide), if_pos k10_2], N0, e1⟩ (by decide) (by decide)
  · -- (5 : Int32)
    rw [k10_2]
    obtain ⟨cl8, Ar8, qa8, Sa8, Na8, Ha8, Ga8⟩ := @id _ V0
    have hin8 : ¬ ((5 : Int32) < 0 ∨ cl8.slots.size ≤ ((5 : Int32)).toNatClampNeg) := inb_of Sa8 ⟨by decide, by decide⟩
    have hat8 : cl8.slots[((5 : Int32)).toNatClampNeg]? = some (.ref ad5) := Has.at Ha8 hin8 rfl
    refine OEnds.go (g' := (mkF m 11 #[.val (.int p0)] [(.ref ad5)])) (X1.aaload hx (j := (5 : Int32)) (v := (.ref ad5)) (by rw [e1]; exact Ar8.1) (State.isArrayOf_alike hZ.alike Ar8.2.1) rfl Ar8.2.2 hin8 hat8 (g := (mkF m 10 #[.val (.int p0)] [(.int (5 : Int32)), (.ref arr)])) rfl rfl (hb hby d1_10)) ?_
    exact OEnds.outA X1 Bd.notSynchronized hx Bd.returns rfl rfl (hb hby d1_11) ⟨by show (some (((.ref ad5) : Value)) : Option Value) = some ((f1 p0 ad0 ad1 ad2 ad3 ad4 ad5 ad6 ad7)); rw [f1, if_neg (show ¬ (((p0 &&& (255 : Int32)).toUInt32 >>> ((5 : Int32) &&& 31).toUInt32).toInt32) = (0 : Int32) from by rw [k10_2]; decide), if_neg (show ¬ (((p0 &&& (255 : Int32)).toUInt32 >>> ((5 : Int32) &&& 31).toUInt32).toInt32) = (1 : Int32) from by rw [k10_2]; decide), if_neg (show ¬ (((p0 &&& (255 : Int32)).toUInt32 >>> ((5 : Int32) &&& 31).toUInt32).toInt32) = (2 : Int32) from by rw [k10_2]; decide), if_neg (show ¬ (((p0 &&& (255 : Int32)).toUInt32 >>> ((5 : Int32) &&& 31).toUInt32).toInt32) = (3 : Int32) from by rw [k10_2]; decide), if_neg (show ¬ (((p0 &&& (255 : Int32)).toUInt32 >>> ((5 : Int32) &&& 31).toUInt32).toInt32) = (4 : Int32) from by rw [k10_2]; decide), if_pos k10_2], N0, e1⟩ (by decide) (by decide)
  · -- (6 : Int32)
    rw [k10_2]
    obtain ⟨cl9, Ar9, qa9, Sa9, Na9, Ha9, Ga9⟩ := @id _ V0
    have hin9 : ¬ ((6 : Int32) < 0 ∨ cl9.slots.size ≤ ((6 : Int32)).toNatClampNeg) := inb_of Sa9 ⟨by decide, by decide⟩
    have hat9 : cl9.slots[((6 : Int32)).toNatClampNeg]? = some (.ref ad6) := Has.at Ha9 hin9 rfl
    refine OEnds.go (g' := (mkF m 11 #[.val (.int p0)] [(.ref ad6)])) (X1.aaload hx (j := (6 : Int32)) (v := (.ref ad6)) (by rw [e1]; exact Ar9.1) (State.isArrayOf_alike hZ.alike Ar9.2.1) rfl Ar9.2.2 hin9 hat9 (g := (mkF m 10 #[.val (.int p0)] [(.int (6 : Int32)), (.ref arr)])) rfl rfl (hb hby d1_10)) ?_
    exact OEnds.outA X1 Bd.notSynchronized hx Bd.returns rfl rfl (hb hby d1_11) ⟨by show (some (((.ref ad6) : Value)) : Option Value) = some ((f1 p0 ad0 ad1 ad2 ad3 ad4 ad5 ad6 ad7)); rw [f1, if_neg (show ¬ (((p0 &&& (255 : Int32)).toUInt32 >>> ((5 : Int32) &&& 31).toUInt32).toInt32) = (0 : Int32) from by rw [k10_2]; decide), if_neg (show ¬ (((p0 &&& (255 : Int32)).toUInt32 >>> ((5 : Int32) &&& 31).toUInt32).toInt32) = (1 : Int32) from by rw [k10_2]; decide), if_neg (show ¬ (((p0 &&& (255 : Int32)).toUInt32 >>> ((5 : Int32) &&& 31).toUInt32).toInt32) = (2 : Int32) from by rw [k10_2]; decide), if_neg (show ¬ (((p0 &&& (255 : Int32)).toUInt32 >>> ((5 : Int32) &&& 31).toUInt32).toInt32) = (3 : Int32) from by rw [k10_2]; decide), if_neg (show ¬ (((p0 &&& (255 : Int32)).toUInt32 >>> ((5 : Int32) &&& 31).toUInt32).toInt32) = (4 : Int32) from by rw [k10_2]; decide), if_neg (show ¬ (((p0 &&& (255 : Int32)).toUInt32 >>> ((5 : Int32) &&& 31).toUInt32).toInt32) = (5 : Int32) from by rw [k10_2]; decide), if_pos k10_2], N0, e1⟩ (by decide) (by decide)
  · -- (7 : Int32)
    rw [k10_2]
    obtain ⟨cl10, Ar10, qa10, Sa10, Na10, Ha10, Ga10⟩ := @id _ V0
    have hin10 : ¬ ((7 : Int32) < 0 ∨ cl10.slots.size ≤ ((7 : Int32)).toNatClampNeg) := inb_of Sa10 ⟨by decide, by decide⟩
    have hat10 : cl10.slots[((7 : Int32)).toNatClampNeg]? = some (.ref ad7) := Has.at Ha10 hin10 rfl
    refine OEnds.go (g' := (mkF m 11 #[.val (.int p0)] [(.ref ad7)])) (X1.aaload hx (j := (7 : Int32)) (v := (.ref ad7)) (by rw [e1]; exact Ar10.1) (State.isArrayOf_alike hZ.alike Ar10.2.1) rfl Ar10.2.2 hin10 hat10 (g := (mkF m 10 #[.val (.int p0)] [(.int (7 : Int32)), (.ref arr)])) rfl rfl (hb hby d1_10)) ?_
    exact OEnds.outA X1 Bd.notSynchronized hx Bd.returns rfl rfl (hb hby d1_11) ⟨by show (some (((.ref ad7) : Value)) : Option Value) = some ((f1 p0 ad0 ad1 ad2 ad3 ad4 ad5 ad6 ad7)); rw [f1, if_neg (show ¬ (((p0 &&& (255 : Int32)).toUInt32 >>> ((5 : Int32) &&& 31).toUInt32).toInt32) = (0 : Int32) from by rw [k10_2]; decide), if_neg (show ¬ (((p0 &&& (255 : Int32)).toUInt32 >>> ((5 : Int32) &&& 31).toUInt32).toInt32) = (1 : Int32) from by rw [k10_2]; decide), if_neg (show ¬ (((p0 &&& (255 : Int32)).toUInt32 >>> ((5 : Int32) &&& 31).toUInt32).toInt32) = (2 : Int32) from by rw [k10_2]; decide), if_neg (show ¬ (((p0 &&& (255 : Int32)).toUInt32 >>> ((5 : Int32) &&& 31).toUInt32).toInt32) = (3 : Int32) from by rw [k10_2]; decide), if_neg (show ¬ (((p0 &&& (255 : Int32)).toUInt32 >>> ((5 : Int32) &&& 31).toUInt32).toInt32) = (4 : Int32) from by rw [k10_2]; decide), if_neg (show ¬ (((p0 &&& (255 : Int32)).toUInt32 >>> ((5 : Int32) &&& 31).toUInt32).toInt32) = (5 : Int32) from by rw [k10_2]; decide), if_neg (show ¬ (((p0 &&& (255 : Int32)).toUInt32 >>> ((5 : Int32) &&& 31).toUInt32).toInt32) = (6 : Int32) from by rw [k10_2]; decide)], N0, e1⟩ (by decide) (by decide)
theorem ef_rm2 (m : MethodId) (x0 : Int32) : entryFrame m #[(.int x0)] 1 = mkF m 0 #[.val (.int x0)] [] := by first | (simp [entryFrame, mkF, argsToLocals, Value.category]; done) | rfl
def f2 (p0 : Int32) (ad0 : Addr) (ad1 : Addr) (ad2 : Addr) (ad3 : Addr) (ad4 : Addr) (ad5 : Addr) (ad6 : Addr) (ad7 : Addr) : Value := if p0 < (128 : Int32) then if p0 < (64 : Int32) then if p0 < (32 : Int32) then (.ref ad0) else (.ref ad1) else if p0 < (96 : Int32) then (.ref ad2) else (.ref ad3) else if p0 < (192 : Int32) then if p0 < (160 : Int32) then (.ref ad4) else (.ref ad5) else if p0 < (224 : Int32) then (.ref ad6) else (.ref ad7)
def Q_rm2 (Z : State) (p0 : Int32) (ad0 : Addr) (ad1 : Addr) (ad2 : Addr) (ad3 : Addr) (ad4 : Addr) (ad5 : Addr) (ad6 : Addr) (ad7 : Addr) (h0 : Heap) (n0 : Nat) (v : Option Value) (h : Heap) (L : List Loc) : Prop := v = some ((f2 p0 ad0 ad1 ad2 ad3 ad4 ad5 ad6 ad7)) ∧ Fr n0 L ∧ h = h0
set_option maxRecDepth 65536 in
set_option maxHeartbeats 40000000 in
theorem rm2 (l : Launch) (Z : State) (a0 : Array Value) (hw : ∀ d ∈ tables_1, d.before a0 Z = true) (ws : List Jvm.Cond) (p0 : Int32) (ad0 : Addr) (ad1 : Addr) (ad2 : Addr) (ad3 : Addr) (ad4 : Addr) (ad5 : Addr) (ad6 : Addr) (ad7 : Addr) (h0 : Heap) (n0 : Nat) (Z0 : n0 ≤ h0.size) (S0 : Sta Z h0 "com/example/chronotag/chronotag/cbor/MajorType" "UNSIGNED_INTEGER" "Lcom/example/chronotag/chronotag/cbor/MajorType;" (.ref ad0)) (S1 : Sta Z h0 "com/example/chronotag/chronotag/cbor/MajorType" "NEGATIVE_INTEGER" "Lcom/example/chronotag/chronotag/cbor/MajorType;" (.ref ad1)) (S2 : Sta Z h0 "com/example/chronotag/chronotag/cbor/MajorType" "BYTE_STRING" "Lcom/example/chronotag/chronotag/cbor/MajorType;" (.ref ad2)) (S3 : Sta Z h0 "com/example/chronotag/chronotag/cbor/MajorType" "TEXT_STRING" "Lcom/example/chronotag/chronotag/cbor/MajorType;" (.ref ad3)) (S4 : Sta Z h0 "com/example/chronotag/chronotag/cbor/MajorType" "ARRAY" "Lcom/example/chronotag/chronotag/cbor/MajorType;" (.ref ad4)) (S5 : Sta Z h0 "com/example/chronotag/chronotag/cbor/MajorType" "MAP" "Lcom/example/chronotag/chronotag/cbor/MajorType;" (.ref ad5)) (S6 : Sta Z h0 "com/example/chronotag/chronotag/cbor/MajorType" "TAG" "Lcom/example/chronotag/chronotag/cbor/MajorType;" (.ref ad6)) (S7 : Sta Z h0 "com/example/chronotag/chronotag/cbor/MajorType" "SIMPLE_OR_FLOAT" "Lcom/example/chronotag/chronotag/cbor/MajorType;" (.ref ad7)) :
    MetFree l (⟨"com/example/chronotag/chronotag/cbor/MajorTypeOfInitialBytePinLaw", "expected", "(I)Lcom/example/chronotag/chronotag/cbor/MajorType;"⟩ : MethodName) (head1 (Jvm.Cond.code (⟨"com/example/chronotag/chronotag/cbor/MajorTypeOfInitialBytePinLaw", "expected", "(I)Lcom/example/chronotag/chronotag/cbor/MajorType;"⟩ : MethodName) method_2_code 1 (some (.object "com/example/chronotag/chronotag/cbor/MajorType")) :: ws) ({ frames := 0, cells := 0, slots := 0, locals := 0 } : Room)) (fun aa_ U => aa_ = #[(.int p0)] ∧ Z.Warmed39 U.vm ∧ U.heap = h0) (fun _ _ _ _ _ => True) (fun _ U o U' => ∃ v L, o = .returned v ∧ Q_rm2 Z p0 ad0 ad1 ad2 ad3 ad4 ad5 ad6 ad7 h0 n0 v U'.heap L ∧ FrameEnd U o U' L ({ frames := 0, cells := 0, slots := 0, locals := 0 } : Room).cells ({ frames := 0, cells := 0, slots := 0, locals := 0 } : Room).slots) := by
  refine MetFree.of_bodySF (plainFor_of_name pn_1) hisR ?_
  intro p e s m args below meth c s₁ Bd hml0 hP hK
  obtain ⟨rfl, hZ, hh⟩ := hP
  have hx := Bd.exec
  have hby := Bd.bytes
  have hml : c.maxLocals = 1 := hml0
  have hown : s.vm.findClass "com/example/chronotag/chronotag/cbor/MajorTypeOfInitialBytePinLaw" = some m.cls := findClass_of_methodNamed Bd.named
  have hnm := (name_of_methodNamed Bd.named Bd.method).1
  have X0 : Stand p l e ({ frames := 0, cells := 0, slots := 0, locals := 0 } : Room) s m #[(.int p0)] below meth c s₁ [] 0 0 := Stand.of_body Bd
  have e0 : s₁.heap = h0 := by rw [← hh, Bd.state]; rfl
  have N0 := Fr.nil n0
  show OEnds p e below (OEndP s (Q_rm2 Z p0 ad0 ad1 ad2 ad3 ad4 ad5 ad6 ad7 h0 n0) ({ frames := 0, cells := 0, slots := 0, locals := 0 } : Room).cells ({ frames := 0, cells := 0, slots := 0, locals := 0 } : Room).slots) s₁ (entryFrame m #[(.int p0)] 1)
  rw [ef_rm2 m p0]
  refine OEnds.go (g' := (mkF m 1 #[.val (.int p0)] [(.int p0)])) (fun t k => XS.iloadN X0.here hx rfl (hb hby d2_0) rfl k) ?_
  refine OEnds.go (g' := (mkF m 4 #[.val (.int p0)] [(.int (128 : Int32)), (.int p0)])) (fun t k => XS.sipush X0.here hx rfl (hb hby d2_1) k) ?_
  by_cases c4_1 : p0 < (128 : Int32)
  · -- yes
    refine OEnds.go (g' := (mkF m 7 #[.val (.int p0)] [])) (fun t k => XS.icmpNo X0.here hx rfl (hb hby d2_4) rfl (tlt c4_1).2.1 k) ?_
    refine OEnds.go (g' := (mkF m 8 #[.val (.int p0)] [(.int p0)])) (fun t k => XS.iloadN X0.here hx rfl (hb hby d2_7) rfl k) ?_
    refine OEnds.go (g' := (mkF m 10 #[.val (.int p0)] [(.int (64 : Int32)), (.int p0)])) (fun t k => XS.bipush X0.here hx rfl (hb hby d2_8) k) ?_
    by_cases c10_2 : p0 < (64 : Int32)
    · -- yes
      refine OEnds.go (g' := (mkF m 13 #[.val (.int p0)] [])) (fun t k => XS.icmpNo X0.here hx rfl (hb hby d2_10) rfl (tlt c10_2).2.1 k) ?_
      refine OEnds.go (g' := (mkF m 14 #[.val (.int p0)] [(.int p0)])) (fun t k => XS.iloadN X0.here hx rfl (hb hby d2_13) rfl k) ?_
      refine OEnds.go (g' := (mkF m 16 #[.val (.int p0)] [(.int (32 : Int32)), (.int p0)])) (fun t k => XS.bipush X0.here hx rfl (hb hby d2_14) k) ?_
      by_cases c16_3 : p0 < (32 : Int32)
      · -- yes
        refine OEnds.go (g' := (mkF m 19 #[.val (.int p0)] [])) (fun t k => XS.icmpNo X0.here hx rfl (hb hby d2_16) rfl (tlt c16_3).2.1 k) ?_
        obtain ⟨T4, X4, e4, st4⟩ := getS2 X0 hx hZ hown (host := "") (Or.inl (hw _ (List.mem_of_getElem? (i := 11) rfl))) Via.refl e0 S0 (g := (mkF m 19 #[.val (.int p0)] [])) rfl (hb hby d2_19)
        refine OEnds.go (g' := (mkF m 22 #[.val (.int p0)] [(.ref ad0)])) st4 ?_
        exact OEnds.outA X4 Bd.notSynchronized hx Bd.returns rfl rfl (hb hby d2_22) ⟨by show (some (((.ref ad0) : Value)) : Option Value) = some ((f2 p0 ad0 ad1 ad2 ad3 ad4 ad5 ad6 ad7)); rw [f2, if_pos c4_1, if_pos c10_2, if_pos c16_3], N0, e4⟩ (by decide) (by decide)
      · -- no
        refine OEnds.go (g' := (mkF m 23 #[.val (.int p0)] [])) (fun t k => XS.icmpYes X0.here hx rfl (pc0 := 16) (pc' := 23) rfl (hb hby d2_16) rfl (flt c16_3).2.1 (by decide) (by decide) k) ?_
        obtain ⟨T5, X5, e5, st5⟩ := getS2 X0 hx hZ hown (host := "") (Or.inl (hw _ (List.mem_of_getElem? (i := 23) rfl))) Via.refl e0 S1 (g := (mkF m 23 #[.val (.int p0)] [])) rfl (hb hby d2_23)
        refine OEnds.go (g' := (mkF m 26 #[.val (.int p0)] [(.ref ad1)])) st5 ?_
        exact OEnds.outA X5 Bd.notSynchronized hx Bd.returns rfl rfl (hb hby d2_26) ⟨by show (some (((.ref ad1) : Value)) : Option Value) = some ((f2 p0 ad0 ad1 ad2 ad3 ad4 ad5 ad6 ad7)); rw [f2, if_pos c4_1, if_pos c10_2, if_neg c16_3], N0, e5⟩ (by decide) (by decide)
    · -- no
      refine OEnds.go (g' := (mkF m 27 #[.val (.int p0)] [])) (fun t k => XS.icmpYes X0.here hx rfl (pc0 := 10) (pc' := 27) rfl (hb hby d2_10) rfl (flt c10_2).2.1 (by decide) (by decide) k) ?_
      refine OEnds.go (g' := (mkF m 28 #[.val (.int p0)] [(.int p0)])) (fun t k => XS.iloadN X0.here hx rfl (hb hby d2_27) rfl k) ?_
      refine OEnds.go (g' := (mkF m 30 #[.val (.int p0)] [(.int (96 : Int32)), (.int p0)])) (fun t k => XS.bipush X0.here hx rfl (hb hby d2_28) k) ?_
      by_cases c30_6 : p0 < (96 : Int32)
      · -- yes
        refine OEnds.go (g' := (mkF m 33 #[.val (.int p0)] [])) (fun t k => XS.icmpNo X0.here hx rfl (hb hby d2_30) rfl (tlt c30_6).2.1 k) ?_
        obtain ⟨T7, X7, e7, st7⟩ := getS2 X0 hx hZ hown (host := "") (Or.inl (hw _ (List.mem_of_getElem? (i := 17) rfl))) Via.refl e0 S2 (g := (mkF m 33 #[.val (.int p0)] [])) rfl (hb hby d2_33)
        refine OEnds.go (g' := (mkF m 36 #[.val (.int p0)] [(.ref ad2)])) st7 ?_
        exact OEnds.outA X7 Bd.notSynchronized hx Bd.returns rfl rfl (hb hby d2_36) ⟨by show (some (((.ref ad2) : Value)) : Option Value) = some ((f2 p0 ad0 ad1 ad2 ad3 ad4 ad5 ad6 ad7)); rw [f2, if_pos c4_1, if_neg c10_2, if_pos c30_6], N0, e7⟩ (by decide) (by decide)
      · -- no
        refine OEnds.go (g' := (mkF m 37 #[.val (.int p0)] [])) (fun t k => XS.icmpYes X0.here hx rfl (pc0 := 30) (pc' := 37) rfl (hb hby d2_30) rfl (flt c30_6).2.1 (by decide) (by decide) k) ?_
        obtain ⟨T8, X8, e8, st8⟩ := getS2 X0 hx hZ hown (host := "") (Or.inl (hw _ (List.mem_of_getElem? (i := 13) rfl))) Via.refl e0 S3 (g := (mkF m 37 #[.val (.int p0)] [])) rfl (hb hby d2_37)
        refine OEnds.go (g' := (mkF m 40 #[.val (.int p0)] [(.ref ad3)])) st8 ?_
        exact OEnds.outA X8 Bd.notSynchronized hx Bd.returns rfl rfl (hb hby d2_40) ⟨by show (some (((.ref ad3) : Value)) : Option Value) = some ((f2 p0 ad0 ad1 ad2 ad3 ad4 ad5 ad6 ad7)); rw [f2, if_pos c4_1, if_neg c10_2, if_neg c30_6], N0, e8⟩ (by decide) (by decide)
  · -- no
    refine OEnds.go (g' := (mkF m 41 #[.val (.int p0)] [])) (fun t k => XS.icmpYes X0.here hx rfl (pc0 := 4) (pc' := 41) rfl (hb hby d2_4) rfl (flt c4_1).2.1 (by decide) (by decide) k) ?_
    refine OEnds.go (g' := (mkF m 42 #[.val (.int p0)] [(.int p0)])) (fun t k => XS.iloadN X0.here hx rfl (hb hby d2_41) rfl k) ?_
    refine OEnds.go (g' := (mkF m 45 #[.val (.int p0)] [(.int (192 : Int32)), (.int p0)])) (fun t k => XS.sipush X0.here hx rfl (hb hby d2_42) k) ?_
    by_cases c45_9 : p0 < (192 : Int32)
    · -- yes
      refine OEnds.go (g' := (mkF m 48 #[.val (.int p0)] [])) (fun t k => XS.icmpNo X0.here hx rfl (hb hby d2_45) rfl (tlt c45_9).2.1 k) ?_
      refine OEnds.go (g' := (mkF m 49 #[.val (.int p0)] [(.int p0)])) (fun t k => XS.iloadN X0.here hx rfl (hb hby d2_48) rfl k) ?_
      refine OEnds.go (g' := (mkF m 52 #[.val (.int p0)] [(.int (160 : Int32)), (.int p0)])) (fun t k => XS.sipush X0.here hx rfl (hb hby d2_49) k) ?_
      by_cases c52_10 : p0 < (160 : Int32)
      · -- yes
        refine OEnds.go (g' := (mkF m 55 #[.val (.int p0)] [])) (fun t k => XS.icmpNo X0.here hx rfl (hb hby d2_52) rfl (tlt c52_10).2.1 k) ?_
        obtain ⟨T11, X11, e11, st11⟩ := getS2 X0 hx hZ hown (host := "") (Or.inl (hw _ (List.mem_of_getElem? (i := 25) rfl))) Via.refl e0 S4 (g := (mkF m 55 #[.val (.int p0)] [])) rfl (hb hby d2_55)
        refine OEnds.go (g' := (mkF m 58 #[.val (.int p0)] [(.ref ad4)])) st11 ?_
        exact OEnds.outA X11 Bd.notSynchronized hx Bd.returns rfl rfl (hb hby d2_58) ⟨by show (some (((.ref ad4) : Value)) : Option Value) = some ((f2 p0 ad0 ad1 ad2 ad3 ad4 ad5 ad6 ad7)); rw [f2, if_neg c4_1, if_pos c45_9, if_pos c52_10], N0, e11⟩ (by decide) (by decide)
      · -- no
        refine OEnds.go (g' := (mkF m 59 #[.val (.int p0)] [])) (fun t k => XS.icmpYes X0.here hx rfl (pc0 := 52) (pc' := 59) rfl (hb hby d2_52) rfl (flt c52_10).2.1 (by decide) (by decide) k) ?_
        obtain ⟨T12, X12, e12, st12⟩ := getS2 X0 hx hZ hown (host := "") (Or.inl (hw _ (List.mem_of_getElem? (i := 21) rfl))) Via.refl e0 S5 (g := (mkF m 59 #[.val (.int p0)] [])) rfl (hb hby d2_59)
        refine OEnds.go (g' := (mkF m 62 #[.val (.int p0)] [(.ref ad5)])) st12 ?_
        exact OEnds.outA X12 Bd.notSynchronized hx Bd.returns rfl rfl (hb hby d2_62) ⟨by show (some (((.ref ad5) : Value)) : Option Value) = some ((f2 p0 ad0 ad1 ad2 ad3 ad4 ad5 ad6 ad7)); rw [f2, if_neg c4_1, if_pos c45_9, if_neg c52_10], N0, e12⟩ (by decide) (by decide)
    · -- no
      refine OEnds.go (g' := (mkF m 63 #[.val (.int p0)] [])) (fun t k => XS.icmpYes X0.here hx rfl (pc0 := 45) (pc' := 63) rfl (hb hby d2_45) rfl (flt c45_9).2.1 (by decide) (by decide) k) ?_
      refine OEnds.go (g' := (mkF m 64 #[.val (.int p0)] [(.int p0)])) (fun t k => XS.iloadN X0.here hx rfl (hb hby d2_63) rfl k) ?_
      refine OEnds.go (g' := (mkF m 67 #[.val (.int p0)] [(.int (224 : Int32)), (.int p0)])) (fun t k => XS.sipush X0.here hx rfl (hb hby d2_64) k) ?_
      by_cases c67_13 : p0 < (224 : Int32)
      · -- yes
        refine OEnds.go (g' := (mkF m 70 #[.val (.int p0)] [])) (fun t k => XS.icmpNo X0.here hx rfl (hb hby d2_67) rfl (tlt c67_13).2.1 k) ?_
        obtain ⟨T14, X14, e14, st14⟩ := getS2 X0 hx hZ hown (host := "") (Or.inl (hw _ (List.mem_of_getElem? (i := 19) rfl))) Via.refl e0 S6 (g := (mkF m 70 #[.val (.int p0)] [])) rfl (hb hby d2_70)
        refine OEnds.go (g' := (mkF m 73 #[.val (.int p0)] [(.ref ad6)])) st14 ?_
        exact OEnds.outA X14 Bd.notSynchronized hx Bd.returns rfl rfl (hb hby d2_73) ⟨by show (some (((.ref ad6) : Value)) : Option Value) = some ((f2 p0 ad0 ad1 ad2 ad3 ad4 ad5 ad6 ad7)); rw [f2, if_neg c4_1, if_neg c45_9, if_pos c67_13], N0, e14⟩ (by decide) (by decide)
      · -- no
        refine OEnds.go (g' := (mkF m 74 #[.val (.int p0)] [])) (fun t k => XS.icmpYes X0.here hx rfl (pc0 := 67) (pc' := 74) rfl (hb hby d2_67) rfl (flt c67_13).2.1 (by decide) (by decide) k) ?_
        obtain ⟨T15, X15, e15, st15⟩ := getS2 X0 hx hZ hown (host := "") (Or.inl (hw _ (List.mem_of_getElem? (i := 15) rfl))) Via.refl e0 S7 (g := (mkF m 74 #[.val (.int p0)] [])) rfl (hb hby d2_74)
        refine OEnds.go (g' := (mkF m 77 #[.val (.int p0)] [(.ref ad7)])) st15 ?_
        exact OEnds.outA X15 Bd.notSynchronized hx Bd.returns rfl rfl (hb hby d2_77) ⟨by show (some (((.ref ad7) : Value)) : Option Value) = some ((f2 p0 ad0 ad1 ad2 ad3 ad4 ad5 ad6 ad7)); rw [f2, if_neg c4_1, if_neg c45_9, if_neg c67_13], N0, e15⟩ (by decide) (by decide)
theorem own_ref1 (x : Int32) (ad0 ad1 ad2 ad3 ad4 ad5 ad6 ad7 : Addr) : (f1 x ad0 ad1 ad2 ad3 ad4 ad5 ad6 ad7).isRef = true := by
  unfold f1
  repeat' split
  all_goals rfl
theorem own_ref2 (x : Int32) (ad0 ad1 ad2 ad3 ad4 ad5 ad6 ad7 : Addr) : (f2 x ad0 ad1 ad2 ad3 ad4 ad5 ad6 ad7).isRef = true := by
  unfold f2
  repeat' split
  all_goals rfl
theorem ef_rm0 (m : MethodId) (x0 : Int32) : entryFrame m #[(.int x0)] maxLocals = mkF m 0 #[.val (.int x0), .unset, .unset, .unset] [] := by first | (simp [entryFrame, mkF, argsToLocals, Value.category, maxLocals]; done) | rfl
def Q_rm0 (Z : State) (p0 : Int32) (arr : Addr) (kk : ClassId) (ad0 : Addr) (ad1 : Addr) (ad2 : Addr) (ad3 : Addr) (ad4 : Addr) (ad5 : Addr) (ad6 : Addr) (ad7 : Addr) (h0 : Heap) (n0 : Nat) (v : Option Value) (h : Heap) (L : List Loc) : Prop := v = some (.int 1) ∧ Fr n0 L
def f0 (p0 : Int32) (arr : Addr) (kk : ClassId) (ad0 : Addr) (ad1 : Addr) (ad2 : Addr) (ad3 : Addr) (ad4 : Addr) (ad5 : Addr) (ad6 : Addr) (ad7 : Addr) : Int32 := if ((f1 (p0.toInt8.toInt32) ad0 ad1 ad2 ad3 ad4 ad5 ad6 ad7) : Value) = ((f2 (p0 &&& (255 : Int32)) ad0 ad1 ad2 ad3 ad4 ad5 ad6 ad7) : Value) then (1 : Int32) else (0 : Int32)
def own_sel (ad0 ad1 ad2 ad3 ad4 ad5 ad6 ad7 : Addr) : Value → Value
  | .ref 0 => .ref ad0
  | .ref 1 => .ref ad1
  | .ref 2 => .ref ad2
  | .ref 3 => .ref ad3
  | .ref 4 => .ref ad4
  | .ref 5 => .ref ad5
  | .ref 6 => .ref ad6
  | .ref 7 => .ref ad7
  | _ => .null
theorem own_s1 (x : Int32) (ad0 ad1 ad2 ad3 ad4 ad5 ad6 ad7 : Addr) : f1 x ad0 ad1 ad2 ad3 ad4 ad5 ad6 ad7 = own_sel ad0 ad1 ad2 ad3 ad4 ad5 ad6 ad7 (f1 x 0 1 2 3 4 5 6 7) := by
  unfold f1
  repeat' split
  all_goals rfl
theorem own_s2 (x : Int32) (ad0 ad1 ad2 ad3 ad4 ad5 ad6 ad7 : Addr) : f2 x ad0 ad1 ad2 ad3 ad4 ad5 ad6 ad7 = own_sel ad0 ad1 ad2 ad3 ad4 ad5 ad6 ad7 (f2 x 0 1 2 3 4 5 6 7) := by
  unfold f2
  repeat' split
  all_goals rfl
theorem own_m (x : Int32) : x.toInt8.toInt32 &&& (255 : Int32) = x &&& (255 : Int32) := by
  apply Int32.toInt_inj.mp
  have h1 := c_mask x 255 8 (by decide) (by decide)
  have h2 := c_mask x.toInt8.toInt32 255 8 (by decide) (by decide)
  have h3 := c_i2b x
  omega
theorem own_eq (x : Int32) (ad0 ad1 ad2 ad3 ad4 ad5 ad6 ad7 : Addr) : f1 (x.toInt8.toInt32) ad0 ad1 ad2 ad3 ad4 ad5 ad6 ad7 = f2 (x &&& 255) ad0 ad1 ad2 ad3 ad4 ad5 ad6 ad7 := by
  have h1 := c_mask x 255 8 (by decide) (by decide)
  rw [own_s1, own_s2]
  refine congrArg _ ?_
  rw [f1, own_m]
  generalize x &&& (255 : Int32) = z at h1
  apply own_fin' 256 z <;> first | omega | decide +kernel
theorem own_law (x : Int32) (arr : Addr) (kk : ClassId) (ad0 ad1 ad2 ad3 ad4 ad5 ad6 ad7 : Addr) : f0 x arr kk ad0 ad1 ad2 ad3 ad4 ad5 ad6 ad7 = 1 := by
  rw [f0, if_pos (own_eq x ad0 ad1 ad2 ad3 ad4 ad5 ad6 ad7)]
set_option maxRecDepth 65536 in
set_option maxHeartbeats 40000000 in
theorem rm0 (l : Launch) (Z : State) (a0 : Array Value) (hw : ∀ d ∈ tables_1, d.before a0 Z = true) (ws : List Jvm.Cond) (p0 : Int32) (arr : Addr) (kk : ClassId) (ad0 : Addr) (ad1 : Addr) (ad2 : Addr) (ad3 : Addr) (ad4 : Addr) (ad5 : Addr) (ad6 : Addr) (ad7 : Addr) (h0 : Heap) (n0 : Nat) (Z0 : n0 ≤ h0.size) (SB : Sta Z h0 "com/example/chronotag/chronotag/cbor/MajorType" "BY_NUMBER" "[Lcom/example/chronotag/chronotag/cbor/MajorType;" (.ref arr)) (V0 : Arv Z h0 arr kk (.object "com/example/chronotag/chronotag/cbor/MajorType") (8 : Int32) [(.ref ad0), (.ref ad1), (.ref ad2), (.ref ad3), (.ref ad4), (.ref ad5), (.ref ad6), (.ref ad7)] .null) (S0 : Sta Z h0 "com/example/chronotag/chronotag/cbor/MajorType" "UNSIGNED_INTEGER" "Lcom/example/chronotag/chronotag/cbor/MajorType;" (.ref ad0)) (S1 : Sta Z h0 "com/example/chronotag/chronotag/cbor/MajorType" "NEGATIVE_INTEGER" "Lcom/example/chronotag/chronotag/cbor/MajorType;" (.ref ad1)) (S2 : Sta Z h0 "com/example/chronotag/chronotag/cbor/MajorType" "BYTE_STRING" "Lcom/example/chronotag/chronotag/cbor/MajorType;" (.ref ad2)) (S3 : Sta Z h0 "com/example/chronotag/chronotag/cbor/MajorType" "TEXT_STRING" "Lcom/example/chronotag/chronotag/cbor/MajorType;" (.ref ad3)) (S4 : Sta Z h0 "com/example/chronotag/chronotag/cbor/MajorType" "ARRAY" "Lcom/example/chronotag/chronotag/cbor/MajorType;" (.ref ad4)) (S5 : Sta Z h0 "com/example/chronotag/chronotag/cbor/MajorType" "MAP" "Lcom/example/chronotag/chronotag/cbor/MajorType;" (.ref ad5)) (S6 : Sta Z h0 "com/example/chronotag/chronotag/cbor/MajorType" "TAG" "Lcom/example/chronotag/chronotag/cbor/MajorType;" (.ref ad6)) (S7 : Sta Z h0 "com/example/chronotag/chronotag/cbor/MajorType" "SIMPLE_OR_FLOAT" "Lcom/example/chronotag/chronotag/cbor/MajorType;" (.ref ad7)) :
    MetFree l x (head1 (Jvm.Cond.code x code maxLocals ret :: ws) room_1) (fun aa_ U => aa_ = #[(.int p0)] ∧ Z.Warmed39 U.vm ∧ U.heap = h0) (fun _ _ _ _ _ => True) (fun _ U o U' => ∃ v L, o = .returned v ∧ Q_rm0 Z p0 arr kk ad0 ad1 ad2 ad3 ad4 ad5 ad6 ad7 h0 n0 v U'.heap L ∧ FrameEnd U o U' L room_1.cells room_1.slots) := by
  refine MetFree.of_bodySF (plainFor_of_name pn_1) hisR ?_
  intro p e s m args below meth c s₁ Bd hml0 hP hK
  obtain ⟨rfl, hZ, hh⟩ := hP
  have hx := Bd.exec
  have hby := Bd.bytes
  have hml : c.maxLocals = 4 := hml0
  have hown : s.vm.findClass "com/example/chronotag/chronotag/cbor/MajorTypeOfInitialBytePinLaw" = some m.cls := findClass_of_methodNamed Bd.named
  have hnm := (name_of_methodNamed Bd.named Bd.method).1
  have X0 : Stand p l e room_1 s m #[(.int p0)] below meth c s₁ [] 0 0 := Stand.of_body Bd
  have e0 : s₁.heap = h0 := by rw [← hh, Bd.state]; rfl
  have N0 := Fr.nil n0
  show OEnds p e below (OEndP s (Q_rm0 Z p0 arr kk ad0 ad1 ad2 ad3 ad4 ad5 ad6 ad7 h0 n0) room_1.cells room_1.slots) s₁ (entryFrame m #[(.int p0)] maxLocals)
  rw [ef_rm0 m p0]
  refine OEnds.go (g' := (mkF m 1 #[.val (.int p0), .unset, .unset, .unset] [(.int p0)])) (fun t k => XS.iloadN X0.here hx rfl (hb hby at_0) rfl k) ?_
  refine OEnds.go (g' := (mkF m 2 #[.val (.int p0), .unset, .unset, .unset] [(.int (p0.toInt8.toInt32))])) (fun t k => XS.i2b X0.here hx rfl (hb hby at_1) rfl k) ?_
  refine OEnds.go (g' := (mkF m 3 #[.val (.int p0), .val (.int (p0.toInt8.toInt32)), .unset, .unset] [])) (fun t k => XS.istoreN X0.here hx rfl (hb hby at_2) rfl (l' := #[.val (.int p0), .val (.int (p0.toInt8.toInt32)), .unset, .unset]) rfl k) ?_
  refine OEnds.go (g' := (mkF m 4 #[.val (.int p0), .val (.int (p0.toInt8.toInt32)), .unset, .unset] [(.int p0)])) (fun t k => XS.iloadN X0.here hx rfl (hb hby at_3) rfl k) ?_
  refine OEnds.go (g' := (mkF m 7 #[.val (.int p0), .val (.int (p0.toInt8.toInt32)), .unset, .unset] [(.int (255 : Int32)), (.int p0)])) (fun t k => XS.sipush X0.here hx rfl (hb hby at_4) k) ?_
  refine OEnds.go (g' := (mkF m 8 #[.val (.int p0), .val (.int (p0.toInt8.toInt32)), .unset, .unset] [(.int (p0 &&& (255 : Int32)))])) (fun t k => XS.iand X0.here hx rfl (hb hby at_7) rfl k) ?_
  refine OEnds.go (g' := (mkF m 9 #[.val (.int p0), .val (.int (p0.toInt8.toInt32)), .val (.int (p0 &&& (255 : Int32))), .unset] [])) (fun t k => XS.istoreN X0.here hx rfl (hb hby at_8) rfl (l' := #[.val (.int p0), .val (.int (p0.toInt8.toInt32)), .val (.int (p0 &&& (255 : Int32))), .unset]) rfl k) ?_
  refine OEnds.go (g' := (mkF m 10 #[.val (.int p0), .val (.int (p0.toInt8.toInt32)), .val (.int (p0 &&& (255 : Int32))), .unset] [(.int (p0.toInt8.toInt32))])) (fun t k => XS.iloadN X0.here hx rfl (hb hby at_9) rfl k) ?_
  obtain ⟨_, _, ⟨T1, L1, k1, n1⟩, -, X1, ⟨Lc1, hQ1, l1, y1, z1⟩, st1⟩ := Jvm.LawKit.callS X0 hx (y := (⟨"com/example/chronotag/chronotag/cbor/MajorType", "ofInitialByte", "(B)Lcom/example/chronotag/chronotag/cbor/MajorType;"⟩ : MethodName)) hown (mvT hZ (hw _ (List.mem_of_getElem? (i := 0) rfl))) (mvT hZ (hw _ (List.mem_of_getElem? (i := 1) rfl))) (mvT hZ (hw _ (List.mem_of_getElem? (i := 2) rfl))) (mvT hZ (hw _ (List.mem_of_getElem? (i := 3) rfl))) (by decide) (backOf (W := 0) (rm1 l Z a0 hw [] (p0.toInt8.toInt32) arr kk ad0 ad1 ad2 ad3 ad4 ad5 ad6 ad7 h0 n0 Z0 SB V0) hZ (hw _ (List.mem_of_getElem? (i := 3) rfl)) (hw _ (List.mem_of_getElem? (i := 2) rfl)) (by decide) (by decide)) (g := (mkF m 10 #[.val (.int p0), .val (.int (p0.toInt8.toInt32)), .val (.int (p0 &&& (255 : Int32))), .unset] [(.int (p0.toInt8.toInt32))])) rfl (by rw [hml]; rfl) (argsL := [(.int (p0.toInt8.toInt32))]) (rest := []) (lenOf pd_0 rfl) rfl (by show 2 * 0 + _ ≤ _; exact Nat.le_of_eq rfl) (hb hby at_10) (fun _ _ => ⟨rfl, e0, (by decide : 0 + 0 ≤ _), (by decide : 0 + 0 ≤ _)⟩)
  dsimp only [Pt.U, Pt.locs, Pt.cells, Pt.slots] at X1 l1 y1 z1 st1 hQ1
  subst l1 y1 z1
  obtain ⟨rfl, N1q, e1⟩ := hQ1
  have N1 := Fr.app N0 N1q
  refine OEnds.go (g' := (mkF m 13 #[.val (.int p0), .val (.int (p0.toInt8.toInt32)), .val (.int (p0 &&& (255 : Int32))), .unset] [(f1 (p0.toInt8.toInt32) ad0 ad1 ad2 ad3 ad4 ad5 ad6 ad7)])) st1 ?_
  refine OEnds.go (g' := (mkF m 14 #[.val (.int p0), .val (.int (p0.toInt8.toInt32)), .val (.int (p0 &&& (255 : Int32))), .val (f1 (p0.toInt8.toInt32) ad0 ad1 ad2 ad3 ad4 ad5 ad6 ad7)] [])) (fun t k => XS.astoreN X1.here hx rfl (hb hby at_13) rfl (own_ref1 (p0.toInt8.toInt32) ad0 ad1 ad2 ad3 ad4 ad5 ad6 ad7) (l' := #[.val (.int p0), .val (.int (p0.toInt8.toInt32)), .val (.int (p0 &&& (255 : Int32))), .val (f1 (p0.toInt8.toInt32) ad0 ad1 ad2 ad3 ad4 ad5 ad6 ad7)]) (XS.store1 rfl (Or.inl rfl) (own_cat (own_ref1 (p0.toInt8.toInt32) ad0 ad1 ad2 ad3 ad4 ad5 ad6 ad7))) k) ?_
  refine OEnds.go (g' := (mkF m 15 #[.val (.int p0), .val (.int (p0.toInt8.toInt32)), .val (.int (p0 &&& (255 : Int32))), .val (f1 (p0.toInt8.toInt32) ad0 ad1 ad2 ad3 ad4 ad5 ad6 ad7)] [(f1 (p0.toInt8.toInt32) ad0 ad1 ad2 ad3 ad4 ad5 ad6 ad7)])) (fun t k => XS.aloadN X1.here hx rfl (hb hby at_14) rfl (own_ref1 (p0.toInt8.toInt32) ad0 ad1 ad2 ad3 ad4 ad5 ad6 ad7) k) ?_
  refine OEnds.go (g' := (mkF m 16 #[.val (.int p0), .val (.int (p0.toInt8.toInt32)), .val (.int (p0 &&& (255 : Int32))), .val (f1 (p0.toInt8.toInt32) ad0 ad1 ad2 ad3 ad4 ad5 ad6 ad7)] [(.int (p0 &&& (255 : Int32))), (f1 (p0.toInt8.toInt32) ad0 ad1 ad2 ad3 ad4 ad5 ad6 ad7)])) (fun t k => XS.iloadN X1.here hx rfl (hb hby at_15) rfl k) ?_
  obtain ⟨_, _, ⟨T2, L2, k2, n2⟩, -, X2, ⟨Lc2, hQ2, l2, y2, z2⟩, st2⟩ := Jvm.LawKit.callS X1 hx (y := (⟨"com/example/chronotag/chronotag/cbor/MajorTypeOfInitialBytePinLaw", "expected", "(I)Lcom/example/chronotag/chronotag/cbor/MajorType;"⟩ : MethodName)) hown (mvT hZ (hw _ (List.mem_of_getElem? (i := 7) rfl))) (mvT hZ (hw _ (List.mem_of_getElem? (i := 8) rfl))) (mvT hZ (hw _ (List.mem_of_getElem? (i := 9) rfl))) (mvT hZ (hw _ (List.mem_of_getElem? (i := 10) rfl))) (by decide) (backOf (W := 1) (rm2 l Z a0 hw [] (p0 &&& (255 : Int32)) ad0 ad1 ad2 ad3 ad4 ad5 ad6 ad7 h0 n0 Z0 S0 S1 S2 S3 S4 S5 S6 S7) hZ (hw _ (List.mem_of_getElem? (i := 10) rfl)) (hw _ (List.mem_of_getElem? (i := 9) rfl)) (by decide) (by decide)) (g := (mkF m 16 #[.val (.int p0), .val (.int (p0.toInt8.toInt32)), .val (.int (p0 &&& (255 : Int32))), .val (f1 (p0.toInt8.toInt32) ad0 ad1 ad2 ad3 ad4 ad5 ad6 ad7)] [(.int (p0 &&& (255 : Int32))), (f1 (p0.toInt8.toInt32) ad0 ad1 ad2 ad3 ad4 ad5 ad6 ad7)])) rfl (by rw [hml]; rfl) (argsL := [(.int (p0 &&& (255 : Int32)))]) (rest := [(f1 (p0.toInt8.toInt32) ad0 ad1 ad2 ad3 ad4 ad5 ad6 ad7)]) (lenOf pd_1 rfl) rfl (by show 2 * 0 + _ ≤ _; exact (by simp [own_catI, own_catJ, own_catR, own_catN, own_cat (own_ref1 (p0.toInt8.toInt32) ad0 ad1 ad2 ad3 ad4 ad5 ad6 ad7)])) (hb hby at_16) (fun _ _ => ⟨rfl, e1, (by decide : 0 + 0 ≤ _), (by decide : 0 + 0 ≤ _)⟩)
  dsimp only [Pt.U, Pt.locs, Pt.cells, Pt.slots] at X2 l2 y2 z2 st2 hQ2
  subst l2 y2 z2
  obtain ⟨rfl, N2q, e2⟩ := hQ2
  have N2 := Fr.app N1 N2q
  refine OEnds.go (g' := (mkF m 19 #[.val (.int p0), .val (.int (p0.toInt8.toInt32)), .val (.int (p0 &&& (255 : Int32))), .val (f1 (p0.toInt8.toInt32) ad0 ad1 ad2 ad3 ad4 ad5 ad6 ad7)] [(f2 (p0 &&& (255 : Int32)) ad0 ad1 ad2 ad3 ad4 ad5 ad6 ad7), (f1 (p0.toInt8.toInt32) ad0 ad1 ad2 ad3 ad4 ad5 ad6 ad7)])) st2 ?_
  by_cases c19_3 : ((f1 (p0.toInt8.toInt32) ad0 ad1 ad2 ad3 ad4 ad5 ad6 ad7) : Value) = ((f2 (p0 &&& (255 : Int32)) ad0 ad1 ad2 ad3 ad4 ad5 ad6 ad7) : Value)
  · -- yes
    refine OEnds.go (g' := (mkF m 22 #[.val (.int p0), .val (.int (p0.toInt8.toInt32)), .val (.int (p0 &&& (255 : Int32))), .val (f1 (p0.toInt8.toInt32) ad0 ad1 ad2 ad3 ad4 ad5 ad6 ad7)] [])) (fun t k => Jvm.RoadKit.acmp (g := (mkF m 19 #[.val (.int p0), .val (.int (p0.toInt8.toInt32)), .val (.int (p0 &&& (255 : Int32))), .val (f1 (p0.toInt8.toInt32) ad0 ad1 ad2 ad3 ad4 ad5 ad6 ad7)] [(f2 (p0 &&& (255 : Int32)) ad0 ad1 ad2 ad3 ad4 ad5 ad6 ad7), (f1 (p0.toInt8.toInt32) ad0 ad1 ad2 ad3 ad4 ad5 ad6 ad7)])) X2 hx rfl (own_ref1 (p0.toInt8.toInt32) ad0 ad1 ad2 ad3 ad4 ad5 ad6 ad7) (own_ref2 (p0 &&& (255 : Int32)) ad0 ad1 ad2 ad3 ad4 ad5 ad6 ad7) (pc0 := 19) (pc' := 22) (same := true) rfl (hb hby at_19) rfl (decide_eq_true c19_3) (by decide) (by decide) k) ?_
    refine OEnds.go (g' := (mkF m 23 #[.val (.int p0), .val (.int (p0.toInt8.toInt32)), .val (.int (p0 &&& (255 : Int32))), .val (f1 (p0.toInt8.toInt32) ad0 ad1 ad2 ad3 ad4 ad5 ad6 ad7)] [(.int (1 : Int32))])) (fun t k => XS.iconst X2.here hx rfl (hb hby at_22) k) ?_
    refine OEnds.go (g' := (mkF m 27 #[.val (.int p0), .val (.int (p0.toInt8.toInt32)), .val (.int (p0 &&& (255 : Int32))), .val (f1 (p0.toInt8.toInt32) ad0 ad1 ad2 ad3 ad4 ad5 ad6 ad7)] [(.int (1 : Int32))])) (fun t k => XS.goto X2.here hx rfl (pc0 := 23) (pc' := 27) rfl (hb hby at_23) (by decide) (by decide) k) ?_
    exact OEnds.outN X2 Bd.notSynchronized hx (t := .boolean) Bd.returns (by simp) (hb hby at_27) ⟨rfl, N2⟩ (by decide) (by decide)
  · -- no
    refine OEnds.go (g' := (mkF m 26 #[.val (.int p0), .val (.int (p0.toInt8.toInt32)), .val (.int (p0 &&& (255 : Int32))), .val (f1 (p0.toInt8.toInt32) ad0 ad1 ad2 ad3 ad4 ad5 ad6 ad7)] [])) (fun t k => Jvm.RoadKit.acmp (g := (mkF m 19 #[.val (.int p0), .val (.int (p0.toInt8.toInt32)), .val (.int (p0 &&& (255 : Int32))), .val (f1 (p0.toInt8.toInt32) ad0 ad1 ad2 ad3 ad4 ad5 ad6 ad7)] [(f2 (p0 &&& (255 : Int32)) ad0 ad1 ad2 ad3 ad4 ad5 ad6 ad7), (f1 (p0.toInt8.toInt32) ad0 ad1 ad2 ad3 ad4 ad5 ad6 ad7)])) X2 hx rfl (own_ref1 (p0.toInt8.toInt32) ad0 ad1 ad2 ad3 ad4 ad5 ad6 ad7) (own_ref2 (p0 &&& (255 : Int32)) ad0 ad1 ad2 ad3 ad4 ad5 ad6 ad7) (pc0 := 19) (pc' := 26) (same := false) rfl (hb hby at_19) rfl (decide_eq_false c19_3) (by decide) (by decide) k) ?_
    refine OEnds.go (g' := (mkF m 27 #[.val (.int p0), .val (.int (p0.toInt8.toInt32)), .val (.int (p0 &&& (255 : Int32))), .val (f1 (p0.toInt8.toInt32) ad0 ad1 ad2 ad3 ad4 ad5 ad6 ad7)] [(.int (0 : Int32))])) (fun t k => XS.iconst X2.here hx rfl (hb hby at_26) k) ?_
    exact OEnds.outN X2 Bd.notSynchronized hx (t := .boolean) Bd.returns (by simp) (hb hby at_27) (own_no (own_law p0 arr kk ad0 ad1 ad2 ad3 ad4 ad5 ad6 ad7) (by rw [f0, if_neg c19_3])) (by decide) (by decide)
set_option maxRecDepth 65536 in
set_option maxHeartbeats 40000000 in
theorem comes_1 {Post : Tables → Env → Array Value → State → Outcome → State → Prop} (hpost : ∀ tb e args s v u, (limb_1_1.after args s (.returned v) u = true ∧ limb_1_2.after args s (.returned v) u = true ∧ True) → FrameEnd s (.returned v) u (Jvm.fieldLocs frame_1_writes args s ++ Jvm.arrayLocs frame_1_arrays args s ++ Jvm.staticLocs frame_1_statics s) 0 0 → Post tb e args s (.returned v) u) :
    ArmFor flags0 classFile x code maxLocals ret World_1 tables_1 room_1 Calls_1 rest_1 Pre_1 Post := by
  intro l hfl _ _ p e ha hc hk s m args below hf hA hF happ hP
  obtain ⟨hcalls, hrest, hpre⟩ := hP
  obtain ⟨-, -, -, hnamed, -, -, -, hat⟩ := (Spec.applies_iff hf).mp happ
  obtain ⟨hg, hn⟩ := and_e (Cond.before_iff.mp (show (Jvm.Cond.and given_1 narrow_1).before args s = true from hpre))
  obtain ⟨g1, g2⟩ := and_e hg
  obtain ⟨g3, g4⟩ := and_e hn
  obtain ⟨g5, g6⟩ := and_e g4
  obtain ⟨g7, g8⟩ := and_e g6
  obtain ⟨g9, g10⟩ := and_e g8
  obtain ⟨g11, g12⟩ := and_e g10
  obtain ⟨g13, g14⟩ := and_e g12
  obtain ⟨g15, g16⟩ := and_e g14
  obtain ⟨g17, g18⟩ := and_e g16
  obtain ⟨g19, g20⟩ := and_e g18
  obtain ⟨g21, g22⟩ := and_e g20
  obtain ⟨g23, g24⟩ := and_e g22
  obtain ⟨g25, g26⟩ := and_e g24
  obtain ⟨g27, g28⟩ := and_e g26
  obtain ⟨g29, g30⟩ := and_e g28
  obtain ⟨g31, g32⟩ := and_e g30
  obtain ⟨g33, g34⟩ := and_e g32
  obtain ⟨g35, g36⟩ := and_e g34
  obtain ⟨w0, rfl⟩ : ∃ w0 : Value, args = #[w0] := by
    have hs : args.size = 1 := by simpa [Cond.value, given_1] using g1
    obtain ⟨L⟩ := args
    match L, hs with
    | [w0], _ => exact ⟨w0, rfl⟩
  have hw := fun d (hd : d ∈ tables_1) => atoms_spec (ws := Jvm.Cond.code x code maxLocals ret :: tables_1) hat d (List.mem_cons_of_mem _ hd)
  have hfit : Fit s := fun {y c} hc i hi => by
    obtain ⟨ha, rfl⟩ := Array.getElem?_eq_some_iff.mp hc
    have q := List.all_eq_true.mp ((Array.all_eq_true_iff_forall_mem.mp hF) _ (Array.getElem_mem ha)) i (List.mem_range.mpr hi)
    simpa [Array.getElem?_eq_getElem hi] using q
  obtain ⟨i0, ei0⟩ := is_v g2
  obtain rfl : w0 = (.int i0) := Option.some.inj ei0
  obtain ⟨a_0, _, _, _, ev_0, -⟩ := Cond.exactly_spec (Cond.before_iff.mpr g7)
  have S_0 := Sta.start ev_0 (Or.inr ⟨(hw _ (List.mem_of_getElem? (i := 2) rfl)), (hw _ (List.mem_of_getElem? (i := 6) rfl))⟩)
  obtain ⟨a_1, _, _, _, ev_1, -⟩ := Cond.exactly_spec (Cond.before_iff.mpr g31)
  have S_1 := Sta.start ev_1 (Or.inr ⟨(hw _ (List.mem_of_getElem? (i := 2) rfl)), (hw _ (List.mem_of_getElem? (i := 22) rfl))⟩)
  obtain ⟨a_2, _, _, _, ev_2, -⟩ := Cond.exactly_spec (Cond.before_iff.mpr g19)
  have S_2 := Sta.start ev_2 (Or.inr ⟨(hw _ (List.mem_of_getElem? (i := 2) rfl)), (hw _ (List.mem_of_getElem? (i := 16) rfl))⟩)
  obtain ⟨a_3, _, _, _, ev_3, -⟩ := Cond.exactly_spec (Cond.before_iff.mpr g11)
  have S_3 := Sta.start ev_3 (Or.inr ⟨(hw _ (List.mem_of_getElem? (i := 2) rfl)), (hw _ (List.mem_of_getElem? (i := 12) rfl))⟩)
  obtain ⟨a_4, _, _, _, ev_4, -⟩ := Cond.exactly_spec (Cond.before_iff.mpr g35)
  have S_4 := Sta.start ev_4 (Or.inr ⟨(hw _ (List.mem_of_getElem? (i := 2) rfl)), (hw _ (List.mem_of_getElem? (i := 24) rfl))⟩)
  obtain ⟨a_5, _, _, _, ev_5, -⟩ := Cond.exactly_spec (Cond.before_iff.mpr g27)
  have S_5 := Sta.start ev_5 (Or.inr ⟨(hw _ (List.mem_of_getElem? (i := 2) rfl)), (hw _ (List.mem_of_getElem? (i := 20) rfl))⟩)
  obtain ⟨a_6, _, _, _, ev_6, -⟩ := Cond.exactly_spec (Cond.before_iff.mpr g23)
  have S_6 := Sta.start ev_6 (Or.inr ⟨(hw _ (List.mem_of_getElem? (i := 2) rfl)), (hw _ (List.mem_of_getElem? (i := 18) rfl))⟩)
  obtain ⟨a_7, _, _, _, ev_7, -⟩ := Cond.exactly_spec (Cond.before_iff.mpr g15)
  have S_7 := Sta.start ev_7 (Or.inr ⟨(hw _ (List.mem_of_getElem? (i := 2) rfl)), (hw _ (List.mem_of_getElem? (i := 14) rfl))⟩)
  obtain ⟨arr, ev_arr⟩ := arr_v g3
  have SB := Sta.start ev_arr (Or.inr ⟨(hw _ (List.mem_of_getElem? (i := 2) rfl)), (hw _ (List.mem_of_getElem? (i := 5) rfl))⟩)
  obtain ⟨cl, Ar⟩ := Arr.start ev_arr g3
  obtain ⟨hl1, hl2⟩ := own_len ev_arr Ar g5
  have u0 := own_elem ev_arr Ar.1 ev_0 g9
  have u1 := own_elem ev_arr Ar.1 ev_1 g33
  have u2 := own_elem ev_arr Ar.1 ev_2 g21
  have u3 := own_elem ev_arr Ar.1 ev_3 g13
  have u4 := own_elem ev_arr Ar.1 ev_4 g36
  have u5 := own_elem ev_arr Ar.1 ev_5 g29
  have u6 := own_elem ev_arr Ar.1 ev_6 g25
  have u7 := own_elem ev_arr Ar.1 ev_7 g17
  have V0 : Arv s s.heap arr cl.cls (.object "com/example/chronotag/chronotag/cbor/MajorType") (8 : Int32) [(.ref a_0), (.ref a_1), (.ref a_2), (.ref a_3), (.ref a_4), (.ref a_5), (.ref a_6), (.ref a_7)] .null := Arv.start hfit Ar hl1 hl2 (by decide) rfl ⟨u0, u1, u2, u3, u4, u5, u6, u7, trivial⟩
  obtain ⟨n, o, h1, h2, h3, _, L, rfl, ⟨rfl, N⟩, hq⟩ := rm0 l s _ hw tables_1 i0 arr cl.cls a_0 a_1 a_2 a_3 a_4 a_5 a_6 a_7 s.heap s.heap.size (Nat.le_refl _) SB V0 S_0 S_1 S_2 S_3 S_4 S_5 S_6 S_7 p e ha hc hk s m _ below hf ((Spec.applies_iff_loose hf).mp happ).1 ⟨rfl, State.Warmed39.refl s, rfl⟩ trivial
  refine ⟨n, _, h1, h2, h3, hpost _ _ _ _ _ _ ⟨Cond.after_iff.mpr rfl, Cond.after_iff.mpr (eq_i res_at (Term.int_eval (1)) rfl), trivial⟩ ⟨hq.1, hq.2.1, (hq.2.2.sift fun y hy => Or.inr (N y hy)).mono (by decide) (by decide)⟩⟩
theorem main_1_1 : Claimed_1_1 := comes_1 fun _ _ _ _ _ _ h hF => ⟨h.1, hF⟩
theorem main_1_2 : Claimed_1_2 := comes_1 fun _ _ _ _ _ _ h hF => ⟨h.2.1, hF⟩
end Jvm.Pilot.@@N@@
namespace Jvm.Pilot.@@N@@
open Jvm Jvm.ClassFile Sem Op Lib Jvm.Free Jvm.Stand Jvm.Pilot.@@N@@.Jvm.D
/-! MADE BY PROGRAM (witnessworld.py) out of the Statement's table words and the real class files: 13 classes; the members and pool entries that the words name. The judged class is class 1, her method 2. -/
namespace start1
open Jvm.ClassFile
def u (s : String) : CpInfo := .utf8 (stringToUtf16 s)
/-- a pool by its gaps: so many unusable entries, then the entry; so many at the end -/
def gap : Nat → List CpInfo → List CpInfo
  | 0, r => r
  | n + 1, r => .unusable :: gap n r
def poolList (es : List (Nat × CpInfo)) (last : Nat) : List CpInfo := es.foldr (fun e r => gap e.1 (e.2 :: r)) (gap last [])
def pool (es : List (Nat × CpInfo)) (last : Nat) : Array CpInfo := ⟨poolList es last⟩
def fileOf (pool : Array CpInfo) (this : Nat) (attrs : Array Attribute := #[]) (ms : Array MethodInfo := #[]) (fl : Nat := 33) (sup : Nat := 0) (ifs : Array Nat := #[]) (fds : Array FieldInfo := #[]) : ClassFile where
  minorVersion := 0
  majorVersion := 65
  constantPool := pool
  accessFlags := fl
  thisClass := this
  superClass := sup
  interfaces := ifs
  fields := fds
  methods := ms
  attributes := attrs
def plain (name : String) (sup : Option ClassId) : Class where
  name := name
  kind := .ordinary
  loader := none
  accessFlags := 33
  super := sup
  interfaces := #[]
  cf := none
  fields := #[]
  methods := #[]
  instanceTypes := #[]
  staticTypes := #[]
  resolved := #[]
  callSites := []
  init := .initialized
  statics := none
  mirror := none

def pool0 : Array CpInfo := pool [(5, u "<init>"), (0, u "()V"), (1, .class_ 10), (1, u "java/lang/Object")] 113

def k0m0 : Method := { name := "<init>", desc := "()V", sig := { parameters := [], returnType := none }, accessFlags := 1, code := none }
/-- java/lang/Object -/
def k0 : Class := { plain "java/lang/Object" none with
  accessFlags := 33
  interfaces := #[]
  cf := some (fileOf pool0 8 #[] #[{ accessFlags := 1, nameIndex := 5, descriptorIndex := 6, attributes := #[] }] 33 0 #[] #[])
  fields := #[]
  methods := #[k0m0]
  instanceTypes := #[]
  staticTypes := #[]
  resolved := Array.replicate 124 none
  statics := none }

def pool1 : Array CpInfo := pool [(2, .class_ 4), (1, u "java/lang/Object"), (0, u "<init>"), (0, u "()V"), (0, .fieldref 8 9), (0, .class_ 10), (0, .nameAndType 11 12), (0, u "com/example/chronotag/chronotag/cbor/MajorType"), (0, u "UNSIGNED_INTEGER"), (0, u "Lcom/example/chronotag/chronotag/cbor/MajorType;"), (0, .fieldref 8 14), (0, .nameAndType 15 12), (0, u "NEGATIVE_INTEGER"), (0, .fieldref 8 17), (0, .nameAndType 18 12), (0, u "BYTE_STRING"), (0, .fieldref 8 20), (0, .nameAndType 21 12), (0, u "TEXT_STRING"), (0, .fieldref 8 23), (0, .nameAndType 24 12), (0, u "ARRAY"), (0, .fieldref 8 26), (0, .nameAndType 27 12), (0, u "MAP"), (0, .fieldref 8 29), (0, .nameAndType 30 12), (0, u "TAG"), (0, .fieldref 8 32), (0, .nameAndType 33 12), (0, u "SIMPLE_OR_FLOAT"), (0, .methodref 8 35), (0, .nameAndType 36 37), (0, u "ofInitialByte"), (0, u "(B)Lcom/example/chronotag/chronotag/cbor/MajorType;"), (0, .methodref 39 40), (0, .class_ 41), (0, .nameAndType 42 43), (0, u "com/example/chronotag/chronotag/cbor/MajorTypeOfInitialBytePinLaw"), (0, u "expected"), (0, u "(I)Lcom/example/chronotag/chronotag/cbor/MajorType;"), (3, u "law"), (0, u "(I)Z")] 2

def k1m0 : Method := { name := "<init>", desc := "()V", sig := { parameters := [], returnType := none }, accessFlags := 2, code := none }
def k1c1 : Code := { maxStack := 2, maxLocals := 1, code := method_2_code, exceptionTable := #[], attributes := #[] }
def k1m1 : Method := { name := "expected", desc := "(I)Lcom/example/chronotag/chronotag/cbor/MajorType;", sig := { parameters := [.int], returnType := some (.object "com/example/chronotag/chronotag/cbor/MajorType") }, accessFlags := 10, code := some k1c1 }
def k1c2 : Code := { maxStack := 2, maxLocals := 4, code := code, exceptionTable := #[], attributes := #[] }
def k1m2 : Method := { name := "law", desc := "(I)Z", sig := { parameters := [.int], returnType := some .boolean }, accessFlags := 9, code := some k1c2 }
/-- com/example/chronotag/chronotag/cbor/MajorTypeOfInitialBytePinLaw -/
def k1 : Class := { plain "com/example/chronotag/chronotag/cbor/MajorTypeOfInitialBytePinLaw" (some 0) with
  accessFlags := 49
  interfaces := #[]
  cf := some (fileOf pool1 39 #[] #[{ accessFlags := 2, nameIndex := 5, descriptorIndex := 6, attributes := #[] }, { accessFlags := 10, nameIndex := 42, descriptorIndex := 43, attributes := #[] }, { accessFlags := 9, nameIndex := 47, descriptorIndex := 48, attributes := #[] }] 49 2 #[] #[])
  fields := #[]
  methods := #[k1m0, k1m1, k1m2]
  instanceTypes := #[]
  staticTypes := #[]
  resolved := Array.replicate 51 none
  statics := none }

def pool2 : Array CpInfo := pool [(1, .class_ 2), (0, u "java/lang/constant/Constable"), (0, .class_ 4), (0, u "java/lang/Object")] 6

/-- java/lang/constant/Constable -/
def k2 : Class := { plain "java/lang/constant/Constable" (some 0) with
  accessFlags := 1537
  interfaces := #[]
  cf := some (fileOf pool2 1 #[] #[] 1537 3 #[] #[])
  fields := #[]
  methods := #[]
  instanceTypes := #[]
  staticTypes := #[]
  resolved := Array.replicate 11 none
  statics := none }

def pool3 : Array CpInfo := pool [(1, .class_ 2), (0, u "java/lang/Comparable"), (0, .class_ 4), (0, u "java/lang/Object")] 7

/-- java/lang/Comparable -/
def k3 : Class := { plain "java/lang/Comparable" (some 0) with
  accessFlags := 1537
  interfaces := #[]
  cf := some (fileOf pool3 1 #[] #[] 1537 3 #[] #[])
  fields := #[]
  methods := #[]
  instanceTypes := #[]
  staticTypes := #[]
  resolved := Array.replicate 12 none
  statics := none }

def pool4 : Array CpInfo := pool [(1, .class_ 2), (0, u "java/io/Serializable"), (0, .class_ 4), (0, u "java/lang/Object")] 2

/-- java/io/Serializable -/
def k4 : Class := { plain "java/io/Serializable" (some 0) with
  accessFlags := 1537
  interfaces := #[]
  cf := some (fileOf pool4 1 #[] #[] 1537 3 #[] #[])
  fields := #[]
  methods := #[]
  instanceTypes := #[]
  staticTypes := #[]
  resolved := Array.replicate 7 none
  statics := none }

def pool5 : Array CpInfo := pool [(2, .class_ 4), (1, u "java/lang/Enum"), (0, u "name"), (0, u "Ljava/lang/String;"), (2, u "ordinal"), (0, u "I"), (1, .class_ 14), (1, u "java/lang/Object"), (4, u "hash"), (86, .class_ 108), (1, u "java/lang/Enum$EnumDesc"), (2, .class_ 112), (0, u "java/lang/constant/Constable"), (0, .class_ 114), (0, u "java/lang/Comparable"), (0, .class_ 116), (0, u "java/io/Serializable")] 87

/-- java/lang/Enum -/
def k5 : Class := { plain "java/lang/Enum" (some 0) with
  accessFlags := 1057
  interfaces := #[2, 3, 4]
  cf := some (fileOf pool5 2 #[.nestMembers #[106]] #[] 1057 12 #[111, 113, 115] #[{ accessFlags := 18, nameIndex := 5, descriptorIndex := 6, attributes := #[] }, { accessFlags := 18, nameIndex := 9, descriptorIndex := 10, attributes := #[] }, { accessFlags := 2, nameIndex := 19, descriptorIndex := 10, attributes := #[] }])
  fields := #[{ name := "name", type := (.object "java/lang/String"), accessFlags := 18, slot := 0, constantValue := 0 }, { name := "ordinal", type := .int, accessFlags := 18, slot := 1, constantValue := 0 }, { name := "hash", type := .int, accessFlags := 2, slot := 2, constantValue := 0 }]
  methods := #[]
  instanceTypes := #[(.object "java/lang/String"), .int, .int]
  staticTypes := #[]
  resolved := Array.replicate 204 none
  statics := none }

def pool6 : Array CpInfo := pool [(1, .class_ 2), (0, u "com/example/chronotag/chronotag/cbor/MajorType"), (2, u "UNSIGNED_INTEGER"), (0, u "Lcom/example/chronotag/chronotag/cbor/MajorType;"), (2, u "NEGATIVE_INTEGER"), (2, u "BYTE_STRING"), (2, u "TEXT_STRING"), (2, u "ARRAY"), (2, u "MAP"), (2, u "TAG"), (2, u "SIMPLE_OR_FLOAT"), (2, u "$VALUES"), (0, u "[Lcom/example/chronotag/chronotag/cbor/MajorType;"), (6, .class_ 40), (1, u "java/lang/Enum"), (6, .fieldref 1 48), (0, .nameAndType 49 31), (0, u "BY_NUMBER"), (22, u "ofInitialByte"), (0, u "(B)Lcom/example/chronotag/chronotag/cbor/MajorType;")] 4

def k6c0 : Code := { maxStack := 3, maxLocals := 1, code := prog_44_method_4_code, exceptionTable := #[], attributes := #[] }
def k6m0 : Method := { name := "ofInitialByte", desc := "(B)Lcom/example/chronotag/chronotag/cbor/MajorType;", sig := { parameters := [.byte], returnType := some (.object "com/example/chronotag/chronotag/cbor/MajorType") }, accessFlags := 9, code := some k6c0 }
/-- com/example/chronotag/chronotag/cbor/MajorType -/
def k6 : Class := { plain "com/example/chronotag/chronotag/cbor/MajorType" (some 5) with
  accessFlags := 16433
  interfaces := #[]
  cf := some (fileOf pool6 1 #[] #[{ accessFlags := 9, nameIndex := 72, descriptorIndex := 73, attributes := #[] }] 16433 38 #[] #[{ accessFlags := 16409, nameIndex := 5, descriptorIndex := 6, attributes := #[] }, { accessFlags := 16409, nameIndex := 9, descriptorIndex := 6, attributes := #[] }, { accessFlags := 16409, nameIndex := 12, descriptorIndex := 6, attributes := #[] }, { accessFlags := 16409, nameIndex := 15, descriptorIndex := 6, attributes := #[] }, { accessFlags := 16409, nameIndex := 18, descriptorIndex := 6, attributes := #[] }, { accessFlags := 16409, nameIndex := 21, descriptorIndex := 6, attributes := #[] }, { accessFlags := 16409, nameIndex := 24, descriptorIndex := 6, attributes := #[] }, { accessFlags := 16409, nameIndex := 27, descriptorIndex := 6, attributes := #[] }, { accessFlags := 26, nameIndex := 49, descriptorIndex := 31, attributes := #[] }, { accessFlags := 4122, nameIndex := 30, descriptorIndex := 31, attributes := #[] }])
  fields := #[{ name := "UNSIGNED_INTEGER", type := (.object "com/example/chronotag/chronotag/cbor/MajorType"), accessFlags := 16409, slot := 0, constantValue := 0 }, { name := "NEGATIVE_INTEGER", type := (.object "com/example/chronotag/chronotag/cbor/MajorType"), accessFlags := 16409, slot := 1, constantValue := 0 }, { name := "BYTE_STRING", type := (.object "com/example/chronotag/chronotag/cbor/MajorType"), accessFlags := 16409, slot := 2, constantValue := 0 }, { name := "TEXT_STRING", type := (.object "com/example/chronotag/chronotag/cbor/MajorType"), accessFlags := 16409, slot := 3, constantValue := 0 }, { name := "ARRAY", type := (.object "com/example/chronotag/chronotag/cbor/MajorType"), accessFlags := 16409, slot := 4, constantValue := 0 }, { name := "MAP", type := (.object "com/example/chronotag/chronotag/cbor/MajorType"), accessFlags := 16409, slot := 5, constantValue := 0 }, { name := "TAG", type := (.object "com/example/chronotag/chronotag/cbor/MajorType"), accessFlags := 16409, slot := 6, constantValue := 0 }, { name := "SIMPLE_OR_FLOAT", type := (.object "com/example/chronotag/chronotag/cbor/MajorType"), accessFlags := 16409, slot := 7, constantValue := 0 }, { name := "BY_NUMBER", type := (.array (.object "com/example/chronotag/chronotag/cbor/MajorType")), accessFlags := 26, slot := 8, constantValue := 0 }, { name := "$VALUES", type := (.array (.object "com/example/chronotag/chronotag/cbor/MajorType")), accessFlags := 4122, slot := 9, constantValue := 0 }]
  methods := #[k6m0]
  instanceTypes := #[(.object "java/lang/String"), .int, .int]
  staticTypes := #[(.object "com/example/chronotag/chronotag/cbor/MajorType"), (.object "com/example/chronotag/chronotag/cbor/MajorType"), (.object "com/example/chronotag/chronotag/cbor/MajorType"), (.object "com/example/chronotag/chronotag/cbor/MajorType"), (.object "com/example/chronotag/chronotag/cbor/MajorType"), (.object "com/example/chronotag/chronotag/cbor/MajorType"), (.object "com/example/chronotag/chronotag/cbor/MajorType"), (.object "com/example/chronotag/chronotag/cbor/MajorType"), (.array (.object "com/example/chronotag/chronotag/cbor/MajorType")), (.array (.object "com/example/chronotag/chronotag/cbor/MajorType"))]
  resolved := Array.replicate 78 none
  statics := some 0 }

def pool7 : Array CpInfo := pool [(1, u "java/lang/Cloneable"), (0, .class_ 1), (0, u "java/lang/Object"), (0, .class_ 3)] 3

/-- java/lang/Cloneable -/
def k7 : Class := { plain "java/lang/Cloneable" (some 0) with
  accessFlags := 1537
  interfaces := #[]
  cf := some (fileOf pool7 2 #[] #[] 1537 4 #[] #[])
  fields := #[]
  methods := #[]
  instanceTypes := #[]
  staticTypes := #[]
  resolved := Array.replicate 8 none
  statics := none }

/-- the primitive byte -/
def k8 : Class := { plain "byte" none with kind := .primitive 'B', accessFlags := 0x411 }
/-- [B -/
def k9 : Class := { plain "[B" (some 0) with kind := .array 8 .byte, interfaces := #[7, 4], accessFlags := 1041 }

/-- the primitive int -/
def k10 : Class := { plain "int" none with kind := .primitive 'I', accessFlags := 0x411 }
/-- [I -/
def k11 : Class := { plain "[I" (some 0) with kind := .array 10 .int, interfaces := #[7, 4], accessFlags := 1041 }

/-- [Lcom/example/chronotag/chronotag/cbor/MajorType; -/
def k12 : Class := { plain "[Lcom/example/chronotag/chronotag/cbor/MajorType;" (some 0) with kind := .array 6 (.object "com/example/chronotag/chronotag/cbor/MajorType"), interfaces := #[7, 4], accessFlags := 1041 }

def heap : Heap := #[{ cls := 6, slots := #[.ref 2, .ref 3, .ref 4, .ref 5, .ref 6, .ref 7, .ref 8, .ref 9, .ref 1, .null], vm := .statics 6 },
  { cls := 12, slots := #[.ref 2, .ref 3, .ref 4, .ref 5, .ref 6, .ref 7, .ref 8, .ref 9], vm := .none },
  { cls := 6, slots := #[.null, .int 0, .int 0], vm := .none },
  { cls := 6, slots := #[.null, .int 1, .int 0], vm := .none },
  { cls := 6, slots := #[.null, .int 2, .int 0], vm := .none },
  { cls := 6, slots := #[.null, .int 3, .int 0], vm := .none },
  { cls := 6, slots := #[.null, .int 4, .int 0], vm := .none },
  { cls := 6, slots := #[.null, .int 5, .int 0], vm := .none },
  { cls := 6, slots := #[.null, .int 6, .int 0], vm := .none },
  { cls := 6, slots := #[.null, .int 7, .int 0], vm := .none }]
def classes : Array Class := #[k0, k1, k2, k3, k4, k5, k6, k7, k8, k9, k10, k11, k12]
def interned : List (Array UInt16 × Addr) := []
def slotsUsed : Nat := 42
def theMethod : MethodId := ⟨1, 2⟩
def args0 : Array Value := #[.int 5]
def aboutOver (below : List Frame) : State where
  vm := { classes := classes, interned := interned.toArray }
  heap := heap
  slotsUsed := slotsUsed
  threads := #[{ frames := .invoking theMethod args0 :: below }]
def below0 : List Frame := [.native { method := ⟨0, 0⟩, args := #[] }]
def about1 : State := aboutOver below0
def p0 : Program := .bare "" "" ""
def e0 : Env := launch0.env 0 0 0
theorem w_frames : about1.frames = Frame.invoking theMethod args0 :: below0 := rfl
set_option maxRecDepth 65536 in
theorem w_args : argsFit about1.vm theMethod args0 = true := by decide +kernel
set_option maxRecDepth 65536 in
theorem w_heap : heapFits about1 = true := by decide +kernel
set_option maxRecDepth 65536 in
theorem w_runnable : about1.curStatus? = some .runnable := by decide +kernel
set_option maxRecDepth 65536 in
theorem w_alone : about1.alone = true := by decide +kernel
set_option maxRecDepth 65536 in
theorem w_named : about1.methodNamed? x = some theMethod := by decide +kernel
set_option maxRecDepth 65536 in
theorem w_hears : about1.hears theMethod below0 = true := by decide +kernel
set_option maxRecDepth 65536 in
theorem w_ripe : about1.ripe theMethod args0 below0 = true := by decide +kernel
theorem w_running : about1.status = .running := rfl
set_option maxRecDepth 65536 in
theorem w_room : about1.hasRoom e0.platform room_1 = true :=
  launch0.hasRoom_least _ room_1 (by decide +kernel) (by decide +kernel) (by decide +kernel) (by decide +kernel) (by decide +kernel) (by decide +kernel)
theorem allAtoms_all (ts : List Jvm.Cond) (a : Array Jvm.Value) (st : Jvm.State) : (allAtoms ts).before a st = ts.all (fun c => c.before a st) := by
  induction ts with
  | nil => rfl
  | cons c t ih =>
    show (Jvm.Cond.and c (allAtoms t)).before a st = _
    rw [Jvm.Cond.before_and, ih, List.all_cons]
def words1 : List Jvm.Cond := Jvm.Cond.code x code maxLocals ret :: tables_1
/-- a 'code' word, met by the world's own term for the bytes: nothing is compared byte by byte -/
theorem code_word {y : MethodName} {bytes : ByteArray} {mx : Nat} {rt : Option FieldType} {a : Array Value} {s : State} {m : MethodId} {meth : Method} {c : Code} (h1 : s.methodNamed? y = some m) (h2 : s.vm.method? m = some meth) (h3 : meth.code = some c) (h4 : c.code = bytes)
    (h5 : (c.maxLocals == mx && c.exceptionTable.isEmpty && decide (c.maxStack ≤ mostOperands) && decide (meth.sig.returnType = rt) && !meth.locks && decide (parseMethodDescriptor y.desc = some meth.sig)) = true) : (Jvm.Cond.code y bytes mx rt).before a s = true := by
  simp only [Bool.and_eq_true, beq_iff_eq, Bool.not_eq_true', decide_eq_true_eq] at h5
  obtain ⟨⟨⟨⟨⟨g1, g2⟩, g3⟩, g4⟩, g5⟩, g6⟩ := h5
  simp [Cond.before, Cond.holds, Cond.value, h1, h2, h3, h4, g1, g2, g3, g4, g5, g6]
def isCode : Jvm.Cond → Bool
  | .code _ _ _ _ => true
  | _ => false
theorem all_split {L : List Jvm.Cond} {P : Jvm.Cond → Bool} (h1 : L.all (fun c => isCode c || P c) = true) (h2 : ∀ c ∈ L.filter isCode, P c = true) : L.all P = true := by
  refine List.all_eq_true.mpr fun c hc => ?_
  have h := List.all_eq_true.mp h1 c hc
  rcases Bool.eq_false_or_eq_true (isCode c) with hi | hi
  · exact h2 c (List.mem_filter.mpr ⟨hc, hi⟩)
  · simpa [hi] using h
set_option maxRecDepth 65536 in
theorem w_c0 : (Jvm.Cond.code x code maxLocals ret).before args0 about1 = true := code_word (m := ⟨1, 2⟩) (meth := k1m2) (c := k1c2) (by decide +kernel) rfl rfl rfl (by decide +kernel)
set_option maxRecDepth 65536 in
theorem w_c1 : (Jvm.Cond.code ({ cls := "com/example/chronotag/chronotag/cbor/MajorType", name := "ofInitialByte", desc := "(B)Lcom/example/chronotag/chronotag/cbor/MajorType;" } : Jvm.MethodName) prog_44_method_4_code (1 : Nat) (Option.some (Jvm.ClassFile.FieldType.object "com/example/chronotag/chronotag/cbor/MajorType"))).before args0 about1 = true := code_word (m := ⟨6, 0⟩) (meth := k6m0) (c := k6c0) (by decide +kernel) rfl rfl rfl (by decide +kernel)
set_option maxRecDepth 65536 in
theorem w_c2 : (Jvm.Cond.code ({ cls := "com/example/chronotag/chronotag/cbor/MajorTypeOfInitialBytePinLaw", name := "expected", desc := "(I)Lcom/example/chronotag/chronotag/cbor/MajorType;" } : Jvm.MethodName) method_2_code (1 : Nat) (Option.some (Jvm.ClassFile.FieldType.object "com/example/chronotag/chronotag/cbor/MajorType"))).before args0 about1 = true := code_word (m := ⟨1, 1⟩) (meth := k1m1) (c := k1c1) (by decide +kernel) rfl rfl rfl (by decide +kernel)
def codes1 : List Jvm.Cond := [Jvm.Cond.code x code maxLocals ret, Jvm.Cond.code ({ cls := "com/example/chronotag/chronotag/cbor/MajorType", name := "ofInitialByte", desc := "(B)Lcom/example/chronotag/chronotag/cbor/MajorType;" } : Jvm.MethodName) prog_44_method_4_code (1 : Nat) (Option.some (Jvm.ClassFile.FieldType.object "com/example/chronotag/chronotag/cbor/MajorType")), Jvm.Cond.code ({ cls := "com/example/chronotag/chronotag/cbor/MajorTypeOfInitialBytePinLaw", name := "expected", desc := "(I)Lcom/example/chronotag/chronotag/cbor/MajorType;" } : Jvm.MethodName) method_2_code (1 : Nat) (Option.some (Jvm.ClassFile.FieldType.object "com/example/chronotag/chronotag/cbor/MajorType"))]
set_option maxRecDepth 65536 in
theorem codes_eq : words1.filter isCode = codes1 := rfl
theorem w_codes : ∀ c ∈ words1.filter isCode, c.before args0 about1 = true := by
  rw [codes_eq]
  intro c hc
  simp only [codes1, List.mem_cons, List.not_mem_nil, or_false] at hc
  rcases hc with rfl | rfl | rfl
  · exact w_c0
  · exact w_c1
  · exact w_c2
set_option maxRecDepth 65536 in
theorem w_t1 : (words1.take 24).all (fun c => isCode c || c.before args0 about1) = true := by decide +kernel
set_option maxRecDepth 65536 in
theorem w_t2 : (words1.drop 24).all (fun c => isCode c || c.before args0 about1) = true := by decide +kernel
theorem w_tables : (allAtoms (Jvm.Cond.code x code maxLocals ret :: tables_1)).before args0 about1 = true := by
  rw [allAtoms_all]
  show words1.all (fun c => c.before args0 about1) = true
  refine all_split ?_ w_codes
  rw [← List.take_append_drop 24 words1, List.all_append, w_t1, w_t2]
  rfl
set_option maxRecDepth 65536 in
theorem w_case : (Jvm.Cond.and given_1 narrow_1).before args0 about1 = true := by decide +kernel
theorem w_applies : (headSpec (Jvm.Cond.code x code maxLocals ret :: tables_1) room_1).applies x e0.platform about1 = true :=
  (Spec.applies_iff w_frames).mpr ⟨w_running, w_runnable, w_alone, w_named, w_hears, w_ripe, w_room, w_tables⟩
theorem atStart : AtStart classFile x code maxLocals ret World_1 tables_1 room_1 Calls_1 rest_1 Pre_1 launch0 p0 e0 about1 theMethod args0 below0 :=
  ⟨lists_1, trivial, launch0.admits_env _ _ _, launch0.least_env, fairChoices_fair.cas, fairChoices_fair.clock, w_frames, w_args, w_heap, w_applies, trivial, trivial, w_case⟩
end start1
theorem witness_1 : WitnessClaimed_1 := ⟨start1.p0, start1.e0, start1.about1, start1.theMethod, start1.args0, start1.below0, start1.atStart⟩
end Jvm.Pilot.@@N@@
