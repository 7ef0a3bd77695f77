import JvmDerived
import JvmDerived.Pilot.@@N@@Statement
import JvmDerived.Pilot.@@N@@Code
set_option linter.unusedVariables false
set_option linter.unusedSimpArgs false
@@BLOCK:NumsL.lean.txt@@
namespace Jvm.Pilot.@@N@@
open Jvm Jvm.ClassFile Sem Op Lib Jvm.Free Jvm.Stand Jvm.LawKit Jvm.RoadKit Bundle Jvm.Pilot.@@N@@.Jvm.D
section OwnKit
variable {p : Program} {l : Launch} {e : Env} {R : Room} {s : State} {m : MethodId} {args : Array Value} {below : List Frame} {meth : Method} {c : Code} {T : State} {locs : List Loc} {cells slots : Nat} {n0 cc nn : Nat} {K : Option Value → Heap → Prop} {P : Heap → Prop} {A B : State}
/-- what a contract says of the value, the heap and the places written -/
def QK (n0 : Nat) (K : Option Value → Heap → Prop) (v : Option Value) (h : Heap) (L : List Loc) : Prop := K v h ∧ Fr n0 L
def Kv (w : Option Value) (P : Heap → Prop) (v : Option Value) (h : Heap) : Prop := v = w ∧ P h
/-- from A the run comes to this body's end, and K holds there -/
def Gl (p : Program) (e : Env) (below : List Frame) (s : State) (n0 cc nn : Nat) (K : Option Value → Heap → Prop) (A : State) : Prop :=
  ∃ t o, Steps p.tables e below A t ∧ t.status = .running ∧ Ended t below o ∧ ∃ v L, o = .returned v ∧ QK n0 K v t.heap L ∧ FrameEnd s o t L cc nn
theorem go (st : ∀ t, Steps p.tables e below B t → Steps p.tables e below A t) (h : Gl p e below s n0 cc nn K B) : Gl p e below s n0 cc nn K A := by
  obtain ⟨t, o, h1, h2⟩ := h; exact ⟨t, o, st t h1, h2⟩
theorem gl_start {g g' : JFrame} (q : g = g') (h : Gl p e below s n0 cc nn K (T.setTop g')) :
    ∃ t o, Steps p.tables e below (T.setTop g) t ∧ t.status = .running ∧ Ended t below o ∧ ∃ v L, o = .returned v ∧ QK n0 K v t.heap L ∧ FrameEnd s o t L cc nn := by
  subst q; exact h
theorem gI {c : Prop} [Decidable c] {a b : Int32} (h1 : c → Gl p e below s n0 cc nn (Kv (some (.int a)) P) A) (h2 : ¬ c → Gl p e below s n0 cc nn (Kv (some (.int b)) P) A) : Gl p e below s n0 cc nn (Kv (some (.int (if c then a else b))) P) A := by
  by_cases h : c
  · rw [if_pos h]; exact h1 h
  · rw [if_neg h]; exact h2 h
theorem gJ {c : Prop} [Decidable c] {a b : Int64} (h1 : c → Gl p e below s n0 cc nn (Kv (some (.long a)) P) A) (h2 : ¬ c → Gl p e below s n0 cc nn (Kv (some (.long b)) P) A) : Gl p e below s n0 cc nn (Kv (some (.long (if c then a else b))) P) A := by
  by_cases h : c
  · rw [if_pos h]; exact h1 h
  · rw [if_neg h]; exact h2 h
theorem gR {c : Prop} [Decidable c] {a b : Addr} (h1 : c → Gl p e below s n0 cc nn (Kv (some (.ref a)) P) A) (h2 : ¬ c → Gl p e below s n0 cc nn (Kv (some (.ref b)) P) A) : Gl p e below s n0 cc nn (Kv (some (.ref (if c then a else b))) P) A := by
  by_cases h : c
  · rw [if_pos h]; exact h1 h
  · rw [if_neg h]; exact h2 h
theorem gV {c : Prop} [Decidable c] (h1 : c → Gl p e below s n0 cc nn K A) (h2 : ¬ c → Gl p e below s n0 cc nn K A) : Gl p e below s n0 cc nn K A := by
  by_cases h : c
  · exact h1 h
  · exact h2 h
variable {x : MethodName} {S : Spec} {code' : ByteArray} {ml : Nat} {s₁ : State} {pc : Nat} {Ls : Array Slot} {rest : List Value}
theorem endN (X : Stand p l e R s m args below meth c T locs cells slots) (hx : p.tables.exec = Jvm.exec) {t : FieldType} (Bd : BodyLoose p l x S code' ml (some t) e s m args below meth c s₁) (ht : t = .boolean ∨ t = .byte ∨ t = .char ∨ t = .short) {z : Int32}
    (hd : decode c.code pc = .ok (.ireturn, 1)) (hK : K (some (.int (nar t z))) T.heap) (N : Fr n0 locs) (hc : cells ≤ cc) (hs : slots ≤ nn) : Gl p e below s n0 cc nn K (T.setTop (mkF m pc Ls (.int z :: rest))) := by
  obtain ⟨fs, hr, hrun, hended, hW, hsame⟩ := X.leave (v := some (.int (nar t z))) (fun h => by rw [Bd.returns] at h; cases h)
  exact ⟨_, _, retN X hx Bd.returns ht hd hr, hrun, hended, _, _, rfl, ⟨hK, N⟩, ⟨_, rfl⟩, hW, hsame.mono hc hs⟩
theorem endO (X : Stand p l e R s m args below meth c T locs cells slots) (hx : p.tables.exec = Jvm.exec) {t : FieldType} (Bd : BodyLoose p l x S code' ml (some t) e s m args below meth c s₁) {w : Value} {i : Instr} (hn : narrow t w = w)
    (hi : (i = .ireturn ∧ (t = .int ∨ t = .boolean ∨ t = .byte ∨ t = .char ∨ t = .short) ∧ ∃ z, w = .int z) ∨ (i = .lreturn ∧ t = .long ∧ ∃ z, w = .long z) ∨ (i = .dreturn ∧ t = .double ∧ ∃ z, w = .double z) ∨ (i = .freturn ∧ t = .float ∧ ∃ z, w = .float z) ∨ (i = .areturn ∧ t.isReference = true ∧ w.isRef = true))
    (hd : decode c.code pc = .ok (i, 1)) (hK : K (some w) T.heap) (N : Fr n0 locs) (hc : cells ≤ cc) (hs : slots ≤ nn) : Gl p e below s n0 cc nn K (T.setTop (mkF m pc Ls (w :: rest))) := by
  obtain ⟨fs, hr, hrun, hended, hW, hsame⟩ := X.leave (v := some w) (fun h => by rw [Bd.returns] at h; cases h)
  exact ⟨_, _, retOut X hx Bd.returns hn hi hd hr, hrun, hended, _, _, rfl, ⟨hK, N⟩, ⟨_, rfl⟩, hW, hsame.mono hc hs⟩
theorem endI (X : Stand p l e R s m args below meth c T locs cells slots) (hx : p.tables.exec = Jvm.exec) (Bd : BodyLoose p l x S code' ml (some .int) e s m args below meth c s₁) {z : Int32}
    (hd : decode c.code pc = .ok (.ireturn, 1)) (hK : K (some (.int z)) T.heap) (N : Fr n0 locs) (hc : cells ≤ cc) (hs : slots ≤ nn) : Gl p e below s n0 cc nn K (T.setTop (mkF m pc Ls (.int z :: rest))) :=
  endO X hx Bd rfl (Or.inl ⟨rfl, Or.inl rfl, z, rfl⟩) hd hK N hc hs
theorem endJ (X : Stand p l e R s m args below meth c T locs cells slots) (hx : p.tables.exec = Jvm.exec) (Bd : BodyLoose p l x S code' ml (some .long) e s m args below meth c s₁) {z : Int64}
    (hd : decode c.code pc = .ok (.lreturn, 1)) (hK : K (some (.long z)) T.heap) (N : Fr n0 locs) (hc : cells ≤ cc) (hs : slots ≤ nn) : Gl p e below s n0 cc nn K (T.setTop (mkF m pc Ls (.long z :: rest))) :=
  endO X hx Bd rfl (Or.inr (Or.inl ⟨rfl, rfl, z, rfl⟩)) hd hK N hc hs
theorem endR (X : Stand p l e R s m args below meth c T locs cells slots) (hx : p.tables.exec = Jvm.exec) {t : FieldType} (Bd : BodyLoose p l x S code' ml (some t) e s m args below meth c s₁) (ht : t.isReference = true) {a : Addr}
    (hd : decode c.code pc = .ok (.areturn, 1)) (hK : K (some (.ref a)) T.heap) (N : Fr n0 locs) (hc : cells ≤ cc) (hs : slots ≤ nn) : Gl p e below s n0 cc nn K (T.setTop (mkF m pc Ls (.ref a :: rest))) :=
  endO X hx Bd (by cases t <;> first | rfl | cases ht) (Or.inr (Or.inr (Or.inr (Or.inr ⟨rfl, ht, rfl⟩)))) hd hK N hc hs
theorem endV (X : Stand p l e R s m args below meth c T locs cells slots) (hx : p.tables.exec = Jvm.exec) (Bd : BodyLoose p l x S code' ml none e s m args below meth c s₁)
    (hd : decode c.code pc = .ok (.return_, 1)) (hK : K none T.heap) (N : Fr n0 locs) (hc : cells ≤ cc) (hs : slots ≤ nn) : Gl p e below s n0 cc nn K (T.setTop (mkF m pc Ls [])) := by
  obtain ⟨fs, hr, hrun, hended, hW, hsame⟩ := X.leave (v := none) (fun _ => rfl)
  exact ⟨_, _, X.returnOut hx Bd.returns hd hr, hrun, hended, _, _, rfl, ⟨hK, N⟩, ⟨_, rfl⟩, hW, hsame.mono hc hs⟩
theorem lremM {g : JFrame} {target : State} (X : Stand p l e R s m args below meth c T locs cells slots) (hx : p.tables.exec = Jvm.exec) (hg : g.method = m) {x y : Int64} {rest : List Value} (hd : decode c.code g.pc = .ok (.lrem, 1)) (hs : g.stack = .long y :: .long x :: rest) (hy : y ≠ 0)
    (hr : Steps p.tables e below (T.setTop { g with pc := g.pc + 1, stack := .long (x % y) :: rest }) target) : Steps p.tables e below (T.setTop g) target := by
  have q := lrem_mod x y
  exact XS.lrem X.here hx hg hd hs hy (by rw [q]; exact hr)
theorem sta_keep {Z : State} {h h' : Heap} {a : Addr} {C n d D : String} {w : Value} (F : Sta Z h C n d w) (Kp : Keep h h' [a]) (E : Exa Z h a D) : Sta Z h' C n d w := by
  obtain ⟨cf, i, k, f, st, cell, h1, h2, h3, h4, h5, h6, h7⟩ := F
  obtain ⟨cell', k', e1, -, -, e4, -⟩ := E
  refine ⟨cf, i, k, f, st, cell, h1, h2, h3, h4, Kp.2.1 st cell h5 (ninS (fun q => ?_) nin0), h6, h7⟩
  subst q; cases h5.symm.trans e1; rw [h6] at e4; cases e4
theorem sta_keepN {Z : State} {h h' : Heap} {ws : List Addr} {C n d : String} {w : Value} (F : Sta Z h C n d w) (Kp : Keep h h' ws) (hn : ∀ x ∈ ws, ∀ cell : Cell, h[x]? = some cell → cell.vm.isStatics = false) : Sta Z h' C n d w := by
  obtain ⟨cf, i, k, f, st, cell, h1, h2, h3, h4, h5, h6, h7⟩ := F
  refine ⟨cf, i, k, f, st, cell, h1, h2, h3, h4, Kp.2.1 st cell h5 (fun q => ?_), h6, h7⟩
  have := hn st q cell h5
  rw [h6] at this; cases this
theorem sta_keep0 {Z : State} {h h' : Heap} {C n d : String} {w : Value} (F : Sta Z h C n d w) (Kp : Keep h h' []) : Sta Z h' C n d w := by
  obtain ⟨cf, i, k, f, st, cell, h1, h2, h3, h4, h5, h6, h7⟩ := F
  exact ⟨cf, i, k, f, st, cell, h1, h2, h3, h4, Kp.2.1 st cell h5 nin0, h6, h7⟩
theorem sel_priv {Z s : State} {a0 args : Array Value} {y : MethodName} {n : Nat} (hZ : Z.Warmed39 s.vm) (wi : (Cond.instantiable y.cls n).before a0 Z = true) (wp : (Cond.privateMethod y).before a0 Z = true) (wm : (Cond.instanceMethod y).before a0 Z = true) (hy : y.cls ≠ "java/lang/invoke/MethodHandle" ∧ y.cls ≠ "java/lang/invoke/VarHandle") : (Cond.selects y.cls y y).before args s = true := by
  obtain ⟨c, k, h1, h2, -, h4, -⟩ := Cond.instantiable_spec (show (Cond.instantiable y.cls n).before args s = true from mvT hZ wi)
  exact Jvm.Stand.selects_self_of_private h1 h2 (by simp only [Bool.or_eq_false_iff] at h4; exact h4.1) (Cond.privateMethod_at (mvP hZ wp (args := args))) (mvT hZ wm) hy
theorem eqL_v {t : Term} {k : Int64} {a0 : Array Value} {first u : State} {o : Option Outcome} {idx : List Nat} (h : (Cond.eq t (.long k)).value a0 first o u idx = some true) : t.eval a0 first o idx u = some (.long k) := by
  simp only [Cond.value, Term.eval] at h
  cases ht : t.eval a0 first o idx u with
  | none => simp [ht] at h
  | some x => cases x <;> simp [ht] at h ⊢; exact h
theorem eqI_v {t : Term} {k : Int32} {a0 : Array Value} {first u : State} {o : Option Outcome} {idx : List Nat} (h : (Cond.eq t (.int k)).value a0 first o u idx = some true) : t.eval a0 first o idx u = some (.int k) := by
  simp only [Cond.value, Term.eval] at h
  cases ht : t.eval a0 first o idx u with
  | none => simp [ht] at h
  | some x => cases x <;> simp [ht] at h ⊢; exact h
end OwnKit
theorem d1_0 : decode method_2_code 0 = .ok (.iload_n 0, 1) := by decide +kernel
theorem d1_1 : decode method_2_code 1 = .ok (.ifCond .ne 7, 3) := by decide +kernel
theorem d1_4 : decode method_2_code 4 = .ok (.getstatic 7, 3) := by decide +kernel
theorem d1_7 : decode method_2_code 7 = .ok (.areturn, 1) := by decide +kernel
theorem d1_8 : decode method_2_code 8 = .ok (.iload_n 0, 1) := by decide +kernel
theorem d1_9 : decode method_2_code 9 = .ok (.iconst 1, 1) := by decide +kernel
theorem d1_10 : decode method_2_code 10 = .ok (.if_icmp .ne 7, 3) := by decide +kernel
theorem d1_13 : decode method_2_code 13 = .ok (.getstatic 13, 3) := by decide +kernel
theorem d1_16 : decode method_2_code 16 = .ok (.areturn, 1) := by decide +kernel
theorem d1_17 : decode method_2_code 17 = .ok (.iload_n 0, 1) := by decide +kernel
theorem d1_18 : decode method_2_code 18 = .ok (.iconst 2, 1) := by decide +kernel
theorem d1_19 : decode method_2_code 19 = .ok (.if_icmp .ne 7, 3) := by decide +kernel
theorem d1_22 : decode method_2_code 22 = .ok (.getstatic 16, 3) := by decide +kernel
theorem d1_25 : decode method_2_code 25 = .ok (.areturn, 1) := by decide +kernel
theorem d1_26 : decode method_2_code 26 = .ok (.iload_n 0, 1) := by decide +kernel
theorem d1_27 : decode method_2_code 27 = .ok (.iconst 3, 1) := by decide +kernel
theorem d1_28 : decode method_2_code 28 = .ok (.if_icmp .ne 7, 3) := by decide +kernel
theorem d1_31 : decode method_2_code 31 = .ok (.getstatic 19, 3) := by decide +kernel
theorem d1_34 : decode method_2_code 34 = .ok (.areturn, 1) := by decide +kernel
theorem d1_35 : decode method_2_code 35 = .ok (.iload_n 0, 1) := by decide +kernel
theorem d1_36 : decode method_2_code 36 = .ok (.iconst 4, 1) := by decide +kernel
theorem d1_37 : decode method_2_code 37 = .ok (.if_icmp .ne 7, 3) := by decide +kernel
theorem d1_40 : decode method_2_code 40 = .ok (.getstatic 22, 3) := by decide +kernel
theorem d1_43 : decode method_2_code 43 = .ok (.areturn, 1) := by decide +kernel
theorem d1_44 : decode method_2_code 44 = .ok (.iload_n 0, 1) := by decide +kernel
theorem d1_45 : decode method_2_code 45 = .ok (.iconst 5, 1) := by decide +kernel
theorem d1_46 : decode method_2_code 46 = .ok (.if_icmp .ne 7, 3) := by decide +kernel
theorem d1_49 : decode method_2_code 49 = .ok (.getstatic 25, 3) := by decide +kernel
theorem d1_52 : decode method_2_code 52 = .ok (.areturn, 1) := by decide +kernel
theorem d1_53 : decode method_2_code 53 = .ok (.iload_n 0, 1) := by decide +kernel
theorem d1_54 : decode method_2_code 54 = .ok (.bipush 6, 2) := by decide +kernel
theorem d1_56 : decode method_2_code 56 = .ok (.if_icmp .ne 7, 3) := by decide +kernel
theorem d1_59 : decode method_2_code 59 = .ok (.getstatic 28, 3) := by decide +kernel
theorem d1_62 : decode method_2_code 62 = .ok (.areturn, 1) := by decide +kernel
theorem d1_63 : decode method_2_code 63 = .ok (.getstatic 31, 3) := by decide +kernel
theorem d1_66 : decode method_2_code 66 = .ok (.areturn, 1) := by decide +kernel
theorem pn_0 : plainName "com/example/linkwright/linkwright/InstructionIsStaticPinLaw" = true := by first | (simp [plainName, overriddenIn]; done) | decide +kernel
theorem ef_1 (m : MethodId) (p1 : Int32) : entryFrame m #[(.int p1)] 1 = mkF m 0 #[.val (.int p1)] [] := by first | (simp [entryFrame, mkF, argsToLocals, Value.category]; done) | rfl
def b1_0 (p1 : Int32) (w_GETSTATIC : Addr) (w_PUTSTATIC : Addr) (w_GETFIELD : Addr) (w_PUTFIELD : Addr) (w_INVOKEVIRTUAL : Addr) (w_INVOKESPECIAL : Addr) (w_INVOKESTATIC : Addr) (w_INVOKEINTERFACE : Addr) : Addr := (if p1 = (0 : Int32) then w_GETSTATIC else (if p1 = (1 : Int32) then w_PUTSTATIC else (if p1 = (2 : Int32) then w_GETFIELD else (if p1 = (3 : Int32) then w_PUTFIELD else (if p1 = (4 : Int32) then w_INVOKEVIRTUAL else (if p1 = (5 : Int32) then w_INVOKESPECIAL else (if p1 = (6 : Int32) then w_INVOKESTATIC else w_INVOKEINTERFACE)))))))
set_option maxRecDepth 65536 in
set_option maxHeartbeats 40000000 in
theorem rm1 (l : Launch) (Z : State) (a0 : Array Value) (hw : ∀ d ∈ tables_1, d.before a0 Z = true) (ws : List Jvm.Cond) (p1 : Int32) (w_GETSTATIC : Addr) (w_PUTSTATIC : Addr) (w_GETFIELD : Addr) (w_PUTFIELD : Addr) (w_INVOKEVIRTUAL : Addr) (w_INVOKESPECIAL : Addr) (w_INVOKESTATIC : Addr) (w_INVOKEINTERFACE : Addr) (h0 : Heap) (n0 : Nat) (Z0 : n0 ≤ h0.size) (S_GETSTATIC : Sta Z h0 "com/example/linkwright/linkwright/Reference$Instruction" "GETSTATIC" "Lcom/example/linkwright/linkwright/Reference$Instruction;" (.ref w_GETSTATIC)) (S_PUTSTATIC : Sta Z h0 "com/example/linkwright/linkwright/Reference$Instruction" "PUTSTATIC" "Lcom/example/linkwright/linkwright/Reference$Instruction;" (.ref w_PUTSTATIC)) (S_GETFIELD : Sta Z h0 "com/example/linkwright/linkwright/Reference$Instruction" "GETFIELD" "Lcom/example/linkwright/linkwright/Reference$Instruction;" (.ref w_GETFIELD)) (S_PUTFIELD : Sta Z h0 "com/example/linkwright/linkwright/Reference$Instruction" "PUTFIELD" "Lcom/example/linkwright/linkwright/Reference$Instruction;" (.ref w_PUTFIELD)) (S_INVOKEVIRTUAL : Sta Z h0 "com/example/linkwright/linkwright/Reference$Instruction" "INVOKEVIRTUAL" "Lcom/example/linkwright/linkwright/Reference$Instruction;" (.ref w_INVOKEVIRTUAL)) (S_INVOKESPECIAL : Sta Z h0 "com/example/linkwright/linkwright/Reference$Instruction" "INVOKESPECIAL" "Lcom/example/linkwright/linkwright/Reference$Instruction;" (.ref w_INVOKESPECIAL)) (S_INVOKESTATIC : Sta Z h0 "com/example/linkwright/linkwright/Reference$Instruction" "INVOKESTATIC" "Lcom/example/linkwright/linkwright/Reference$Instruction;" (.ref w_INVOKESTATIC)) (S_INVOKEINTERFACE : Sta Z h0 "com/example/linkwright/linkwright/Reference$Instruction" "INVOKEINTERFACE" "Lcom/example/linkwright/linkwright/Reference$Instruction;" (.ref w_INVOKEINTERFACE)) :
    MetFree l (⟨"com/example/linkwright/linkwright/InstructionIsStaticPinLaw", "pick", "(I)Lcom/example/linkwright/linkwright/Reference$Instruction;"⟩ : MethodName) (head1 (Jvm.Cond.code (⟨"com/example/linkwright/linkwright/InstructionIsStaticPinLaw", "pick", "(I)Lcom/example/linkwright/linkwright/Reference$Instruction;"⟩ : MethodName) method_2_code 1 (some (.object "com/example/linkwright/linkwright/Reference$Instruction")) :: ws) ({ frames := 0, cells := 0, slots := 0, locals := 0 } : Room)) (fun a U => a = #[(.int p1)] ∧ Z.Warmed39 U.vm ∧ U.heap = h0) (fun _ _ _ _ _ => True) (fun _ U o U' => ∃ v L, o = .returned v ∧ QK n0 (Kv (some (.ref (b1_0 p1 w_GETSTATIC w_PUTSTATIC w_GETFIELD w_PUTFIELD w_INVOKEVIRTUAL w_INVOKESPECIAL w_INVOKESTATIC w_INVOKEINTERFACE))) (fun h => h = h0)) v U'.heap L ∧ FrameEnd U o U' L ({ frames := 0, cells := 0, slots := 0, locals := 0 } : Room).cells ({ frames := 0, cells := 0, slots := 0, locals := 0 } : Room).slots) := by
  refine MetFree.of_bodySF (plainFor_of_name pn_0) hisR ?_
  intro p e s m args below meth c s₁ Bd hml0 hP hK
  obtain ⟨rfl, hZ, hh⟩ := hP
  have hx := Bd.exec
  have hby := Bd.bytes
  have hml : c.maxLocals = 1 := hml0
  have hown : s.vm.findClass "com/example/linkwright/linkwright/InstructionIsStaticPinLaw" = some m.cls := findClass_of_methodNamed Bd.named
  have hnm := (name_of_methodNamed Bd.named Bd.method).1
  have X0 : Stand p l e ({ frames := 0, cells := 0, slots := 0, locals := 0 } : Room) s m #[(.int p1)] below meth c s₁ [] 0 0 := Stand.of_body Bd
  have e0 : s₁.heap = h0 := by rw [← hh, Bd.state]; rfl
  have N0 := Fr.nil n0
  refine gl_start (ef_1 m p1) ?_
  show Gl p e below s n0 ({ frames := 0, cells := 0, slots := 0, locals := 0 } : Room).cells ({ frames := 0, cells := 0, slots := 0, locals := 0 } : Room).slots (Kv (some (.ref (if p1 = (0 : Int32) then w_GETSTATIC else (if p1 = (1 : Int32) then w_PUTSTATIC else (if p1 = (2 : Int32) then w_GETFIELD else (if p1 = (3 : Int32) then w_PUTFIELD else (if p1 = (4 : Int32) then w_INVOKEVIRTUAL else (if p1 = (5 : Int32) then w_INVOKESPECIAL else (if p1 = (6 : Int32) then w_INVOKESTATIC else w_INVOKEINTERFACE))))))))) (fun h => h = h0)) (s₁.setTop (mkF m 0 #[.val (.int p1)] []))
  refine go (fun t k => XS.iloadN X0.here hx rfl (hb hby d1_0) rfl  k) ?_
  show Gl _ _ _ _ _ _ _ _ (s₁.setTop (mkF m 1 #[.val (.int p1)] [(.int p1)]))
  refine gR (c := p1 = (0 : Int32)) (fun hc1 => ?_) (fun hc1 => ?_)
  · refine go (fun t k => XS.ifNo X0.here hx rfl (hb hby d1_1) rfl ((if0 _ _).trans (teq hc1).2) k) ?_
    show Gl _ _ _ _ _ _ _ _ (s₁.setTop (mkF m 4 #[.val (.int p1)] []))
    obtain ⟨T1, X1, e1, st1⟩ := getS2 X0 hx hZ hown (host := "") (Or.inl (hw _ (List.mem_of_getElem? (i := 4) rfl))) Via.refl e0 S_GETSTATIC (g := (mkF m 4 #[.val (.int p1)] [])) rfl (hb hby d1_4)
    refine go (fun t k => st1 _ k) ?_
    show Gl _ _ _ _ _ _ _ _ (T1.setTop (mkF m 7 #[.val (.int p1)] [(.ref w_GETSTATIC)]))
    exact endR X1 hx Bd rfl (hb hby d1_7) ⟨rfl, e1⟩ N0 (by decide) (by decide)
  · refine go (fun t k => XS.ifYes X0.here hx rfl (pc0 := 1) (pc' := 8) rfl (hb hby d1_1) rfl ((if0 _ _).trans (feq hc1).2) (by decide) (by decide) k) ?_
    show Gl _ _ _ _ _ _ _ _ (s₁.setTop (mkF m 8 #[.val (.int p1)] []))
    refine go (fun t k => XS.iloadN X0.here hx rfl (hb hby d1_8) rfl  k) ?_
    show Gl _ _ _ _ _ _ _ _ (s₁.setTop (mkF m 9 #[.val (.int p1)] [(.int p1)]))
    refine go (fun t k => XS.iconst X0.here hx rfl (hb hby d1_9) k) ?_
    show Gl _ _ _ _ _ _ _ _ (s₁.setTop (mkF m 10 #[.val (.int p1)] [(.int (1 : Int32)), (.int p1)]))
    refine gR (c := p1 = (1 : Int32)) (fun hc10 => ?_) (fun hc10 => ?_)
    · refine go (fun t k => XS.icmpNo X0.here hx rfl (hb hby d1_10) rfl (teq hc10).2 k) ?_
      show Gl _ _ _ _ _ _ _ _ (s₁.setTop (mkF m 13 #[.val (.int p1)] []))
      obtain ⟨T2, X2, e2, st2⟩ := getS2 X0 hx hZ hown (host := "") (Or.inl (hw _ (List.mem_of_getElem? (i := 24) rfl))) Via.refl e0 S_PUTSTATIC (g := (mkF m 13 #[.val (.int p1)] [])) rfl (hb hby d1_13)
      refine go (fun t k => st2 _ k) ?_
      show Gl _ _ _ _ _ _ _ _ (T2.setTop (mkF m 16 #[.val (.int p1)] [(.ref w_PUTSTATIC)]))
      exact endR X2 hx Bd rfl (hb hby d1_16) ⟨rfl, e2⟩ N0 (by decide) (by decide)
    · refine go (fun t k => XS.icmpYes X0.here hx rfl (pc0 := 10) (pc' := 17) rfl (hb hby d1_10) rfl (feq hc10).2 (by decide) (by decide) k) ?_
      show Gl _ _ _ _ _ _ _ _ (s₁.setTop (mkF m 17 #[.val (.int p1)] []))
      refine go (fun t k => XS.iloadN X0.here hx rfl (hb hby d1_17) rfl  k) ?_
      show Gl _ _ _ _ _ _ _ _ (s₁.setTop (mkF m 18 #[.val (.int p1)] [(.int p1)]))
      refine go (fun t k => XS.iconst X0.here hx rfl (hb hby d1_18) k) ?_
      show Gl _ _ _ _ _ _ _ _ (s₁.setTop (mkF m 19 #[.val (.int p1)] [(.int (2 : Int32)), (.int p1)]))
      refine gR (c := p1 = (2 : Int32)) (fun hc19 => ?_) (fun hc19 => ?_)
      · refine go (fun t k => XS.icmpNo X0.here hx rfl (hb hby d1_19) rfl (teq hc19).2 k) ?_
        show Gl _ _ _ _ _ _ _ _ (s₁.setTop (mkF m 22 #[.val (.int p1)] []))
        obtain ⟨T3, X3, e3, st3⟩ := getS2 X0 hx hZ hown (host := "") (Or.inl (hw _ (List.mem_of_getElem? (i := 22) rfl))) Via.refl e0 S_GETFIELD (g := (mkF m 22 #[.val (.int p1)] [])) rfl (hb hby d1_22)
        refine go (fun t k => st3 _ k) ?_
        show Gl _ _ _ _ _ _ _ _ (T3.setTop (mkF m 25 #[.val (.int p1)] [(.ref w_GETFIELD)]))
        exact endR X3 hx Bd rfl (hb hby d1_25) ⟨rfl, e3⟩ N0 (by decide) (by decide)
      · refine go (fun t k => XS.icmpYes X0.here hx rfl (pc0 := 19) (pc' := 26) rfl (hb hby d1_19) rfl (feq hc19).2 (by decide) (by decide) k) ?_
        show Gl _ _ _ _ _ _ _ _ (s₁.setTop (mkF m 26 #[.val (.int p1)] []))
        refine go (fun t k => XS.iloadN X0.here hx rfl (hb hby d1_26) rfl  k) ?_
        show Gl _ _ _ _ _ _ _ _ (s₁.setTop (mkF m 27 #[.val (.int p1)] [(.int p1)]))
        refine go (fun t k => XS.iconst X0.here hx rfl (hb hby d1_27) k) ?_
        show Gl _ _ _ _ _ _ _ _ (s₁.setTop (mkF m 28 #[.val (.int p1)] [(.int (3 : Int32)), (.int p1)]))
        refine gR (c := p1 = (3 : Int32)) (fun hc28 => ?_) (fun hc28 => ?_)
        · refine go (fun t k => XS.icmpNo X0.here hx rfl (hb hby d1_28) rfl (teq hc28).2 k) ?_
          show Gl _ _ _ _ _ _ _ _ (s₁.setTop (mkF m 31 #[.val (.int p1)] []))
          obtain ⟨T4, X4, e4, st4⟩ := getS2 X0 hx hZ hown (host := "") (Or.inl (hw _ (List.mem_of_getElem? (i := 13) rfl))) Via.refl e0 S_PUTFIELD (g := (mkF m 31 #[.val (.int p1)] [])) rfl (hb hby d1_31)
          refine go (fun t k => st4 _ k) ?_
          show Gl _ _ _ _ _ _ _ _ (T4.setTop (mkF m 34 #[.val (.int p1)] [(.ref w_PUTFIELD)]))
          exact endR X4 hx Bd rfl (hb hby d1_34) ⟨rfl, e4⟩ N0 (by decide) (by decide)
        · refine go (fun t k => XS.icmpYes X0.here hx rfl (pc0 := 28) (pc' := 35) rfl (hb hby d1_28) rfl (feq hc28).2 (by decide) (by decide) k) ?_
          show Gl _ _ _ _ _ _ _ _ (s₁.setTop (mkF m 35 #[.val (.int p1)] []))
          refine go (fun t k => XS.iloadN X0.here hx rfl (hb hby d1_35) rfl  k) ?_
          show Gl _ _ _ _ _ _ _ _ (s₁.setTop (mkF m 36 #[.val (.int p1)] [(.int p1)]))
          refine go (fun t k => XS.iconst X0.here hx rfl (hb hby d1_36) k) ?_
          show Gl _ _ _ _ _ _ _ _ (s₁.setTop (mkF m 37 #[.val (.int p1)] [(.int (4 : Int32)), (.int p1)]))
          refine gR (c := p1 = (4 : Int32)) (fun hc37 => ?_) (fun hc37 => ?_)
          · refine go (fun t k => XS.icmpNo X0.here hx rfl (hb hby d1_37) rfl (teq hc37).2 k) ?_
            show Gl _ _ _ _ _ _ _ _ (s₁.setTop (mkF m 40 #[.val (.int p1)] []))
            obtain ⟨T5, X5, e5, st5⟩ := getS2 X0 hx hZ hown (host := "") (Or.inl (hw _ (List.mem_of_getElem? (i := 25) rfl))) Via.refl e0 S_INVOKEVIRTUAL (g := (mkF m 40 #[.val (.int p1)] [])) rfl (hb hby d1_40)
            refine go (fun t k => st5 _ k) ?_
            show Gl _ _ _ _ _ _ _ _ (T5.setTop (mkF m 43 #[.val (.int p1)] [(.ref w_INVOKEVIRTUAL)]))
            exact endR X5 hx Bd rfl (hb hby d1_43) ⟨rfl, e5⟩ N0 (by decide) (by decide)
          · refine go (fun t k => XS.icmpYes X0.here hx rfl (pc0 := 37) (pc' := 44) rfl (hb hby d1_37) rfl (feq hc37).2 (by decide) (by decide) k) ?_
            show Gl _ _ _ _ _ _ _ _ (s₁.setTop (mkF m 44 #[.val (.int p1)] []))
            refine go (fun t k => XS.iloadN X0.here hx rfl (hb hby d1_44) rfl  k) ?_
            show Gl _ _ _ _ _ _ _ _ (s₁.setTop (mkF m 45 #[.val (.int p1)] [(.int p1)]))
            refine go (fun t k => XS.iconst X0.here hx rfl (hb hby d1_45) k) ?_
            show Gl _ _ _ _ _ _ _ _ (s₁.setTop (mkF m 46 #[.val (.int p1)] [(.int (5 : Int32)), (.int p1)]))
            refine gR (c := p1 = (5 : Int32)) (fun hc46 => ?_) (fun hc46 => ?_)
            · refine go (fun t k => XS.icmpNo X0.here hx rfl (hb hby d1_46) rfl (teq hc46).2 k) ?_
              show Gl _ _ _ _ _ _ _ _ (s₁.setTop (mkF m 49 #[.val (.int p1)] []))
              obtain ⟨T6, X6, e6, st6⟩ := getS2 X0 hx hZ hown (host := "") (Or.inl (hw _ (List.mem_of_getElem? (i := 27) rfl))) Via.refl e0 S_INVOKESPECIAL (g := (mkF m 49 #[.val (.int p1)] [])) rfl (hb hby d1_49)
              refine go (fun t k => st6 _ k) ?_
              show Gl _ _ _ _ _ _ _ _ (T6.setTop (mkF m 52 #[.val (.int p1)] [(.ref w_INVOKESPECIAL)]))
              exact endR X6 hx Bd rfl (hb hby d1_52) ⟨rfl, e6⟩ N0 (by decide) (by decide)
            · refine go (fun t k => XS.icmpYes X0.here hx rfl (pc0 := 46) (pc' := 53) rfl (hb hby d1_46) rfl (feq hc46).2 (by decide) (by decide) k) ?_
              show Gl _ _ _ _ _ _ _ _ (s₁.setTop (mkF m 53 #[.val (.int p1)] []))
              refine go (fun t k => XS.iloadN X0.here hx rfl (hb hby d1_53) rfl  k) ?_
              show Gl _ _ _ _ _ _ _ _ (s₁.setTop (mkF m 54 #[.val (.int p1)] [(.int p1)]))
              refine go (fun t k => XS.bipush X0.here hx rfl (hb hby d1_54) k) ?_
              show Gl _ _ _ _ _ _ _ _ (s₁.setTop (mkF m 56 #[.val (.int p1)] [(.int (6 : Int32)), (.int p1)]))
              refine gR (c := p1 = (6 : Int32)) (fun hc56 => ?_) (fun hc56 => ?_)
              · refine go (fun t k => XS.icmpNo X0.here hx rfl (hb hby d1_56) rfl (teq hc56).2 k) ?_
                show Gl _ _ _ _ _ _ _ _ (s₁.setTop (mkF m 59 #[.val (.int p1)] []))
                obtain ⟨T7, X7, e7, st7⟩ := getS2 X0 hx hZ hown (host := "") (Or.inl (hw _ (List.mem_of_getElem? (i := 19) rfl))) Via.refl e0 S_INVOKESTATIC (g := (mkF m 59 #[.val (.int p1)] [])) rfl (hb hby d1_59)
                refine go (fun t k => st7 _ k) ?_
                show Gl _ _ _ _ _ _ _ _ (T7.setTop (mkF m 62 #[.val (.int p1)] [(.ref w_INVOKESTATIC)]))
                exact endR X7 hx Bd rfl (hb hby d1_62) ⟨rfl, e7⟩ N0 (by decide) (by decide)
              · refine go (fun t k => XS.icmpYes X0.here hx rfl (pc0 := 56) (pc' := 63) rfl (hb hby d1_56) rfl (feq hc56).2 (by decide) (by decide) k) ?_
                show Gl _ _ _ _ _ _ _ _ (s₁.setTop (mkF m 63 #[.val (.int p1)] []))
                obtain ⟨T8, X8, e8, st8⟩ := getS2 X0 hx hZ hown (host := "") (Or.inl (hw _ (List.mem_of_getElem? (i := 20) rfl))) Via.refl e0 S_INVOKEINTERFACE (g := (mkF m 63 #[.val (.int p1)] [])) rfl (hb hby d1_63)
                refine go (fun t k => st8 _ k) ?_
                show Gl _ _ _ _ _ _ _ _ (T8.setTop (mkF m 66 #[.val (.int p1)] [(.ref w_INVOKEINTERFACE)]))
                exact endR X8 hx Bd rfl (hb hby d1_66) ⟨rfl, e8⟩ N0 (by decide) (by decide)
theorem d2_0 : decode prog_6_method_4_code 0 = .ok (.aload_n 0, 1) := by decide +kernel
theorem d2_1 : decode prog_6_method_4_code 1 = .ok (.getstatic 3, 3) := by decide +kernel
theorem d2_4 : decode prog_6_method_4_code 4 = .ok (.if_acmp .eq 17, 3) := by decide +kernel
theorem d2_7 : decode prog_6_method_4_code 7 = .ok (.aload_n 0, 1) := by decide +kernel
theorem d2_8 : decode prog_6_method_4_code 8 = .ok (.getstatic 7, 3) := by decide +kernel
theorem d2_11 : decode prog_6_method_4_code 11 = .ok (.if_acmp .eq 10, 3) := by decide +kernel
theorem d2_14 : decode prog_6_method_4_code 14 = .ok (.aload_n 0, 1) := by decide +kernel
theorem d2_15 : decode prog_6_method_4_code 15 = .ok (.getstatic 22, 3) := by decide +kernel
theorem d2_18 : decode prog_6_method_4_code 18 = .ok (.if_acmp .ne 7, 3) := by decide +kernel
theorem d2_21 : decode prog_6_method_4_code 21 = .ok (.iconst 1, 1) := by decide +kernel
theorem d2_22 : decode prog_6_method_4_code 22 = .ok (.goto 4, 3) := by decide +kernel
theorem d2_25 : decode prog_6_method_4_code 25 = .ok (.iconst 0, 1) := by decide +kernel
theorem d2_26 : decode prog_6_method_4_code 26 = .ok (.ireturn, 1) := by decide +kernel
theorem pn_1 : plainName "com/example/linkwright/linkwright/Reference$Instruction" = true := by first | (simp [plainName, overriddenIn]; done) | decide +kernel
theorem ef_2 (m : MethodId) (a1 : Addr) : entryFrame m #[(.ref a1)] 1 = mkF m 0 #[.val (.ref a1)] [] := by first | (simp [entryFrame, mkF, argsToLocals, Value.category]; done) | rfl
def b2_26 (s0_26 : Int32) : Int32 := (nar .boolean s0_26)
def b2_21  : Int32 := (b2_26 (1 : Int32))
def b2_0 (a1 : Addr) (w_GETSTATIC : Addr) (w_PUTSTATIC : Addr) (w_INVOKESTATIC : Addr) : Int32 := (if a1 = w_GETSTATIC then b2_21 else (if a1 = w_PUTSTATIC then b2_21 else (if a1 = w_INVOKESTATIC then b2_21 else (b2_26 (0 : Int32)))))
set_option maxRecDepth 65536 in
set_option maxHeartbeats 40000000 in
theorem rm2 (l : Launch) (Z : State) (a0 : Array Value) (hw : ∀ d ∈ tables_1, d.before a0 Z = true) (ws : List Jvm.Cond) (a1 : Addr) (w_GETSTATIC : Addr) (w_PUTSTATIC : Addr) (w_INVOKESTATIC : Addr) (h0 : Heap) (n0 : Nat) (Z0 : n0 ≤ h0.size) (S_GETSTATIC : Sta Z h0 "com/example/linkwright/linkwright/Reference$Instruction" "GETSTATIC" "Lcom/example/linkwright/linkwright/Reference$Instruction;" (.ref w_GETSTATIC)) (S_PUTSTATIC : Sta Z h0 "com/example/linkwright/linkwright/Reference$Instruction" "PUTSTATIC" "Lcom/example/linkwright/linkwright/Reference$Instruction;" (.ref w_PUTSTATIC)) (S_INVOKESTATIC : Sta Z h0 "com/example/linkwright/linkwright/Reference$Instruction" "INVOKESTATIC" "Lcom/example/linkwright/linkwright/Reference$Instruction;" (.ref w_INVOKESTATIC)) :
    MetFree l (⟨"com/example/linkwright/linkwright/Reference$Instruction", "isStatic", "()Z"⟩ : MethodName) (head1 (Jvm.Cond.code (⟨"com/example/linkwright/linkwright/Reference$Instruction", "isStatic", "()Z"⟩ : MethodName) prog_6_method_4_code 1 (some .boolean) :: ws) ({ frames := 0, cells := 0, slots := 0, locals := 0 } : Room)) (fun a U => a = #[(.ref a1)] ∧ Z.Warmed39 U.vm ∧ U.heap = h0) (fun _ _ _ _ _ => True) (fun _ U o U' => ∃ v L, o = .returned v ∧ QK n0 (Kv (some (.int (b2_0 a1 w_GETSTATIC w_PUTSTATIC w_INVOKESTATIC))) (fun h => h = h0)) v U'.heap L ∧ FrameEnd U o U' L ({ frames := 0, cells := 0, slots := 0, locals := 0 } : Room).cells ({ frames := 0, cells := 0, slots := 0, locals := 0 } : Room).slots) := by
  refine MetFree.of_bodySF (plainFor_of_name pn_1) hisR ?_
  intro p e s m args below meth c s₁ Bd hml0 hP hK
  obtain ⟨rfl, hZ, hh⟩ := hP
  have hx := Bd.exec
  have hby := Bd.bytes
  have hml : c.maxLocals = 1 := hml0
  have hown : s.vm.findClass "com/example/linkwright/linkwright/Reference$Instruction" = some m.cls := findClass_of_methodNamed Bd.named
  have hnm := (name_of_methodNamed Bd.named Bd.method).1
  have X0 : Stand p l e ({ frames := 0, cells := 0, slots := 0, locals := 0 } : Room) s m #[(.ref a1)] below meth c s₁ [] 0 0 := Stand.of_body Bd
  have e0 : s₁.heap = h0 := by rw [← hh, Bd.state]; rfl
  have N0 := Fr.nil n0
  refine gl_start (ef_2 m a1) ?_
  show Gl p e below s n0 ({ frames := 0, cells := 0, slots := 0, locals := 0 } : Room).cells ({ frames := 0, cells := 0, slots := 0, locals := 0 } : Room).slots (Kv (some (.int (if a1 = w_GETSTATIC then b2_21 else (if a1 = w_PUTSTATIC then b2_21 else (if a1 = w_INVOKESTATIC then b2_21 else (b2_26 (0 : Int32))))))) (fun h => h = h0)) (s₁.setTop (mkF m 0 #[.val (.ref a1)] []))
  refine go (fun t k => XS.aloadN X0.here hx rfl (hb hby d2_0) rfl rfl k) ?_
  show Gl _ _ _ _ _ _ _ _ (s₁.setTop (mkF m 1 #[.val (.ref a1)] [(.ref a1)]))
  obtain ⟨T1, X1, e1, st1⟩ := getS2 X0 hx hZ hown (host := "") (Or.inl (hw _ (List.mem_of_getElem? (i := 12) rfl))) Via.refl e0 S_GETSTATIC (g := (mkF m 1 #[.val (.ref a1)] [(.ref a1)])) rfl (hb hby d2_1)
  refine go (fun t k => st1 _ k) ?_
  show Gl _ _ _ _ _ _ _ _ (T1.setTop (mkF m 4 #[.val (.ref a1)] [(.ref w_GETSTATIC), (.ref a1)]))
  have J26 : ∀ (s0_26 : Int32) (TJ26 : State) (lJ26 : List Loc) (XJ26 : Stand p l e ({ frames := 0, cells := 0, slots := 0, locals := 0 } : Room) s m #[(.ref a1)] below meth c TJ26 lJ26 0 0) (eJ26 : TJ26.heap = h0) (NJ26 : Fr n0 lJ26), Gl p e below s n0 ({ frames := 0, cells := 0, slots := 0, locals := 0 } : Room).cells ({ frames := 0, cells := 0, slots := 0, locals := 0 } : Room).slots (Kv (some (.int (b2_26 s0_26))) (fun h => h = h0)) (TJ26.setTop (mkF m 26 #[.val (.ref a1)] [(.int s0_26)])) := by
    intro s0_26 TJ26 lJ26 XJ26 eJ26 NJ26
    show Gl _ _ _ _ _ _ _ (Kv (some (.int (nar .boolean s0_26))) _) _
    exact endN XJ26 hx Bd (t := .boolean) (by simp) (hb hby d2_26) ⟨rfl, eJ26⟩ NJ26 (by decide) (by decide)
  have J21 : ∀  (TJ21 : State) (lJ21 : List Loc) (XJ21 : Stand p l e ({ frames := 0, cells := 0, slots := 0, locals := 0 } : Room) s m #[(.ref a1)] below meth c TJ21 lJ21 0 0) (eJ21 : TJ21.heap = h0) (NJ21 : Fr n0 lJ21), Gl p e below s n0 ({ frames := 0, cells := 0, slots := 0, locals := 0 } : Room).cells ({ frames := 0, cells := 0, slots := 0, locals := 0 } : Room).slots (Kv (some (.int b2_21)) (fun h => h = h0)) (TJ21.setTop (mkF m 21 #[.val (.ref a1)] [])) := by
    intro  TJ21 lJ21 XJ21 eJ21 NJ21
    show Gl _ _ _ _ _ _ _ (Kv (some (.int (b2_26 (1 : Int32)))) _) _
    refine go (fun t k => XS.iconst XJ21.here hx rfl (hb hby d2_21) k) ?_
    show Gl _ _ _ _ _ _ _ _ (TJ21.setTop (mkF m 22 #[.val (.ref a1)] [(.int (1 : Int32))]))
    refine go (fun t k => XS.goto XJ21.here hx rfl (pc0 := 22) (pc' := 26) rfl (hb hby d2_22) (by decide) (by decide) k) ?_
    show Gl _ _ _ _ _ _ _ _ (TJ21.setTop (mkF m 26 #[.val (.ref a1)] [(.int (1 : Int32))]))
    exact J26 (1 : Int32) TJ21 _ XJ21 eJ21 NJ21
  refine gI (c := a1 = w_GETSTATIC) (fun hc4 => ?_) (fun hc4 => ?_)
  · refine go (fun t k => Jvm.RoadKit.acmp (g := (mkF m 4 #[.val (.ref a1)] [(.ref w_GETSTATIC), (.ref a1)])) X1 hx rfl rfl rfl (pc0 := 4) (pc' := 21) (same := true) rfl (hb hby d2_4) rfl (decide_eq_true (congrArg Value.ref hc4)) (by decide) (by decide) k) ?_
    show Gl _ _ _ _ _ _ _ _ (T1.setTop (mkF m 21 #[.val (.ref a1)] []))
    exact J21  T1 _ X1 e1 N0
  · refine go (fun t k => Jvm.RoadKit.acmp (g := (mkF m 4 #[.val (.ref a1)] [(.ref w_GETSTATIC), (.ref a1)])) X1 hx rfl rfl rfl (pc0 := 4) (pc' := 7) (same := false) rfl (hb hby d2_4) rfl (decide_eq_false fun q => hc4 (Value.ref.inj q)) (by decide) (by decide) k) ?_
    show Gl _ _ _ _ _ _ _ _ (T1.setTop (mkF m 7 #[.val (.ref a1)] []))
    refine go (fun t k => XS.aloadN X1.here hx rfl (hb hby d2_7) rfl rfl k) ?_
    show Gl _ _ _ _ _ _ _ _ (T1.setTop (mkF m 8 #[.val (.ref a1)] [(.ref a1)]))
    obtain ⟨T4, X4, e4, st4⟩ := getS2 X1 hx hZ hown (host := "") (Or.inl (hw _ (List.mem_of_getElem? (i := 15) rfl))) Via.refl e1 S_PUTSTATIC (g := (mkF m 8 #[.val (.ref a1)] [(.ref a1)])) rfl (hb hby d2_8)
    refine go (fun t k => st4 _ k) ?_
    show Gl _ _ _ _ _ _ _ _ (T4.setTop (mkF m 11 #[.val (.ref a1)] [(.ref w_PUTSTATIC), (.ref a1)]))
    refine gI (c := a1 = w_PUTSTATIC) (fun hc11 => ?_) (fun hc11 => ?_)
    · refine go (fun t k => Jvm.RoadKit.acmp (g := (mkF m 11 #[.val (.ref a1)] [(.ref w_PUTSTATIC), (.ref a1)])) X4 hx rfl rfl rfl (pc0 := 11) (pc' := 21) (same := true) rfl (hb hby d2_11) rfl (decide_eq_true (congrArg Value.ref hc11)) (by decide) (by decide) k) ?_
      show Gl _ _ _ _ _ _ _ _ (T4.setTop (mkF m 21 #[.val (.ref a1)] []))
      exact J21  T4 _ X4 e4 N0
    · refine go (fun t k => Jvm.RoadKit.acmp (g := (mkF m 11 #[.val (.ref a1)] [(.ref w_PUTSTATIC), (.ref a1)])) X4 hx rfl rfl rfl (pc0 := 11) (pc' := 14) (same := false) rfl (hb hby d2_11) rfl (decide_eq_false fun q => hc11 (Value.ref.inj q)) (by decide) (by decide) k) ?_
      show Gl _ _ _ _ _ _ _ _ (T4.setTop (mkF m 14 #[.val (.ref a1)] []))
      refine go (fun t k => XS.aloadN X4.here hx rfl (hb hby d2_14) rfl rfl k) ?_
      show Gl _ _ _ _ _ _ _ _ (T4.setTop (mkF m 15 #[.val (.ref a1)] [(.ref a1)]))
      obtain ⟨T5, X5, e5, st5⟩ := getS2 X4 hx hZ hown (host := "") (Or.inl (hw _ (List.mem_of_getElem? (i := 17) rfl))) Via.refl e4 S_INVOKESTATIC (g := (mkF m 15 #[.val (.ref a1)] [(.ref a1)])) rfl (hb hby d2_15)
      refine go (fun t k => st5 _ k) ?_
      show Gl _ _ _ _ _ _ _ _ (T5.setTop (mkF m 18 #[.val (.ref a1)] [(.ref w_INVOKESTATIC), (.ref a1)]))
      refine gI (c := a1 = w_INVOKESTATIC) (fun hc18 => ?_) (fun hc18 => ?_)
      · refine go (fun t k => Jvm.RoadKit.acmp (g := (mkF m 18 #[.val (.ref a1)] [(.ref w_INVOKESTATIC), (.ref a1)])) X5 hx rfl rfl rfl (pc0 := 18) (pc' := 21) (same := true) rfl (hb hby d2_18) rfl (decide_eq_true (congrArg Value.ref hc18)) (by decide) (by decide) k) ?_
        show Gl _ _ _ _ _ _ _ _ (T5.setTop (mkF m 21 #[.val (.ref a1)] []))
        exact J21  T5 _ X5 e5 N0
      · refine go (fun t k => Jvm.RoadKit.acmp (g := (mkF m 18 #[.val (.ref a1)] [(.ref w_INVOKESTATIC), (.ref a1)])) X5 hx rfl rfl rfl (pc0 := 18) (pc' := 25) (same := false) rfl (hb hby d2_18) rfl (decide_eq_false fun q => hc18 (Value.ref.inj q)) (by decide) (by decide) k) ?_
        show Gl _ _ _ _ _ _ _ _ (T5.setTop (mkF m 25 #[.val (.ref a1)] []))
        refine go (fun t k => XS.iconst X5.here hx rfl (hb hby d2_25) k) ?_
        show Gl _ _ _ _ _ _ _ _ (T5.setTop (mkF m 26 #[.val (.ref a1)] [(.int (0 : Int32))]))
        exact J26 (0 : Int32) T5 _ X5 e5 N0
theorem own_exa {Z : State} {h : Heap} {k : Int32} {w_GETSTATIC w_PUTSTATIC w_GETFIELD w_PUTFIELD w_INVOKEVIRTUAL w_INVOKESPECIAL w_INVOKESTATIC w_INVOKEINTERFACE : Addr} (E_GETSTATIC : Exa Z h w_GETSTATIC "com/example/linkwright/linkwright/Reference$Instruction") (E_PUTSTATIC : Exa Z h w_PUTSTATIC "com/example/linkwright/linkwright/Reference$Instruction") (E_GETFIELD : Exa Z h w_GETFIELD "com/example/linkwright/linkwright/Reference$Instruction") (E_PUTFIELD : Exa Z h w_PUTFIELD "com/example/linkwright/linkwright/Reference$Instruction") (E_INVOKEVIRTUAL : Exa Z h w_INVOKEVIRTUAL "com/example/linkwright/linkwright/Reference$Instruction") (E_INVOKESPECIAL : Exa Z h w_INVOKESPECIAL "com/example/linkwright/linkwright/Reference$Instruction") (E_INVOKESTATIC : Exa Z h w_INVOKESTATIC "com/example/linkwright/linkwright/Reference$Instruction") (E_INVOKEINTERFACE : Exa Z h w_INVOKEINTERFACE "com/example/linkwright/linkwright/Reference$Instruction") : Exa Z h (b1_0 k w_GETSTATIC w_PUTSTATIC w_GETFIELD w_PUTFIELD w_INVOKEVIRTUAL w_INVOKESPECIAL w_INVOKESTATIC w_INVOKEINTERFACE) "com/example/linkwright/linkwright/Reference$Instruction" := by
  unfold b1_0
  (repeat' split) <;> assumption
theorem pd_0 : parseMethodDescriptor "(I)Lcom/example/linkwright/linkwright/Reference$Instruction;" = some ⟨[.int], some (.object "com/example/linkwright/linkwright/Reference$Instruction")⟩ := by decide +kernel
theorem pd_1 : parseMethodDescriptor "()Z" = some ⟨[], some .boolean⟩ := by decide +kernel
theorem ef_0 (m : MethodId) (p1 : Int32) : entryFrame m #[(.int p1)] maxLocals = mkF m 0 #[.val (.int p1), .unset, .unset, .unset] [] := by first | (simp [entryFrame, mkF, argsToLocals, Value.category, maxLocals]; done) | rfl
def b0_38 (s0_38 : Int32) : Int32 := (nar .boolean s0_38)
def b0_24 (p1 : Int32) (w_GETSTATIC : Addr) (w_PUTSTATIC : Addr) (w_GETFIELD : Addr) (w_PUTFIELD : Addr) (w_INVOKEVIRTUAL : Addr) (w_INVOKESPECIAL : Addr) (w_INVOKESTATIC : Addr) (w_INVOKEINTERFACE : Addr) (s0_24 : Int32) : Int32 := (if (b2_0 (b1_0 (p1 &&& (7 : Int32)) w_GETSTATIC w_PUTSTATIC w_GETFIELD w_PUTFIELD w_INVOKEVIRTUAL w_INVOKESPECIAL w_INVOKESTATIC w_INVOKEINTERFACE) w_GETSTATIC w_PUTSTATIC w_INVOKESTATIC) = s0_24 then (b0_38 (1 : Int32)) else (b0_38 (0 : Int32)))
def b0_0 (p1 : Int32) (w_GETSTATIC : Addr) (w_PUTSTATIC : Addr) (w_GETFIELD : Addr) (w_PUTFIELD : Addr) (w_INVOKEVIRTUAL : Addr) (w_INVOKESPECIAL : Addr) (w_INVOKESTATIC : Addr) (w_INVOKEINTERFACE : Addr) : Int32 := (if (((67 : Int32) >>> ((p1 &&& (7 : Int32)) &&& 31)) &&& (1 : Int32)) = (0 : Int32) then (b0_24 p1 w_GETSTATIC w_PUTSTATIC w_GETFIELD w_PUTFIELD w_INVOKEVIRTUAL w_INVOKESPECIAL w_INVOKESTATIC w_INVOKEINTERFACE (0 : Int32)) else (b0_24 p1 w_GETSTATIC w_PUTSTATIC w_GETFIELD w_PUTFIELD w_INVOKEVIRTUAL w_INVOKESPECIAL w_INVOKESTATIC w_INVOKEINTERFACE (1 : Int32)))
set_option maxRecDepth 65536 in
set_option maxHeartbeats 40000000 in
theorem rm0 (l : Launch) (Z : State) (a0 : Array Value) (hw : ∀ d ∈ tables_1, d.before a0 Z = true) (ws : List Jvm.Cond) (p1 : Int32) (w_GETSTATIC : Addr) (w_PUTSTATIC : Addr) (w_GETFIELD : Addr) (w_PUTFIELD : Addr) (w_INVOKEVIRTUAL : Addr) (w_INVOKESPECIAL : Addr) (w_INVOKESTATIC : Addr) (w_INVOKEINTERFACE : Addr) (h0 : Heap) (n0 : Nat) (Z0 : n0 ≤ h0.size) (S_GETSTATIC : Sta Z h0 "com/example/linkwright/linkwright/Reference$Instruction" "GETSTATIC" "Lcom/example/linkwright/linkwright/Reference$Instruction;" (.ref w_GETSTATIC)) (S_PUTSTATIC : Sta Z h0 "com/example/linkwright/linkwright/Reference$Instruction" "PUTSTATIC" "Lcom/example/linkwright/linkwright/Reference$Instruction;" (.ref w_PUTSTATIC)) (S_GETFIELD : Sta Z h0 "com/example/linkwright/linkwright/Reference$Instruction" "GETFIELD" "Lcom/example/linkwright/linkwright/Reference$Instruction;" (.ref w_GETFIELD)) (S_PUTFIELD : Sta Z h0 "com/example/linkwright/linkwright/Reference$Instruction" "PUTFIELD" "Lcom/example/linkwright/linkwright/Reference$Instruction;" (.ref w_PUTFIELD)) (S_INVOKEVIRTUAL : Sta Z h0 "com/example/linkwright/linkwright/Reference$Instruction" "INVOKEVIRTUAL" "Lcom/example/linkwright/linkwright/Reference$Instruction;" (.ref w_INVOKEVIRTUAL)) (S_INVOKESPECIAL : Sta Z h0 "com/example/linkwright/linkwright/Reference$Instruction" "INVOKESPECIAL" "Lcom/example/linkwright/linkwright/Reference$Instruction;" (.ref w_INVOKESPECIAL)) (S_INVOKESTATIC : Sta Z h0 "com/example/linkwright/linkwright/Reference$Instruction" "INVOKESTATIC" "Lcom/example/linkwright/linkwright/Reference$Instruction;" (.ref w_INVOKESTATIC)) (S_INVOKEINTERFACE : Sta Z h0 "com/example/linkwright/linkwright/Reference$Instruction" "INVOKEINTERFACE" "Lcom/example/linkwright/linkwright/Reference$Instruction;" (.ref w_INVOKEINTERFACE)) (EX_GETSTATIC : Exa Z h0 w_GETSTATIC "com/example/linkwright/linkwright/Reference$Instruction") (EX_PUTSTATIC : Exa Z h0 w_PUTSTATIC "com/example/linkwright/linkwright/Reference$Instruction") (EX_GETFIELD : Exa Z h0 w_GETFIELD "com/example/linkwright/linkwright/Reference$Instruction") (EX_PUTFIELD : Exa Z h0 w_PUTFIELD "com/example/linkwright/linkwright/Reference$Instruction") (EX_INVOKEVIRTUAL : Exa Z h0 w_INVOKEVIRTUAL "com/example/linkwright/linkwright/Reference$Instruction") (EX_INVOKESPECIAL : Exa Z h0 w_INVOKESPECIAL "com/example/linkwright/linkwright/Reference$Instruction") (EX_INVOKESTATIC : Exa Z h0 w_INVOKESTATIC "com/example/linkwright/linkwright/Reference$Instruction") (EX_INVOKEINTERFACE : Exa Z h0 w_INVOKEINTERFACE "com/example/linkwright/linkwright/Reference$Instruction") :
    MetFree l x (head1 (Jvm.Cond.code x code maxLocals ret :: ws) room_1) (fun a U => a = #[(.int p1)] ∧ Z.Warmed39 U.vm ∧ U.heap = h0) (fun _ _ _ _ _ => True) (fun _ U o U' => ∃ v L, o = .returned v ∧ QK n0 (Kv (some (.int (b0_0 p1 w_GETSTATIC w_PUTSTATIC w_GETFIELD w_PUTFIELD w_INVOKEVIRTUAL w_INVOKESPECIAL w_INVOKESTATIC w_INVOKEINTERFACE))) (fun _ => True)) v U'.heap L ∧ FrameEnd U o U' L room_1.cells room_1.slots) := by
  refine MetFree.of_bodySF (plainFor_of_name pn_0) hisR ?_
  intro p e s m args below meth c s₁ Bd hml0 hP hK
  obtain ⟨rfl, hZ, hh⟩ := hP
  have hx := Bd.exec
  have hby := Bd.bytes
  have hml : c.maxLocals = 4 := hml0
  have hown : s.vm.findClass "com/example/linkwright/linkwright/InstructionIsStaticPinLaw" = some m.cls := findClass_of_methodNamed Bd.named
  have hnm := (name_of_methodNamed Bd.named Bd.method).1
  have X0 : Stand p l e room_1 s m #[(.int p1)] below meth c s₁ [] 0 0 := Stand.of_body Bd
  have e0 : s₁.heap = h0 := by rw [← hh, Bd.state]; rfl
  have N0 := Fr.nil n0
  refine gl_start (ef_0 m p1) ?_
  show Gl p e below s n0 room_1.cells room_1.slots (Kv (some (.int (if (((67 : Int32) >>> ((p1 &&& (7 : Int32)) &&& 31)) &&& (1 : Int32)) = (0 : Int32) then (b0_24 p1 w_GETSTATIC w_PUTSTATIC w_GETFIELD w_PUTFIELD w_INVOKEVIRTUAL w_INVOKESPECIAL w_INVOKESTATIC w_INVOKEINTERFACE (0 : Int32)) else (b0_24 p1 w_GETSTATIC w_PUTSTATIC w_GETFIELD w_PUTFIELD w_INVOKEVIRTUAL w_INVOKESPECIAL w_INVOKESTATIC w_INVOKEINTERFACE (1 : Int32))))) (fun _ => True)) (s₁.setTop (mkF m 0 #[.val (.int p1), .unset, .unset, .unset] []))
  refine go (fun t k => XS.iloadN X0.here hx rfl (hb hby at_0) rfl  k) ?_
  show Gl _ _ _ _ _ _ _ _ (s₁.setTop (mkF m 1 #[.val (.int p1), .unset, .unset, .unset] [(.int p1)]))
  refine go (fun t k => XS.bipush X0.here hx rfl (hb hby at_1) k) ?_
  show Gl _ _ _ _ _ _ _ _ (s₁.setTop (mkF m 3 #[.val (.int p1), .unset, .unset, .unset] [(.int (7 : Int32)), (.int p1)]))
  refine go (fun t k => XS.iand X0.here hx rfl (hb hby at_3) rfl k) ?_
  show Gl _ _ _ _ _ _ _ _ (s₁.setTop (mkF m 4 #[.val (.int p1), .unset, .unset, .unset] [(.int (p1 &&& (7 : Int32)))]))
  refine go (fun t k => XS.istoreN X0.here hx rfl (hb hby at_4) rfl (l' := #[.val (.int p1), .val (.int (p1 &&& (7 : Int32))), .unset, .unset]) rfl k) ?_
  show Gl _ _ _ _ _ _ _ _ (s₁.setTop (mkF m 5 #[.val (.int p1), .val (.int (p1 &&& (7 : Int32))), .unset, .unset] []))
  refine go (fun t k => XS.iloadN X0.here hx rfl (hb hby at_5) rfl  k) ?_
  show Gl _ _ _ _ _ _ _ _ (s₁.setTop (mkF m 6 #[.val (.int p1), .val (.int (p1 &&& (7 : Int32))), .unset, .unset] [(.int (p1 &&& (7 : Int32)))]))
  obtain ⟨_, _, ⟨T1, L1, k1, n1⟩, -, X1, ⟨Lc1, hQ1, l1, y1, z1⟩, st1⟩ := Jvm.LawKit.callS X0 hx (y := (⟨"com/example/linkwright/linkwright/InstructionIsStaticPinLaw", "pick", "(I)Lcom/example/linkwright/linkwright/Reference$Instruction;"⟩ : MethodName)) hown (mvT hZ (hw _ (List.mem_of_getElem? (i := 0) rfl))) (mvT hZ (hw _ (List.mem_of_getElem? (i := 1) rfl))) (mvT hZ (hw _ (List.mem_of_getElem? (i := 2) rfl))) (mvT hZ (hw _ (List.mem_of_getElem? (i := 3) rfl))) (by decide) (backOf (W := 0) (rm1 l Z a0 hw [] (p1 &&& (7 : Int32)) w_GETSTATIC w_PUTSTATIC w_GETFIELD w_PUTFIELD w_INVOKEVIRTUAL w_INVOKESPECIAL w_INVOKESTATIC w_INVOKEINTERFACE h0 n0 Z0 S_GETSTATIC S_PUTSTATIC S_GETFIELD S_PUTFIELD S_INVOKEVIRTUAL S_INVOKESPECIAL S_INVOKESTATIC S_INVOKEINTERFACE) hZ (hw _ (List.mem_of_getElem? (i := 3) rfl)) (hw _ (List.mem_of_getElem? (i := 2) rfl)) (by decide) (by decide)) (g := (mkF m 6 #[.val (.int p1), .val (.int (p1 &&& (7 : Int32))), .unset, .unset] [(.int (p1 &&& (7 : Int32)))])) rfl (by rw [hml]; rfl) (argsL := [(.int (p1 &&& (7 : Int32)))]) (rest := []) (lenOf pd_0 rfl) rfl (by show 2 * 0 + _ ≤ _; exact Nat.le_of_eq rfl) (hb hby at_6) (fun _ _ => ⟨rfl, e0, (by decide : 0 + 0 ≤ _), (by decide : 0 + 0 ≤ _)⟩)
  dsimp only [Pt.U, Pt.locs, Pt.cells, Pt.slots] at X1 l1 y1 z1 st1 hQ1
  subst l1 y1 z1
  have X1 : Stand p l e room_1 s m #[(.int p1)] below meth c T1 _ 0 0 := X1
  obtain ⟨⟨rfl, e1'⟩, N1q⟩ := hQ1
  have e1 : T1.heap = h0 := e1'
  have N1 := Fr.app N0 N1q
  refine go (fun t k => st1 _ k) ?_
  show Gl _ _ _ _ _ _ _ _ (T1.setTop (mkF m 9 #[.val (.int p1), .val (.int (p1 &&& (7 : Int32))), .unset, .unset] [(.ref (b1_0 (p1 &&& (7 : Int32)) w_GETSTATIC w_PUTSTATIC w_GETFIELD w_PUTFIELD w_INVOKEVIRTUAL w_INVOKESPECIAL w_INVOKESTATIC w_INVOKEINTERFACE))]))
  refine go (fun t k => XS.astoreN X1.here hx rfl (hb hby at_9) rfl rfl (l' := #[.val (.int p1), .val (.int (p1 &&& (7 : Int32))), .val (.ref (b1_0 (p1 &&& (7 : Int32)) w_GETSTATIC w_PUTSTATIC w_GETFIELD w_PUTFIELD w_INVOKEVIRTUAL w_INVOKESPECIAL w_INVOKESTATIC w_INVOKEINTERFACE)), .unset]) rfl k) ?_
  show Gl _ _ _ _ _ _ _ _ (T1.setTop (mkF m 10 #[.val (.int p1), .val (.int (p1 &&& (7 : Int32))), .val (.ref (b1_0 (p1 &&& (7 : Int32)) w_GETSTATIC w_PUTSTATIC w_GETFIELD w_PUTFIELD w_INVOKEVIRTUAL w_INVOKESPECIAL w_INVOKESTATIC w_INVOKEINTERFACE)), .unset] []))
  refine go (fun t k => XS.bipush X1.here hx rfl (hb hby at_10) k) ?_
  show Gl _ _ _ _ _ _ _ _ (T1.setTop (mkF m 12 #[.val (.int p1), .val (.int (p1 &&& (7 : Int32))), .val (.ref (b1_0 (p1 &&& (7 : Int32)) w_GETSTATIC w_PUTSTATIC w_GETFIELD w_PUTFIELD w_INVOKEVIRTUAL w_INVOKESPECIAL w_INVOKESTATIC w_INVOKEINTERFACE)), .unset] [(.int (67 : Int32))]))
  refine go (fun t k => XS.iloadN X1.here hx rfl (hb hby at_12) rfl  k) ?_
  show Gl _ _ _ _ _ _ _ _ (T1.setTop (mkF m 13 #[.val (.int p1), .val (.int (p1 &&& (7 : Int32))), .val (.ref (b1_0 (p1 &&& (7 : Int32)) w_GETSTATIC w_PUTSTATIC w_GETFIELD w_PUTFIELD w_INVOKEVIRTUAL w_INVOKESPECIAL w_INVOKESTATIC w_INVOKEINTERFACE)), .unset] [(.int (p1 &&& (7 : Int32))), (.int (67 : Int32))]))
  refine go (fun t k => XS.ishr X1.here hx rfl (hb hby at_13) rfl k) ?_
  show Gl _ _ _ _ _ _ _ _ (T1.setTop (mkF m 14 #[.val (.int p1), .val (.int (p1 &&& (7 : Int32))), .val (.ref (b1_0 (p1 &&& (7 : Int32)) w_GETSTATIC w_PUTSTATIC w_GETFIELD w_PUTFIELD w_INVOKEVIRTUAL w_INVOKESPECIAL w_INVOKESTATIC w_INVOKEINTERFACE)), .unset] [(.int ((67 : Int32) >>> ((p1 &&& (7 : Int32)) &&& 31)))]))
  refine go (fun t k => XS.iconst X1.here hx rfl (hb hby at_14) k) ?_
  show Gl _ _ _ _ _ _ _ _ (T1.setTop (mkF m 15 #[.val (.int p1), .val (.int (p1 &&& (7 : Int32))), .val (.ref (b1_0 (p1 &&& (7 : Int32)) w_GETSTATIC w_PUTSTATIC w_GETFIELD w_PUTFIELD w_INVOKEVIRTUAL w_INVOKESPECIAL w_INVOKESTATIC w_INVOKEINTERFACE)), .unset] [(.int (1 : Int32)), (.int ((67 : Int32) >>> ((p1 &&& (7 : Int32)) &&& 31)))]))
  refine go (fun t k => XS.iand X1.here hx rfl (hb hby at_15) rfl k) ?_
  show Gl _ _ _ _ _ _ _ _ (T1.setTop (mkF m 16 #[.val (.int p1), .val (.int (p1 &&& (7 : Int32))), .val (.ref (b1_0 (p1 &&& (7 : Int32)) w_GETSTATIC w_PUTSTATIC w_GETFIELD w_PUTFIELD w_INVOKEVIRTUAL w_INVOKESPECIAL w_INVOKESTATIC w_INVOKEINTERFACE)), .unset] [(.int (((67 : Int32) >>> ((p1 &&& (7 : Int32)) &&& 31)) &&& (1 : Int32)))]))
  have J24 : ∀ (s0_24 : Int32) (TJ24 : State) (lJ24 : List Loc) (XJ24 : Stand p l e room_1 s m #[(.int p1)] below meth c TJ24 lJ24 0 0) (eJ24 : TJ24.heap = h0) (NJ24 : Fr n0 lJ24), Gl p e below s n0 room_1.cells room_1.slots (Kv (some (.int (b0_24 p1 w_GETSTATIC w_PUTSTATIC w_GETFIELD w_PUTFIELD w_INVOKEVIRTUAL w_INVOKESPECIAL w_INVOKESTATIC w_INVOKEINTERFACE s0_24))) (fun _ => True)) (TJ24.setTop (mkF m 24 #[.val (.int p1), .val (.int (p1 &&& (7 : Int32))), .val (.ref (b1_0 (p1 &&& (7 : Int32)) w_GETSTATIC w_PUTSTATIC w_GETFIELD w_PUTFIELD w_INVOKEVIRTUAL w_INVOKESPECIAL w_INVOKESTATIC w_INVOKEINTERFACE)), .unset] [(.int s0_24)])) := by
    intro s0_24 TJ24 lJ24 XJ24 eJ24 NJ24
    show Gl _ _ _ _ _ _ _ (Kv (some (.int (if (b2_0 (b1_0 (p1 &&& (7 : Int32)) w_GETSTATIC w_PUTSTATIC w_GETFIELD w_PUTFIELD w_INVOKEVIRTUAL w_INVOKESPECIAL w_INVOKESTATIC w_INVOKEINTERFACE) w_GETSTATIC w_PUTSTATIC w_INVOKESTATIC) = s0_24 then (b0_38 (1 : Int32)) else (b0_38 (0 : Int32))))) _) _
    refine go (fun t k => XS.istoreN XJ24.here hx rfl (hb hby at_24) rfl (l' := #[.val (.int p1), .val (.int (p1 &&& (7 : Int32))), .val (.ref (b1_0 (p1 &&& (7 : Int32)) w_GETSTATIC w_PUTSTATIC w_GETFIELD w_PUTFIELD w_INVOKEVIRTUAL w_INVOKESPECIAL w_INVOKESTATIC w_INVOKEINTERFACE)), .val (.int s0_24)]) rfl k) ?_
    show Gl _ _ _ _ _ _ _ _ (TJ24.setTop (mkF m 25 #[.val (.int p1), .val (.int (p1 &&& (7 : Int32))), .val (.ref (b1_0 (p1 &&& (7 : Int32)) w_GETSTATIC w_PUTSTATIC w_GETFIELD w_PUTFIELD w_INVOKEVIRTUAL w_INVOKESPECIAL w_INVOKESTATIC w_INVOKEINTERFACE)), .val (.int s0_24)] []))
    refine go (fun t k => XS.aloadN XJ24.here hx rfl (hb hby at_25) rfl rfl k) ?_
    show Gl _ _ _ _ _ _ _ _ (TJ24.setTop (mkF m 26 #[.val (.int p1), .val (.int (p1 &&& (7 : Int32))), .val (.ref (b1_0 (p1 &&& (7 : Int32)) w_GETSTATIC w_PUTSTATIC w_GETFIELD w_PUTFIELD w_INVOKEVIRTUAL w_INVOKESPECIAL w_INVOKESTATIC w_INVOKEINTERFACE)), .val (.int s0_24)] [(.ref (b1_0 (p1 &&& (7 : Int32)) w_GETSTATIC w_PUTSTATIC w_GETFIELD w_PUTFIELD w_INVOKEVIRTUAL w_INVOKESPECIAL w_INVOKESTATIC w_INVOKEINTERFACE))]))
    obtain ⟨cq3, kq3, q3a, q3b, q3c⟩ := isOf hZ eJ24 (own_exa EX_GETSTATIC EX_PUTSTATIC EX_GETFIELD EX_PUTFIELD EX_INVOKEVIRTUAL EX_INVOKESPECIAL EX_INVOKESTATIC EX_INVOKEINTERFACE)
    obtain ⟨_, _, ⟨T3, L3, k3, n3⟩, -, X3, ⟨Lc3, hQ3, l3, y3, z3⟩, st3⟩ := XJ24.virtualBack hx (y := (⟨"com/example/linkwright/linkwright/Reference$Instruction", "isStatic", "()Z"⟩ : MethodName)) (z := (⟨"com/example/linkwright/linkwright/Reference$Instruction", "isStatic", "()Z"⟩ : MethodName)) hown (mvT hZ (hw _ (List.mem_of_getElem? (i := 7) rfl))) (mvT hZ (hw _ (List.mem_of_getElem? (i := 8) rfl))) (notFace_of_selects (args := #[]) (mvT hZ (hw _ (List.mem_of_getElem? (i := 10) rfl)))) (mvT hZ (hw _ (List.mem_of_getElem? (i := 10) rfl))) (mvT hZ (hw _ (List.mem_of_getElem? (i := 9) rfl))) (by decide) (backOf (W := 0) (rm2 l Z a0 hw [] (b1_0 (p1 &&& (7 : Int32)) w_GETSTATIC w_PUTSTATIC w_GETFIELD w_PUTFIELD w_INVOKEVIRTUAL w_INVOKESPECIAL w_INVOKESTATIC w_INVOKEINTERFACE) w_GETSTATIC w_PUTSTATIC w_INVOKESTATIC h0 n0 Z0 S_GETSTATIC S_PUTSTATIC S_INVOKESTATIC) hZ (hw _ (List.mem_of_getElem? (i := 11) rfl)) (hw _ (List.mem_of_getElem? (i := 5) rfl)) (by decide) (by decide)) q3a q3c (g := (mkF m 26 #[.val (.int p1), .val (.int (p1 &&& (7 : Int32))), .val (.ref (b1_0 (p1 &&& (7 : Int32)) w_GETSTATIC w_PUTSTATIC w_GETFIELD w_PUTFIELD w_INVOKEVIRTUAL w_INVOKESPECIAL w_INVOKESTATIC w_INVOKEINTERFACE)), .val (.int s0_24)] [(.ref (b1_0 (p1 &&& (7 : Int32)) w_GETSTATIC w_PUTSTATIC w_GETFIELD w_PUTFIELD w_INVOKEVIRTUAL w_INVOKESPECIAL w_INVOKESTATIC w_INVOKEINTERFACE))])) rfl (by rw [hml]; rfl) (Steps.refl _) (argsL := []) (rest := []) (lenOf pd_1 rfl) rfl (by show 2 * 0 + _ ≤ _; exact Nat.le_of_eq rfl) (hb hby at_26) (fun _ _ => ⟨rfl, eJ24, (by decide : 0 + 0 ≤ _), (by decide : 0 + 0 ≤ _)⟩)
    dsimp only [Pt.U, Pt.locs, Pt.cells, Pt.slots] at X3 l3 y3 z3 st3 hQ3
    subst l3 y3 z3
    have X3 : Stand p l e room_1 s m #[(.int p1)] below meth c T3 _ 0 0 := X3
    obtain ⟨⟨rfl, e3'⟩, N3q⟩ := hQ3
    have e3 : T3.heap = h0 := e3'
    have N3 := Fr.app NJ24 N3q
    refine go (fun t k => st3.trans k) ?_
    show Gl _ _ _ _ _ _ _ _ (T3.setTop (mkF m 29 #[.val (.int p1), .val (.int (p1 &&& (7 : Int32))), .val (.ref (b1_0 (p1 &&& (7 : Int32)) w_GETSTATIC w_PUTSTATIC w_GETFIELD w_PUTFIELD w_INVOKEVIRTUAL w_INVOKESPECIAL w_INVOKESTATIC w_INVOKEINTERFACE)), .val (.int s0_24)] [(.int (b2_0 (b1_0 (p1 &&& (7 : Int32)) w_GETSTATIC w_PUTSTATIC w_GETFIELD w_PUTFIELD w_INVOKEVIRTUAL w_INVOKESPECIAL w_INVOKESTATIC w_INVOKEINTERFACE) w_GETSTATIC w_PUTSTATIC w_INVOKESTATIC))]))
    refine go (fun t k => XS.iloadN X3.here hx rfl (hb hby at_29) rfl  k) ?_
    show Gl _ _ _ _ _ _ _ _ (T3.setTop (mkF m 30 #[.val (.int p1), .val (.int (p1 &&& (7 : Int32))), .val (.ref (b1_0 (p1 &&& (7 : Int32)) w_GETSTATIC w_PUTSTATIC w_GETFIELD w_PUTFIELD w_INVOKEVIRTUAL w_INVOKESPECIAL w_INVOKESTATIC w_INVOKEINTERFACE)), .val (.int s0_24)] [(.int s0_24), (.int (b2_0 (b1_0 (p1 &&& (7 : Int32)) w_GETSTATIC w_PUTSTATIC w_GETFIELD w_PUTFIELD w_INVOKEVIRTUAL w_INVOKESPECIAL w_INVOKESTATIC w_INVOKEINTERFACE) w_GETSTATIC w_PUTSTATIC w_INVOKESTATIC))]))
    have J38 : ∀ (s0_38 : Int32) (TJ38 : State) (lJ38 : List Loc) (XJ38 : Stand p l e room_1 s m #[(.int p1)] below meth c TJ38 lJ38 0 0) (eJ38 : TJ38.heap = h0) (NJ38 : Fr n0 lJ38), Gl p e below s n0 room_1.cells room_1.slots (Kv (some (.int (b0_38 s0_38))) (fun _ => True)) (TJ38.setTop (mkF m 38 #[.val (.int p1), .val (.int (p1 &&& (7 : Int32))), .val (.ref (b1_0 (p1 &&& (7 : Int32)) w_GETSTATIC w_PUTSTATIC w_GETFIELD w_PUTFIELD w_INVOKEVIRTUAL w_INVOKESPECIAL w_INVOKESTATIC w_INVOKEINTERFACE)), .val (.int s0_24)] [(.int s0_38)])) := by
      intro s0_38 TJ38 lJ38 XJ38 eJ38 NJ38
      show Gl _ _ _ _ _ _ _ (Kv (some (.int (nar .boolean s0_38))) _) _
      exact endN XJ38 hx Bd (t := .boolean) (by simp) (hb hby at_38) ⟨rfl, trivial⟩ NJ38 (by decide) (by decide)
    refine gI (c := (b2_0 (b1_0 (p1 &&& (7 : Int32)) w_GETSTATIC w_PUTSTATIC w_GETFIELD w_PUTFIELD w_INVOKEVIRTUAL w_INVOKESPECIAL w_INVOKESTATIC w_INVOKEINTERFACE) w_GETSTATIC w_PUTSTATIC w_INVOKESTATIC) = s0_24) (fun hc30 => ?_) (fun hc30 => ?_)
    · refine go (fun t k => XS.icmpNo X3.here hx rfl (hb hby at_30) rfl (teq hc30).2 k) ?_
      show Gl _ _ _ _ _ _ _ _ (T3.setTop (mkF m 33 #[.val (.int p1), .val (.int (p1 &&& (7 : Int32))), .val (.ref (b1_0 (p1 &&& (7 : Int32)) w_GETSTATIC w_PUTSTATIC w_GETFIELD w_PUTFIELD w_INVOKEVIRTUAL w_INVOKESPECIAL w_INVOKESTATIC w_INVOKEINTERFACE)), .val (.int s0_24)] []))
      refine go (fun t k => XS.iconst X3.here hx rfl (hb hby at_33) k) ?_
      show Gl _ _ _ _ _ _ _ _ (T3.setTop (mkF m 34 #[.val (.int p1), .val (.int (p1 &&& (7 : Int32))), .val (.ref (b1_0 (p1 &&& (7 : Int32)) w_GETSTATIC w_PUTSTATIC w_GETFIELD w_PUTFIELD w_INVOKEVIRTUAL w_INVOKESPECIAL w_INVOKESTATIC w_INVOKEINTERFACE)), .val (.int s0_24)] [(.int (1 : Int32))]))
      refine go (fun t k => XS.goto X3.here hx rfl (pc0 := 34) (pc' := 38) rfl (hb hby at_34) (by decide) (by decide) k) ?_
      show Gl _ _ _ _ _ _ _ _ (T3.setTop (mkF m 38 #[.val (.int p1), .val (.int (p1 &&& (7 : Int32))), .val (.ref (b1_0 (p1 &&& (7 : Int32)) w_GETSTATIC w_PUTSTATIC w_GETFIELD w_PUTFIELD w_INVOKEVIRTUAL w_INVOKESPECIAL w_INVOKESTATIC w_INVOKEINTERFACE)), .val (.int s0_24)] [(.int (1 : Int32))]))
      exact J38 (1 : Int32) T3 _ X3 e3 N3
    · refine go (fun t k => XS.icmpYes X3.here hx rfl (pc0 := 30) (pc' := 37) rfl (hb hby at_30) rfl (feq hc30).2 (by decide) (by decide) k) ?_
      show Gl _ _ _ _ _ _ _ _ (T3.setTop (mkF m 37 #[.val (.int p1), .val (.int (p1 &&& (7 : Int32))), .val (.ref (b1_0 (p1 &&& (7 : Int32)) w_GETSTATIC w_PUTSTATIC w_GETFIELD w_PUTFIELD w_INVOKEVIRTUAL w_INVOKESPECIAL w_INVOKESTATIC w_INVOKEINTERFACE)), .val (.int s0_24)] []))
      refine go (fun t k => XS.iconst X3.here hx rfl (hb hby at_37) k) ?_
      show Gl _ _ _ _ _ _ _ _ (T3.setTop (mkF m 38 #[.val (.int p1), .val (.int (p1 &&& (7 : Int32))), .val (.ref (b1_0 (p1 &&& (7 : Int32)) w_GETSTATIC w_PUTSTATIC w_GETFIELD w_PUTFIELD w_INVOKEVIRTUAL w_INVOKESPECIAL w_INVOKESTATIC w_INVOKEINTERFACE)), .val (.int s0_24)] [(.int (0 : Int32))]))
      exact J38 (0 : Int32) T3 _ X3 e3 N3
  refine gI (c := (((67 : Int32) >>> ((p1 &&& (7 : Int32)) &&& 31)) &&& (1 : Int32)) = (0 : Int32)) (fun hc16 => ?_) (fun hc16 => ?_)
  · refine go (fun t k => XS.ifYes X1.here hx rfl (pc0 := 16) (pc' := 23) rfl (hb hby at_16) rfl ((if0 _ _).trans (teq hc16).1) (by decide) (by decide) k) ?_
    show Gl _ _ _ _ _ _ _ _ (T1.setTop (mkF m 23 #[.val (.int p1), .val (.int (p1 &&& (7 : Int32))), .val (.ref (b1_0 (p1 &&& (7 : Int32)) w_GETSTATIC w_PUTSTATIC w_GETFIELD w_PUTFIELD w_INVOKEVIRTUAL w_INVOKESPECIAL w_INVOKESTATIC w_INVOKEINTERFACE)), .unset] []))
    refine go (fun t k => XS.iconst X1.here hx rfl (hb hby at_23) k) ?_
    show Gl _ _ _ _ _ _ _ _ (T1.setTop (mkF m 24 #[.val (.int p1), .val (.int (p1 &&& (7 : Int32))), .val (.ref (b1_0 (p1 &&& (7 : Int32)) w_GETSTATIC w_PUTSTATIC w_GETFIELD w_PUTFIELD w_INVOKEVIRTUAL w_INVOKESPECIAL w_INVOKESTATIC w_INVOKEINTERFACE)), .unset] [(.int (0 : Int32))]))
    exact J24 (0 : Int32) T1 _ X1 e1 N1
  · refine go (fun t k => XS.ifNo X1.here hx rfl (hb hby at_16) rfl ((if0 _ _).trans (feq hc16).1) k) ?_
    show Gl _ _ _ _ _ _ _ _ (T1.setTop (mkF m 19 #[.val (.int p1), .val (.int (p1 &&& (7 : Int32))), .val (.ref (b1_0 (p1 &&& (7 : Int32)) w_GETSTATIC w_PUTSTATIC w_GETFIELD w_PUTFIELD w_INVOKEVIRTUAL w_INVOKESPECIAL w_INVOKESTATIC w_INVOKEINTERFACE)), .unset] []))
    refine go (fun t k => XS.iconst X1.here hx rfl (hb hby at_19) k) ?_
    show Gl _ _ _ _ _ _ _ _ (T1.setTop (mkF m 20 #[.val (.int p1), .val (.int (p1 &&& (7 : Int32))), .val (.ref (b1_0 (p1 &&& (7 : Int32)) w_GETSTATIC w_PUTSTATIC w_GETFIELD w_PUTFIELD w_INVOKEVIRTUAL w_INVOKESPECIAL w_INVOKESTATIC w_INVOKEINTERFACE)), .unset] [(.int (1 : Int32))]))
    refine go (fun t k => XS.goto X1.here hx rfl (pc0 := 20) (pc' := 24) rfl (hb hby at_20) (by decide) (by decide) k) ?_
    show Gl _ _ _ _ _ _ _ _ (T1.setTop (mkF m 24 #[.val (.int p1), .val (.int (p1 &&& (7 : Int32))), .val (.ref (b1_0 (p1 &&& (7 : Int32)) w_GETSTATIC w_PUTSTATIC w_GETFIELD w_PUTFIELD w_INVOKEVIRTUAL w_INVOKESPECIAL w_INVOKESTATIC w_INVOKEINTERFACE)), .unset] [(.int (1 : Int32))]))
    exact J24 (1 : Int32) T1 _ X1 e1 N1
theorem own_eight (p : Int32) : (p &&& 7) = 0 ∨ (p &&& 7) = 1 ∨ (p &&& 7) = 2 ∨ (p &&& 7) = 3 ∨ (p &&& 7) = 4 ∨ (p &&& 7) = 5 ∨ (p &&& 7) = 6 ∨ (p &&& 7) = 7 := by
  have e := Jvm.Kit.i32_mask p 7 (k := 3) (by decide) (by decide)
  simp only [← Int32.toInt_inj, e, Int32.reduceToInt]; omega
theorem law_eq (p1 : Int32) {gs ps gf pf iv isp ist ii : Addr} (h1 : gf ≠ gs) (h2 : gf ≠ ps) (h3 : gf ≠ ist) (h4 : pf ≠ gs) (h5 : pf ≠ ps) (h6 : pf ≠ ist) (h7 : iv ≠ gs) (h8 : iv ≠ ps) (h9 : iv ≠ ist) (h10 : isp ≠ gs) (h11 : isp ≠ ps) (h12 : isp ≠ ist) (h13 : ii ≠ gs) (h14 : ii ≠ ps) (h15 : ii ≠ ist) :
    b0_0 p1 gs ps gf pf iv isp ist ii = 1 := by
  have k0 : b0_38 1 = 1 := rfl
  have m1 : b2_21 = 1 := rfl
  have m0 : b2_26 0 = 0 := rfl
  have z10 : ¬ ((1 : Int32) = 0) := by decide
  have z01 : ¬ ((0 : Int32) = 1) := by decide
  unfold b0_0 b0_24
  rcases own_eight p1 with h | h | h | h | h | h | h | h <;> rw [h]
  · rw [show ((67 : Int32) >>> ((0 : Int32) &&& 31)) &&& 1 = 1 by decide]; simp [b1_0, b2_0, k0, m1, m0, z10]
  · rw [show ((67 : Int32) >>> ((1 : Int32) &&& 31)) &&& 1 = 1 by decide]; simp [b1_0, b2_0, k0, m1, m0, z10]
  · rw [show ((67 : Int32) >>> ((2 : Int32) &&& 31)) &&& 1 = 0 by decide]; simp [b1_0, b2_0, k0, m1, m0, h1, h2, h3]
  · rw [show ((67 : Int32) >>> ((3 : Int32) &&& 31)) &&& 1 = 0 by decide]; simp [b1_0, b2_0, k0, m1, m0, h4, h5, h6]
  · rw [show ((67 : Int32) >>> ((4 : Int32) &&& 31)) &&& 1 = 0 by decide]; simp [b1_0, b2_0, k0, m1, m0, h7, h8, h9]
  · rw [show ((67 : Int32) >>> ((5 : Int32) &&& 31)) &&& 1 = 0 by decide]; simp [b1_0, b2_0, k0, m1, m0, h10, h11, h12]
  · rw [show ((67 : Int32) >>> ((6 : Int32) &&& 31)) &&& 1 = 1 by decide]; simp [b1_0, b2_0, k0, m1, m0, z10]
  · rw [show ((67 : Int32) >>> ((7 : Int32) &&& 31)) &&& 1 = 0 by decide]; simp [b1_0, b2_0, k0, m1, m0, h13, h14, h15]
set_option maxRecDepth 65536 in
set_option maxHeartbeats 40000000 in
theorem comes_1 {Post : Tables → Env → Array Value → State → Outcome → State → Prop} (hpost : ∀ tb e args s v u, (limb_1_1.after args s (.returned v) u = true ∧ limb_1_2.after args s (.returned v) u = true ∧ True) → FrameEnd s (.returned v) u (Jvm.fieldLocs frame_1_writes args s ++ Jvm.arrayLocs frame_1_arrays args s ++ Jvm.staticLocs frame_1_statics s) 0 0 → Post tb e args s (.returned v) u) :
    ArmFor flags0 classFile x code maxLocals ret World_1 tables_1 room_1 Calls_1 rest_1 Pre_1 Post := by
  intro l hfl _ _ p e ha hc hk s m args below hf hA hF happ hP
  obtain ⟨hcalls, hrest, hpre⟩ := hP
  obtain ⟨-, -, -, hnamed, -, -, -, hat⟩ := (Spec.applies_iff hf).mp happ
  obtain ⟨hg, hn⟩ := and_e (Cond.before_iff.mp (show (Jvm.Cond.and given_1 narrow_1).before args s = true from hpre))
  obtain ⟨g1, g2⟩ := and_e hg
  obtain ⟨w0, rfl⟩ : ∃ w0 : Value, args = #[w0] := by
    have hs : args.size = 1 := by simpa [Cond.value, given_1] using g1
    obtain ⟨L⟩ := args
    match L, hs with
    | [w0], _ => exact ⟨w0, rfl⟩
  have hw := fun d (hd : d ∈ tables_1) => atoms_spec (ws := Jvm.Cond.code x code maxLocals ret :: tables_1) hat d (List.mem_cons_of_mem _ hd)
  have hfit : Fit s := fun {y c} hc i hi => by
    obtain ⟨ha, rfl⟩ := Array.getElem?_eq_some_iff.mp hc
    have q := List.all_eq_true.mp ((Array.all_eq_true_iff_forall_mem.mp hF) _ (Array.getElem_mem ha)) i (List.mem_range.mpr hi)
    simpa [Array.getElem?_eq_getElem hi] using q
  obtain ⟨i0, ei0⟩ := is_v g2
  obtain rfl : w0 = (.int i0) := Option.some.inj ei0
  obtain ⟨m0, hn0⟩ := and_e hn
  obtain ⟨m1, hn1⟩ := and_e hn0
  obtain ⟨m2, hn2⟩ := and_e hn1
  obtain ⟨m3, hn3⟩ := and_e hn2
  obtain ⟨m4, hn4⟩ := and_e hn3
  obtain ⟨m5, hn5⟩ := and_e hn4
  obtain ⟨m6, hn6⟩ := and_e hn5
  obtain ⟨m7, hn7⟩ := and_e hn6
  obtain ⟨m8, hn8⟩ := and_e hn7
  obtain ⟨m9, hn9⟩ := and_e hn8
  obtain ⟨m10, hn10⟩ := and_e hn9
  obtain ⟨m11, hn11⟩ := and_e hn10
  obtain ⟨m12, hn12⟩ := and_e hn11
  obtain ⟨m13, hn13⟩ := and_e hn12
  obtain ⟨m14, hn14⟩ := and_e hn13
  obtain ⟨a_GETSTATIC, ea_GETSTATIC⟩ := exa_v m0
  have EX_GETSTATIC := Exa.start ea_GETSTATIC m0
  have S_GETSTATIC : Sta s s.heap "com/example/linkwright/linkwright/Reference$Instruction" "GETSTATIC" "Lcom/example/linkwright/linkwright/Reference$Instruction;" (.ref a_GETSTATIC) := Sta.start ea_GETSTATIC (Or.inr ⟨(hw _ (List.mem_of_getElem? (i := 5) rfl)), (hw _ (List.mem_of_getElem? (i := 6) rfl))⟩)
  have F_GETSTATIC : Fld s s.heap a_GETSTATIC "java/lang/Enum" "ordinal" "I" (.int 0) := Fld.start ((fld_at ea_GETSTATIC).symm.trans (eqI_v m3))
  obtain ⟨a_PUTSTATIC, ea_PUTSTATIC⟩ := exa_v m4
  have EX_PUTSTATIC := Exa.start ea_PUTSTATIC m4
  have S_PUTSTATIC : Sta s s.heap "com/example/linkwright/linkwright/Reference$Instruction" "PUTSTATIC" "Lcom/example/linkwright/linkwright/Reference$Instruction;" (.ref a_PUTSTATIC) := Sta.start ea_PUTSTATIC (Or.inr ⟨(hw _ (List.mem_of_getElem? (i := 5) rfl)), (hw _ (List.mem_of_getElem? (i := 16) rfl))⟩)
  have F_PUTSTATIC : Fld s s.heap a_PUTSTATIC "java/lang/Enum" "ordinal" "I" (.int 1) := Fld.start ((fld_at ea_PUTSTATIC).symm.trans (eqI_v m5))
  obtain ⟨a_GETFIELD, ea_GETFIELD⟩ := exa_v m10
  have EX_GETFIELD := Exa.start ea_GETFIELD m10
  have S_GETFIELD : Sta s s.heap "com/example/linkwright/linkwright/Reference$Instruction" "GETFIELD" "Lcom/example/linkwright/linkwright/Reference$Instruction;" (.ref a_GETFIELD) := Sta.start ea_GETFIELD (Or.inr ⟨(hw _ (List.mem_of_getElem? (i := 5) rfl)), (hw _ (List.mem_of_getElem? (i := 23) rfl))⟩)
  have F_GETFIELD : Fld s s.heap a_GETFIELD "java/lang/Enum" "ordinal" "I" (.int 2) := Fld.start ((fld_at ea_GETFIELD).symm.trans (eqI_v m11))
  obtain ⟨a_PUTFIELD, ea_PUTFIELD⟩ := exa_v m1
  have EX_PUTFIELD := Exa.start ea_PUTFIELD m1
  have S_PUTFIELD : Sta s s.heap "com/example/linkwright/linkwright/Reference$Instruction" "PUTFIELD" "Lcom/example/linkwright/linkwright/Reference$Instruction;" (.ref a_PUTFIELD) := Sta.start ea_PUTFIELD (Or.inr ⟨(hw _ (List.mem_of_getElem? (i := 5) rfl)), (hw _ (List.mem_of_getElem? (i := 14) rfl))⟩)
  have F_PUTFIELD : Fld s s.heap a_PUTFIELD "java/lang/Enum" "ordinal" "I" (.int 3) := Fld.start ((fld_at ea_PUTFIELD).symm.trans (eqI_v m2))
  obtain ⟨a_INVOKEVIRTUAL, ea_INVOKEVIRTUAL⟩ := exa_v m12
  have EX_INVOKEVIRTUAL := Exa.start ea_INVOKEVIRTUAL m12
  have S_INVOKEVIRTUAL : Sta s s.heap "com/example/linkwright/linkwright/Reference$Instruction" "INVOKEVIRTUAL" "Lcom/example/linkwright/linkwright/Reference$Instruction;" (.ref a_INVOKEVIRTUAL) := Sta.start ea_INVOKEVIRTUAL (Or.inr ⟨(hw _ (List.mem_of_getElem? (i := 5) rfl)), (hw _ (List.mem_of_getElem? (i := 26) rfl))⟩)
  have F_INVOKEVIRTUAL : Fld s s.heap a_INVOKEVIRTUAL "java/lang/Enum" "ordinal" "I" (.int 4) := Fld.start ((fld_at ea_INVOKEVIRTUAL).symm.trans (eqI_v m13))
  obtain ⟨a_INVOKESPECIAL, ea_INVOKESPECIAL⟩ := exa_v m14
  have EX_INVOKESPECIAL := Exa.start ea_INVOKESPECIAL m14
  have S_INVOKESPECIAL : Sta s s.heap "com/example/linkwright/linkwright/Reference$Instruction" "INVOKESPECIAL" "Lcom/example/linkwright/linkwright/Reference$Instruction;" (.ref a_INVOKESPECIAL) := Sta.start ea_INVOKESPECIAL (Or.inr ⟨(hw _ (List.mem_of_getElem? (i := 5) rfl)), (hw _ (List.mem_of_getElem? (i := 28) rfl))⟩)
  have F_INVOKESPECIAL : Fld s s.heap a_INVOKESPECIAL "java/lang/Enum" "ordinal" "I" (.int 5) := Fld.start ((fld_at ea_INVOKESPECIAL).symm.trans (eqI_v hn14))
  obtain ⟨a_INVOKESTATIC, ea_INVOKESTATIC⟩ := exa_v m6
  have EX_INVOKESTATIC := Exa.start ea_INVOKESTATIC m6
  have S_INVOKESTATIC : Sta s s.heap "com/example/linkwright/linkwright/Reference$Instruction" "INVOKESTATIC" "Lcom/example/linkwright/linkwright/Reference$Instruction;" (.ref a_INVOKESTATIC) := Sta.start ea_INVOKESTATIC (Or.inr ⟨(hw _ (List.mem_of_getElem? (i := 5) rfl)), (hw _ (List.mem_of_getElem? (i := 18) rfl))⟩)
  have F_INVOKESTATIC : Fld s s.heap a_INVOKESTATIC "java/lang/Enum" "ordinal" "I" (.int 6) := Fld.start ((fld_at ea_INVOKESTATIC).symm.trans (eqI_v m7))
  obtain ⟨a_INVOKEINTERFACE, ea_INVOKEINTERFACE⟩ := exa_v m8
  have EX_INVOKEINTERFACE := Exa.start ea_INVOKEINTERFACE m8
  have S_INVOKEINTERFACE : Sta s s.heap "com/example/linkwright/linkwright/Reference$Instruction" "INVOKEINTERFACE" "Lcom/example/linkwright/linkwright/Reference$Instruction;" (.ref a_INVOKEINTERFACE) := Sta.start ea_INVOKEINTERFACE (Or.inr ⟨(hw _ (List.mem_of_getElem? (i := 5) rfl)), (hw _ (List.mem_of_getElem? (i := 21) rfl))⟩)
  have F_INVOKEINTERFACE : Fld s s.heap a_INVOKEINTERFACE "java/lang/Enum" "ordinal" "I" (.int 7) := Fld.start ((fld_at ea_INVOKEINTERFACE).symm.trans (eqI_v m9))
  obtain ⟨n, o, h1, h2, h3, _, L, rfl, ⟨⟨hv, -⟩, N⟩, hq⟩ := rm0 l s _ hw tables_1 i0 a_GETSTATIC a_PUTSTATIC a_GETFIELD a_PUTFIELD a_INVOKEVIRTUAL a_INVOKESPECIAL a_INVOKESTATIC a_INVOKEINTERFACE s.heap s.heap.size (Nat.le_refl _) S_GETSTATIC S_PUTSTATIC S_GETFIELD S_PUTFIELD S_INVOKEVIRTUAL S_INVOKESPECIAL S_INVOKESTATIC S_INVOKEINTERFACE EX_GETSTATIC EX_PUTSTATIC EX_GETFIELD EX_PUTFIELD EX_INVOKEVIRTUAL EX_INVOKESPECIAL EX_INVOKESTATIC EX_INVOKEINTERFACE p e ha hc hk s m _ below hf ((Spec.applies_iff_loose hf).mp happ).1 ⟨rfl, State.Warmed39.refl s, rfl⟩ trivial
  rw [(law_eq i0 (F_GETFIELD.ne F_GETSTATIC (by decide)) (F_GETFIELD.ne F_PUTSTATIC (by decide)) (F_GETFIELD.ne F_INVOKESTATIC (by decide)) (F_PUTFIELD.ne F_GETSTATIC (by decide)) (F_PUTFIELD.ne F_PUTSTATIC (by decide)) (F_PUTFIELD.ne F_INVOKESTATIC (by decide)) (F_INVOKEVIRTUAL.ne F_GETSTATIC (by decide)) (F_INVOKEVIRTUAL.ne F_PUTSTATIC (by decide)) (F_INVOKEVIRTUAL.ne F_INVOKESTATIC (by decide)) (F_INVOKESPECIAL.ne F_GETSTATIC (by decide)) (F_INVOKESPECIAL.ne F_PUTSTATIC (by decide)) (F_INVOKESPECIAL.ne F_INVOKESTATIC (by decide)) (F_INVOKEINTERFACE.ne F_GETSTATIC (by decide)) (F_INVOKEINTERFACE.ne F_PUTSTATIC (by decide)) (F_INVOKEINTERFACE.ne F_INVOKESTATIC (by decide)))] at hv
  subst hv
  refine ⟨n, _, h1, h2, h3, hpost _ _ _ _ _ _ ⟨Cond.after_iff.mpr rfl, Cond.after_iff.mpr (eq_i res_at (Term.int_eval (1)) rfl), trivial⟩ ⟨hq.1, hq.2.1, (hq.2.2.sift fun y hy => Or.inr (N y hy)).mono (by decide) (by decide)⟩⟩
theorem main_1_1 : Claimed_1_1 := comes_1 fun _ _ _ _ _ _ h hF => ⟨h.1, hF⟩
theorem main_1_2 : Claimed_1_2 := comes_1 fun _ _ _ _ _ _ h hF => ⟨h.2.1, hF⟩
end Jvm.Pilot.@@N@@
namespace Jvm.Pilot.@@N@@
open Jvm Jvm.ClassFile Sem Op Lib Jvm.Free Jvm.Stand Jvm.Pilot.@@N@@.Jvm.D
/-! MADE BY PROGRAM (witnessworld.py) out of the Statement's table words and the real class files: 12 classes; the members and pool entries that the words name. The judged class is class 1, her method 2. -/
namespace start1
open Jvm.ClassFile
def u (s : String) : CpInfo := .utf8 (stringToUtf16 s)
/-- a pool by its gaps: so many unusable entries, then the entry; so many at the end -/
def gap : Nat → List CpInfo → List CpInfo
  | 0, r => r
  | n + 1, r => .unusable :: gap n r
def poolList (es : List (Nat × CpInfo)) (last : Nat) : List CpInfo := es.foldr (fun e r => gap e.1 (e.2 :: r)) (gap last [])
def pool (es : List (Nat × CpInfo)) (last : Nat) : Array CpInfo := ⟨poolList es last⟩
def fileOf (pool : Array CpInfo) (this : Nat) (attrs : Array Attribute := #[]) (ms : Array MethodInfo := #[]) (fl : Nat := 33) (sup : Nat := 0) (ifs : Array Nat := #[]) (fds : Array FieldInfo := #[]) : ClassFile where
  minorVersion := 0
  majorVersion := 65
  constantPool := pool
  accessFlags := fl
  thisClass := this
  superClass := sup
  interfaces := ifs
  fields := fds
  methods := ms
  attributes := attrs
def plain (name : String) (sup : Option ClassId) : Class where
  name := name
  kind := .ordinary
  loader := none
  accessFlags := 33
  super := sup
  interfaces := #[]
  cf := none
  fields := #[]
  methods := #[]
  instanceTypes := #[]
  staticTypes := #[]
  resolved := #[]
  callSites := []
  init := .initialized
  statics := none
  mirror := none

def pool0 : Array CpInfo := pool [(5, u "<init>"), (0, u "()V"), (1, .class_ 10), (1, u "java/lang/Object")] 113

def k0m0 : Method := { name := "<init>", desc := "()V", sig := { parameters := [], returnType := none }, accessFlags := 1, code := none }
/-- java/lang/Object -/
def k0 : Class := { plain "java/lang/Object" none with
  accessFlags := 33
  interfaces := #[]
  cf := some (fileOf pool0 8 #[] #[{ accessFlags := 1, nameIndex := 5, descriptorIndex := 6, attributes := #[] }] 33 0 #[] #[])
  fields := #[]
  methods := #[k0m0]
  instanceTypes := #[]
  staticTypes := #[]
  resolved := Array.replicate 124 none
  statics := none }

def pool1 : Array CpInfo := pool [(2, .class_ 4), (1, u "java/lang/Object"), (0, u "<init>"), (0, u "()V"), (0, .fieldref 8 9), (0, .class_ 10), (0, .nameAndType 11 12), (0, u "com/example/linkwright/linkwright/Reference$Instruction"), (0, u "GETSTATIC"), (0, u "Lcom/example/linkwright/linkwright/Reference$Instruction;"), (0, .fieldref 8 14), (0, .nameAndType 15 12), (0, u "PUTSTATIC"), (0, .fieldref 8 17), (0, .nameAndType 18 12), (0, u "GETFIELD"), (0, .fieldref 8 20), (0, .nameAndType 21 12), (0, u "PUTFIELD"), (0, .fieldref 8 23), (0, .nameAndType 24 12), (0, u "INVOKEVIRTUAL"), (0, .fieldref 8 26), (0, .nameAndType 27 12), (0, u "INVOKESPECIAL"), (0, .fieldref 8 29), (0, .nameAndType 30 12), (0, u "INVOKESTATIC"), (0, .fieldref 8 32), (0, .nameAndType 33 12), (0, u "INVOKEINTERFACE"), (0, .methodref 35 36), (0, .class_ 37), (0, .nameAndType 38 39), (0, u "com/example/linkwright/linkwright/InstructionIsStaticPinLaw"), (0, u "pick"), (0, u "(I)Lcom/example/linkwright/linkwright/Reference$Instruction;"), (0, .methodref 8 41), (0, .nameAndType 42 43), (0, u "isStatic"), (0, u "()Z"), (3, u "law"), (0, u "(I)Z")] 6

def k1m0 : Method := { name := "<init>", desc := "()V", sig := { parameters := [], returnType := none }, accessFlags := 2, code := none }
def k1c1 : Code := { maxStack := 2, maxLocals := 1, code := method_2_code, exceptionTable := #[], attributes := #[] }
def k1m1 : Method := { name := "pick", desc := "(I)Lcom/example/linkwright/linkwright/Reference$Instruction;", sig := { parameters := [.int], returnType := some (.object "com/example/linkwright/linkwright/Reference$Instruction") }, accessFlags := 10, code := some k1c1 }
def k1c2 : Code := { maxStack := 2, maxLocals := 4, code := code, exceptionTable := #[], attributes := #[] }
def k1m2 : Method := { name := "law", desc := "(I)Z", sig := { parameters := [.int], returnType := some .boolean }, accessFlags := 9, code := some k1c2 }
/-- com/example/linkwright/linkwright/InstructionIsStaticPinLaw -/
def k1 : Class := { plain "com/example/linkwright/linkwright/InstructionIsStaticPinLaw" (some 0) with
  accessFlags := 49
  interfaces := #[]
  cf := some (fileOf pool1 35 #[] #[{ accessFlags := 2, nameIndex := 5, descriptorIndex := 6, attributes := #[] }, { accessFlags := 10, nameIndex := 38, descriptorIndex := 39, attributes := #[] }, { accessFlags := 9, nameIndex := 47, descriptorIndex := 48, attributes := #[] }] 49 2 #[] #[])
  fields := #[]
  methods := #[k1m0, k1m1, k1m2]
  instanceTypes := #[]
  staticTypes := #[]
  resolved := Array.replicate 55 none
  statics := none }

def pool2 : Array CpInfo := pool [(1, .class_ 2), (0, u "java/lang/constant/Constable"), (0, .class_ 4), (0, u "java/lang/Object")] 6

/-- java/lang/constant/Constable -/
def k2 : Class := { plain "java/lang/constant/Constable" (some 0) with
  accessFlags := 1537
  interfaces := #[]
  cf := some (fileOf pool2 1 #[] #[] 1537 3 #[] #[])
  fields := #[]
  methods := #[]
  instanceTypes := #[]
  staticTypes := #[]
  resolved := Array.replicate 11 none
  statics := none }

def pool3 : Array CpInfo := pool [(1, .class_ 2), (0, u "java/lang/Comparable"), (0, .class_ 4), (0, u "java/lang/Object")] 7

/-- java/lang/Comparable -/
def k3 : Class := { plain "java/lang/Comparable" (some 0) with
  accessFlags := 1537
  interfaces := #[]
  cf := some (fileOf pool3 1 #[] #[] 1537 3 #[] #[])
  fields := #[]
  methods := #[]
  instanceTypes := #[]
  staticTypes := #[]
  resolved := Array.replicate 12 none
  statics := none }

def pool4 : Array CpInfo := pool [(1, .class_ 2), (0, u "java/io/Serializable"), (0, .class_ 4), (0, u "java/lang/Object")] 2

/-- java/io/Serializable -/
def k4 : Class := { plain "java/io/Serializable" (some 0) with
  accessFlags := 1537
  interfaces := #[]
  cf := some (fileOf pool4 1 #[] #[] 1537 3 #[] #[])
  fields := #[]
  methods := #[]
  instanceTypes := #[]
  staticTypes := #[]
  resolved := Array.replicate 7 none
  statics := none }

def pool5 : Array CpInfo := pool [(2, .class_ 4), (1, u "java/lang/Enum"), (0, u "name"), (0, u "Ljava/lang/String;"), (2, u "ordinal"), (0, u "I"), (1, .class_ 14), (1, u "java/lang/Object"), (4, u "hash"), (86, .class_ 108), (1, u "java/lang/Enum$EnumDesc"), (2, .class_ 112), (0, u "java/lang/constant/Constable"), (0, .class_ 114), (0, u "java/lang/Comparable"), (0, .class_ 116), (0, u "java/io/Serializable")] 87

/-- java/lang/Enum -/
def k5 : Class := { plain "java/lang/Enum" (some 0) with
  accessFlags := 1057
  interfaces := #[2, 3, 4]
  cf := some (fileOf pool5 2 #[.nestMembers #[106]] #[] 1057 12 #[111, 113, 115] #[{ accessFlags := 18, nameIndex := 5, descriptorIndex := 6, attributes := #[] }, { accessFlags := 18, nameIndex := 9, descriptorIndex := 10, attributes := #[] }, { accessFlags := 2, nameIndex := 19, descriptorIndex := 10, attributes := #[] }])
  fields := #[{ name := "name", type := (.object "java/lang/String"), accessFlags := 18, slot := 0, constantValue := 0 }, { name := "ordinal", type := .int, accessFlags := 18, slot := 1, constantValue := 0 }, { name := "hash", type := .int, accessFlags := 2, slot := 2, constantValue := 0 }]
  methods := #[]
  instanceTypes := #[(.object "java/lang/String"), .int, .int]
  staticTypes := #[]
  resolved := Array.replicate 204 none
  statics := none }

def pool6 : Array CpInfo := pool [(1, .class_ 2), (0, u "com/example/linkwright/linkwright/Reference$Instruction"), (0, .fieldref 1 4), (0, .nameAndType 5 6), (0, u "GETSTATIC"), (0, u "Lcom/example/linkwright/linkwright/Reference$Instruction;"), (0, .fieldref 1 8), (0, .nameAndType 9 6), (0, u "PUTSTATIC"), (2, u "GETFIELD"), (2, u "PUTFIELD"), (2, u "INVOKEVIRTUAL"), (2, u "INVOKESPECIAL"), (0, .fieldref 1 23), (0, .nameAndType 24 6), (0, u "INVOKESTATIC"), (2, u "INVOKEINTERFACE"), (2, u "$VALUES"), (0, u "[Lcom/example/linkwright/linkwright/Reference$Instruction;"), (6, .class_ 40), (1, u "java/lang/Enum"), (26, u "isStatic"), (0, u "()Z"), (7, .class_ 77), (0, u "com/example/linkwright/linkwright/Reference")] 2

def k6c0 : Code := { maxStack := 2, maxLocals := 1, code := prog_6_method_4_code, exceptionTable := #[], attributes := #[] }
def k6m0 : Method := { name := "isStatic", desc := "()Z", sig := { parameters := [], returnType := some .boolean }, accessFlags := 0, code := some k6c0 }
/-- com/example/linkwright/linkwright/Reference$Instruction -/
def k6 : Class := { plain "com/example/linkwright/linkwright/Reference$Instruction" (some 5) with
  accessFlags := 16432
  interfaces := #[]
  cf := some (fileOf pool6 1 #[.nestHost 76] #[{ accessFlags := 0, nameIndex := 67, descriptorIndex := 68, attributes := #[] }] 16432 38 #[] #[{ accessFlags := 16409, nameIndex := 5, descriptorIndex := 6, attributes := #[] }, { accessFlags := 16409, nameIndex := 9, descriptorIndex := 6, attributes := #[] }, { accessFlags := 16409, nameIndex := 12, descriptorIndex := 6, attributes := #[] }, { accessFlags := 16409, nameIndex := 15, descriptorIndex := 6, attributes := #[] }, { accessFlags := 16409, nameIndex := 18, descriptorIndex := 6, attributes := #[] }, { accessFlags := 16409, nameIndex := 21, descriptorIndex := 6, attributes := #[] }, { accessFlags := 16409, nameIndex := 24, descriptorIndex := 6, attributes := #[] }, { accessFlags := 16409, nameIndex := 27, descriptorIndex := 6, attributes := #[] }, { accessFlags := 4122, nameIndex := 30, descriptorIndex := 31, attributes := #[] }])
  fields := #[{ name := "GETSTATIC", type := (.object "com/example/linkwright/linkwright/Reference$Instruction"), accessFlags := 16409, slot := 0, constantValue := 0 }, { name := "PUTSTATIC", type := (.object "com/example/linkwright/linkwright/Reference$Instruction"), accessFlags := 16409, slot := 1, constantValue := 0 }, { name := "GETFIELD", type := (.object "com/example/linkwright/linkwright/Reference$Instruction"), accessFlags := 16409, slot := 2, constantValue := 0 }, { name := "PUTFIELD", type := (.object "com/example/linkwright/linkwright/Reference$Instruction"), accessFlags := 16409, slot := 3, constantValue := 0 }, { name := "INVOKEVIRTUAL", type := (.object "com/example/linkwright/linkwright/Reference$Instruction"), accessFlags := 16409, slot := 4, constantValue := 0 }, { name := "INVOKESPECIAL", type := (.object "com/example/linkwright/linkwright/Reference$Instruction"), accessFlags := 16409, slot := 5, constantValue := 0 }, { name := "INVOKESTATIC", type := (.object "com/example/linkwright/linkwright/Reference$Instruction"), accessFlags := 16409, slot := 6, constantValue := 0 }, { name := "INVOKEINTERFACE", type := (.object "com/example/linkwright/linkwright/Reference$Instruction"), accessFlags := 16409, slot := 7, constantValue := 0 }, { name := "$VALUES", type := (.array (.object "com/example/linkwright/linkwright/Reference$Instruction")), accessFlags := 4122, slot := 8, constantValue := 0 }]
  methods := #[k6m0]
  instanceTypes := #[(.object "java/lang/String"), .int, .int]
  staticTypes := #[(.object "com/example/linkwright/linkwright/Reference$Instruction"), (.object "com/example/linkwright/linkwright/Reference$Instruction"), (.object "com/example/linkwright/linkwright/Reference$Instruction"), (.object "com/example/linkwright/linkwright/Reference$Instruction"), (.object "com/example/linkwright/linkwright/Reference$Instruction"), (.object "com/example/linkwright/linkwright/Reference$Instruction"), (.object "com/example/linkwright/linkwright/Reference$Instruction"), (.object "com/example/linkwright/linkwright/Reference$Instruction"), (.array (.object "com/example/linkwright/linkwright/Reference$Instruction"))]
  resolved := Array.replicate 80 none
  statics := some 0 }

def pool7 : Array CpInfo := pool [(1, u "java/lang/Cloneable"), (0, .class_ 1), (0, u "java/lang/Object"), (0, .class_ 3)] 3

/-- java/lang/Cloneable -/
def k7 : Class := { plain "java/lang/Cloneable" (some 0) with
  accessFlags := 1537
  interfaces := #[]
  cf := some (fileOf pool7 2 #[] #[] 1537 4 #[] #[])
  fields := #[]
  methods := #[]
  instanceTypes := #[]
  staticTypes := #[]
  resolved := Array.replicate 8 none
  statics := none }

/-- the primitive byte -/
def k8 : Class := { plain "byte" none with kind := .primitive 'B', accessFlags := 0x411 }
/-- [B -/
def k9 : Class := { plain "[B" (some 0) with kind := .array 8 .byte, interfaces := #[7, 4], accessFlags := 1041 }

/-- the primitive int -/
def k10 : Class := { plain "int" none with kind := .primitive 'I', accessFlags := 0x411 }
/-- [I -/
def k11 : Class := { plain "[I" (some 0) with kind := .array 10 .int, interfaces := #[7, 4], accessFlags := 1041 }

def heap : Heap := #[{ cls := 6, slots := #[.ref 1, .ref 2, .ref 3, .ref 4, .ref 5, .ref 6, .ref 7, .ref 8, .null], vm := .statics 6 },
  { cls := 6, slots := #[.null, .int 0, .int 0], vm := .none },
  { cls := 6, slots := #[.null, .int 1, .int 0], vm := .none },
  { cls := 6, slots := #[.null, .int 2, .int 0], vm := .none },
  { cls := 6, slots := #[.null, .int 3, .int 0], vm := .none },
  { cls := 6, slots := #[.null, .int 4, .int 0], vm := .none },
  { cls := 6, slots := #[.null, .int 5, .int 0], vm := .none },
  { cls := 6, slots := #[.null, .int 6, .int 0], vm := .none },
  { cls := 6, slots := #[.null, .int 7, .int 0], vm := .none }]
def classes : Array Class := #[k0, k1, k2, k3, k4, k5, k6, k7, k8, k9, k10, k11]
def interned : List (Array UInt16 × Addr) := []
def slotsUsed : Nat := 33
def theMethod : MethodId := ⟨1, 2⟩
def args0 : Array Value := #[.int 5]
def aboutOver (below : List Frame) : State where
  vm := { classes := classes, interned := interned.toArray }
  heap := heap
  slotsUsed := slotsUsed
  threads := #[{ frames := .invoking theMethod args0 :: below }]
def below0 : List Frame := [.native { method := ⟨0, 0⟩, args := #[] }]
def about1 : State := aboutOver below0
def p0 : Program := .bare "" "" ""
def e0 : Env := launch0.env 0 0 0
theorem w_frames : about1.frames = Frame.invoking theMethod args0 :: below0 := rfl
set_option maxRecDepth 65536 in
theorem w_args : argsFit about1.vm theMethod args0 = true := by decide +kernel
set_option maxRecDepth 65536 in
theorem w_heap : heapFits about1 = true := by decide +kernel
set_option maxRecDepth 65536 in
theorem w_runnable : about1.curStatus? = some .runnable := by decide +kernel
set_option maxRecDepth 65536 in
theorem w_alone : about1.alone = true := by decide +kernel
set_option maxRecDepth 65536 in
theorem w_named : about1.methodNamed? x = some theMethod := by decide +kernel
set_option maxRecDepth 65536 in
theorem w_hears : about1.hears theMethod below0 = true := by decide +kernel
set_option maxRecDepth 65536 in
theorem w_ripe : about1.ripe theMethod args0 below0 = true := by decide +kernel
theorem w_running : about1.status = .running := rfl
set_option maxRecDepth 65536 in
theorem w_room : about1.hasRoom e0.platform room_1 = true :=
  launch0.hasRoom_least _ room_1 (by decide +kernel) (by decide +kernel) (by decide +kernel) (by decide +kernel) (by decide +kernel) (by decide +kernel)
theorem allAtoms_all (ts : List Jvm.Cond) (a : Array Jvm.Value) (st : Jvm.State) : (allAtoms ts).before a st = ts.all (fun c => c.before a st) := by
  induction ts with
  | nil => rfl
  | cons c t ih =>
    show (Jvm.Cond.and c (allAtoms t)).before a st = _
    rw [Jvm.Cond.before_and, ih, List.all_cons]
def words1 : List Jvm.Cond := Jvm.Cond.code x code maxLocals ret :: tables_1
/-- a 'code' word, met by the world's own term for the bytes: nothing is compared byte by byte -/
theorem code_word {y : MethodName} {bytes : ByteArray} {mx : Nat} {rt : Option FieldType} {a : Array Value} {s : State} {m : MethodId} {meth : Method} {c : Code} (h1 : s.methodNamed? y = some m) (h2 : s.vm.method? m = some meth) (h3 : meth.code = some c) (h4 : c.code = bytes)
    (h5 : (c.maxLocals == mx && c.exceptionTable.isEmpty && decide (c.maxStack ≤ mostOperands) && decide (meth.sig.returnType = rt) && !meth.locks && decide (parseMethodDescriptor y.desc = some meth.sig)) = true) : (Jvm.Cond.code y bytes mx rt).before a s = true := by
  simp only [Bool.and_eq_true, beq_iff_eq, Bool.not_eq_true', decide_eq_true_eq] at h5
  obtain ⟨⟨⟨⟨⟨g1, g2⟩, g3⟩, g4⟩, g5⟩, g6⟩ := h5
  simp [Cond.before, Cond.holds, Cond.value, h1, h2, h3, h4, g1, g2, g3, g4, g5, g6]
def isCode : Jvm.Cond → Bool
  | .code _ _ _ _ => true
  | _ => false
theorem all_split {L : List Jvm.Cond} {P : Jvm.Cond → Bool} (h1 : L.all (fun c => isCode c || P c) = true) (h2 : ∀ c ∈ L.filter isCode, P c = true) : L.all P = true := by
  refine List.all_eq_true.mpr fun c hc => ?_
  have h := List.all_eq_true.mp h1 c hc
  rcases Bool.eq_false_or_eq_true (isCode c) with hi | hi
  · exact h2 c (List.mem_filter.mpr ⟨hc, hi⟩)
  · simpa [hi] using h
set_option maxRecDepth 65536 in
theorem w_c0 : (Jvm.Cond.code x code maxLocals ret).before args0 about1 = true := code_word (m := ⟨1, 2⟩) (meth := k1m2) (c := k1c2) (by decide +kernel) rfl rfl rfl (by decide +kernel)
set_option maxRecDepth 65536 in
theorem w_c1 : (Jvm.Cond.code ({ cls := "com/example/linkwright/linkwright/InstructionIsStaticPinLaw", name := "pick", desc := "(I)Lcom/example/linkwright/linkwright/Reference$Instruction;" } : Jvm.MethodName) method_2_code (1 : Nat) (Option.some (Jvm.ClassFile.FieldType.object "com/example/linkwright/linkwright/Reference$Instruction"))).before args0 about1 = true := code_word (m := ⟨1, 1⟩) (meth := k1m1) (c := k1c1) (by decide +kernel) rfl rfl rfl (by decide +kernel)
set_option maxRecDepth 65536 in
theorem w_c2 : (Jvm.Cond.code ({ cls := "com/example/linkwright/linkwright/Reference$Instruction", name := "isStatic", desc := "()Z" } : Jvm.MethodName) prog_6_method_4_code (1 : Nat) (Option.some Jvm.ClassFile.FieldType.boolean)).before args0 about1 = true := code_word (m := ⟨6, 0⟩) (meth := k6m0) (c := k6c0) (by decide +kernel) rfl rfl rfl (by decide +kernel)
def codes1 : List Jvm.Cond := [Jvm.Cond.code x code maxLocals ret, Jvm.Cond.code ({ cls := "com/example/linkwright/linkwright/InstructionIsStaticPinLaw", name := "pick", desc := "(I)Lcom/example/linkwright/linkwright/Reference$Instruction;" } : Jvm.MethodName) method_2_code (1 : Nat) (Option.some (Jvm.ClassFile.FieldType.object "com/example/linkwright/linkwright/Reference$Instruction")), Jvm.Cond.code ({ cls := "com/example/linkwright/linkwright/Reference$Instruction", name := "isStatic", desc := "()Z" } : Jvm.MethodName) prog_6_method_4_code (1 : Nat) (Option.some Jvm.ClassFile.FieldType.boolean)]
set_option maxRecDepth 65536 in
theorem codes_eq : words1.filter isCode = codes1 := rfl
theorem w_codes : ∀ c ∈ words1.filter isCode, c.before args0 about1 = true := by
  rw [codes_eq]
  intro c hc
  simp only [codes1, List.mem_cons, List.not_mem_nil, or_false] at hc
  rcases hc with rfl | rfl | rfl
  · exact w_c0
  · exact w_c1
  · exact w_c2
set_option maxRecDepth 65536 in
theorem w_t1 : (words1.take 24).all (fun c => isCode c || c.before args0 about1) = true := by decide +kernel
set_option maxRecDepth 65536 in
theorem w_t2 : (words1.drop 24).all (fun c => isCode c || c.before args0 about1) = true := by decide +kernel
theorem w_tables : (allAtoms (Jvm.Cond.code x code maxLocals ret :: tables_1)).before args0 about1 = true := by
  rw [allAtoms_all]
  show words1.all (fun c => c.before args0 about1) = true
  refine all_split ?_ w_codes
  rw [← List.take_append_drop 24 words1, List.all_append, w_t1, w_t2]
  rfl
set_option maxRecDepth 65536 in
theorem w_case : (Jvm.Cond.and given_1 narrow_1).before args0 about1 = true := by decide +kernel
theorem w_applies : (headSpec (Jvm.Cond.code x code maxLocals ret :: tables_1) room_1).applies x e0.platform about1 = true :=
  (Spec.applies_iff w_frames).mpr ⟨w_running, w_runnable, w_alone, w_named, w_hears, w_ripe, w_room, w_tables⟩
theorem atStart : AtStart classFile x code maxLocals ret World_1 tables_1 room_1 Calls_1 rest_1 Pre_1 launch0 p0 e0 about1 theMethod args0 below0 :=
  ⟨lists_1, trivial, launch0.admits_env _ _ _, launch0.least_env, fairChoices_fair.cas, fairChoices_fair.clock, w_frames, w_args, w_heap, w_applies, trivial, trivial, w_case⟩
end start1
theorem witness_1 : WitnessClaimed_1 := ⟨start1.p0, start1.e0, start1.about1, start1.theMethod, start1.args0, start1.below0, start1.atStart⟩
end Jvm.Pilot.@@N@@
