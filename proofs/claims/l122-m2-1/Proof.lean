import JvmDerived
import JvmDerived.Pilot.@@N@@Statement
import JvmDerived.Pilot.@@N@@Code
set_option linter.unusedVariables false
set_option linter.unusedSimpArgs false
@@BLOCK:NumsL.lean.txt@@
namespace Jvm.Pilot.@@N@@
open Jvm Jvm.ClassFile Sem Op Lib Jvm.Free Jvm.Stand Jvm.LawKit Jvm.RoadKit Bundle Jvm.Pilot.@@N@@.Jvm.D
section OwnKit
variable {p : Program} {l : Launch} {e : Env} {R : Room} {s : State} {m : MethodId} {args : Array Value} {below : List Frame} {meth : Method} {c : Code} {T : State} {locs : List Loc} {cells slots : Nat} {n0 cc nn : Nat} {K : Option Value → Heap → Prop} {P : Heap → Prop} {A B : State}
/-- what a contract says of the value, the heap and the places written -/
def QK (n0 : Nat) (K : Option Value → Heap → Prop) (v : Option Value) (h : Heap) (L : List Loc) : Prop := K v h ∧ Fr n0 L
def Kv (w : Option Value) (P : Heap → Prop) (v : Option Value) (h : Heap) : Prop := v = w ∧ P h
/-- from A the run comes to this body's end, and K holds there -/
def Gl (p : Program) (e : Env) (below : List Frame) (s : State) (n0 cc nn : Nat) (K : Option Value → Heap → Prop) (A : State) : Prop :=
  ∃ t o, Steps p.tables e below A t ∧ t.status = .running ∧ Ended t below o ∧ ∃ v L, o = .returned v ∧ QK n0 K v t.heap L ∧ FrameEnd s o t L cc nn
theorem go (st : ∀ t, Steps p.tables e below B t → Steps p.tables e below A t) (h : Gl p e below s n0 cc nn K B) : Gl p e below s n0 cc nn K A := by
  obtain ⟨t, o, h1, h2⟩ := h; exact ⟨t, o, st t h1, h2⟩
theorem gl_start {g g' : JFrame} (q : g = g') (h : Gl p e below s n0 cc nn K (T.setTop g')) :
    ∃ t o, Steps p.tables e below (T.setTop g) t ∧ t.status = .running ∧ Ended t below o ∧ ∃ v L, o = .returned v ∧ QK n0 K v t.heap L ∧ FrameEnd s o t L cc nn := by
  subst q; exact h
theorem gI {c : Prop} [Decidable c] {a b : Int32} (h1 : c → Gl p e below s n0 cc nn (Kv (some (.int a)) P) A) (h2 : ¬ c → Gl p e below s n0 cc nn (Kv (some (.int b)) P) A) : Gl p e below s n0 cc nn (Kv (some (.int (if c then a else b))) P) A := by
  by_cases h : c
  · rw [if_pos h]; exact h1 h
  · rw [if_neg h]; exact h2 h
theorem gJ {c : Prop} [Decidable c] {a b : Int64} (h1 : c → Gl p e below s n0 cc nn (Kv (some (.long a)) P) A) (h2 : ¬ c → Gl p e below s n0 cc nn (Kv (some (.long b)) P) A) : Gl p e below s n0 cc nn (Kv (some (.long (if c then a else b))) P) A := by
  by_cases h : c
  · rw [if_pos h]; exact h1 h
  · rw [if_neg h]; exact h2 h
theorem gR {c : Prop} [Decidable c] {a b : Addr} (h1 : c → Gl p e below s n0 cc nn (Kv (some (.ref a)) P) A) (h2 : ¬ c → Gl p e below s n0 cc nn (Kv (some (.ref b)) P) A) : Gl p e below s n0 cc nn (Kv (some (.ref (if c then a else b))) P) A := by
  by_cases h : c
  · rw [if_pos h]; exact h1 h
  · rw [if_neg h]; exact h2 h
theorem gV {c : Prop} [Decidable c] (h1 : c → Gl p e below s n0 cc nn K A) (h2 : ¬ c → Gl p e below s n0 cc nn K A) : Gl p e below s n0 cc nn K A := by
  by_cases h : c
  · exact h1 h
  · exact h2 h
variable {x : MethodName} {S : Spec} {code' : ByteArray} {ml : Nat} {s₁ : State} {pc : Nat} {Ls : Array Slot} {rest : List Value}
theorem endN (X : Stand p l e R s m args below meth c T locs cells slots) (hx : p.tables.exec = Jvm.exec) {t : FieldType} (Bd : BodyLoose p l x S code' ml (some t) e s m args below meth c s₁) (ht : t = .boolean ∨ t = .byte ∨ t = .char ∨ t = .short) {z : Int32}
    (hd : decode c.code pc = .ok (.ireturn, 1)) (hK : K (some (.int (nar t z))) T.heap) (N : Fr n0 locs) (hc : cells ≤ cc) (hs : slots ≤ nn) : Gl p e below s n0 cc nn K (T.setTop (mkF m pc Ls (.int z :: rest))) := by
  obtain ⟨fs, hr, hrun, hended, hW, hsame⟩ := X.leave (v := some (.int (nar t z))) (fun h => by rw [Bd.returns] at h; cases h)
  exact ⟨_, _, retN X hx Bd.returns ht hd hr, hrun, hended, _, _, rfl, ⟨hK, N⟩, ⟨_, rfl⟩, hW, hsame.mono hc hs⟩
theorem endO (X : Stand p l e R s m args below meth c T locs cells slots) (hx : p.tables.exec = Jvm.exec) {t : FieldType} (Bd : BodyLoose p l x S code' ml (some t) e s m args below meth c s₁) {w : Value} {i : Instr} (hn : narrow t w = w)
    (hi : (i = .ireturn ∧ (t = .int ∨ t = .boolean ∨ t = .byte ∨ t = .char ∨ t = .short) ∧ ∃ z, w = .int z) ∨ (i = .lreturn ∧ t = .long ∧ ∃ z, w = .long z) ∨ (i = .dreturn ∧ t = .double ∧ ∃ z, w = .double z) ∨ (i = .freturn ∧ t = .float ∧ ∃ z, w = .float z) ∨ (i = .areturn ∧ t.isReference = true ∧ w.isRef = true))
    (hd : decode c.code pc = .ok (i, 1)) (hK : K (some w) T.heap) (N : Fr n0 locs) (hc : cells ≤ cc) (hs : slots ≤ nn) : Gl p e below s n0 cc nn K (T.setTop (mkF m pc Ls (w :: rest))) := by
  obtain ⟨fs, hr, hrun, hended, hW, hsame⟩ := X.leave (v := some w) (fun h => by rw [Bd.returns] at h; cases h)
  exact ⟨_, _, retOut X hx Bd.returns hn hi hd hr, hrun, hended, _, _, rfl, ⟨hK, N⟩, ⟨_, rfl⟩, hW, hsame.mono hc hs⟩
theorem endI (X : Stand p l e R s m args below meth c T locs cells slots) (hx : p.tables.exec = Jvm.exec) (Bd : BodyLoose p l x S code' ml (some .int) e s m args below meth c s₁) {z : Int32}
    (hd : decode c.code pc = .ok (.ireturn, 1)) (hK : K (some (.int z)) T.heap) (N : Fr n0 locs) (hc : cells ≤ cc) (hs : slots ≤ nn) : Gl p e below s n0 cc nn K (T.setTop (mkF m pc Ls (.int z :: rest))) :=
  endO X hx Bd rfl (Or.inl ⟨rfl, Or.inl rfl, z, rfl⟩) hd hK N hc hs
theorem endJ (X : Stand p l e R s m args below meth c T locs cells slots) (hx : p.tables.exec = Jvm.exec) (Bd : BodyLoose p l x S code' ml (some .long) e s m args below meth c s₁) {z : Int64}
    (hd : decode c.code pc = .ok (.lreturn, 1)) (hK : K (some (.long z)) T.heap) (N : Fr n0 locs) (hc : cells ≤ cc) (hs : slots ≤ nn) : Gl p e below s n0 cc nn K (T.setTop (mkF m pc Ls (.long z :: rest))) :=
  endO X hx Bd rfl (Or.inr (Or.inl ⟨rfl, rfl, z, rfl⟩)) hd hK N hc hs
theorem endR (X : Stand p l e R s m args below meth c T locs cells slots) (hx : p.tables.exec = Jvm.exec) {t : FieldType} (Bd : BodyLoose p l x S code' ml (some t) e s m args below meth c s₁) (ht : t.isReference = true) {a : Addr}
    (hd : decode c.code pc = .ok (.areturn, 1)) (hK : K (some (.ref a)) T.heap) (N : Fr n0 locs) (hc : cells ≤ cc) (hs : slots ≤ nn) : Gl p e below s n0 cc nn K (T.setTop (mkF m pc Ls (.ref a :: rest))) :=
  endO X hx Bd (by cases t <;> first | rfl | cases ht) (Or.inr (Or.inr (Or.inr (Or.inr ⟨rfl, ht, rfl⟩)))) hd hK N hc hs
theorem endV (X : Stand p l e R s m args below meth c T locs cells slots) (hx : p.tables.exec = Jvm.exec) (Bd : BodyLoose p l x S code' ml none e s m args below meth c s₁)
    (hd : decode c.code pc = .ok (.return_, 1)) (hK : K none T.heap) (N : Fr n0 locs) (hc : cells ≤ cc) (hs : slots ≤ nn) : Gl p e below s n0 cc nn K (T.setTop (mkF m pc Ls [])) := by
  obtain ⟨fs, hr, hrun, hended, hW, hsame⟩ := X.leave (v := none) (fun _ => rfl)
  exact ⟨_, _, X.returnOut hx Bd.returns hd hr, hrun, hended, _, _, rfl, ⟨hK, N⟩, ⟨_, rfl⟩, hW, hsame.mono hc hs⟩
theorem lremM {g : JFrame} {target : State} (X : Stand p l e R s m args below meth c T locs cells slots) (hx : p.tables.exec = Jvm.exec) (hg : g.method = m) {x y : Int64} {rest : List Value} (hd : decode c.code g.pc = .ok (.lrem, 1)) (hs : g.stack = .long y :: .long x :: rest) (hy : y ≠ 0)
    (hr : Steps p.tables e below (T.setTop { g with pc := g.pc + 1, stack := .long (x % y) :: rest }) target) : Steps p.tables e below (T.setTop g) target := by
  have q := lrem_mod x y
  exact XS.lrem X.here hx hg hd hs hy (by rw [q]; exact hr)
theorem sta_keep {Z : State} {h h' : Heap} {a : Addr} {C n d D : String} {w : Value} (F : Sta Z h C n d w) (Kp : Keep h h' [a]) (E : Exa Z h a D) : Sta Z h' C n d w := by
  obtain ⟨cf, i, k, f, st, cell, h1, h2, h3, h4, h5, h6, h7⟩ := F
  obtain ⟨cell', k', e1, -, -, e4, -⟩ := E
  refine ⟨cf, i, k, f, st, cell, h1, h2, h3, h4, Kp.2.1 st cell h5 (ninS (fun q => ?_) nin0), h6, h7⟩
  subst q; cases h5.symm.trans e1; rw [h6] at e4; cases e4
theorem sta_keepN {Z : State} {h h' : Heap} {ws : List Addr} {C n d : String} {w : Value} (F : Sta Z h C n d w) (Kp : Keep h h' ws) (hn : ∀ x ∈ ws, ∀ cell : Cell, h[x]? = some cell → cell.vm.isStatics = false) : Sta Z h' C n d w := by
  obtain ⟨cf, i, k, f, st, cell, h1, h2, h3, h4, h5, h6, h7⟩ := F
  refine ⟨cf, i, k, f, st, cell, h1, h2, h3, h4, Kp.2.1 st cell h5 (fun q => ?_), h6, h7⟩
  have := hn st q cell h5
  rw [h6] at this; cases this
theorem sta_keep0 {Z : State} {h h' : Heap} {C n d : String} {w : Value} (F : Sta Z h C n d w) (Kp : Keep h h' []) : Sta Z h' C n d w := by
  obtain ⟨cf, i, k, f, st, cell, h1, h2, h3, h4, h5, h6, h7⟩ := F
  exact ⟨cf, i, k, f, st, cell, h1, h2, h3, h4, Kp.2.1 st cell h5 nin0, h6, h7⟩
theorem sel_priv {Z s : State} {a0 args : Array Value} {y : MethodName} {n : Nat} (hZ : Z.Warmed39 s.vm) (wi : (Cond.instantiable y.cls n).before a0 Z = true) (wp : (Cond.privateMethod y).before a0 Z = true) (wm : (Cond.instanceMethod y).before a0 Z = true) (hy : y.cls ≠ "java/lang/invoke/MethodHandle" ∧ y.cls ≠ "java/lang/invoke/VarHandle") : (Cond.selects y.cls y y).before args s = true := by
  obtain ⟨c, k, h1, h2, -, h4, -⟩ := Cond.instantiable_spec (show (Cond.instantiable y.cls n).before args s = true from mvT hZ wi)
  exact Jvm.Stand.selects_self_of_private h1 h2 (by simp only [Bool.or_eq_false_iff] at h4; exact h4.1) (Cond.privateMethod_at (mvP hZ wp (args := args))) (mvT hZ wm) hy
theorem eqL_v {t : Term} {k : Int64} {a0 : Array Value} {first u : State} {o : Option Outcome} {idx : List Nat} (h : (Cond.eq t (.long k)).value a0 first o u idx = some true) : t.eval a0 first o idx u = some (.long k) := by
  simp only [Cond.value, Term.eval] at h
  cases ht : t.eval a0 first o idx u with
  | none => simp [ht] at h
  | some x => cases x <;> simp [ht] at h ⊢; exact h
theorem eqI_v {t : Term} {k : Int32} {a0 : Array Value} {first u : State} {o : Option Outcome} {idx : List Nat} (h : (Cond.eq t (.int k)).value a0 first o u idx = some true) : t.eval a0 first o idx u = some (.int k) := by
  simp only [Cond.value, Term.eval] at h
  cases ht : t.eval a0 first o idx u with
  | none => simp [ht] at h
  | some x => cases x <;> simp [ht] at h ⊢; exact h
end OwnKit
theorem d2_0 : decode jdk_30_method_1_code 0 = .ok (.aload_n 0, 1) := by decide +kernel
theorem d2_1 : decode jdk_30_method_1_code 1 = .ok (.invokespecial 1, 3) := by decide +kernel
theorem d2_4 : decode jdk_30_method_1_code 4 = .ok (.return_, 1) := by decide +kernel
theorem pn_0 : plainName "java/lang/Record" = true := by first | (simp [plainName, overriddenIn]; done) | decide +kernel
theorem ef_2 (m : MethodId) (a1 : Addr) : entryFrame m #[(.ref a1)] 1 = mkF m 0 #[.val (.ref a1)] [] := by first | (simp [entryFrame, mkF, argsToLocals, Value.category]; done) | rfl
set_option maxRecDepth 65536 in
set_option maxHeartbeats 40000000 in
theorem rm2 (l : Launch) (Z : State) (a0 : Array Value) (hw : ∀ d ∈ tables_1, d.before a0 Z = true) (ws : List Jvm.Cond) (a1 : Addr) (h0 : Heap) (n0 : Nat) (Z0 : n0 ≤ h0.size) :
    MetFree l (⟨"java/lang/Record", "<init>", "()V"⟩ : MethodName) (head1 (Jvm.Cond.code (⟨"java/lang/Record", "<init>", "()V"⟩ : MethodName) jdk_30_method_1_code 1 none :: ws) ({ frames := 1, cells := 0, slots := 0, locals := 12 } : Room)) (fun a U => a = #[(.ref a1)] ∧ Z.Warmed39 U.vm ∧ U.heap = h0) (fun _ _ _ _ _ => True) (fun _ U o U' => ∃ v L, o = .returned v ∧ QK n0 (Kv none (fun h => h = h0)) v U'.heap L ∧ FrameEnd U o U' L ({ frames := 1, cells := 0, slots := 0, locals := 12 } : Room).cells ({ frames := 1, cells := 0, slots := 0, locals := 12 } : Room).slots) := by
  refine MetFree.of_bodySF (plainFor_of_name pn_0) hisR ?_
  intro p e s m args below meth c s₁ Bd hml0 hP hK
  obtain ⟨rfl, hZ, hh⟩ := hP
  have hx := Bd.exec
  have hby := Bd.bytes
  have hml : c.maxLocals = 1 := hml0
  have hown : s.vm.findClass "java/lang/Record" = some m.cls := findClass_of_methodNamed Bd.named
  have hnm := (name_of_methodNamed Bd.named Bd.method).1
  have X0 : Stand p l e ({ frames := 1, cells := 0, slots := 0, locals := 12 } : Room) s m #[(.ref a1)] below meth c s₁ [] 0 0 := Stand.of_body Bd
  have e0 : s₁.heap = h0 := by rw [← hh, Bd.state]; rfl
  have N0 := Fr.nil n0
  refine gl_start (ef_2 m a1) ?_
  show Gl p e below s n0 ({ frames := 1, cells := 0, slots := 0, locals := 12 } : Room).cells ({ frames := 1, cells := 0, slots := 0, locals := 12 } : Room).slots (Kv none (fun h => h = h0)) (s₁.setTop (mkF m 0 #[.val (.ref a1)] []))
  refine go (fun t k => XS.aloadN X0.here hx rfl (hb hby d2_0) rfl rfl k) ?_
  show Gl _ _ _ _ _ _ _ _ (s₁.setTop (mkF m 1 #[.val (.ref a1)] [(.ref a1)]))
  obtain ⟨T1, X1, e1, st1⟩ := initO X0 hx hZ hown (hw _ (List.mem_of_getElem? (i := 13) rfl)) (hw _ (List.mem_of_getElem? (i := 14) rfl)) (hw _ (List.mem_of_getElem? (i := 15) rfl)) e0 (g := (mkF m 1 #[.val (.ref a1)] [(.ref a1)])) rfl (by rw [hml]; rfl) rfl (hb hby d2_1) (by decide) (W := 0) (by show 2 * 0 + _ ≤ _; exact Nat.le_of_eq rfl) (by decide)
  refine go (fun t k => st1 _ k) ?_
  show Gl _ _ _ _ _ _ _ _ (T1.setTop (mkF m 4 #[.val (.ref a1)] []))
  exact endV X1 hx Bd (hb hby d2_4) ⟨rfl, e1⟩ N0 (by decide) (by decide)
theorem pd_0 : parseMethodDescriptor "()V" = some ⟨[], none⟩ := by decide +kernel
theorem d1_0 : decode prog_43_method_1_code 0 = .ok (.aload_n 0, 1) := by decide +kernel
theorem d1_1 : decode prog_43_method_1_code 1 = .ok (.invokespecial 1, 3) := by decide +kernel
theorem d1_4 : decode prog_43_method_1_code 4 = .ok (.aload_n 0, 1) := by decide +kernel
theorem d1_5 : decode prog_43_method_1_code 5 = .ok (.lload_n 1, 1) := by decide +kernel
theorem d1_6 : decode prog_43_method_1_code 6 = .ok (.putfield 7, 3) := by decide +kernel
theorem d1_9 : decode prog_43_method_1_code 9 = .ok (.return_, 1) := by decide +kernel
theorem pn_1 : plainName "com/example/leasehold/client/RenewalManager$Schedule" = true := by first | (simp [plainName, overriddenIn]; done) | decide +kernel
theorem ef_1 (m : MethodId) (a1 : Addr) (q2 : Int64) : entryFrame m #[(.ref a1), (.long q2)] 3 = mkF m 0 #[.val (.ref a1), .val (.long q2), .second] [] := by first | (simp [entryFrame, mkF, argsToLocals, Value.category]; done) | rfl
set_option maxRecDepth 65536 in
set_option maxHeartbeats 40000000 in
theorem rm1 (l : Launch) (Z : State) (a0 : Array Value) (hw : ∀ d ∈ tables_1, d.before a0 Z = true) (ws : List Jvm.Cond) (a1 : Addr) (q2 : Int64) (w_rttMs_a1 : Value) (h0 : Heap) (n0 : Nat) (Z0 : n0 ≤ h0.size) (E_a1 : Exa Z h0 a1 "com/example/leasehold/client/RenewalManager$Schedule") (g_a1 : n0 ≤ a1) (F_rttMs_a1 : Fld Z h0 a1 "com/example/leasehold/client/RenewalManager$Schedule" "rttMs" "J" w_rttMs_a1) :
    MetFree l (⟨"com/example/leasehold/client/RenewalManager$Schedule", "<init>", "(J)V"⟩ : MethodName) (head1 (Jvm.Cond.code (⟨"com/example/leasehold/client/RenewalManager$Schedule", "<init>", "(J)V"⟩ : MethodName) prog_43_method_1_code 3 none :: ws) ({ frames := 2, cells := 0, slots := 0, locals := 24 } : Room)) (fun a U => a = #[(.ref a1), (.long q2)] ∧ Z.Warmed39 U.vm ∧ U.heap = h0) (fun _ _ _ _ _ => True) (fun _ U o U' => ∃ v L, o = .returned v ∧ QK n0 (Kv none (fun h => Keep h0 h [a1] ∧ Exa Z h a1 "com/example/leasehold/client/RenewalManager$Schedule" ∧ Fld Z h a1 "com/example/leasehold/client/RenewalManager$Schedule" "rttMs" "J" (.long q2))) v U'.heap L ∧ FrameEnd U o U' L ({ frames := 2, cells := 0, slots := 0, locals := 24 } : Room).cells ({ frames := 2, cells := 0, slots := 0, locals := 24 } : Room).slots) := by
  refine MetFree.of_bodySF (plainFor_of_name pn_1) hisR ?_
  intro p e s m args below meth c s₁ Bd hml0 hP hK
  obtain ⟨rfl, hZ, hh⟩ := hP
  have hx := Bd.exec
  have hby := Bd.bytes
  have hml : c.maxLocals = 3 := hml0
  have hown : s.vm.findClass "com/example/leasehold/client/RenewalManager$Schedule" = some m.cls := findClass_of_methodNamed Bd.named
  have hnm := (name_of_methodNamed Bd.named Bd.method).1
  have X0 : Stand p l e ({ frames := 2, cells := 0, slots := 0, locals := 24 } : Room) s m #[(.ref a1), (.long q2)] below meth c s₁ [] 0 0 := Stand.of_body Bd
  have e0 : s₁.heap = h0 := by rw [← hh, Bd.state]; rfl
  have N0 := Fr.nil n0
  refine gl_start (ef_1 m a1 q2) ?_
  show Gl p e below s n0 ({ frames := 2, cells := 0, slots := 0, locals := 24 } : Room).cells ({ frames := 2, cells := 0, slots := 0, locals := 24 } : Room).slots (Kv none (fun h => Keep h0 h [a1] ∧ Exa Z h a1 "com/example/leasehold/client/RenewalManager$Schedule" ∧ Fld Z h a1 "com/example/leasehold/client/RenewalManager$Schedule" "rttMs" "J" (.long q2))) (s₁.setTop (mkF m 0 #[.val (.ref a1), .val (.long q2), .second] []))
  refine go (fun t k => XS.aloadN X0.here hx rfl (hb hby d1_0) rfl rfl k) ?_
  show Gl _ _ _ _ _ _ _ _ (s₁.setTop (mkF m 1 #[.val (.ref a1), .val (.long q2), .second] [(.ref a1)]))
  obtain ⟨_, _, ⟨T1, L1, k1, n1⟩, -, X1, ⟨Lc1, hQ1, l1, y1, z1⟩, st1⟩ := X0.specialBack hx (y := (⟨"java/lang/Record", "<init>", "()V"⟩ : MethodName)) rfl hown (mvT hZ (hw _ (List.mem_of_getElem? (i := 8) rfl))) (mvT hZ (hw _ (List.mem_of_getElem? (i := 9) rfl))) (mvT hZ (hw _ (List.mem_of_getElem? (i := 12) rfl))) (by decide) (backOf (W := 0) (rm2 l Z a0 hw [] a1 h0 n0 Z0 ) hZ (hw _ (List.mem_of_getElem? (i := 12) rfl)) (hw _ (List.mem_of_getElem? (i := 11) rfl)) (by decide) (by decide)) (g := (mkF m 1 #[.val (.ref a1), .val (.long q2), .second] [(.ref a1)])) rfl (by rw [hml]; rfl) (Steps.refl _) (a := a1) (argsL := []) (rest := []) (lenOf pd_0 rfl) rfl (by show 2 * 0 + _ ≤ _; exact Nat.le_of_eq rfl) (hb hby d1_1) (fun _ _ => ⟨rfl, e0, (by decide : 0 + 0 ≤ _), (by decide : 0 + 0 ≤ _)⟩)
  dsimp only [Pt.U, Pt.locs, Pt.cells, Pt.slots] at X1 l1 y1 z1 st1 hQ1
  subst l1 y1 z1
  have X1 : Stand p l e ({ frames := 2, cells := 0, slots := 0, locals := 24 } : Room) s m #[(.ref a1), (.long q2)] below meth c T1 _ 0 0 := X1
  obtain ⟨⟨rfl, e1'⟩, N1q⟩ := hQ1
  have e1 : T1.heap = h0 := e1'
  have N1 := Fr.app N0 N1q
  refine go (fun t k => st1.trans k) ?_
  show Gl _ _ _ _ _ _ _ _ (T1.setTop (mkF m 4 #[.val (.ref a1), .val (.long q2), .second] []))
  refine go (fun t k => XS.aloadN X1.here hx rfl (hb hby d1_4) rfl rfl k) ?_
  show Gl _ _ _ _ _ _ _ _ (T1.setTop (mkF m 5 #[.val (.ref a1), .val (.long q2), .second] [(.ref a1)]))
  refine go (fun t k => XS.lloadN X1.here hx rfl (hb hby d1_5) rfl  k) ?_
  show Gl _ _ _ _ _ _ _ _ (T1.setTop (mkF m 6 #[.val (.ref a1), .val (.long q2), .second] [(.long q2), (.ref a1)]))
  obtain ⟨T2, h2, X2, e2, W2, st2⟩ := putF X1 hx hZ hown (host := "") (Or.inl (hw _ (List.mem_of_getElem? (i := 16) rfl))) Via.refl e1 F_rttMs_a1 E_a1 (Or.inr ⟨(hw _ (List.mem_of_getElem? (i := 17) rfl)), rfl, hnm⟩) (hw _ (List.mem_of_getElem? (i := 3) rfl)) (ty := .long) (by decide) rfl rfl (g := (mkF m 6 #[.val (.ref a1), .val (.long q2), .second] [(.long q2), (.ref a1)])) rfl rfl (hb hby d1_6)
  have Fw2 := F_rttMs_a1.same W2
  have K2 : Keep h0 h2 [a1] := (Keep.refl h0 [a1]).wr W2 (Or.inl (List.mem_of_getElem? (i := 0) rfl))
  have N2 := Fr.snoc X2 N1 g_a1
  refine go (fun t k => st2 _ k) ?_
  show Gl _ _ _ _ _ _ _ _ (T2.setTop (mkF m 9 #[.val (.ref a1), .val (.long q2), .second] []))
  exact endV X2 hx Bd (hb hby d1_9) ⟨rfl, (by rw [e2]; exact ⟨K2, (E_a1.wr W2), Fw2⟩)⟩ N2 (by decide) (by decide)
theorem d5_0 : decode prog_43_method_4_code 0 = .ok (.aload_n 0, 1) := by decide +kernel
theorem d5_1 : decode prog_43_method_4_code 1 = .ok (.getfield 7, 3) := by decide +kernel
theorem d5_4 : decode prog_43_method_4_code 4 = .ok (.ldc2_w 56, 3) := by decide +kernel
theorem d5_7 : decode prog_43_method_4_code 7 = .ok (.iload_n 1, 1) := by decide +kernel
theorem d5_8 : decode prog_43_method_4_code 8 = .ok (.i2l, 1) := by decide +kernel
theorem d5_9 : decode prog_43_method_4_code 9 = .ok (.ldiv, 1) := by decide +kernel
theorem d5_10 : decode prog_43_method_4_code 10 = .ok (.lcmp, 1) := by decide +kernel
theorem d5_11 : decode prog_43_method_4_code 11 = .ok (.ifCond .le 9, 3) := by decide +kernel
theorem d5_14 : decode prog_43_method_4_code 14 = .ok (.ldc2_w 56, 3) := by decide +kernel
theorem d5_17 : decode prog_43_method_4_code 17 = .ok (.goto 10, 3) := by decide +kernel
theorem d5_20 : decode prog_43_method_4_code 20 = .ok (.aload_n 0, 1) := by decide +kernel
theorem d5_21 : decode prog_43_method_4_code 21 = .ok (.getfield 7, 3) := by decide +kernel
theorem d5_24 : decode prog_43_method_4_code 24 = .ok (.iload_n 1, 1) := by decide +kernel
theorem d5_25 : decode prog_43_method_4_code 25 = .ok (.i2l, 1) := by decide +kernel
theorem d5_26 : decode prog_43_method_4_code 26 = .ok (.lmul, 1) := by decide +kernel
theorem d5_27 : decode prog_43_method_4_code 27 = .ok (.lreturn, 1) := by decide +kernel
theorem ef_5 (m : MethodId) (a1 : Addr) (p2 : Int32) : entryFrame m #[(.ref a1), (.int p2)] 2 = mkF m 0 #[.val (.ref a1), .val (.int p2)] [] := by first | (simp [entryFrame, mkF, argsToLocals, Value.category]; done) | rfl
def b5_27 (s0_27 : Int64) : Int64 := s0_27
def b5_0 (p2 : Int32) (w_rttMs_a1 : Int64) : Int64 := (if ((9223372036854775807 : Int64) / (p2.toInt64)) < w_rttMs_a1 then (b5_27 (9223372036854775807 : Int64)) else (b5_27 (w_rttMs_a1 * (p2.toInt64))))
set_option maxRecDepth 65536 in
set_option maxHeartbeats 40000000 in
theorem rm5 (l : Launch) (Z : State) (a0 : Array Value) (hw : ∀ d ∈ tables_1, d.before a0 Z = true) (ws : List Jvm.Cond) (a1 : Addr) (p2 : Int32) (w_rttMs_a1 : Int64) (h0 : Heap) (n0 : Nat) (Z0 : n0 ≤ h0.size) (F_rttMs_a1 : Fld Z h0 a1 "com/example/leasehold/client/RenewalManager$Schedule" "rttMs" "J" (.long w_rttMs_a1)) (hnz9 : ¬ ((p2.toInt64) = (0 : Int64))) :
    MetFree l (⟨"com/example/leasehold/client/RenewalManager$Schedule", "rtts", "(I)J"⟩ : MethodName) (head1 (Jvm.Cond.code (⟨"com/example/leasehold/client/RenewalManager$Schedule", "rtts", "(I)J"⟩ : MethodName) prog_43_method_4_code 2 (some .long) :: ws) ({ frames := 0, cells := 0, slots := 0, locals := 0 } : Room)) (fun a U => a = #[(.ref a1), (.int p2)] ∧ Z.Warmed39 U.vm ∧ U.heap = h0) (fun _ _ _ _ _ => True) (fun _ U o U' => ∃ v L, o = .returned v ∧ QK n0 (Kv (some (.long (b5_0 p2 w_rttMs_a1))) (fun h => h = h0)) v U'.heap L ∧ FrameEnd U o U' L ({ frames := 0, cells := 0, slots := 0, locals := 0 } : Room).cells ({ frames := 0, cells := 0, slots := 0, locals := 0 } : Room).slots) := by
  refine MetFree.of_bodySF (plainFor_of_name pn_1) hisR ?_
  intro p e s m args below meth c s₁ Bd hml0 hP hK
  obtain ⟨rfl, hZ, hh⟩ := hP
  have hx := Bd.exec
  have hby := Bd.bytes
  have hml : c.maxLocals = 2 := hml0
  have hown : s.vm.findClass "com/example/leasehold/client/RenewalManager$Schedule" = some m.cls := findClass_of_methodNamed Bd.named
  have hnm := (name_of_methodNamed Bd.named Bd.method).1
  have X0 : Stand p l e ({ frames := 0, cells := 0, slots := 0, locals := 0 } : Room) s m #[(.ref a1), (.int p2)] below meth c s₁ [] 0 0 := Stand.of_body Bd
  have e0 : s₁.heap = h0 := by rw [← hh, Bd.state]; rfl
  have N0 := Fr.nil n0
  refine gl_start (ef_5 m a1 p2) ?_
  show Gl p e below s n0 ({ frames := 0, cells := 0, slots := 0, locals := 0 } : Room).cells ({ frames := 0, cells := 0, slots := 0, locals := 0 } : Room).slots (Kv (some (.long (if ((9223372036854775807 : Int64) / (p2.toInt64)) < w_rttMs_a1 then (b5_27 (9223372036854775807 : Int64)) else (b5_27 (w_rttMs_a1 * (p2.toInt64)))))) (fun h => h = h0)) (s₁.setTop (mkF m 0 #[.val (.ref a1), .val (.int p2)] []))
  refine go (fun t k => XS.aloadN X0.here hx rfl (hb hby d5_0) rfl rfl k) ?_
  show Gl _ _ _ _ _ _ _ _ (s₁.setTop (mkF m 1 #[.val (.ref a1), .val (.int p2)] [(.ref a1)]))
  obtain ⟨T1, X1, e1, st1⟩ := getF X0 hx hZ hown (host := "") (Or.inl (hw _ (List.mem_of_getElem? (i := 16) rfl))) Via.refl e0 F_rttMs_a1 (g := (mkF m 1 #[.val (.ref a1), .val (.int p2)] [(.ref a1)])) rfl rfl (hb hby d5_1)
  refine go (fun t k => st1 _ k) ?_
  show Gl _ _ _ _ _ _ _ _ (T1.setTop (mkF m 4 #[.val (.ref a1), .val (.int p2)] [(.long w_rttMs_a1)]))
  refine go (fun t k => X1.ldc2Long hx hown (mvT hZ (hw _ (List.mem_of_getElem? (i := 27) rfl))) (g := (mkF m 4 #[.val (.ref a1), .val (.int p2)] [(.long w_rttMs_a1)])) rfl (hb hby d5_4) _ k) ?_
  show Gl _ _ _ _ _ _ _ _ (T1.setTop (mkF m 7 #[.val (.ref a1), .val (.int p2)] [(.long (9223372036854775807 : Int64)), (.long w_rttMs_a1)]))
  refine go (fun t k => XS.iloadN X1.here hx rfl (hb hby d5_7) rfl  k) ?_
  show Gl _ _ _ _ _ _ _ _ (T1.setTop (mkF m 8 #[.val (.ref a1), .val (.int p2)] [(.int p2), (.long (9223372036854775807 : Int64)), (.long w_rttMs_a1)]))
  refine go (fun t k => XS.i2l X1.here hx rfl (hb hby d5_8) rfl k) ?_
  show Gl _ _ _ _ _ _ _ _ (T1.setTop (mkF m 9 #[.val (.ref a1), .val (.int p2)] [(.long (p2.toInt64)), (.long (9223372036854775807 : Int64)), (.long w_rttMs_a1)]))
  refine go (fun t k => XS.ldiv X1.here hx rfl (hb hby d5_9) rfl hnz9 k) ?_
  show Gl _ _ _ _ _ _ _ _ (T1.setTop (mkF m 10 #[.val (.ref a1), .val (.int p2)] [(.long ((9223372036854775807 : Int64) / (p2.toInt64))), (.long w_rttMs_a1)]))
  refine go (fun t k => XS.lcmp X1.here hx rfl (hb hby d5_10) rfl k) ?_
  show Gl _ _ _ _ _ _ _ _ (T1.setTop (mkF m 11 #[.val (.ref a1), .val (.int p2)] [(.int (lcmpW w_rttMs_a1 ((9223372036854775807 : Int64) / (p2.toInt64))))]))
  have J27 : ∀ (s0_27 : Int64) (TJ27 : State) (lJ27 : List Loc) (XJ27 : Stand p l e ({ frames := 0, cells := 0, slots := 0, locals := 0 } : Room) s m #[(.ref a1), (.int p2)] below meth c TJ27 lJ27 0 0) (eJ27 : TJ27.heap = h0) (NJ27 : Fr n0 lJ27), Gl p e below s n0 ({ frames := 0, cells := 0, slots := 0, locals := 0 } : Room).cells ({ frames := 0, cells := 0, slots := 0, locals := 0 } : Room).slots (Kv (some (.long (b5_27 s0_27))) (fun h => h = h0)) (TJ27.setTop (mkF m 27 #[.val (.ref a1), .val (.int p2)] [(.long s0_27)])) := by
    intro s0_27 TJ27 lJ27 XJ27 eJ27 NJ27
    show Gl _ _ _ _ _ _ _ (Kv (some (.long s0_27)) _) _
    exact endJ XJ27 hx Bd (hb hby d5_27) ⟨rfl, eJ27⟩ NJ27 (by decide) (by decide)
  refine gJ (c := ((9223372036854775807 : Int64) / (p2.toInt64)) < w_rttMs_a1) (fun hc11 => ?_) (fun hc11 => ?_)
  · refine go (fun t k => XS.ifNo X1.here hx rfl (hb hby d5_11) rfl ((if0 _ _).trans (tlt ((lw_gt w_rttMs_a1 ((9223372036854775807 : Int64) / (p2.toInt64))).mpr hc11)).2.2.2) k) ?_
    show Gl _ _ _ _ _ _ _ _ (T1.setTop (mkF m 14 #[.val (.ref a1), .val (.int p2)] []))
    refine go (fun t k => X1.ldc2Long hx hown (mvT hZ (hw _ (List.mem_of_getElem? (i := 27) rfl))) (g := (mkF m 14 #[.val (.ref a1), .val (.int p2)] [])) rfl (hb hby d5_14) _ k) ?_
    show Gl _ _ _ _ _ _ _ _ (T1.setTop (mkF m 17 #[.val (.ref a1), .val (.int p2)] [(.long (9223372036854775807 : Int64))]))
    refine go (fun t k => XS.goto X1.here hx rfl (pc0 := 17) (pc' := 27) rfl (hb hby d5_17) (by decide) (by decide) k) ?_
    show Gl _ _ _ _ _ _ _ _ (T1.setTop (mkF m 27 #[.val (.ref a1), .val (.int p2)] [(.long (9223372036854775807 : Int64))]))
    exact J27 (9223372036854775807 : Int64) T1 _ X1 e1 N0
  · refine go (fun t k => XS.ifYes X1.here hx rfl (pc0 := 11) (pc' := 20) rfl (hb hby d5_11) rfl ((if0 _ _).trans (flt (mt (lw_gt w_rttMs_a1 ((9223372036854775807 : Int64) / (p2.toInt64))).mp hc11)).2.2.2) (by decide) (by decide) k) ?_
    show Gl _ _ _ _ _ _ _ _ (T1.setTop (mkF m 20 #[.val (.ref a1), .val (.int p2)] []))
    refine go (fun t k => XS.aloadN X1.here hx rfl (hb hby d5_20) rfl rfl k) ?_
    show Gl _ _ _ _ _ _ _ _ (T1.setTop (mkF m 21 #[.val (.ref a1), .val (.int p2)] [(.ref a1)]))
    obtain ⟨T3, X3, e3, st3⟩ := getF X1 hx hZ hown (host := "") (Or.inl (hw _ (List.mem_of_getElem? (i := 16) rfl))) Via.refl e1 F_rttMs_a1 (g := (mkF m 21 #[.val (.ref a1), .val (.int p2)] [(.ref a1)])) rfl rfl (hb hby d5_21)
    refine go (fun t k => st3 _ k) ?_
    show Gl _ _ _ _ _ _ _ _ (T3.setTop (mkF m 24 #[.val (.ref a1), .val (.int p2)] [(.long w_rttMs_a1)]))
    refine go (fun t k => XS.iloadN X3.here hx rfl (hb hby d5_24) rfl  k) ?_
    show Gl _ _ _ _ _ _ _ _ (T3.setTop (mkF m 25 #[.val (.ref a1), .val (.int p2)] [(.int p2), (.long w_rttMs_a1)]))
    refine go (fun t k => XS.i2l X3.here hx rfl (hb hby d5_25) rfl k) ?_
    show Gl _ _ _ _ _ _ _ _ (T3.setTop (mkF m 26 #[.val (.ref a1), .val (.int p2)] [(.long (p2.toInt64)), (.long w_rttMs_a1)]))
    refine go (fun t k => XS.lmul X3.here hx rfl (hb hby d5_26) rfl k) ?_
    show Gl _ _ _ _ _ _ _ _ (T3.setTop (mkF m 27 #[.val (.ref a1), .val (.int p2)] [(.long (w_rttMs_a1 * (p2.toInt64)))]))
    exact J27 (w_rttMs_a1 * (p2.toInt64)) T3 _ X3 e3 N0
theorem pd_1 : parseMethodDescriptor "(I)J" = some ⟨[.int], some .long⟩ := by decide +kernel
theorem d4_0 : decode prog_43_method_2_code 0 = .ok (.lload_n 1, 1) := by decide +kernel
theorem d4_1 : decode prog_43_method_2_code 1 = .ok (.lload_n 3, 1) := by decide +kernel
theorem d4_2 : decode prog_43_method_2_code 2 = .ok (.lsub, 1) := by decide +kernel
theorem d4_3 : decode prog_43_method_2_code 3 = .ok (.lstore 5, 2) := by decide +kernel
theorem d4_5 : decode prog_43_method_2_code 5 = .ok (.lload 5, 2) := by decide +kernel
theorem d4_7 : decode prog_43_method_2_code 7 = .ok (.aload_n 0, 1) := by decide +kernel
theorem d4_8 : decode prog_43_method_2_code 8 = .ok (.iconst 2, 1) := by decide +kernel
theorem d4_9 : decode prog_43_method_2_code 9 = .ok (.invokevirtual 13, 3) := by decide +kernel
theorem d4_12 : decode prog_43_method_2_code 12 = .ok (.lcmp, 1) := by decide +kernel
theorem d4_13 : decode prog_43_method_2_code 13 = .ok (.ifCond .gt 12, 3) := by decide +kernel
theorem d4_16 : decode prog_43_method_2_code 16 = .ok (.aload_n 0, 1) := by decide +kernel
theorem d4_17 : decode prog_43_method_2_code 17 = .ok (.getfield 7, 3) := by decide +kernel
theorem d4_20 : decode prog_43_method_2_code 20 = .ok (.lstore 5, 2) := by decide +kernel
theorem d4_22 : decode prog_43_method_2_code 22 = .ok (.goto 76, 3) := by decide +kernel
theorem d4_25 : decode prog_43_method_2_code 25 = .ok (.lload 5, 2) := by decide +kernel
theorem d4_27 : decode prog_43_method_2_code 27 = .ok (.aload_n 0, 1) := by decide +kernel
theorem d4_28 : decode prog_43_method_2_code 28 = .ok (.bipush 8, 2) := by decide +kernel
theorem d4_30 : decode prog_43_method_2_code 30 = .ok (.invokevirtual 13, 3) := by decide +kernel
theorem d4_33 : decode prog_43_method_2_code 33 = .ok (.lcmp, 1) := by decide +kernel
theorem d4_34 : decode prog_43_method_2_code 34 = .ok (.ifCond .gt 14, 3) := by decide +kernel
theorem d4_37 : decode prog_43_method_2_code 37 = .ok (.lload 5, 2) := by decide +kernel
theorem d4_39 : decode prog_43_method_2_code 39 = .ok (.ldc2_w 17, 3) := by decide +kernel
theorem d4_42 : decode prog_43_method_2_code 42 = .ok (.ldiv, 1) := by decide +kernel
theorem d4_43 : decode prog_43_method_2_code 43 = .ok (.lstore 5, 2) := by decide +kernel
theorem d4_45 : decode prog_43_method_2_code 45 = .ok (.goto 53, 3) := by decide +kernel
theorem d4_48 : decode prog_43_method_2_code 48 = .ok (.lload 5, 2) := by decide +kernel
theorem d4_50 : decode prog_43_method_2_code 50 = .ok (.getstatic 19, 3) := by decide +kernel
theorem d4_53 : decode prog_43_method_2_code 53 = .ok (.lcmp, 1) := by decide +kernel
theorem d4_54 : decode prog_43_method_2_code 54 = .ok (.ifCond .gt 14, 3) := by decide +kernel
theorem d4_57 : decode prog_43_method_2_code 57 = .ok (.lload 5, 2) := by decide +kernel
theorem d4_59 : decode prog_43_method_2_code 59 = .ok (.ldc2_w 22, 3) := by decide +kernel
theorem d4_62 : decode prog_43_method_2_code 62 = .ok (.ldiv, 1) := by decide +kernel
theorem d4_63 : decode prog_43_method_2_code 63 = .ok (.lstore 5, 2) := by decide +kernel
theorem d4_65 : decode prog_43_method_2_code 65 = .ok (.goto 33, 3) := by decide +kernel
theorem d4_68 : decode prog_43_method_2_code 68 = .ok (.lload 5, 2) := by decide +kernel
theorem d4_70 : decode prog_43_method_2_code 70 = .ok (.ldc2_w 17, 3) := by decide +kernel
theorem d4_73 : decode prog_43_method_2_code 73 = .ok (.getstatic 19, 3) := by decide +kernel
theorem d4_76 : decode prog_43_method_2_code 76 = .ok (.lmul, 1) := by decide +kernel
theorem d4_77 : decode prog_43_method_2_code 77 = .ok (.lcmp, 1) := by decide +kernel
theorem d4_78 : decode prog_43_method_2_code 78 = .ok (.ifCond .gt 11, 3) := by decide +kernel
theorem d4_81 : decode prog_43_method_2_code 81 = .ok (.getstatic 24, 3) := by decide +kernel
theorem d4_84 : decode prog_43_method_2_code 84 = .ok (.lstore 5, 2) := by decide +kernel
theorem d4_86 : decode prog_43_method_2_code 86 = .ok (.goto 12, 3) := by decide +kernel
theorem d4_89 : decode prog_43_method_2_code 89 = .ok (.ldc2_w 27, 3) := by decide +kernel
theorem d4_92 : decode prog_43_method_2_code 92 = .ok (.getstatic 24, 3) := by decide +kernel
theorem d4_95 : decode prog_43_method_2_code 95 = .ok (.lmul, 1) := by decide +kernel
theorem d4_96 : decode prog_43_method_2_code 96 = .ok (.lstore 5, 2) := by decide +kernel
theorem d4_98 : decode prog_43_method_2_code 98 = .ok (.lload_n 1, 1) := by decide +kernel
theorem d4_99 : decode prog_43_method_2_code 99 = .ok (.lload 5, 2) := by decide +kernel
theorem d4_101 : decode prog_43_method_2_code 101 = .ok (.lsub, 1) := by decide +kernel
theorem d4_102 : decode prog_43_method_2_code 102 = .ok (.lreturn, 1) := by decide +kernel
theorem ef_4 (m : MethodId) (a1 : Addr) (q2 : Int64) (q3 : Int64) : entryFrame m #[(.ref a1), (.long q2), (.long q3)] 7 = mkF m 0 #[.val (.ref a1), .val (.long q2), .second, .val (.long q3), .second, .unset, .unset] [] := by first | (simp [entryFrame, mkF, argsToLocals, Value.category]; done) | rfl
def b4_98 (q2 : Int64) (v5_98 : Int64) : Int64 := (q2 - v5_98)
def b4_0 (q2 : Int64) (q3 : Int64) (w_rttMs_a1 : Int64) (w_WEEK_MS : Int64) (w_DAY_MS : Int64) : Int64 := (if (b5_0 (2 : Int32) w_rttMs_a1) < (q2 - q3) then (if (b5_0 (8 : Int32) w_rttMs_a1) < (q2 - q3) then (if w_WEEK_MS < (q2 - q3) then (if ((2 : Int64) * w_WEEK_MS) < (q2 - q3) then (b4_98 q2 ((3 : Int64) * w_DAY_MS)) else (b4_98 q2 w_DAY_MS)) else (b4_98 q2 ((q2 - q3) / (8 : Int64)))) else (b4_98 q2 ((q2 - q3) / (2 : Int64)))) else (b4_98 q2 w_rttMs_a1))
set_option maxRecDepth 65536 in
set_option maxHeartbeats 40000000 in
theorem rm4 (l : Launch) (Z : State) (a0 : Array Value) (hw : ∀ d ∈ tables_1, d.before a0 Z = true) (ws : List Jvm.Cond) (a1 : Addr) (q2 : Int64) (q3 : Int64) (w_rttMs_a1 : Int64) (w_WEEK_MS : Int64) (w_DAY_MS : Int64) (h0 : Heap) (n0 : Nat) (Z0 : n0 ≤ h0.size) (F_rttMs_a1 : Fld Z h0 a1 "com/example/leasehold/client/RenewalManager$Schedule" "rttMs" "J" (.long w_rttMs_a1)) (E_a1 : Exa Z h0 a1 "com/example/leasehold/client/RenewalManager$Schedule") (S_WEEK_MS : Sta Z h0 "com/example/leasehold/client/RenewalManager$Schedule" "WEEK_MS" "J" (.long w_WEEK_MS)) (S_DAY_MS : Sta Z h0 "com/example/leasehold/client/RenewalManager$Schedule" "DAY_MS" "J" (.long w_DAY_MS)) :
    MetFree l (⟨"com/example/leasehold/client/RenewalManager$Schedule", "renewalTime", "(JJ)J"⟩ : MethodName) (head1 (Jvm.Cond.code (⟨"com/example/leasehold/client/RenewalManager$Schedule", "renewalTime", "(JJ)J"⟩ : MethodName) prog_43_method_2_code 7 (some .long) :: ws) ({ frames := 1, cells := 0, slots := 0, locals := 15 } : Room)) (fun a U => a = #[(.ref a1), (.long q2), (.long q3)] ∧ Z.Warmed39 U.vm ∧ U.heap = h0) (fun _ _ _ _ _ => True) (fun _ U o U' => ∃ v L, o = .returned v ∧ QK n0 (Kv (some (.long (b4_0 q2 q3 w_rttMs_a1 w_WEEK_MS w_DAY_MS))) (fun h => h = h0)) v U'.heap L ∧ FrameEnd U o U' L ({ frames := 1, cells := 0, slots := 0, locals := 15 } : Room).cells ({ frames := 1, cells := 0, slots := 0, locals := 15 } : Room).slots) := by
  refine MetFree.of_bodySF (plainFor_of_name pn_1) hisR ?_
  intro p e s m args below meth c s₁ Bd hml0 hP hK
  obtain ⟨rfl, hZ, hh⟩ := hP
  have hx := Bd.exec
  have hby := Bd.bytes
  have hml : c.maxLocals = 7 := hml0
  have hown : s.vm.findClass "com/example/leasehold/client/RenewalManager$Schedule" = some m.cls := findClass_of_methodNamed Bd.named
  have hnm := (name_of_methodNamed Bd.named Bd.method).1
  have X0 : Stand p l e ({ frames := 1, cells := 0, slots := 0, locals := 15 } : Room) s m #[(.ref a1), (.long q2), (.long q3)] below meth c s₁ [] 0 0 := Stand.of_body Bd
  have e0 : s₁.heap = h0 := by rw [← hh, Bd.state]; rfl
  have N0 := Fr.nil n0
  refine gl_start (ef_4 m a1 q2 q3) ?_
  show Gl p e below s n0 ({ frames := 1, cells := 0, slots := 0, locals := 15 } : Room).cells ({ frames := 1, cells := 0, slots := 0, locals := 15 } : Room).slots (Kv (some (.long (if (b5_0 (2 : Int32) w_rttMs_a1) < (q2 - q3) then (if (b5_0 (8 : Int32) w_rttMs_a1) < (q2 - q3) then (if w_WEEK_MS < (q2 - q3) then (if ((2 : Int64) * w_WEEK_MS) < (q2 - q3) then (b4_98 q2 ((3 : Int64) * w_DAY_MS)) else (b4_98 q2 w_DAY_MS)) else (b4_98 q2 ((q2 - q3) / (8 : Int64)))) else (b4_98 q2 ((q2 - q3) / (2 : Int64)))) else (b4_98 q2 w_rttMs_a1)))) (fun h => h = h0)) (s₁.setTop (mkF m 0 #[.val (.ref a1), .val (.long q2), .second, .val (.long q3), .second, .unset, .unset] []))
  refine go (fun t k => XS.lloadN X0.here hx rfl (hb hby d4_0) rfl  k) ?_
  show Gl _ _ _ _ _ _ _ _ (s₁.setTop (mkF m 1 #[.val (.ref a1), .val (.long q2), .second, .val (.long q3), .second, .unset, .unset] [(.long q2)]))
  refine go (fun t k => XS.lloadN X0.here hx rfl (hb hby d4_1) rfl  k) ?_
  show Gl _ _ _ _ _ _ _ _ (s₁.setTop (mkF m 2 #[.val (.ref a1), .val (.long q2), .second, .val (.long q3), .second, .unset, .unset] [(.long q3), (.long q2)]))
  refine go (fun t k => XS.lsub X0.here hx rfl (hb hby d4_2) rfl k) ?_
  show Gl _ _ _ _ _ _ _ _ (s₁.setTop (mkF m 3 #[.val (.ref a1), .val (.long q2), .second, .val (.long q3), .second, .unset, .unset] [(.long (q2 - q3))]))
  refine go (fun t k => XS.lstore X0.here hx rfl (hb hby d4_3) rfl (l' := #[.val (.ref a1), .val (.long q2), .second, .val (.long q3), .second, .val (.long (q2 - q3)), .second]) rfl k) ?_
  show Gl _ _ _ _ _ _ _ _ (s₁.setTop (mkF m 5 #[.val (.ref a1), .val (.long q2), .second, .val (.long q3), .second, .val (.long (q2 - q3)), .second] []))
  refine go (fun t k => XS.lload X0.here hx rfl (hb hby d4_5) rfl  k) ?_
  show Gl _ _ _ _ _ _ _ _ (s₁.setTop (mkF m 7 #[.val (.ref a1), .val (.long q2), .second, .val (.long q3), .second, .val (.long (q2 - q3)), .second] [(.long (q2 - q3))]))
  refine go (fun t k => XS.aloadN X0.here hx rfl (hb hby d4_7) rfl rfl k) ?_
  show Gl _ _ _ _ _ _ _ _ (s₁.setTop (mkF m 8 #[.val (.ref a1), .val (.long q2), .second, .val (.long q3), .second, .val (.long (q2 - q3)), .second] [(.ref a1), (.long (q2 - q3))]))
  refine go (fun t k => XS.iconst X0.here hx rfl (hb hby d4_8) k) ?_
  show Gl _ _ _ _ _ _ _ _ (s₁.setTop (mkF m 9 #[.val (.ref a1), .val (.long q2), .second, .val (.long q3), .second, .val (.long (q2 - q3)), .second] [(.int (2 : Int32)), (.ref a1), (.long (q2 - q3))]))
  obtain ⟨cq1, pq1, pq1'⟩ := E_a1.cell
  obtain ⟨_, _, ⟨T1, L1, k1, n1⟩, -, X1, ⟨Lc1, hQ1, l1, y1, z1⟩, st1⟩ := X0.privateBack hx (y := (⟨"com/example/leasehold/client/RenewalManager$Schedule", "rtts", "(I)J"⟩ : MethodName)) hown (mvT hZ (hw _ (List.mem_of_getElem? (i := 23) rfl))) (mvT hZ (hw _ (List.mem_of_getElem? (i := 24) rfl))) (sel_priv hZ (hw _ (List.mem_of_getElem? (i := 3) rfl)) (hw _ (List.mem_of_getElem? (i := 25) rfl)) (hw _ (List.mem_of_getElem? (i := 24) rfl)) (by decide)) (Cond.privateMethod_at (mvP hZ (hw _ (List.mem_of_getElem? (i := 25) rfl)) (args := #[]))) (mvT hZ (hw _ (List.mem_of_getElem? (i := 26) rfl))) (by decide) (backOf (W := 2) (rm5 l Z a0 hw [] a1 (2 : Int32) w_rttMs_a1 h0 n0 Z0 F_rttMs_a1 (by decide)) hZ (hw _ (List.mem_of_getElem? (i := 26) rfl)) (hw _ (List.mem_of_getElem? (i := 4) rfl)) (by decide) (by decide)) (g := (mkF m 9 #[.val (.ref a1), .val (.long q2), .second, .val (.long q3), .second, .val (.long (q2 - q3)), .second] [(.int (2 : Int32)), (.ref a1), (.long (q2 - q3))])) rfl (by rw [hml]; rfl) (Steps.refl _) (a := a1) (by rw [e0]; exact pq1) pq1' (argsL := [(.int (2 : Int32))]) (rest := [(.long (q2 - q3))]) (lenOf pd_1 rfl) rfl (by show 2 * 0 + _ ≤ _; exact Nat.le_of_eq rfl) (hb hby d4_9) (fun _ _ => ⟨rfl, e0, (by decide : 0 + 0 ≤ _), (by decide : 0 + 0 ≤ _)⟩)
  dsimp only [Pt.U, Pt.locs, Pt.cells, Pt.slots] at X1 l1 y1 z1 st1 hQ1
  subst l1 y1 z1
  have X1 : Stand p l e ({ frames := 1, cells := 0, slots := 0, locals := 15 } : Room) s m #[(.ref a1), (.long q2), (.long q3)] below meth c T1 _ 0 0 := X1
  obtain ⟨⟨rfl, e1'⟩, N1q⟩ := hQ1
  have e1 : T1.heap = h0 := e1'
  have N1 := Fr.app N0 N1q
  refine go (fun t k => st1.trans k) ?_
  show Gl _ _ _ _ _ _ _ _ (T1.setTop (mkF m 12 #[.val (.ref a1), .val (.long q2), .second, .val (.long q3), .second, .val (.long (q2 - q3)), .second] [(.long (b5_0 (2 : Int32) w_rttMs_a1)), (.long (q2 - q3))]))
  refine go (fun t k => XS.lcmp X1.here hx rfl (hb hby d4_12) rfl k) ?_
  show Gl _ _ _ _ _ _ _ _ (T1.setTop (mkF m 13 #[.val (.ref a1), .val (.long q2), .second, .val (.long q3), .second, .val (.long (q2 - q3)), .second] [(.int (lcmpW (q2 - q3) (b5_0 (2 : Int32) w_rttMs_a1)))]))
  have J98 : ∀ (v5_98 : Int64) (TJ98 : State) (lJ98 : List Loc) (XJ98 : Stand p l e ({ frames := 1, cells := 0, slots := 0, locals := 15 } : Room) s m #[(.ref a1), (.long q2), (.long q3)] below meth c TJ98 lJ98 0 0) (eJ98 : TJ98.heap = h0) (NJ98 : Fr n0 lJ98), Gl p e below s n0 ({ frames := 1, cells := 0, slots := 0, locals := 15 } : Room).cells ({ frames := 1, cells := 0, slots := 0, locals := 15 } : Room).slots (Kv (some (.long (b4_98 q2 v5_98))) (fun h => h = h0)) (TJ98.setTop (mkF m 98 #[.val (.ref a1), .val (.long q2), .second, .val (.long q3), .second, .val (.long v5_98), .second] [])) := by
    intro v5_98 TJ98 lJ98 XJ98 eJ98 NJ98
    show Gl _ _ _ _ _ _ _ (Kv (some (.long (q2 - v5_98))) _) _
    refine go (fun t k => XS.lloadN XJ98.here hx rfl (hb hby d4_98) rfl  k) ?_
    show Gl _ _ _ _ _ _ _ _ (TJ98.setTop (mkF m 99 #[.val (.ref a1), .val (.long q2), .second, .val (.long q3), .second, .val (.long v5_98), .second] [(.long q2)]))
    refine go (fun t k => XS.lload XJ98.here hx rfl (hb hby d4_99) rfl  k) ?_
    show Gl _ _ _ _ _ _ _ _ (TJ98.setTop (mkF m 101 #[.val (.ref a1), .val (.long q2), .second, .val (.long q3), .second, .val (.long v5_98), .second] [(.long v5_98), (.long q2)]))
    refine go (fun t k => XS.lsub XJ98.here hx rfl (hb hby d4_101) rfl k) ?_
    show Gl _ _ _ _ _ _ _ _ (TJ98.setTop (mkF m 102 #[.val (.ref a1), .val (.long q2), .second, .val (.long q3), .second, .val (.long v5_98), .second] [(.long (q2 - v5_98))]))
    exact endJ XJ98 hx Bd (hb hby d4_102) ⟨rfl, eJ98⟩ NJ98 (by decide) (by decide)
  refine gJ (c := (b5_0 (2 : Int32) w_rttMs_a1) < (q2 - q3)) (fun hc13 => ?_) (fun hc13 => ?_)
  · refine go (fun t k => XS.ifYes X1.here hx rfl (pc0 := 13) (pc' := 25) rfl (hb hby d4_13) rfl ((if0 _ _).trans (tlt ((lw_gt (q2 - q3) (b5_0 (2 : Int32) w_rttMs_a1)).mpr hc13)).2.2.1) (by decide) (by decide) k) ?_
    show Gl _ _ _ _ _ _ _ _ (T1.setTop (mkF m 25 #[.val (.ref a1), .val (.long q2), .second, .val (.long q3), .second, .val (.long (q2 - q3)), .second] []))
    refine go (fun t k => XS.lload X1.here hx rfl (hb hby d4_25) rfl  k) ?_
    show Gl _ _ _ _ _ _ _ _ (T1.setTop (mkF m 27 #[.val (.ref a1), .val (.long q2), .second, .val (.long q3), .second, .val (.long (q2 - q3)), .second] [(.long (q2 - q3))]))
    refine go (fun t k => XS.aloadN X1.here hx rfl (hb hby d4_27) rfl rfl k) ?_
    show Gl _ _ _ _ _ _ _ _ (T1.setTop (mkF m 28 #[.val (.ref a1), .val (.long q2), .second, .val (.long q3), .second, .val (.long (q2 - q3)), .second] [(.ref a1), (.long (q2 - q3))]))
    refine go (fun t k => XS.bipush X1.here hx rfl (hb hby d4_28) k) ?_
    show Gl _ _ _ _ _ _ _ _ (T1.setTop (mkF m 30 #[.val (.ref a1), .val (.long q2), .second, .val (.long q3), .second, .val (.long (q2 - q3)), .second] [(.int (8 : Int32)), (.ref a1), (.long (q2 - q3))]))
    obtain ⟨cq3, pq3, pq3'⟩ := E_a1.cell
    obtain ⟨_, _, ⟨T3, L3, k3, n3⟩, -, X3, ⟨Lc3, hQ3, l3, y3, z3⟩, st3⟩ := X1.privateBack hx (y := (⟨"com/example/leasehold/client/RenewalManager$Schedule", "rtts", "(I)J"⟩ : MethodName)) hown (mvT hZ (hw _ (List.mem_of_getElem? (i := 23) rfl))) (mvT hZ (hw _ (List.mem_of_getElem? (i := 24) rfl))) (sel_priv hZ (hw _ (List.mem_of_getElem? (i := 3) rfl)) (hw _ (List.mem_of_getElem? (i := 25) rfl)) (hw _ (List.mem_of_getElem? (i := 24) rfl)) (by decide)) (Cond.privateMethod_at (mvP hZ (hw _ (List.mem_of_getElem? (i := 25) rfl)) (args := #[]))) (mvT hZ (hw _ (List.mem_of_getElem? (i := 26) rfl))) (by decide) (backOf (W := 2) (rm5 l Z a0 hw [] a1 (8 : Int32) w_rttMs_a1 h0 n0 Z0 F_rttMs_a1 (by decide)) hZ (hw _ (List.mem_of_getElem? (i := 26) rfl)) (hw _ (List.mem_of_getElem? (i := 4) rfl)) (by decide) (by decide)) (g := (mkF m 30 #[.val (.ref a1), .val (.long q2), .second, .val (.long q3), .second, .val (.long (q2 - q3)), .second] [(.int (8 : Int32)), (.ref a1), (.long (q2 - q3))])) rfl (by rw [hml]; rfl) (Steps.refl _) (a := a1) (by rw [e1]; exact pq3) pq3' (argsL := [(.int (8 : Int32))]) (rest := [(.long (q2 - q3))]) (lenOf pd_1 rfl) rfl (by show 2 * 0 + _ ≤ _; exact Nat.le_of_eq rfl) (hb hby d4_30) (fun _ _ => ⟨rfl, e1, (by decide : 0 + 0 ≤ _), (by decide : 0 + 0 ≤ _)⟩)
    dsimp only [Pt.U, Pt.locs, Pt.cells, Pt.slots] at X3 l3 y3 z3 st3 hQ3
    subst l3 y3 z3
    have X3 : Stand p l e ({ frames := 1, cells := 0, slots := 0, locals := 15 } : Room) s m #[(.ref a1), (.long q2), (.long q3)] below meth c T3 _ 0 0 := X3
    obtain ⟨⟨rfl, e3'⟩, N3q⟩ := hQ3
    have e3 : T3.heap = h0 := e3'
    have N3 := Fr.app N1 N3q
    refine go (fun t k => st3.trans k) ?_
    show Gl _ _ _ _ _ _ _ _ (T3.setTop (mkF m 33 #[.val (.ref a1), .val (.long q2), .second, .val (.long q3), .second, .val (.long (q2 - q3)), .second] [(.long (b5_0 (8 : Int32) w_rttMs_a1)), (.long (q2 - q3))]))
    refine go (fun t k => XS.lcmp X3.here hx rfl (hb hby d4_33) rfl k) ?_
    show Gl _ _ _ _ _ _ _ _ (T3.setTop (mkF m 34 #[.val (.ref a1), .val (.long q2), .second, .val (.long q3), .second, .val (.long (q2 - q3)), .second] [(.int (lcmpW (q2 - q3) (b5_0 (8 : Int32) w_rttMs_a1)))]))
    refine gJ (c := (b5_0 (8 : Int32) w_rttMs_a1) < (q2 - q3)) (fun hc34 => ?_) (fun hc34 => ?_)
    · refine go (fun t k => XS.ifYes X3.here hx rfl (pc0 := 34) (pc' := 48) rfl (hb hby d4_34) rfl ((if0 _ _).trans (tlt ((lw_gt (q2 - q3) (b5_0 (8 : Int32) w_rttMs_a1)).mpr hc34)).2.2.1) (by decide) (by decide) k) ?_
      show Gl _ _ _ _ _ _ _ _ (T3.setTop (mkF m 48 #[.val (.ref a1), .val (.long q2), .second, .val (.long q3), .second, .val (.long (q2 - q3)), .second] []))
      refine go (fun t k => XS.lload X3.here hx rfl (hb hby d4_48) rfl  k) ?_
      show Gl _ _ _ _ _ _ _ _ (T3.setTop (mkF m 50 #[.val (.ref a1), .val (.long q2), .second, .val (.long q3), .second, .val (.long (q2 - q3)), .second] [(.long (q2 - q3))]))
      obtain ⟨T4, X4, e4, st4⟩ := getS2 X3 hx hZ hown (host := "") (Or.inl (hw _ (List.mem_of_getElem? (i := 28) rfl))) Via.refl e3 S_WEEK_MS (g := (mkF m 50 #[.val (.ref a1), .val (.long q2), .second, .val (.long q3), .second, .val (.long (q2 - q3)), .second] [(.long (q2 - q3))])) rfl (hb hby d4_50)
      refine go (fun t k => st4 _ k) ?_
      show Gl _ _ _ _ _ _ _ _ (T4.setTop (mkF m 53 #[.val (.ref a1), .val (.long q2), .second, .val (.long q3), .second, .val (.long (q2 - q3)), .second] [(.long w_WEEK_MS), (.long (q2 - q3))]))
      refine go (fun t k => XS.lcmp X4.here hx rfl (hb hby d4_53) rfl k) ?_
      show Gl _ _ _ _ _ _ _ _ (T4.setTop (mkF m 54 #[.val (.ref a1), .val (.long q2), .second, .val (.long q3), .second, .val (.long (q2 - q3)), .second] [(.int (lcmpW (q2 - q3) w_WEEK_MS))]))
      refine gJ (c := w_WEEK_MS < (q2 - q3)) (fun hc54 => ?_) (fun hc54 => ?_)
      · refine go (fun t k => XS.ifYes X4.here hx rfl (pc0 := 54) (pc' := 68) rfl (hb hby d4_54) rfl ((if0 _ _).trans (tlt ((lw_gt (q2 - q3) w_WEEK_MS).mpr hc54)).2.2.1) (by decide) (by decide) k) ?_
        show Gl _ _ _ _ _ _ _ _ (T4.setTop (mkF m 68 #[.val (.ref a1), .val (.long q2), .second, .val (.long q3), .second, .val (.long (q2 - q3)), .second] []))
        refine go (fun t k => XS.lload X4.here hx rfl (hb hby d4_68) rfl  k) ?_
        show Gl _ _ _ _ _ _ _ _ (T4.setTop (mkF m 70 #[.val (.ref a1), .val (.long q2), .second, .val (.long q3), .second, .val (.long (q2 - q3)), .second] [(.long (q2 - q3))]))
        refine go (fun t k => X4.ldc2Long hx hown (mvT hZ (hw _ (List.mem_of_getElem? (i := 37) rfl))) (g := (mkF m 70 #[.val (.ref a1), .val (.long q2), .second, .val (.long q3), .second, .val (.long (q2 - q3)), .second] [(.long (q2 - q3))])) rfl (hb hby d4_70) _ k) ?_
        show Gl _ _ _ _ _ _ _ _ (T4.setTop (mkF m 73 #[.val (.ref a1), .val (.long q2), .second, .val (.long q3), .second, .val (.long (q2 - q3)), .second] [(.long (2 : Int64)), (.long (q2 - q3))]))
        obtain ⟨T5, X5, e5, st5⟩ := getS2 X4 hx hZ hown (host := "") (Or.inl (hw _ (List.mem_of_getElem? (i := 28) rfl))) Via.refl e4 S_WEEK_MS (g := (mkF m 73 #[.val (.ref a1), .val (.long q2), .second, .val (.long q3), .second, .val (.long (q2 - q3)), .second] [(.long (2 : Int64)), (.long (q2 - q3))])) rfl (hb hby d4_73)
        refine go (fun t k => st5 _ k) ?_
        show Gl _ _ _ _ _ _ _ _ (T5.setTop (mkF m 76 #[.val (.ref a1), .val (.long q2), .second, .val (.long q3), .second, .val (.long (q2 - q3)), .second] [(.long w_WEEK_MS), (.long (2 : Int64)), (.long (q2 - q3))]))
        refine go (fun t k => XS.lmul X5.here hx rfl (hb hby d4_76) rfl k) ?_
        show Gl _ _ _ _ _ _ _ _ (T5.setTop (mkF m 77 #[.val (.ref a1), .val (.long q2), .second, .val (.long q3), .second, .val (.long (q2 - q3)), .second] [(.long ((2 : Int64) * w_WEEK_MS)), (.long (q2 - q3))]))
        refine go (fun t k => XS.lcmp X5.here hx rfl (hb hby d4_77) rfl k) ?_
        show Gl _ _ _ _ _ _ _ _ (T5.setTop (mkF m 78 #[.val (.ref a1), .val (.long q2), .second, .val (.long q3), .second, .val (.long (q2 - q3)), .second] [(.int (lcmpW (q2 - q3) ((2 : Int64) * w_WEEK_MS)))]))
        refine gJ (c := ((2 : Int64) * w_WEEK_MS) < (q2 - q3)) (fun hc78 => ?_) (fun hc78 => ?_)
        · refine go (fun t k => XS.ifYes X5.here hx rfl (pc0 := 78) (pc' := 89) rfl (hb hby d4_78) rfl ((if0 _ _).trans (tlt ((lw_gt (q2 - q3) ((2 : Int64) * w_WEEK_MS)).mpr hc78)).2.2.1) (by decide) (by decide) k) ?_
          show Gl _ _ _ _ _ _ _ _ (T5.setTop (mkF m 89 #[.val (.ref a1), .val (.long q2), .second, .val (.long q3), .second, .val (.long (q2 - q3)), .second] []))
          refine go (fun t k => X5.ldc2Long hx hown (mvT hZ (hw _ (List.mem_of_getElem? (i := 38) rfl))) (g := (mkF m 89 #[.val (.ref a1), .val (.long q2), .second, .val (.long q3), .second, .val (.long (q2 - q3)), .second] [])) rfl (hb hby d4_89) _ k) ?_
          show Gl _ _ _ _ _ _ _ _ (T5.setTop (mkF m 92 #[.val (.ref a1), .val (.long q2), .second, .val (.long q3), .second, .val (.long (q2 - q3)), .second] [(.long (3 : Int64))]))
          obtain ⟨T6, X6, e6, st6⟩ := getS2 X5 hx hZ hown (host := "") (Or.inl (hw _ (List.mem_of_getElem? (i := 39) rfl))) Via.refl e5 S_DAY_MS (g := (mkF m 92 #[.val (.ref a1), .val (.long q2), .second, .val (.long q3), .second, .val (.long (q2 - q3)), .second] [(.long (3 : Int64))])) rfl (hb hby d4_92)
          refine go (fun t k => st6 _ k) ?_
          show Gl _ _ _ _ _ _ _ _ (T6.setTop (mkF m 95 #[.val (.ref a1), .val (.long q2), .second, .val (.long q3), .second, .val (.long (q2 - q3)), .second] [(.long w_DAY_MS), (.long (3 : Int64))]))
          refine go (fun t k => XS.lmul X6.here hx rfl (hb hby d4_95) rfl k) ?_
          show Gl _ _ _ _ _ _ _ _ (T6.setTop (mkF m 96 #[.val (.ref a1), .val (.long q2), .second, .val (.long q3), .second, .val (.long (q2 - q3)), .second] [(.long ((3 : Int64) * w_DAY_MS))]))
          refine go (fun t k => XS.lstore X6.here hx rfl (hb hby d4_96) rfl (l' := #[.val (.ref a1), .val (.long q2), .second, .val (.long q3), .second, .val (.long ((3 : Int64) * w_DAY_MS)), .second]) rfl k) ?_
          show Gl _ _ _ _ _ _ _ _ (T6.setTop (mkF m 98 #[.val (.ref a1), .val (.long q2), .second, .val (.long q3), .second, .val (.long ((3 : Int64) * w_DAY_MS)), .second] []))
          exact J98 ((3 : Int64) * w_DAY_MS) T6 _ X6 e6 N3
        · refine go (fun t k => XS.ifNo X5.here hx rfl (hb hby d4_78) rfl ((if0 _ _).trans (flt (mt (lw_gt (q2 - q3) ((2 : Int64) * w_WEEK_MS)).mp hc78)).2.2.1) k) ?_
          show Gl _ _ _ _ _ _ _ _ (T5.setTop (mkF m 81 #[.val (.ref a1), .val (.long q2), .second, .val (.long q3), .second, .val (.long (q2 - q3)), .second] []))
          obtain ⟨T7, X7, e7, st7⟩ := getS2 X5 hx hZ hown (host := "") (Or.inl (hw _ (List.mem_of_getElem? (i := 39) rfl))) Via.refl e5 S_DAY_MS (g := (mkF m 81 #[.val (.ref a1), .val (.long q2), .second, .val (.long q3), .second, .val (.long (q2 - q3)), .second] [])) rfl (hb hby d4_81)
          refine go (fun t k => st7 _ k) ?_
          show Gl _ _ _ _ _ _ _ _ (T7.setTop (mkF m 84 #[.val (.ref a1), .val (.long q2), .second, .val (.long q3), .second, .val (.long (q2 - q3)), .second] [(.long w_DAY_MS)]))
          refine go (fun t k => XS.lstore X7.here hx rfl (hb hby d4_84) rfl (l' := #[.val (.ref a1), .val (.long q2), .second, .val (.long q3), .second, .val (.long w_DAY_MS), .second]) rfl k) ?_
          show Gl _ _ _ _ _ _ _ _ (T7.setTop (mkF m 86 #[.val (.ref a1), .val (.long q2), .second, .val (.long q3), .second, .val (.long w_DAY_MS), .second] []))
          refine go (fun t k => XS.goto X7.here hx rfl (pc0 := 86) (pc' := 98) rfl (hb hby d4_86) (by decide) (by decide) k) ?_
          show Gl _ _ _ _ _ _ _ _ (T7.setTop (mkF m 98 #[.val (.ref a1), .val (.long q2), .second, .val (.long q3), .second, .val (.long w_DAY_MS), .second] []))
          exact J98 w_DAY_MS T7 _ X7 e7 N3
      · refine go (fun t k => XS.ifNo X4.here hx rfl (hb hby d4_54) rfl ((if0 _ _).trans (flt (mt (lw_gt (q2 - q3) w_WEEK_MS).mp hc54)).2.2.1) k) ?_
        show Gl _ _ _ _ _ _ _ _ (T4.setTop (mkF m 57 #[.val (.ref a1), .val (.long q2), .second, .val (.long q3), .second, .val (.long (q2 - q3)), .second] []))
        refine go (fun t k => XS.lload X4.here hx rfl (hb hby d4_57) rfl  k) ?_
        show Gl _ _ _ _ _ _ _ _ (T4.setTop (mkF m 59 #[.val (.ref a1), .val (.long q2), .second, .val (.long q3), .second, .val (.long (q2 - q3)), .second] [(.long (q2 - q3))]))
        refine go (fun t k => X4.ldc2Long hx hown (mvT hZ (hw _ (List.mem_of_getElem? (i := 30) rfl))) (g := (mkF m 59 #[.val (.ref a1), .val (.long q2), .second, .val (.long q3), .second, .val (.long (q2 - q3)), .second] [(.long (q2 - q3))])) rfl (hb hby d4_59) _ k) ?_
        show Gl _ _ _ _ _ _ _ _ (T4.setTop (mkF m 62 #[.val (.ref a1), .val (.long q2), .second, .val (.long q3), .second, .val (.long (q2 - q3)), .second] [(.long (8 : Int64)), (.long (q2 - q3))]))
        refine go (fun t k => XS.ldiv X4.here hx rfl (hb hby d4_62) rfl (by decide) k) ?_
        show Gl _ _ _ _ _ _ _ _ (T4.setTop (mkF m 63 #[.val (.ref a1), .val (.long q2), .second, .val (.long q3), .second, .val (.long (q2 - q3)), .second] [(.long ((q2 - q3) / (8 : Int64)))]))
        refine go (fun t k => XS.lstore X4.here hx rfl (hb hby d4_63) rfl (l' := #[.val (.ref a1), .val (.long q2), .second, .val (.long q3), .second, .val (.long ((q2 - q3) / (8 : Int64))), .second]) rfl k) ?_
        show Gl _ _ _ _ _ _ _ _ (T4.setTop (mkF m 65 #[.val (.ref a1), .val (.long q2), .second, .val (.long q3), .second, .val (.long ((q2 - q3) / (8 : Int64))), .second] []))
        refine go (fun t k => XS.goto X4.here hx rfl (pc0 := 65) (pc' := 98) rfl (hb hby d4_65) (by decide) (by decide) k) ?_
        show Gl _ _ _ _ _ _ _ _ (T4.setTop (mkF m 98 #[.val (.ref a1), .val (.long q2), .second, .val (.long q3), .second, .val (.long ((q2 - q3) / (8 : Int64))), .second] []))
        exact J98 ((q2 - q3) / (8 : Int64)) T4 _ X4 e4 N3
    · refine go (fun t k => XS.ifNo X3.here hx rfl (hb hby d4_34) rfl ((if0 _ _).trans (flt (mt (lw_gt (q2 - q3) (b5_0 (8 : Int32) w_rttMs_a1)).mp hc34)).2.2.1) k) ?_
      show Gl _ _ _ _ _ _ _ _ (T3.setTop (mkF m 37 #[.val (.ref a1), .val (.long q2), .second, .val (.long q3), .second, .val (.long (q2 - q3)), .second] []))
      refine go (fun t k => XS.lload X3.here hx rfl (hb hby d4_37) rfl  k) ?_
      show Gl _ _ _ _ _ _ _ _ (T3.setTop (mkF m 39 #[.val (.ref a1), .val (.long q2), .second, .val (.long q3), .second, .val (.long (q2 - q3)), .second] [(.long (q2 - q3))]))
      refine go (fun t k => X3.ldc2Long hx hown (mvT hZ (hw _ (List.mem_of_getElem? (i := 37) rfl))) (g := (mkF m 39 #[.val (.ref a1), .val (.long q2), .second, .val (.long q3), .second, .val (.long (q2 - q3)), .second] [(.long (q2 - q3))])) rfl (hb hby d4_39) _ k) ?_
      show Gl _ _ _ _ _ _ _ _ (T3.setTop (mkF m 42 #[.val (.ref a1), .val (.long q2), .second, .val (.long q3), .second, .val (.long (q2 - q3)), .second] [(.long (2 : Int64)), (.long (q2 - q3))]))
      refine go (fun t k => XS.ldiv X3.here hx rfl (hb hby d4_42) rfl (by decide) k) ?_
      show Gl _ _ _ _ _ _ _ _ (T3.setTop (mkF m 43 #[.val (.ref a1), .val (.long q2), .second, .val (.long q3), .second, .val (.long (q2 - q3)), .second] [(.long ((q2 - q3) / (2 : Int64)))]))
      refine go (fun t k => XS.lstore X3.here hx rfl (hb hby d4_43) rfl (l' := #[.val (.ref a1), .val (.long q2), .second, .val (.long q3), .second, .val (.long ((q2 - q3) / (2 : Int64))), .second]) rfl k) ?_
      show Gl _ _ _ _ _ _ _ _ (T3.setTop (mkF m 45 #[.val (.ref a1), .val (.long q2), .second, .val (.long q3), .second, .val (.long ((q2 - q3) / (2 : Int64))), .second] []))
      refine go (fun t k => XS.goto X3.here hx rfl (pc0 := 45) (pc' := 98) rfl (hb hby d4_45) (by decide) (by decide) k) ?_
      show Gl _ _ _ _ _ _ _ _ (T3.setTop (mkF m 98 #[.val (.ref a1), .val (.long q2), .second, .val (.long q3), .second, .val (.long ((q2 - q3) / (2 : Int64))), .second] []))
      exact J98 ((q2 - q3) / (2 : Int64)) T3 _ X3 e3 N3
  · refine go (fun t k => XS.ifNo X1.here hx rfl (hb hby d4_13) rfl ((if0 _ _).trans (flt (mt (lw_gt (q2 - q3) (b5_0 (2 : Int32) w_rttMs_a1)).mp hc13)).2.2.1) k) ?_
    show Gl _ _ _ _ _ _ _ _ (T1.setTop (mkF m 16 #[.val (.ref a1), .val (.long q2), .second, .val (.long q3), .second, .val (.long (q2 - q3)), .second] []))
    refine go (fun t k => XS.aloadN X1.here hx rfl (hb hby d4_16) rfl rfl k) ?_
    show Gl _ _ _ _ _ _ _ _ (T1.setTop (mkF m 17 #[.val (.ref a1), .val (.long q2), .second, .val (.long q3), .second, .val (.long (q2 - q3)), .second] [(.ref a1)]))
    obtain ⟨T8, X8, e8, st8⟩ := getF X1 hx hZ hown (host := "") (Or.inl (hw _ (List.mem_of_getElem? (i := 16) rfl))) Via.refl e1 F_rttMs_a1 (g := (mkF m 17 #[.val (.ref a1), .val (.long q2), .second, .val (.long q3), .second, .val (.long (q2 - q3)), .second] [(.ref a1)])) rfl rfl (hb hby d4_17)
    refine go (fun t k => st8 _ k) ?_
    show Gl _ _ _ _ _ _ _ _ (T8.setTop (mkF m 20 #[.val (.ref a1), .val (.long q2), .second, .val (.long q3), .second, .val (.long (q2 - q3)), .second] [(.long w_rttMs_a1)]))
    refine go (fun t k => XS.lstore X8.here hx rfl (hb hby d4_20) rfl (l' := #[.val (.ref a1), .val (.long q2), .second, .val (.long q3), .second, .val (.long w_rttMs_a1), .second]) rfl k) ?_
    show Gl _ _ _ _ _ _ _ _ (T8.setTop (mkF m 22 #[.val (.ref a1), .val (.long q2), .second, .val (.long q3), .second, .val (.long w_rttMs_a1), .second] []))
    refine go (fun t k => XS.goto X8.here hx rfl (pc0 := 22) (pc' := 98) rfl (hb hby d4_22) (by decide) (by decide) k) ?_
    show Gl _ _ _ _ _ _ _ _ (T8.setTop (mkF m 98 #[.val (.ref a1), .val (.long q2), .second, .val (.long q3), .second, .val (.long w_rttMs_a1), .second] []))
    exact J98 w_rttMs_a1 T8 _ X8 e8 N1
theorem d7_0 : decode jdk_29_method_66_code 0 = .ok (.lload_n 0, 1) := by decide +kernel
theorem d7_1 : decode jdk_29_method_66_code 1 = .ok (.lload_n 2, 1) := by decide +kernel
theorem d7_2 : decode jdk_29_method_66_code 2 = .ok (.lcmp, 1) := by decide +kernel
theorem d7_3 : decode jdk_29_method_66_code 3 = .ok (.ifCond .lt 7, 3) := by decide +kernel
theorem d7_6 : decode jdk_29_method_66_code 6 = .ok (.lload_n 0, 1) := by decide +kernel
theorem d7_7 : decode jdk_29_method_66_code 7 = .ok (.goto 4, 3) := by decide +kernel
theorem d7_10 : decode jdk_29_method_66_code 10 = .ok (.lload_n 2, 1) := by decide +kernel
theorem d7_11 : decode jdk_29_method_66_code 11 = .ok (.lreturn, 1) := by decide +kernel
theorem ef_7 (m : MethodId) (q1 : Int64) (q2 : Int64) : entryFrame m #[(.long q1), (.long q2)] 4 = mkF m 0 #[.val (.long q1), .second, .val (.long q2), .second] [] := by first | (simp [entryFrame, mkF, argsToLocals, Value.category]; done) | rfl
def b7_11 (s0_11 : Int64) : Int64 := s0_11
def b7_0 (q1 : Int64) (q2 : Int64) : Int64 := (if q1 < q2 then (b7_11 q2) else (b7_11 q1))
set_option maxRecDepth 65536 in
set_option maxHeartbeats 40000000 in
theorem rm7 (l : Launch) (Z : State) (a0 : Array Value) (hw : ∀ d ∈ tables_1, d.before a0 Z = true) (ws : List Jvm.Cond) (q1 : Int64) (q2 : Int64) (h0 : Heap) (n0 : Nat) (Z0 : n0 ≤ h0.size) :
    MetFree l (⟨"java/lang/Math", "max", "(JJ)J"⟩ : MethodName) (head1 (Jvm.Cond.code (⟨"java/lang/Math", "max", "(JJ)J"⟩ : MethodName) jdk_29_method_66_code 4 (some .long) :: ws) ({ frames := 0, cells := 0, slots := 0, locals := 0 } : Room)) (fun a U => a = #[(.long q1), (.long q2)] ∧ Z.Warmed39 U.vm ∧ U.heap = h0) (fun _ _ _ _ _ => True) (fun _ U o U' => ∃ v L, o = .returned v ∧ QK n0 (Kv (some (.long (b7_0 q1 q2))) (fun h => h = h0)) v U'.heap L ∧ FrameEnd U o U' L ({ frames := 0, cells := 0, slots := 0, locals := 0 } : Room).cells ({ frames := 0, cells := 0, slots := 0, locals := 0 } : Room).slots) := by
  refine MetFree.of_bodySF (Jvm.Free.JP.mathPlain rfl (by decide +kernel)) hisR ?_
  intro p e s m args below meth c s₁ Bd hml0 hP hK
  obtain ⟨rfl, hZ, hh⟩ := hP
  have hx := Bd.exec
  have hby := Bd.bytes
  have hml : c.maxLocals = 4 := hml0
  have hown : s.vm.findClass "java/lang/Math" = some m.cls := findClass_of_methodNamed Bd.named
  have hnm := (name_of_methodNamed Bd.named Bd.method).1
  have X0 : Stand p l e ({ frames := 0, cells := 0, slots := 0, locals := 0 } : Room) s m #[(.long q1), (.long q2)] below meth c s₁ [] 0 0 := Stand.of_body Bd
  have e0 : s₁.heap = h0 := by rw [← hh, Bd.state]; rfl
  have N0 := Fr.nil n0
  refine gl_start (ef_7 m q1 q2) ?_
  show Gl p e below s n0 ({ frames := 0, cells := 0, slots := 0, locals := 0 } : Room).cells ({ frames := 0, cells := 0, slots := 0, locals := 0 } : Room).slots (Kv (some (.long (if q1 < q2 then (b7_11 q2) else (b7_11 q1)))) (fun h => h = h0)) (s₁.setTop (mkF m 0 #[.val (.long q1), .second, .val (.long q2), .second] []))
  refine go (fun t k => XS.lloadN X0.here hx rfl (hb hby d7_0) rfl  k) ?_
  show Gl _ _ _ _ _ _ _ _ (s₁.setTop (mkF m 1 #[.val (.long q1), .second, .val (.long q2), .second] [(.long q1)]))
  refine go (fun t k => XS.lloadN X0.here hx rfl (hb hby d7_1) rfl  k) ?_
  show Gl _ _ _ _ _ _ _ _ (s₁.setTop (mkF m 2 #[.val (.long q1), .second, .val (.long q2), .second] [(.long q2), (.long q1)]))
  refine go (fun t k => XS.lcmp X0.here hx rfl (hb hby d7_2) rfl k) ?_
  show Gl _ _ _ _ _ _ _ _ (s₁.setTop (mkF m 3 #[.val (.long q1), .second, .val (.long q2), .second] [(.int (lcmpW q1 q2))]))
  have J11 : ∀ (s0_11 : Int64) (TJ11 : State) (lJ11 : List Loc) (XJ11 : Stand p l e ({ frames := 0, cells := 0, slots := 0, locals := 0 } : Room) s m #[(.long q1), (.long q2)] below meth c TJ11 lJ11 0 0) (eJ11 : TJ11.heap = h0) (NJ11 : Fr n0 lJ11), Gl p e below s n0 ({ frames := 0, cells := 0, slots := 0, locals := 0 } : Room).cells ({ frames := 0, cells := 0, slots := 0, locals := 0 } : Room).slots (Kv (some (.long (b7_11 s0_11))) (fun h => h = h0)) (TJ11.setTop (mkF m 11 #[.val (.long q1), .second, .val (.long q2), .second] [(.long s0_11)])) := by
    intro s0_11 TJ11 lJ11 XJ11 eJ11 NJ11
    show Gl _ _ _ _ _ _ _ (Kv (some (.long s0_11)) _) _
    exact endJ XJ11 hx Bd (hb hby d7_11) ⟨rfl, eJ11⟩ NJ11 (by decide) (by decide)
  refine gJ (c := q1 < q2) (fun hc3 => ?_) (fun hc3 => ?_)
  · refine go (fun t k => XS.ifYes X0.here hx rfl (pc0 := 3) (pc' := 10) rfl (hb hby d7_3) rfl ((if0 _ _).trans (tlt ((lw_lt q1 q2).mpr hc3)).1) (by decide) (by decide) k) ?_
    show Gl _ _ _ _ _ _ _ _ (s₁.setTop (mkF m 10 #[.val (.long q1), .second, .val (.long q2), .second] []))
    refine go (fun t k => XS.lloadN X0.here hx rfl (hb hby d7_10) rfl  k) ?_
    show Gl _ _ _ _ _ _ _ _ (s₁.setTop (mkF m 11 #[.val (.long q1), .second, .val (.long q2), .second] [(.long q2)]))
    exact J11 q2 s₁ _ X0 e0 N0
  · refine go (fun t k => XS.ifNo X0.here hx rfl (hb hby d7_3) rfl ((if0 _ _).trans (flt (mt (lw_lt q1 q2).mp hc3)).1) k) ?_
    show Gl _ _ _ _ _ _ _ _ (s₁.setTop (mkF m 6 #[.val (.long q1), .second, .val (.long q2), .second] []))
    refine go (fun t k => XS.lloadN X0.here hx rfl (hb hby d7_6) rfl  k) ?_
    show Gl _ _ _ _ _ _ _ _ (s₁.setTop (mkF m 7 #[.val (.long q1), .second, .val (.long q2), .second] [(.long q1)]))
    refine go (fun t k => XS.goto X0.here hx rfl (pc0 := 7) (pc' := 11) rfl (hb hby d7_7) (by decide) (by decide) k) ?_
    show Gl _ _ _ _ _ _ _ _ (s₁.setTop (mkF m 11 #[.val (.long q1), .second, .val (.long q2), .second] [(.long q1)]))
    exact J11 q1 s₁ _ X0 e0 N0
theorem d6_0 : decode method_2_code 0 = .ok (.lload_n 0, 1) := by decide +kernel
theorem d6_1 : decode method_2_code 1 = .ok (.lconst 0, 1) := by decide +kernel
theorem d6_2 : decode method_2_code 2 = .ok (.lcmp, 1) := by decide +kernel
theorem d6_3 : decode method_2_code 3 = .ok (.ifCond .gt 5, 3) := by decide +kernel
theorem d6_6 : decode method_2_code 6 = .ok (.iconst 1, 1) := by decide +kernel
theorem d6_7 : decode method_2_code 7 = .ok (.ireturn, 1) := by decide +kernel
theorem d6_8 : decode method_2_code 8 = .ok (.lload_n 0, 1) := by decide +kernel
theorem d6_9 : decode method_2_code 9 = .ok (.lload_n 2, 1) := by decide +kernel
theorem d6_10 : decode method_2_code 10 = .ok (.ldiv, 1) := by decide +kernel
theorem d6_11 : decode method_2_code 11 = .ok (.lstore 6, 2) := by decide +kernel
theorem d6_13 : decode method_2_code 13 = .ok (.lload_n 0, 1) := by decide +kernel
theorem d6_14 : decode method_2_code 14 = .ok (.lload_n 2, 1) := by decide +kernel
theorem d6_15 : decode method_2_code 15 = .ok (.lrem, 1) := by decide +kernel
theorem d6_16 : decode method_2_code 16 = .ok (.lconst 0, 1) := by decide +kernel
theorem d6_17 : decode method_2_code 17 = .ok (.lcmp, 1) := by decide +kernel
theorem d6_18 : decode method_2_code 18 = .ok (.ifCond .eq 9, 3) := by decide +kernel
theorem d6_21 : decode method_2_code 21 = .ok (.lload 6, 2) := by decide +kernel
theorem d6_23 : decode method_2_code 23 = .ok (.lconst 1, 1) := by decide +kernel
theorem d6_24 : decode method_2_code 24 = .ok (.ladd, 1) := by decide +kernel
theorem d6_25 : decode method_2_code 25 = .ok (.lstore 6, 2) := by decide +kernel
theorem d6_27 : decode method_2_code 27 = .ok (.lload 6, 2) := by decide +kernel
theorem d6_29 : decode method_2_code 29 = .ok (.lload 4, 2) := by decide +kernel
theorem d6_31 : decode method_2_code 31 = .ok (.lcmp, 1) := by decide +kernel
theorem d6_32 : decode method_2_code 32 = .ok (.ifCond .gt 7, 3) := by decide +kernel
theorem d6_35 : decode method_2_code 35 = .ok (.iconst 1, 1) := by decide +kernel
theorem d6_36 : decode method_2_code 36 = .ok (.goto 4, 3) := by decide +kernel
theorem d6_39 : decode method_2_code 39 = .ok (.iconst 0, 1) := by decide +kernel
theorem d6_40 : decode method_2_code 40 = .ok (.ireturn, 1) := by decide +kernel
theorem pn_2 : plainName "com/example/leasehold/client/ScheduleRenewalTimePinLaw" = true := by first | (simp [plainName, overriddenIn]; done) | decide +kernel
theorem ef_6 (m : MethodId) (q1 : Int64) (q2 : Int64) (q3 : Int64) : entryFrame m #[(.long q1), (.long q2), (.long q3)] 8 = mkF m 0 #[.val (.long q1), .second, .val (.long q2), .second, .val (.long q3), .second, .unset, .unset] [] := by first | (simp [entryFrame, mkF, argsToLocals, Value.category]; done) | rfl
def b6_40 (s0_40 : Int32) : Int32 := (nar .boolean s0_40)
def b6_27 (q3 : Int64) (v6_27 : Int64) : Int32 := (if q3 < v6_27 then (b6_40 (0 : Int32)) else (b6_40 (1 : Int32)))
def b6_0 (q1 : Int64) (q2 : Int64) (q3 : Int64) : Int32 := (if (0 : Int64) < q1 then (if (q1 % q2) = (0 : Int64) then (b6_27 q3 (q1 / q2)) else (b6_27 q3 ((q1 / q2) + (1 : Int64)))) else (nar .boolean (1 : Int32)))
set_option maxRecDepth 65536 in
set_option maxHeartbeats 40000000 in
theorem rm6 (l : Launch) (Z : State) (a0 : Array Value) (hw : ∀ d ∈ tables_1, d.before a0 Z = true) (ws : List Jvm.Cond) (q1 : Int64) (q2 : Int64) (q3 : Int64) (h0 : Heap) (n0 : Nat) (Z0 : n0 ≤ h0.size) (hnz10 : ¬ (q2 = (0 : Int64))) (hnz15 : ¬ (q2 = (0 : Int64))) :
    MetFree l (⟨"com/example/leasehold/client/ScheduleRenewalTimePinLaw", "atMostTimes", "(JJJ)Z"⟩ : MethodName) (head1 (Jvm.Cond.code (⟨"com/example/leasehold/client/ScheduleRenewalTimePinLaw", "atMostTimes", "(JJJ)Z"⟩ : MethodName) method_2_code 8 (some .boolean) :: ws) ({ frames := 0, cells := 0, slots := 0, locals := 0 } : Room)) (fun a U => a = #[(.long q1), (.long q2), (.long q3)] ∧ Z.Warmed39 U.vm ∧ U.heap = h0) (fun _ _ _ _ _ => True) (fun _ U o U' => ∃ v L, o = .returned v ∧ QK n0 (Kv (some (.int (b6_0 q1 q2 q3))) (fun h => h = h0)) v U'.heap L ∧ FrameEnd U o U' L ({ frames := 0, cells := 0, slots := 0, locals := 0 } : Room).cells ({ frames := 0, cells := 0, slots := 0, locals := 0 } : Room).slots) := by
  refine MetFree.of_bodySF (plainFor_of_name pn_2) hisR ?_
  intro p e s m args below meth c s₁ Bd hml0 hP hK
  obtain ⟨rfl, hZ, hh⟩ := hP
  have hx := Bd.exec
  have hby := Bd.bytes
  have hml : c.maxLocals = 8 := hml0
  have hown : s.vm.findClass "com/example/leasehold/client/ScheduleRenewalTimePinLaw" = some m.cls := findClass_of_methodNamed Bd.named
  have hnm := (name_of_methodNamed Bd.named Bd.method).1
  have X0 : Stand p l e ({ frames := 0, cells := 0, slots := 0, locals := 0 } : Room) s m #[(.long q1), (.long q2), (.long q3)] below meth c s₁ [] 0 0 := Stand.of_body Bd
  have e0 : s₁.heap = h0 := by rw [← hh, Bd.state]; rfl
  have N0 := Fr.nil n0
  refine gl_start (ef_6 m q1 q2 q3) ?_
  show Gl p e below s n0 ({ frames := 0, cells := 0, slots := 0, locals := 0 } : Room).cells ({ frames := 0, cells := 0, slots := 0, locals := 0 } : Room).slots (Kv (some (.int (if (0 : Int64) < q1 then (if (q1 % q2) = (0 : Int64) then (b6_27 q3 (q1 / q2)) else (b6_27 q3 ((q1 / q2) + (1 : Int64)))) else (nar .boolean (1 : Int32))))) (fun h => h = h0)) (s₁.setTop (mkF m 0 #[.val (.long q1), .second, .val (.long q2), .second, .val (.long q3), .second, .unset, .unset] []))
  refine go (fun t k => XS.lloadN X0.here hx rfl (hb hby d6_0) rfl  k) ?_
  show Gl _ _ _ _ _ _ _ _ (s₁.setTop (mkF m 1 #[.val (.long q1), .second, .val (.long q2), .second, .val (.long q3), .second, .unset, .unset] [(.long q1)]))
  refine go (fun t k => XS.lconst X0.here hx rfl (hb hby d6_1) k) ?_
  show Gl _ _ _ _ _ _ _ _ (s₁.setTop (mkF m 2 #[.val (.long q1), .second, .val (.long q2), .second, .val (.long q3), .second, .unset, .unset] [(.long (0 : Int64)), (.long q1)]))
  refine go (fun t k => XS.lcmp X0.here hx rfl (hb hby d6_2) rfl k) ?_
  show Gl _ _ _ _ _ _ _ _ (s₁.setTop (mkF m 3 #[.val (.long q1), .second, .val (.long q2), .second, .val (.long q3), .second, .unset, .unset] [(.int (lcmpW q1 (0 : Int64)))]))
  refine gI (c := (0 : Int64) < q1) (fun hc3 => ?_) (fun hc3 => ?_)
  · refine go (fun t k => XS.ifYes X0.here hx rfl (pc0 := 3) (pc' := 8) rfl (hb hby d6_3) rfl ((if0 _ _).trans (tlt ((lw_gt q1 (0 : Int64)).mpr hc3)).2.2.1) (by decide) (by decide) k) ?_
    show Gl _ _ _ _ _ _ _ _ (s₁.setTop (mkF m 8 #[.val (.long q1), .second, .val (.long q2), .second, .val (.long q3), .second, .unset, .unset] []))
    refine go (fun t k => XS.lloadN X0.here hx rfl (hb hby d6_8) rfl  k) ?_
    show Gl _ _ _ _ _ _ _ _ (s₁.setTop (mkF m 9 #[.val (.long q1), .second, .val (.long q2), .second, .val (.long q3), .second, .unset, .unset] [(.long q1)]))
    refine go (fun t k => XS.lloadN X0.here hx rfl (hb hby d6_9) rfl  k) ?_
    show Gl _ _ _ _ _ _ _ _ (s₁.setTop (mkF m 10 #[.val (.long q1), .second, .val (.long q2), .second, .val (.long q3), .second, .unset, .unset] [(.long q2), (.long q1)]))
    refine go (fun t k => XS.ldiv X0.here hx rfl (hb hby d6_10) rfl hnz10 k) ?_
    show Gl _ _ _ _ _ _ _ _ (s₁.setTop (mkF m 11 #[.val (.long q1), .second, .val (.long q2), .second, .val (.long q3), .second, .unset, .unset] [(.long (q1 / q2))]))
    refine go (fun t k => XS.lstore X0.here hx rfl (hb hby d6_11) rfl (l' := #[.val (.long q1), .second, .val (.long q2), .second, .val (.long q3), .second, .val (.long (q1 / q2)), .second]) rfl k) ?_
    show Gl _ _ _ _ _ _ _ _ (s₁.setTop (mkF m 13 #[.val (.long q1), .second, .val (.long q2), .second, .val (.long q3), .second, .val (.long (q1 / q2)), .second] []))
    refine go (fun t k => XS.lloadN X0.here hx rfl (hb hby d6_13) rfl  k) ?_
    show Gl _ _ _ _ _ _ _ _ (s₁.setTop (mkF m 14 #[.val (.long q1), .second, .val (.long q2), .second, .val (.long q3), .second, .val (.long (q1 / q2)), .second] [(.long q1)]))
    refine go (fun t k => XS.lloadN X0.here hx rfl (hb hby d6_14) rfl  k) ?_
    show Gl _ _ _ _ _ _ _ _ (s₁.setTop (mkF m 15 #[.val (.long q1), .second, .val (.long q2), .second, .val (.long q3), .second, .val (.long (q1 / q2)), .second] [(.long q2), (.long q1)]))
    refine go (fun t k => lremM X0 hx rfl (hb hby d6_15) rfl hnz15 k) ?_
    show Gl _ _ _ _ _ _ _ _ (s₁.setTop (mkF m 16 #[.val (.long q1), .second, .val (.long q2), .second, .val (.long q3), .second, .val (.long (q1 / q2)), .second] [(.long (q1 % q2))]))
    refine go (fun t k => XS.lconst X0.here hx rfl (hb hby d6_16) k) ?_
    show Gl _ _ _ _ _ _ _ _ (s₁.setTop (mkF m 17 #[.val (.long q1), .second, .val (.long q2), .second, .val (.long q3), .second, .val (.long (q1 / q2)), .second] [(.long (0 : Int64)), (.long (q1 % q2))]))
    refine go (fun t k => XS.lcmp X0.here hx rfl (hb hby d6_17) rfl k) ?_
    show Gl _ _ _ _ _ _ _ _ (s₁.setTop (mkF m 18 #[.val (.long q1), .second, .val (.long q2), .second, .val (.long q3), .second, .val (.long (q1 / q2)), .second] [(.int (lcmpW (q1 % q2) (0 : Int64)))]))
    have J27 : ∀ (v6_27 : Int64) (TJ27 : State) (lJ27 : List Loc) (XJ27 : Stand p l e ({ frames := 0, cells := 0, slots := 0, locals := 0 } : Room) s m #[(.long q1), (.long q2), (.long q3)] below meth c TJ27 lJ27 0 0) (eJ27 : TJ27.heap = h0) (NJ27 : Fr n0 lJ27), Gl p e below s n0 ({ frames := 0, cells := 0, slots := 0, locals := 0 } : Room).cells ({ frames := 0, cells := 0, slots := 0, locals := 0 } : Room).slots (Kv (some (.int (b6_27 q3 v6_27))) (fun h => h = h0)) (TJ27.setTop (mkF m 27 #[.val (.long q1), .second, .val (.long q2), .second, .val (.long q3), .second, .val (.long v6_27), .second] [])) := by
      intro v6_27 TJ27 lJ27 XJ27 eJ27 NJ27
      show Gl _ _ _ _ _ _ _ (Kv (some (.int (if q3 < v6_27 then (b6_40 (0 : Int32)) else (b6_40 (1 : Int32))))) _) _
      refine go (fun t k => XS.lload XJ27.here hx rfl (hb hby d6_27) rfl  k) ?_
      show Gl _ _ _ _ _ _ _ _ (TJ27.setTop (mkF m 29 #[.val (.long q1), .second, .val (.long q2), .second, .val (.long q3), .second, .val (.long v6_27), .second] [(.long v6_27)]))
      refine go (fun t k => XS.lload XJ27.here hx rfl (hb hby d6_29) rfl  k) ?_
      show Gl _ _ _ _ _ _ _ _ (TJ27.setTop (mkF m 31 #[.val (.long q1), .second, .val (.long q2), .second, .val (.long q3), .second, .val (.long v6_27), .second] [(.long q3), (.long v6_27)]))
      refine go (fun t k => XS.lcmp XJ27.here hx rfl (hb hby d6_31) rfl k) ?_
      show Gl _ _ _ _ _ _ _ _ (TJ27.setTop (mkF m 32 #[.val (.long q1), .second, .val (.long q2), .second, .val (.long q3), .second, .val (.long v6_27), .second] [(.int (lcmpW v6_27 q3))]))
      have J40 : ∀ (s0_40 : Int32) (TJ40 : State) (lJ40 : List Loc) (XJ40 : Stand p l e ({ frames := 0, cells := 0, slots := 0, locals := 0 } : Room) s m #[(.long q1), (.long q2), (.long q3)] below meth c TJ40 lJ40 0 0) (eJ40 : TJ40.heap = h0) (NJ40 : Fr n0 lJ40), Gl p e below s n0 ({ frames := 0, cells := 0, slots := 0, locals := 0 } : Room).cells ({ frames := 0, cells := 0, slots := 0, locals := 0 } : Room).slots (Kv (some (.int (b6_40 s0_40))) (fun h => h = h0)) (TJ40.setTop (mkF m 40 #[.val (.long q1), .second, .val (.long q2), .second, .val (.long q3), .second, .val (.long v6_27), .second] [(.int s0_40)])) := by
        intro s0_40 TJ40 lJ40 XJ40 eJ40 NJ40
        show Gl _ _ _ _ _ _ _ (Kv (some (.int (nar .boolean s0_40))) _) _
        exact endN XJ40 hx Bd (t := .boolean) (by simp) (hb hby d6_40) ⟨rfl, eJ40⟩ NJ40 (by decide) (by decide)
      refine gI (c := q3 < v6_27) (fun hc32 => ?_) (fun hc32 => ?_)
      · refine go (fun t k => XS.ifYes XJ27.here hx rfl (pc0 := 32) (pc' := 39) rfl (hb hby d6_32) rfl ((if0 _ _).trans (tlt ((lw_gt v6_27 q3).mpr hc32)).2.2.1) (by decide) (by decide) k) ?_
        show Gl _ _ _ _ _ _ _ _ (TJ27.setTop (mkF m 39 #[.val (.long q1), .second, .val (.long q2), .second, .val (.long q3), .second, .val (.long v6_27), .second] []))
        refine go (fun t k => XS.iconst XJ27.here hx rfl (hb hby d6_39) k) ?_
        show Gl _ _ _ _ _ _ _ _ (TJ27.setTop (mkF m 40 #[.val (.long q1), .second, .val (.long q2), .second, .val (.long q3), .second, .val (.long v6_27), .second] [(.int (0 : Int32))]))
        exact J40 (0 : Int32) TJ27 _ XJ27 eJ27 NJ27
      · refine go (fun t k => XS.ifNo XJ27.here hx rfl (hb hby d6_32) rfl ((if0 _ _).trans (flt (mt (lw_gt v6_27 q3).mp hc32)).2.2.1) k) ?_
        show Gl _ _ _ _ _ _ _ _ (TJ27.setTop (mkF m 35 #[.val (.long q1), .second, .val (.long q2), .second, .val (.long q3), .second, .val (.long v6_27), .second] []))
        refine go (fun t k => XS.iconst XJ27.here hx rfl (hb hby d6_35) k) ?_
        show Gl _ _ _ _ _ _ _ _ (TJ27.setTop (mkF m 36 #[.val (.long q1), .second, .val (.long q2), .second, .val (.long q3), .second, .val (.long v6_27), .second] [(.int (1 : Int32))]))
        refine go (fun t k => XS.goto XJ27.here hx rfl (pc0 := 36) (pc' := 40) rfl (hb hby d6_36) (by decide) (by decide) k) ?_
        show Gl _ _ _ _ _ _ _ _ (TJ27.setTop (mkF m 40 #[.val (.long q1), .second, .val (.long q2), .second, .val (.long q3), .second, .val (.long v6_27), .second] [(.int (1 : Int32))]))
        exact J40 (1 : Int32) TJ27 _ XJ27 eJ27 NJ27
    refine gI (c := (q1 % q2) = (0 : Int64)) (fun hc18 => ?_) (fun hc18 => ?_)
    · refine go (fun t k => XS.ifYes X0.here hx rfl (pc0 := 18) (pc' := 27) rfl (hb hby d6_18) rfl ((if0 _ _).trans (teq ((lw_eq (q1 % q2) (0 : Int64)).mpr hc18)).1) (by decide) (by decide) k) ?_
      show Gl _ _ _ _ _ _ _ _ (s₁.setTop (mkF m 27 #[.val (.long q1), .second, .val (.long q2), .second, .val (.long q3), .second, .val (.long (q1 / q2)), .second] []))
      exact J27 (q1 / q2) s₁ _ X0 e0 N0
    · refine go (fun t k => XS.ifNo X0.here hx rfl (hb hby d6_18) rfl ((if0 _ _).trans (feq (mt (lw_eq (q1 % q2) (0 : Int64)).mp hc18)).1) k) ?_
      show Gl _ _ _ _ _ _ _ _ (s₁.setTop (mkF m 21 #[.val (.long q1), .second, .val (.long q2), .second, .val (.long q3), .second, .val (.long (q1 / q2)), .second] []))
      refine go (fun t k => XS.lload X0.here hx rfl (hb hby d6_21) rfl  k) ?_
      show Gl _ _ _ _ _ _ _ _ (s₁.setTop (mkF m 23 #[.val (.long q1), .second, .val (.long q2), .second, .val (.long q3), .second, .val (.long (q1 / q2)), .second] [(.long (q1 / q2))]))
      refine go (fun t k => XS.lconst X0.here hx rfl (hb hby d6_23) k) ?_
      show Gl _ _ _ _ _ _ _ _ (s₁.setTop (mkF m 24 #[.val (.long q1), .second, .val (.long q2), .second, .val (.long q3), .second, .val (.long (q1 / q2)), .second] [(.long (1 : Int64)), (.long (q1 / q2))]))
      refine go (fun t k => XS.ladd X0.here hx rfl (hb hby d6_24) rfl k) ?_
      show Gl _ _ _ _ _ _ _ _ (s₁.setTop (mkF m 25 #[.val (.long q1), .second, .val (.long q2), .second, .val (.long q3), .second, .val (.long (q1 / q2)), .second] [(.long ((q1 / q2) + (1 : Int64)))]))
      refine go (fun t k => XS.lstore X0.here hx rfl (hb hby d6_25) rfl (l' := #[.val (.long q1), .second, .val (.long q2), .second, .val (.long q3), .second, .val (.long ((q1 / q2) + (1 : Int64))), .second]) rfl k) ?_
      show Gl _ _ _ _ _ _ _ _ (s₁.setTop (mkF m 27 #[.val (.long q1), .second, .val (.long q2), .second, .val (.long q3), .second, .val (.long ((q1 / q2) + (1 : Int64))), .second] []))
      exact J27 ((q1 / q2) + (1 : Int64)) s₁ _ X0 e0 N0
  · refine go (fun t k => XS.ifNo X0.here hx rfl (hb hby d6_3) rfl ((if0 _ _).trans (flt (mt (lw_gt q1 (0 : Int64)).mp hc3)).2.2.1) k) ?_
    show Gl _ _ _ _ _ _ _ _ (s₁.setTop (mkF m 6 #[.val (.long q1), .second, .val (.long q2), .second, .val (.long q3), .second, .unset, .unset] []))
    refine go (fun t k => XS.iconst X0.here hx rfl (hb hby d6_6) k) ?_
    show Gl _ _ _ _ _ _ _ _ (s₁.setTop (mkF m 7 #[.val (.long q1), .second, .val (.long q2), .second, .val (.long q3), .second, .unset, .unset] [(.int (1 : Int32))]))
    exact endN X0 hx Bd (t := .boolean) (by simp) (hb hby d6_7) ⟨rfl, e0⟩ N0 (by decide) (by decide)
theorem pd_2 : parseMethodDescriptor "(J)V" = some ⟨[.long], none⟩ := by decide +kernel
theorem pd_3 : parseMethodDescriptor "(JJ)J" = some ⟨[.long, .long], some .long⟩ := by decide +kernel
theorem pd_4 : parseMethodDescriptor "(JJJ)Z" = some ⟨[.long, .long, .long], some .boolean⟩ := by decide +kernel
theorem ef_0 (m : MethodId) (q1 : Int64) (q2 : Int64) (q3 : Int64) (p4 : Int32) : entryFrame m #[(.long q1), (.long q2), (.long q3), (.int p4)] maxLocals = mkF m 0 #[.val (.long q1), .second, .val (.long q2), .second, .val (.long q3), .second, .val (.int p4), .unset, .unset, .unset, .unset, .unset, .unset, .unset, .unset, .unset, .unset, .unset, .unset, .unset, .unset] [] := by first | (simp [entryFrame, mkF, argsToLocals, Value.category, maxLocals]; done) | rfl
def b0_306 (s0_306 : Int32) : Int32 := (nar .boolean s0_306)
def b0_290 (q1 : Int64) (w_WEEK_MS : Int64) (w_DAY_MS : Int64) (v7_34 : Int64) (v12_177 : Int64) (v19_290 : Int64) : Int32 := (if (b4_0 (q1 + v12_177) q1 v7_34 w_WEEK_MS w_DAY_MS) = ((q1 + v12_177) - v19_290) then (b0_306 (1 : Int32)) else (b0_306 (0 : Int32)))
def b0_177 (q1 : Int64) (w_WEEK_MS : Int64) (w_DAY_MS : Int64) (v7_34 : Int64) (v12_177 : Int64) : Int32 := (if (b6_0 v12_177 (2 : Int64) v7_34) = (0 : Int32) then (if (b6_0 v12_177 (8 : Int64) v7_34) = (0 : Int32) then (if (604800000 : Int64) < v12_177 then (if (1209600000 : Int64) < v12_177 then (b0_290 q1 w_WEEK_MS w_DAY_MS v7_34 v12_177 (259200000 : Int64)) else (b0_290 q1 w_WEEK_MS w_DAY_MS v7_34 v12_177 (86400000 : Int64))) else (b0_290 q1 w_WEEK_MS w_DAY_MS v7_34 v12_177 (v12_177 / (8 : Int64)))) else (b0_290 q1 w_WEEK_MS w_DAY_MS v7_34 v12_177 (v12_177 / (2 : Int64)))) else (b0_290 q1 w_WEEK_MS w_DAY_MS v7_34 v12_177 v7_34))
def b0_34 (q1 : Int64) (q2 : Int64) (p4 : Int32) (w_WEEK_MS : Int64) (w_DAY_MS : Int64) (v7_34 : Int64) : Int32 := (if (p4 &&& (7 : Int32)) = (0 : Int32) then (b0_177 q1 w_WEEK_MS w_DAY_MS v7_34 q2) else (if (p4 &&& (7 : Int32)) = (1 : Int32) then (b0_177 q1 w_WEEK_MS w_DAY_MS v7_34 (((2 : Int64) * v7_34) + (q2 % (8 : Int64)))) else (if (p4 &&& (7 : Int32)) = (2 : Int32) then (b0_177 q1 w_WEEK_MS w_DAY_MS v7_34 (((8 : Int64) * v7_34) + (q2 % (8 : Int64)))) else (if (p4 &&& (7 : Int32)) = (3 : Int32) then (b0_177 q1 w_WEEK_MS w_DAY_MS v7_34 ((604800000 : Int64) + (q2 % (8 : Int64)))) else (if (p4 &&& (7 : Int32)) = (4 : Int32) then (b0_177 q1 w_WEEK_MS w_DAY_MS v7_34 ((1209600000 : Int64) + (q2 % (8 : Int64)))) else (if (p4 &&& (7 : Int32)) = (5 : Int32) then (b0_177 q1 w_WEEK_MS w_DAY_MS v7_34 (q2 &&& (68719476735 : Int64))) else (if (p4 &&& (7 : Int32)) = (6 : Int32) then (b0_177 q1 w_WEEK_MS w_DAY_MS v7_34 (q2 % (19353600000 : Int64))) else (b0_177 q1 w_WEEK_MS w_DAY_MS v7_34 (((4 : Int64) * v7_34) + (q2 % (8 : Int64)))))))))))
def b0_0 (q1 : Int64) (q2 : Int64) (q3 : Int64) (p4 : Int32) (w_WEEK_MS : Int64) (w_DAY_MS : Int64) : Int32 := (if ((p4 >>> ((3 : Int32) &&& 31)) &&& (1 : Int32)) = (0 : Int32) then (b0_34 q1 q2 p4 w_WEEK_MS w_DAY_MS ((q3 &&& (1048575 : Int64)) + (1 : Int64))) else (b0_34 q1 q2 p4 w_WEEK_MS w_DAY_MS (b7_0 (1 : Int64) (q3 &&& (9223372036854775807 : Int64)))))
set_option maxRecDepth 65536 in
set_option maxHeartbeats 40000000 in
theorem rm0 (l : Launch) (Z : State) (a0 : Array Value) (hw : ∀ d ∈ tables_1, d.before a0 Z = true) (ws : List Jvm.Cond) (q1 : Int64) (q2 : Int64) (q3 : Int64) (p4 : Int32) (w_WEEK_MS : Int64) (w_DAY_MS : Int64) (h0 : Heap) (n0 : Nat) (Z0 : n0 ≤ h0.size) (S_WEEK_MS : Sta Z h0 "com/example/leasehold/client/RenewalManager$Schedule" "WEEK_MS" "J" (.long w_WEEK_MS)) (S_DAY_MS : Sta Z h0 "com/example/leasehold/client/RenewalManager$Schedule" "DAY_MS" "J" (.long w_DAY_MS)) :
    MetFree l x (head1 (Jvm.Cond.code x code maxLocals ret :: ws) room_1) (fun a U => a = #[(.long q1), (.long q2), (.long q3), (.int p4)] ∧ Z.Warmed39 U.vm ∧ U.heap = h0) (fun _ _ _ _ _ => True) (fun _ U o U' => ∃ v L, o = .returned v ∧ QK n0 (Kv (some (.int (b0_0 q1 q2 q3 p4 w_WEEK_MS w_DAY_MS))) (fun _ => True)) v U'.heap L ∧ FrameEnd U o U' L room_1.cells room_1.slots) := by
  refine MetFree.of_bodySF (plainFor_of_name pn_2) hisR ?_
  intro p e s m args below meth c s₁ Bd hml0 hP hK
  obtain ⟨rfl, hZ, hh⟩ := hP
  have hx := Bd.exec
  have hby := Bd.bytes
  have hml : c.maxLocals = 21 := hml0
  have hown : s.vm.findClass "com/example/leasehold/client/ScheduleRenewalTimePinLaw" = some m.cls := findClass_of_methodNamed Bd.named
  have hnm := (name_of_methodNamed Bd.named Bd.method).1
  have X0 : Stand p l e room_1 s m #[(.long q1), (.long q2), (.long q3), (.int p4)] below meth c s₁ [] 0 0 := Stand.of_body Bd
  have e0 : s₁.heap = h0 := by rw [← hh, Bd.state]; rfl
  have N0 := Fr.nil n0
  refine gl_start (ef_0 m q1 q2 q3 p4) ?_
  show Gl p e below s n0 room_1.cells room_1.slots (Kv (some (.int (if ((p4 >>> ((3 : Int32) &&& 31)) &&& (1 : Int32)) = (0 : Int32) then (b0_34 q1 q2 p4 w_WEEK_MS w_DAY_MS ((q3 &&& (1048575 : Int64)) + (1 : Int64))) else (b0_34 q1 q2 p4 w_WEEK_MS w_DAY_MS (b7_0 (1 : Int64) (q3 &&& (9223372036854775807 : Int64))))))) (fun _ => True)) (s₁.setTop (mkF m 0 #[.val (.long q1), .second, .val (.long q2), .second, .val (.long q3), .second, .val (.int p4), .unset, .unset, .unset, .unset, .unset, .unset, .unset, .unset, .unset, .unset, .unset, .unset, .unset, .unset] []))
  refine go (fun t k => XS.iload X0.here hx rfl (hb hby at_0) rfl  k) ?_
  show Gl _ _ _ _ _ _ _ _ (s₁.setTop (mkF m 2 #[.val (.long q1), .second, .val (.long q2), .second, .val (.long q3), .second, .val (.int p4), .unset, .unset, .unset, .unset, .unset, .unset, .unset, .unset, .unset, .unset, .unset, .unset, .unset, .unset] [(.int p4)]))
  refine go (fun t k => XS.iconst X0.here hx rfl (hb hby at_2) k) ?_
  show Gl _ _ _ _ _ _ _ _ (s₁.setTop (mkF m 3 #[.val (.long q1), .second, .val (.long q2), .second, .val (.long q3), .second, .val (.int p4), .unset, .unset, .unset, .unset, .unset, .unset, .unset, .unset, .unset, .unset, .unset, .unset, .unset, .unset] [(.int (3 : Int32)), (.int p4)]))
  refine go (fun t k => XS.ishr X0.here hx rfl (hb hby at_3) rfl k) ?_
  show Gl _ _ _ _ _ _ _ _ (s₁.setTop (mkF m 4 #[.val (.long q1), .second, .val (.long q2), .second, .val (.long q3), .second, .val (.int p4), .unset, .unset, .unset, .unset, .unset, .unset, .unset, .unset, .unset, .unset, .unset, .unset, .unset, .unset] [(.int (p4 >>> ((3 : Int32) &&& 31)))]))
  refine go (fun t k => XS.iconst X0.here hx rfl (hb hby at_4) k) ?_
  show Gl _ _ _ _ _ _ _ _ (s₁.setTop (mkF m 5 #[.val (.long q1), .second, .val (.long q2), .second, .val (.long q3), .second, .val (.int p4), .unset, .unset, .unset, .unset, .unset, .unset, .unset, .unset, .unset, .unset, .unset, .unset, .unset, .unset] [(.int (1 : Int32)), (.int (p4 >>> ((3 : Int32) &&& 31)))]))
  refine go (fun t k => XS.iand X0.here hx rfl (hb hby at_5) rfl k) ?_
  show Gl _ _ _ _ _ _ _ _ (s₁.setTop (mkF m 6 #[.val (.long q1), .second, .val (.long q2), .second, .val (.long q3), .second, .val (.int p4), .unset, .unset, .unset, .unset, .unset, .unset, .unset, .unset, .unset, .unset, .unset, .unset, .unset, .unset] [(.int ((p4 >>> ((3 : Int32) &&& 31)) &&& (1 : Int32)))]))
  have J34 : ∀ (v7_34 : Int64) (TJ34 : State) (lJ34 : List Loc) (XJ34 : Stand p l e room_1 s m #[(.long q1), (.long q2), (.long q3), (.int p4)] below meth c TJ34 lJ34 0 0) (eJ34 : TJ34.heap = h0) (NJ34 : Fr n0 lJ34), Gl p e below s n0 room_1.cells room_1.slots (Kv (some (.int (b0_34 q1 q2 p4 w_WEEK_MS w_DAY_MS v7_34))) (fun _ => True)) (TJ34.setTop (mkF m 34 #[.val (.long q1), .second, .val (.long q2), .second, .val (.long q3), .second, .val (.int p4), .val (.long v7_34), .second, .unset, .unset, .unset, .unset, .unset, .unset, .unset, .unset, .unset, .unset, .unset, .unset] [])) := by
    intro v7_34 TJ34 lJ34 XJ34 eJ34 NJ34
    show Gl _ _ _ _ _ _ _ (Kv (some (.int (if (p4 &&& (7 : Int32)) = (0 : Int32) then (b0_177 q1 w_WEEK_MS w_DAY_MS v7_34 q2) else (if (p4 &&& (7 : Int32)) = (1 : Int32) then (b0_177 q1 w_WEEK_MS w_DAY_MS v7_34 (((2 : Int64) * v7_34) + (q2 % (8 : Int64)))) else (if (p4 &&& (7 : Int32)) = (2 : Int32) then (b0_177 q1 w_WEEK_MS w_DAY_MS v7_34 (((8 : Int64) * v7_34) + (q2 % (8 : Int64)))) else (if (p4 &&& (7 : Int32)) = (3 : Int32) then (b0_177 q1 w_WEEK_MS w_DAY_MS v7_34 ((604800000 : Int64) + (q2 % (8 : Int64)))) else (if (p4 &&& (7 : Int32)) = (4 : Int32) then (b0_177 q1 w_WEEK_MS w_DAY_MS v7_34 ((1209600000 : Int64) + (q2 % (8 : Int64)))) else (if (p4 &&& (7 : Int32)) = (5 : Int32) then (b0_177 q1 w_WEEK_MS w_DAY_MS v7_34 (q2 &&& (68719476735 : Int64))) else (if (p4 &&& (7 : Int32)) = (6 : Int32) then (b0_177 q1 w_WEEK_MS w_DAY_MS v7_34 (q2 % (19353600000 : Int64))) else (b0_177 q1 w_WEEK_MS w_DAY_MS v7_34 (((4 : Int64) * v7_34) + (q2 % (8 : Int64))))))))))))) _) _
    refine go (fun t k => XS.iload XJ34.here hx rfl (hb hby at_34) rfl  k) ?_
    show Gl _ _ _ _ _ _ _ _ (TJ34.setTop (mkF m 36 #[.val (.long q1), .second, .val (.long q2), .second, .val (.long q3), .second, .val (.int p4), .val (.long v7_34), .second, .unset, .unset, .unset, .unset, .unset, .unset, .unset, .unset, .unset, .unset, .unset, .unset] [(.int p4)]))
    refine go (fun t k => XS.bipush XJ34.here hx rfl (hb hby at_36) k) ?_
    show Gl _ _ _ _ _ _ _ _ (TJ34.setTop (mkF m 38 #[.val (.long q1), .second, .val (.long q2), .second, .val (.long q3), .second, .val (.int p4), .val (.long v7_34), .second, .unset, .unset, .unset, .unset, .unset, .unset, .unset, .unset, .unset, .unset, .unset, .unset] [(.int (7 : Int32)), (.int p4)]))
    refine go (fun t k => XS.iand XJ34.here hx rfl (hb hby at_38) rfl k) ?_
    show Gl _ _ _ _ _ _ _ _ (TJ34.setTop (mkF m 39 #[.val (.long q1), .second, .val (.long q2), .second, .val (.long q3), .second, .val (.int p4), .val (.long v7_34), .second, .unset, .unset, .unset, .unset, .unset, .unset, .unset, .unset, .unset, .unset, .unset, .unset] [(.int (p4 &&& (7 : Int32)))]))
    refine go (fun t k => XS.istore XJ34.here hx rfl (hb hby at_39) rfl (l' := #[.val (.long q1), .second, .val (.long q2), .second, .val (.long q3), .second, .val (.int p4), .val (.long v7_34), .second, .val (.int (p4 &&& (7 : Int32))), .unset, .unset, .unset, .unset, .unset, .unset, .unset, .unset, .unset, .unset, .unset]) rfl k) ?_
    show Gl _ _ _ _ _ _ _ _ (TJ34.setTop (mkF m 41 #[.val (.long q1), .second, .val (.long q2), .second, .val (.long q3), .second, .val (.int p4), .val (.long v7_34), .second, .val (.int (p4 &&& (7 : Int32))), .unset, .unset, .unset, .unset, .unset, .unset, .unset, .unset, .unset, .unset, .unset] []))
    refine go (fun t k => XS.lloadN XJ34.here hx rfl (hb hby at_41) rfl  k) ?_
    show Gl _ _ _ _ _ _ _ _ (TJ34.setTop (mkF m 42 #[.val (.long q1), .second, .val (.long q2), .second, .val (.long q3), .second, .val (.int p4), .val (.long v7_34), .second, .val (.int (p4 &&& (7 : Int32))), .unset, .unset, .unset, .unset, .unset, .unset, .unset, .unset, .unset, .unset, .unset] [(.long q2)]))
    refine go (fun t k => XJ34.ldc2Long hx hown (mvT hZ (hw _ (List.mem_of_getElem? (i := 1) rfl))) (g := (mkF m 42 #[.val (.long q1), .second, .val (.long q2), .second, .val (.long q3), .second, .val (.int p4), .val (.long v7_34), .second, .val (.int (p4 &&& (7 : Int32))), .unset, .unset, .unset, .unset, .unset, .unset, .unset, .unset, .unset, .unset, .unset] [(.long q2)])) rfl (hb hby at_42) _ k) ?_
    show Gl _ _ _ _ _ _ _ _ (TJ34.setTop (mkF m 45 #[.val (.long q1), .second, .val (.long q2), .second, .val (.long q3), .second, .val (.int p4), .val (.long v7_34), .second, .val (.int (p4 &&& (7 : Int32))), .unset, .unset, .unset, .unset, .unset, .unset, .unset, .unset, .unset, .unset, .unset] [(.long (8 : Int64)), (.long q2)]))
    refine go (fun t k => lremM XJ34 hx rfl (hb hby at_45) rfl (by decide) k) ?_
    show Gl _ _ _ _ _ _ _ _ (TJ34.setTop (mkF m 46 #[.val (.long q1), .second, .val (.long q2), .second, .val (.long q3), .second, .val (.int p4), .val (.long v7_34), .second, .val (.int (p4 &&& (7 : Int32))), .unset, .unset, .unset, .unset, .unset, .unset, .unset, .unset, .unset, .unset, .unset] [(.long (q2 % (8 : Int64)))]))
    refine go (fun t k => XS.lstore XJ34.here hx rfl (hb hby at_46) rfl (l' := #[.val (.long q1), .second, .val (.long q2), .second, .val (.long q3), .second, .val (.int p4), .val (.long v7_34), .second, .val (.int (p4 &&& (7 : Int32))), .val (.long (q2 % (8 : Int64))), .second, .unset, .unset, .unset, .unset, .unset, .unset, .unset, .unset, .unset]) rfl k) ?_
    show Gl _ _ _ _ _ _ _ _ (TJ34.setTop (mkF m 48 #[.val (.long q1), .second, .val (.long q2), .second, .val (.long q3), .second, .val (.int p4), .val (.long v7_34), .second, .val (.int (p4 &&& (7 : Int32))), .val (.long (q2 % (8 : Int64))), .second, .unset, .unset, .unset, .unset, .unset, .unset, .unset, .unset, .unset] []))
    refine go (fun t k => XS.iload XJ34.here hx rfl (hb hby at_48) rfl  k) ?_
    show Gl _ _ _ _ _ _ _ _ (TJ34.setTop (mkF m 50 #[.val (.long q1), .second, .val (.long q2), .second, .val (.long q3), .second, .val (.int p4), .val (.long v7_34), .second, .val (.int (p4 &&& (7 : Int32))), .val (.long (q2 % (8 : Int64))), .second, .unset, .unset, .unset, .unset, .unset, .unset, .unset, .unset, .unset] [(.int (p4 &&& (7 : Int32)))]))
    have J177 : ∀ (v12_177 : Int64) (TJ177 : State) (lJ177 : List Loc) (XJ177 : Stand p l e room_1 s m #[(.long q1), (.long q2), (.long q3), (.int p4)] below meth c TJ177 lJ177 0 0) (eJ177 : TJ177.heap = h0) (NJ177 : Fr n0 lJ177), Gl p e below s n0 room_1.cells room_1.slots (Kv (some (.int (b0_177 q1 w_WEEK_MS w_DAY_MS v7_34 v12_177))) (fun _ => True)) (TJ177.setTop (mkF m 177 #[.val (.long q1), .second, .val (.long q2), .second, .val (.long q3), .second, .val (.int p4), .val (.long v7_34), .second, .val (.int (p4 &&& (7 : Int32))), .val (.long (q2 % (8 : Int64))), .second, .val (.long v12_177), .second, .unset, .unset, .unset, .unset, .unset, .unset, .unset] [])) := by
      intro v12_177 TJ177 lJ177 XJ177 eJ177 NJ177
      show Gl _ _ _ _ _ _ _ (Kv (some (.int (if (b6_0 v12_177 (2 : Int64) v7_34) = (0 : Int32) then (if (b6_0 v12_177 (8 : Int64) v7_34) = (0 : Int32) then (if (604800000 : Int64) < v12_177 then (if (1209600000 : Int64) < v12_177 then (b0_290 q1 w_WEEK_MS w_DAY_MS v7_34 v12_177 (259200000 : Int64)) else (b0_290 q1 w_WEEK_MS w_DAY_MS v7_34 v12_177 (86400000 : Int64))) else (b0_290 q1 w_WEEK_MS w_DAY_MS v7_34 v12_177 (v12_177 / (8 : Int64)))) else (b0_290 q1 w_WEEK_MS w_DAY_MS v7_34 v12_177 (v12_177 / (2 : Int64)))) else (b0_290 q1 w_WEEK_MS w_DAY_MS v7_34 v12_177 v7_34)))) _) _
      refine go (fun t k => XS.lloadN XJ177.here hx rfl (hb hby at_177) rfl  k) ?_
      show Gl _ _ _ _ _ _ _ _ (TJ177.setTop (mkF m 178 #[.val (.long q1), .second, .val (.long q2), .second, .val (.long q3), .second, .val (.int p4), .val (.long v7_34), .second, .val (.int (p4 &&& (7 : Int32))), .val (.long (q2 % (8 : Int64))), .second, .val (.long v12_177), .second, .unset, .unset, .unset, .unset, .unset, .unset, .unset] [(.long q1)]))
      refine go (fun t k => XS.lload XJ177.here hx rfl (hb hby at_178) rfl  k) ?_
      show Gl _ _ _ _ _ _ _ _ (TJ177.setTop (mkF m 180 #[.val (.long q1), .second, .val (.long q2), .second, .val (.long q3), .second, .val (.int p4), .val (.long v7_34), .second, .val (.int (p4 &&& (7 : Int32))), .val (.long (q2 % (8 : Int64))), .second, .val (.long v12_177), .second, .unset, .unset, .unset, .unset, .unset, .unset, .unset] [(.long v12_177), (.long q1)]))
      refine go (fun t k => XS.ladd XJ177.here hx rfl (hb hby at_180) rfl k) ?_
      show Gl _ _ _ _ _ _ _ _ (TJ177.setTop (mkF m 181 #[.val (.long q1), .second, .val (.long q2), .second, .val (.long q3), .second, .val (.int p4), .val (.long v7_34), .second, .val (.int (p4 &&& (7 : Int32))), .val (.long (q2 % (8 : Int64))), .second, .val (.long v12_177), .second, .unset, .unset, .unset, .unset, .unset, .unset, .unset] [(.long (q1 + v12_177))]))
      refine go (fun t k => XS.lstore XJ177.here hx rfl (hb hby at_181) rfl (l' := #[.val (.long q1), .second, .val (.long q2), .second, .val (.long q3), .second, .val (.int p4), .val (.long v7_34), .second, .val (.int (p4 &&& (7 : Int32))), .val (.long (q2 % (8 : Int64))), .second, .val (.long v12_177), .second, .val (.long (q1 + v12_177)), .second, .unset, .unset, .unset, .unset, .unset]) rfl k) ?_
      show Gl _ _ _ _ _ _ _ _ (TJ177.setTop (mkF m 183 #[.val (.long q1), .second, .val (.long q2), .second, .val (.long q3), .second, .val (.int p4), .val (.long v7_34), .second, .val (.int (p4 &&& (7 : Int32))), .val (.long (q2 % (8 : Int64))), .second, .val (.long v12_177), .second, .val (.long (q1 + v12_177)), .second, .unset, .unset, .unset, .unset, .unset] []))
      obtain ⟨T3, h3, X3, e3, E3, A3, D3, -, st3⟩ := newO XJ177 hx hZ hown (hw _ (List.mem_of_getElem? (i := 2) rfl)) (hw _ (List.mem_of_getElem? (i := 3) rfl)) (hw _ (List.mem_of_getElem? (i := 4) rfl)) eJ177 (g := (mkF m 183 #[.val (.long q1), .second, .val (.long q2), .second, .val (.long q3), .second, .val (.int p4), .val (.long v7_34), .second, .val (.int (p4 &&& (7 : Int32))), .val (.long (q2 % (8 : Int64))), .second, .val (.long v12_177), .second, .val (.long (q1 + v12_177)), .second, .unset, .unset, .unset, .unset, .unset] [])) rfl (hb hby at_183) (by decide) (by decide)
      obtain ⟨o3, gq3⟩ : ∃ z, z = h0.size := ⟨_, rfl⟩
      rw [← gq3] at A3 D3 st3
      have g_o3 : n0 ≤ o3 := Nat.le_trans Z0 (Nat.le_of_eq gq3.symm)
      have F_rttMs_o3 : Fld Z h3 o3 "com/example/leasehold/client/RenewalManager$Schedule" "rttMs" "J" (.long (0 : Int64)) := D3 (Or.inr (hw _ (List.mem_of_getElem? (i := 17) rfl))) (ty := .long) (by decide)
      have K3 : Keep h0 h3 [] := (Keep.refl h0 []).ext E3
      have sz_o3 : h0.size ≤ o3 := Nat.le_trans (Keep.refl h0 []).1 (Nat.le_of_eq gq3.symm)
      refine go (fun t k => st3 _ k) ?_
      show Gl _ _ _ _ _ _ _ _ (T3.setTop (mkF m 186 #[.val (.long q1), .second, .val (.long q2), .second, .val (.long q3), .second, .val (.int p4), .val (.long v7_34), .second, .val (.int (p4 &&& (7 : Int32))), .val (.long (q2 % (8 : Int64))), .second, .val (.long v12_177), .second, .val (.long (q1 + v12_177)), .second, .unset, .unset, .unset, .unset, .unset] [(.ref o3)]))
      refine go (fun t k => XS.dup X3.here hx rfl (hb hby at_186) rfl rfl k) ?_
      show Gl _ _ _ _ _ _ _ _ (T3.setTop (mkF m 187 #[.val (.long q1), .second, .val (.long q2), .second, .val (.long q3), .second, .val (.int p4), .val (.long v7_34), .second, .val (.int (p4 &&& (7 : Int32))), .val (.long (q2 % (8 : Int64))), .second, .val (.long v12_177), .second, .val (.long (q1 + v12_177)), .second, .unset, .unset, .unset, .unset, .unset] [(.ref o3), (.ref o3)]))
      refine go (fun t k => XS.lload X3.here hx rfl (hb hby at_187) rfl  k) ?_
      show Gl _ _ _ _ _ _ _ _ (T3.setTop (mkF m 189 #[.val (.long q1), .second, .val (.long q2), .second, .val (.long q3), .second, .val (.int p4), .val (.long v7_34), .second, .val (.int (p4 &&& (7 : Int32))), .val (.long (q2 % (8 : Int64))), .second, .val (.long v12_177), .second, .val (.long (q1 + v12_177)), .second, .unset, .unset, .unset, .unset, .unset] [(.long v7_34), (.ref o3), (.ref o3)]))
      obtain ⟨_, _, ⟨T4, L4, k4, n4⟩, -, X4, ⟨Lc4, hQ4, l4, y4, z4⟩, st4⟩ := X3.specialBack hx (y := (⟨"com/example/leasehold/client/RenewalManager$Schedule", "<init>", "(J)V"⟩ : MethodName)) rfl hown (mvT hZ (hw _ (List.mem_of_getElem? (i := 5) rfl))) (mvT hZ (hw _ (List.mem_of_getElem? (i := 6) rfl))) (mvT hZ (hw _ (List.mem_of_getElem? (i := 7) rfl))) (by decide) (backOf (W := 1) (rm1 l Z a0 hw [] o3 v7_34 ((.long (0 : Int64))) h3 n0 (Nat.le_trans Z0 E3.1) A3 g_o3 F_rttMs_o3) hZ (hw _ (List.mem_of_getElem? (i := 7) rfl)) (hw _ (List.mem_of_getElem? (i := 4) rfl)) (by decide) (by decide)) (g := (mkF m 189 #[.val (.long q1), .second, .val (.long q2), .second, .val (.long q3), .second, .val (.int p4), .val (.long v7_34), .second, .val (.int (p4 &&& (7 : Int32))), .val (.long (q2 % (8 : Int64))), .second, .val (.long v12_177), .second, .val (.long (q1 + v12_177)), .second, .unset, .unset, .unset, .unset, .unset] [(.long v7_34), (.ref o3), (.ref o3)])) rfl (by rw [hml]; rfl) (Steps.refl _) (a := o3) (argsL := [(.long v7_34)]) (rest := [(.ref o3)]) (lenOf pd_2 rfl) rfl (by show 2 * 0 + _ ≤ _; exact Nat.le_of_eq rfl) (hb hby at_189) (fun _ _ => ⟨rfl, e3, (by decide : 1 + 0 ≤ _), (by decide : 1 + 0 ≤ _)⟩)
      dsimp only [Pt.U, Pt.locs, Pt.cells, Pt.slots] at X4 l4 y4 z4 st4 hQ4
      subst l4 y4 z4
      have X4 : Stand p l e room_1 s m #[(.long q1), (.long q2), (.long q3), (.int p4)] below meth c T4 _ 1 1 := X4
      obtain ⟨⟨rfl, K4q, Ex4, Fq4_rttMs⟩, N4q⟩ := hQ4
      obtain ⟨h4, e4⟩ : ∃ z, T4.heap = z := ⟨_, rfl⟩
      rw [e4] at K4q Ex4 Fq4_rttMs
      have K4 : Keep h0 h4 [] := K3.trans K4q (allS (Or.inr sz_o3) all0)
      have N4 := Fr.app NJ177 N4q
      refine go (fun t k => st4.trans k) ?_
      show Gl _ _ _ _ _ _ _ _ (T4.setTop (mkF m 192 #[.val (.long q1), .second, .val (.long q2), .second, .val (.long q3), .second, .val (.int p4), .val (.long v7_34), .second, .val (.int (p4 &&& (7 : Int32))), .val (.long (q2 % (8 : Int64))), .second, .val (.long v12_177), .second, .val (.long (q1 + v12_177)), .second, .unset, .unset, .unset, .unset, .unset] [(.ref o3)]))
      refine go (fun t k => XS.astore X4.here hx rfl (hb hby at_192) rfl rfl (l' := #[.val (.long q1), .second, .val (.long q2), .second, .val (.long q3), .second, .val (.int p4), .val (.long v7_34), .second, .val (.int (p4 &&& (7 : Int32))), .val (.long (q2 % (8 : Int64))), .second, .val (.long v12_177), .second, .val (.long (q1 + v12_177)), .second, .val (.ref o3), .unset, .unset, .unset, .unset]) rfl k) ?_
      show Gl _ _ _ _ _ _ _ _ (T4.setTop (mkF m 194 #[.val (.long q1), .second, .val (.long q2), .second, .val (.long q3), .second, .val (.int p4), .val (.long v7_34), .second, .val (.int (p4 &&& (7 : Int32))), .val (.long (q2 % (8 : Int64))), .second, .val (.long v12_177), .second, .val (.long (q1 + v12_177)), .second, .val (.ref o3), .unset, .unset, .unset, .unset] []))
      refine go (fun t k => XS.aload X4.here hx rfl (hb hby at_194) rfl rfl k) ?_
      show Gl _ _ _ _ _ _ _ _ (T4.setTop (mkF m 196 #[.val (.long q1), .second, .val (.long q2), .second, .val (.long q3), .second, .val (.int p4), .val (.long v7_34), .second, .val (.int (p4 &&& (7 : Int32))), .val (.long (q2 % (8 : Int64))), .second, .val (.long v12_177), .second, .val (.long (q1 + v12_177)), .second, .val (.ref o3), .unset, .unset, .unset, .unset] [(.ref o3)]))
      refine go (fun t k => XS.lload X4.here hx rfl (hb hby at_196) rfl  k) ?_
      show Gl _ _ _ _ _ _ _ _ (T4.setTop (mkF m 198 #[.val (.long q1), .second, .val (.long q2), .second, .val (.long q3), .second, .val (.int p4), .val (.long v7_34), .second, .val (.int (p4 &&& (7 : Int32))), .val (.long (q2 % (8 : Int64))), .second, .val (.long v12_177), .second, .val (.long (q1 + v12_177)), .second, .val (.ref o3), .unset, .unset, .unset, .unset] [(.long (q1 + v12_177)), (.ref o3)]))
      refine go (fun t k => XS.lloadN X4.here hx rfl (hb hby at_198) rfl  k) ?_
      show Gl _ _ _ _ _ _ _ _ (T4.setTop (mkF m 199 #[.val (.long q1), .second, .val (.long q2), .second, .val (.long q3), .second, .val (.int p4), .val (.long v7_34), .second, .val (.int (p4 &&& (7 : Int32))), .val (.long (q2 % (8 : Int64))), .second, .val (.long v12_177), .second, .val (.long (q1 + v12_177)), .second, .val (.ref o3), .unset, .unset, .unset, .unset] [(.long q1), (.long (q1 + v12_177)), (.ref o3)]))
      obtain ⟨cq5, kq5, q5a, q5b, q5c⟩ := isOf hZ e4 Ex4
      obtain ⟨_, _, ⟨T5, L5, k5, n5⟩, -, X5, ⟨Lc5, hQ5, l5, y5, z5⟩, st5⟩ := X4.virtualBack hx (y := (⟨"com/example/leasehold/client/RenewalManager$Schedule", "renewalTime", "(JJ)J"⟩ : MethodName)) (z := (⟨"com/example/leasehold/client/RenewalManager$Schedule", "renewalTime", "(JJ)J"⟩ : MethodName)) hown (mvT hZ (hw _ (List.mem_of_getElem? (i := 18) rfl))) (mvT hZ (hw _ (List.mem_of_getElem? (i := 19) rfl))) (notFace_of_selects (args := #[]) (mvT hZ (hw _ (List.mem_of_getElem? (i := 21) rfl)))) (mvT hZ (hw _ (List.mem_of_getElem? (i := 21) rfl))) (mvT hZ (hw _ (List.mem_of_getElem? (i := 20) rfl))) (by decide) (backOf (W := 0) (rm4 l Z a0 hw [] o3 (q1 + v12_177) q1 v7_34 w_WEEK_MS w_DAY_MS h4 n0 (Nat.le_trans (Nat.le_trans Z0 E3.1) K4q.1) Fq4_rttMs Ex4 (sta_keep (S_WEEK_MS.ext E3) K4q A3) (sta_keep (S_DAY_MS.ext E3) K4q A3)) hZ (hw _ (List.mem_of_getElem? (i := 22) rfl)) (hw _ (List.mem_of_getElem? (i := 4) rfl)) (by decide) (by decide)) q5a q5c (g := (mkF m 199 #[.val (.long q1), .second, .val (.long q2), .second, .val (.long q3), .second, .val (.int p4), .val (.long v7_34), .second, .val (.int (p4 &&& (7 : Int32))), .val (.long (q2 % (8 : Int64))), .second, .val (.long v12_177), .second, .val (.long (q1 + v12_177)), .second, .val (.ref o3), .unset, .unset, .unset, .unset] [(.long q1), (.long (q1 + v12_177)), (.ref o3)])) rfl (by rw [hml]; rfl) (Steps.refl _) (argsL := [(.long (q1 + v12_177)), (.long q1)]) (rest := []) (lenOf pd_3 rfl) rfl (by show 2 * 0 + _ ≤ _; exact Nat.le_of_eq rfl) (hb hby at_199) (fun _ _ => ⟨rfl, e4, (by decide : 1 + 0 ≤ _), (by decide : 1 + 0 ≤ _)⟩)
      dsimp only [Pt.U, Pt.locs, Pt.cells, Pt.slots] at X5 l5 y5 z5 st5 hQ5
      subst l5 y5 z5
      have X5 : Stand p l e room_1 s m #[(.long q1), (.long q2), (.long q3), (.int p4)] below meth c T5 _ 1 1 := X5
      obtain ⟨⟨rfl, e5'⟩, N5q⟩ := hQ5
      have e5 : T5.heap = h4 := e5'
      have N5 := Fr.app N4 N5q
      refine go (fun t k => st5.trans k) ?_
      show Gl _ _ _ _ _ _ _ _ (T5.setTop (mkF m 202 #[.val (.long q1), .second, .val (.long q2), .second, .val (.long q3), .second, .val (.int p4), .val (.long v7_34), .second, .val (.int (p4 &&& (7 : Int32))), .val (.long (q2 % (8 : Int64))), .second, .val (.long v12_177), .second, .val (.long (q1 + v12_177)), .second, .val (.ref o3), .unset, .unset, .unset, .unset] [(.long (b4_0 (q1 + v12_177) q1 v7_34 w_WEEK_MS w_DAY_MS))]))
      refine go (fun t k => XS.lstore X5.here hx rfl (hb hby at_202) rfl (l' := #[.val (.long q1), .second, .val (.long q2), .second, .val (.long q3), .second, .val (.int p4), .val (.long v7_34), .second, .val (.int (p4 &&& (7 : Int32))), .val (.long (q2 % (8 : Int64))), .second, .val (.long v12_177), .second, .val (.long (q1 + v12_177)), .second, .val (.ref o3), .val (.long (b4_0 (q1 + v12_177) q1 v7_34 w_WEEK_MS w_DAY_MS)), .second, .unset, .unset]) rfl k) ?_
      show Gl _ _ _ _ _ _ _ _ (T5.setTop (mkF m 204 #[.val (.long q1), .second, .val (.long q2), .second, .val (.long q3), .second, .val (.int p4), .val (.long v7_34), .second, .val (.int (p4 &&& (7 : Int32))), .val (.long (q2 % (8 : Int64))), .second, .val (.long v12_177), .second, .val (.long (q1 + v12_177)), .second, .val (.ref o3), .val (.long (b4_0 (q1 + v12_177) q1 v7_34 w_WEEK_MS w_DAY_MS)), .second, .unset, .unset] []))
      refine go (fun t k => XS.lload X5.here hx rfl (hb hby at_204) rfl  k) ?_
      show Gl _ _ _ _ _ _ _ _ (T5.setTop (mkF m 206 #[.val (.long q1), .second, .val (.long q2), .second, .val (.long q3), .second, .val (.int p4), .val (.long v7_34), .second, .val (.int (p4 &&& (7 : Int32))), .val (.long (q2 % (8 : Int64))), .second, .val (.long v12_177), .second, .val (.long (q1 + v12_177)), .second, .val (.ref o3), .val (.long (b4_0 (q1 + v12_177) q1 v7_34 w_WEEK_MS w_DAY_MS)), .second, .unset, .unset] [(.long v12_177)]))
      refine go (fun t k => X5.ldc2Long hx hown (mvT hZ (hw _ (List.mem_of_getElem? (i := 31) rfl))) (g := (mkF m 206 #[.val (.long q1), .second, .val (.long q2), .second, .val (.long q3), .second, .val (.int p4), .val (.long v7_34), .second, .val (.int (p4 &&& (7 : Int32))), .val (.long (q2 % (8 : Int64))), .second, .val (.long v12_177), .second, .val (.long (q1 + v12_177)), .second, .val (.ref o3), .val (.long (b4_0 (q1 + v12_177) q1 v7_34 w_WEEK_MS w_DAY_MS)), .second, .unset, .unset] [(.long v12_177)])) rfl (hb hby at_206) _ k) ?_
      show Gl _ _ _ _ _ _ _ _ (T5.setTop (mkF m 209 #[.val (.long q1), .second, .val (.long q2), .second, .val (.long q3), .second, .val (.int p4), .val (.long v7_34), .second, .val (.int (p4 &&& (7 : Int32))), .val (.long (q2 % (8 : Int64))), .second, .val (.long v12_177), .second, .val (.long (q1 + v12_177)), .second, .val (.ref o3), .val (.long (b4_0 (q1 + v12_177) q1 v7_34 w_WEEK_MS w_DAY_MS)), .second, .unset, .unset] [(.long (2 : Int64)), (.long v12_177)]))
      refine go (fun t k => XS.lload X5.here hx rfl (hb hby at_209) rfl  k) ?_
      show Gl _ _ _ _ _ _ _ _ (T5.setTop (mkF m 211 #[.val (.long q1), .second, .val (.long q2), .second, .val (.long q3), .second, .val (.int p4), .val (.long v7_34), .second, .val (.int (p4 &&& (7 : Int32))), .val (.long (q2 % (8 : Int64))), .second, .val (.long v12_177), .second, .val (.long (q1 + v12_177)), .second, .val (.ref o3), .val (.long (b4_0 (q1 + v12_177) q1 v7_34 w_WEEK_MS w_DAY_MS)), .second, .unset, .unset] [(.long v7_34), (.long (2 : Int64)), (.long v12_177)]))
      obtain ⟨_, _, ⟨T6, L6, k6, n6⟩, -, X6, ⟨Lc6, hQ6, l6, y6, z6⟩, st6⟩ := Jvm.LawKit.callS X5 hx (y := (⟨"com/example/leasehold/client/ScheduleRenewalTimePinLaw", "atMostTimes", "(JJJ)Z"⟩ : MethodName)) hown (mvT hZ (hw _ (List.mem_of_getElem? (i := 32) rfl))) (mvT hZ (hw _ (List.mem_of_getElem? (i := 33) rfl))) (mvT hZ (hw _ (List.mem_of_getElem? (i := 34) rfl))) (mvT hZ (hw _ (List.mem_of_getElem? (i := 35) rfl))) (by decide) (backOf (W := 0) (rm6 l Z a0 hw [] v12_177 (2 : Int64) v7_34 h4 n0 (Nat.le_trans (Nat.le_trans Z0 E3.1) K4q.1) (by decide) (by decide)) hZ (hw _ (List.mem_of_getElem? (i := 35) rfl)) (hw _ (List.mem_of_getElem? (i := 34) rfl)) (by decide) (by decide)) (g := (mkF m 211 #[.val (.long q1), .second, .val (.long q2), .second, .val (.long q3), .second, .val (.int p4), .val (.long v7_34), .second, .val (.int (p4 &&& (7 : Int32))), .val (.long (q2 % (8 : Int64))), .second, .val (.long v12_177), .second, .val (.long (q1 + v12_177)), .second, .val (.ref o3), .val (.long (b4_0 (q1 + v12_177) q1 v7_34 w_WEEK_MS w_DAY_MS)), .second, .unset, .unset] [(.long v7_34), (.long (2 : Int64)), (.long v12_177)])) rfl (by rw [hml]; rfl) (argsL := [(.long v12_177), (.long (2 : Int64)), (.long v7_34)]) (rest := []) (lenOf pd_4 rfl) rfl (by show 2 * 0 + _ ≤ _; exact Nat.le_of_eq rfl) (hb hby at_211) (fun _ _ => ⟨rfl, e5, (by decide : 1 + 0 ≤ _), (by decide : 1 + 0 ≤ _)⟩)
      dsimp only [Pt.U, Pt.locs, Pt.cells, Pt.slots] at X6 l6 y6 z6 st6 hQ6
      subst l6 y6 z6
      have X6 : Stand p l e room_1 s m #[(.long q1), (.long q2), (.long q3), (.int p4)] below meth c T6 _ 1 1 := X6
      obtain ⟨⟨rfl, e6'⟩, N6q⟩ := hQ6
      have e6 : T6.heap = h4 := e6'
      have N6 := Fr.app N5 N6q
      refine go (fun t k => st6 _ k) ?_
      show Gl _ _ _ _ _ _ _ _ (T6.setTop (mkF m 214 #[.val (.long q1), .second, .val (.long q2), .second, .val (.long q3), .second, .val (.int p4), .val (.long v7_34), .second, .val (.int (p4 &&& (7 : Int32))), .val (.long (q2 % (8 : Int64))), .second, .val (.long v12_177), .second, .val (.long (q1 + v12_177)), .second, .val (.ref o3), .val (.long (b4_0 (q1 + v12_177) q1 v7_34 w_WEEK_MS w_DAY_MS)), .second, .unset, .unset] [(.int (b6_0 v12_177 (2 : Int64) v7_34))]))
      have J290 : ∀ (v19_290 : Int64) (TJ290 : State) (lJ290 : List Loc) (XJ290 : Stand p l e room_1 s m #[(.long q1), (.long q2), (.long q3), (.int p4)] below meth c TJ290 lJ290 1 1) (eJ290 : TJ290.heap = h4) (NJ290 : Fr n0 lJ290), Gl p e below s n0 room_1.cells room_1.slots (Kv (some (.int (b0_290 q1 w_WEEK_MS w_DAY_MS v7_34 v12_177 v19_290))) (fun _ => True)) (TJ290.setTop (mkF m 290 #[.val (.long q1), .second, .val (.long q2), .second, .val (.long q3), .second, .val (.int p4), .val (.long v7_34), .second, .val (.int (p4 &&& (7 : Int32))), .val (.long (q2 % (8 : Int64))), .second, .val (.long v12_177), .second, .val (.long (q1 + v12_177)), .second, .val (.ref o3), .val (.long (b4_0 (q1 + v12_177) q1 v7_34 w_WEEK_MS w_DAY_MS)), .second, .val (.long v19_290), .second] [])) := by
        intro v19_290 TJ290 lJ290 XJ290 eJ290 NJ290
        show Gl _ _ _ _ _ _ _ (Kv (some (.int (if (b4_0 (q1 + v12_177) q1 v7_34 w_WEEK_MS w_DAY_MS) = ((q1 + v12_177) - v19_290) then (b0_306 (1 : Int32)) else (b0_306 (0 : Int32))))) _) _
        refine go (fun t k => XS.lload XJ290.here hx rfl (hb hby at_290) rfl  k) ?_
        show Gl _ _ _ _ _ _ _ _ (TJ290.setTop (mkF m 292 #[.val (.long q1), .second, .val (.long q2), .second, .val (.long q3), .second, .val (.int p4), .val (.long v7_34), .second, .val (.int (p4 &&& (7 : Int32))), .val (.long (q2 % (8 : Int64))), .second, .val (.long v12_177), .second, .val (.long (q1 + v12_177)), .second, .val (.ref o3), .val (.long (b4_0 (q1 + v12_177) q1 v7_34 w_WEEK_MS w_DAY_MS)), .second, .val (.long v19_290), .second] [(.long (b4_0 (q1 + v12_177) q1 v7_34 w_WEEK_MS w_DAY_MS))]))
        refine go (fun t k => XS.lload XJ290.here hx rfl (hb hby at_292) rfl  k) ?_
        show Gl _ _ _ _ _ _ _ _ (TJ290.setTop (mkF m 294 #[.val (.long q1), .second, .val (.long q2), .second, .val (.long q3), .second, .val (.int p4), .val (.long v7_34), .second, .val (.int (p4 &&& (7 : Int32))), .val (.long (q2 % (8 : Int64))), .second, .val (.long v12_177), .second, .val (.long (q1 + v12_177)), .second, .val (.ref o3), .val (.long (b4_0 (q1 + v12_177) q1 v7_34 w_WEEK_MS w_DAY_MS)), .second, .val (.long v19_290), .second] [(.long (q1 + v12_177)), (.long (b4_0 (q1 + v12_177) q1 v7_34 w_WEEK_MS w_DAY_MS))]))
        refine go (fun t k => XS.lload XJ290.here hx rfl (hb hby at_294) rfl  k) ?_
        show Gl _ _ _ _ _ _ _ _ (TJ290.setTop (mkF m 296 #[.val (.long q1), .second, .val (.long q2), .second, .val (.long q3), .second, .val (.int p4), .val (.long v7_34), .second, .val (.int (p4 &&& (7 : Int32))), .val (.long (q2 % (8 : Int64))), .second, .val (.long v12_177), .second, .val (.long (q1 + v12_177)), .second, .val (.ref o3), .val (.long (b4_0 (q1 + v12_177) q1 v7_34 w_WEEK_MS w_DAY_MS)), .second, .val (.long v19_290), .second] [(.long v19_290), (.long (q1 + v12_177)), (.long (b4_0 (q1 + v12_177) q1 v7_34 w_WEEK_MS w_DAY_MS))]))
        refine go (fun t k => XS.lsub XJ290.here hx rfl (hb hby at_296) rfl k) ?_
        show Gl _ _ _ _ _ _ _ _ (TJ290.setTop (mkF m 297 #[.val (.long q1), .second, .val (.long q2), .second, .val (.long q3), .second, .val (.int p4), .val (.long v7_34), .second, .val (.int (p4 &&& (7 : Int32))), .val (.long (q2 % (8 : Int64))), .second, .val (.long v12_177), .second, .val (.long (q1 + v12_177)), .second, .val (.ref o3), .val (.long (b4_0 (q1 + v12_177) q1 v7_34 w_WEEK_MS w_DAY_MS)), .second, .val (.long v19_290), .second] [(.long ((q1 + v12_177) - v19_290)), (.long (b4_0 (q1 + v12_177) q1 v7_34 w_WEEK_MS w_DAY_MS))]))
        refine go (fun t k => XS.lcmp XJ290.here hx rfl (hb hby at_297) rfl k) ?_
        show Gl _ _ _ _ _ _ _ _ (TJ290.setTop (mkF m 298 #[.val (.long q1), .second, .val (.long q2), .second, .val (.long q3), .second, .val (.int p4), .val (.long v7_34), .second, .val (.int (p4 &&& (7 : Int32))), .val (.long (q2 % (8 : Int64))), .second, .val (.long v12_177), .second, .val (.long (q1 + v12_177)), .second, .val (.ref o3), .val (.long (b4_0 (q1 + v12_177) q1 v7_34 w_WEEK_MS w_DAY_MS)), .second, .val (.long v19_290), .second] [(.int (lcmpW (b4_0 (q1 + v12_177) q1 v7_34 w_WEEK_MS w_DAY_MS) ((q1 + v12_177) - v19_290)))]))
        have J306 : ∀ (s0_306 : Int32) (TJ306 : State) (lJ306 : List Loc) (XJ306 : Stand p l e room_1 s m #[(.long q1), (.long q2), (.long q3), (.int p4)] below meth c TJ306 lJ306 1 1) (eJ306 : TJ306.heap = h4) (NJ306 : Fr n0 lJ306), Gl p e below s n0 room_1.cells room_1.slots (Kv (some (.int (b0_306 s0_306))) (fun _ => True)) (TJ306.setTop (mkF m 306 #[.val (.long q1), .second, .val (.long q2), .second, .val (.long q3), .second, .val (.int p4), .val (.long v7_34), .second, .val (.int (p4 &&& (7 : Int32))), .val (.long (q2 % (8 : Int64))), .second, .val (.long v12_177), .second, .val (.long (q1 + v12_177)), .second, .val (.ref o3), .val (.long (b4_0 (q1 + v12_177) q1 v7_34 w_WEEK_MS w_DAY_MS)), .second, .val (.long v19_290), .second] [(.int s0_306)])) := by
          intro s0_306 TJ306 lJ306 XJ306 eJ306 NJ306
          show Gl _ _ _ _ _ _ _ (Kv (some (.int (nar .boolean s0_306))) _) _
          exact endN XJ306 hx Bd (t := .boolean) (by simp) (hb hby at_306) ⟨rfl, trivial⟩ NJ306 (by decide) (by decide)
        refine gI (c := (b4_0 (q1 + v12_177) q1 v7_34 w_WEEK_MS w_DAY_MS) = ((q1 + v12_177) - v19_290)) (fun hc298 => ?_) (fun hc298 => ?_)
        · refine go (fun t k => XS.ifNo XJ290.here hx rfl (hb hby at_298) rfl ((if0 _ _).trans (teq ((lw_eq (b4_0 (q1 + v12_177) q1 v7_34 w_WEEK_MS w_DAY_MS) ((q1 + v12_177) - v19_290)).mpr hc298)).2) k) ?_
          show Gl _ _ _ _ _ _ _ _ (TJ290.setTop (mkF m 301 #[.val (.long q1), .second, .val (.long q2), .second, .val (.long q3), .second, .val (.int p4), .val (.long v7_34), .second, .val (.int (p4 &&& (7 : Int32))), .val (.long (q2 % (8 : Int64))), .second, .val (.long v12_177), .second, .val (.long (q1 + v12_177)), .second, .val (.ref o3), .val (.long (b4_0 (q1 + v12_177) q1 v7_34 w_WEEK_MS w_DAY_MS)), .second, .val (.long v19_290), .second] []))
          refine go (fun t k => XS.iconst XJ290.here hx rfl (hb hby at_301) k) ?_
          show Gl _ _ _ _ _ _ _ _ (TJ290.setTop (mkF m 302 #[.val (.long q1), .second, .val (.long q2), .second, .val (.long q3), .second, .val (.int p4), .val (.long v7_34), .second, .val (.int (p4 &&& (7 : Int32))), .val (.long (q2 % (8 : Int64))), .second, .val (.long v12_177), .second, .val (.long (q1 + v12_177)), .second, .val (.ref o3), .val (.long (b4_0 (q1 + v12_177) q1 v7_34 w_WEEK_MS w_DAY_MS)), .second, .val (.long v19_290), .second] [(.int (1 : Int32))]))
          refine go (fun t k => XS.goto XJ290.here hx rfl (pc0 := 302) (pc' := 306) rfl (hb hby at_302) (by decide) (by decide) k) ?_
          show Gl _ _ _ _ _ _ _ _ (TJ290.setTop (mkF m 306 #[.val (.long q1), .second, .val (.long q2), .second, .val (.long q3), .second, .val (.int p4), .val (.long v7_34), .second, .val (.int (p4 &&& (7 : Int32))), .val (.long (q2 % (8 : Int64))), .second, .val (.long v12_177), .second, .val (.long (q1 + v12_177)), .second, .val (.ref o3), .val (.long (b4_0 (q1 + v12_177) q1 v7_34 w_WEEK_MS w_DAY_MS)), .second, .val (.long v19_290), .second] [(.int (1 : Int32))]))
          exact J306 (1 : Int32) TJ290 _ XJ290 eJ290 NJ290
        · refine go (fun t k => XS.ifYes XJ290.here hx rfl (pc0 := 298) (pc' := 305) rfl (hb hby at_298) rfl ((if0 _ _).trans (feq (mt (lw_eq (b4_0 (q1 + v12_177) q1 v7_34 w_WEEK_MS w_DAY_MS) ((q1 + v12_177) - v19_290)).mp hc298)).2) (by decide) (by decide) k) ?_
          show Gl _ _ _ _ _ _ _ _ (TJ290.setTop (mkF m 305 #[.val (.long q1), .second, .val (.long q2), .second, .val (.long q3), .second, .val (.int p4), .val (.long v7_34), .second, .val (.int (p4 &&& (7 : Int32))), .val (.long (q2 % (8 : Int64))), .second, .val (.long v12_177), .second, .val (.long (q1 + v12_177)), .second, .val (.ref o3), .val (.long (b4_0 (q1 + v12_177) q1 v7_34 w_WEEK_MS w_DAY_MS)), .second, .val (.long v19_290), .second] []))
          refine go (fun t k => XS.iconst XJ290.here hx rfl (hb hby at_305) k) ?_
          show Gl _ _ _ _ _ _ _ _ (TJ290.setTop (mkF m 306 #[.val (.long q1), .second, .val (.long q2), .second, .val (.long q3), .second, .val (.int p4), .val (.long v7_34), .second, .val (.int (p4 &&& (7 : Int32))), .val (.long (q2 % (8 : Int64))), .second, .val (.long v12_177), .second, .val (.long (q1 + v12_177)), .second, .val (.ref o3), .val (.long (b4_0 (q1 + v12_177) q1 v7_34 w_WEEK_MS w_DAY_MS)), .second, .val (.long v19_290), .second] [(.int (0 : Int32))]))
          exact J306 (0 : Int32) TJ290 _ XJ290 eJ290 NJ290
      refine gI (c := (b6_0 v12_177 (2 : Int64) v7_34) = (0 : Int32)) (fun hc214 => ?_) (fun hc214 => ?_)
      · refine go (fun t k => XS.ifYes X6.here hx rfl (pc0 := 214) (pc' := 224) rfl (hb hby at_214) rfl ((if0 _ _).trans (teq hc214).1) (by decide) (by decide) k) ?_
        show Gl _ _ _ _ _ _ _ _ (T6.setTop (mkF m 224 #[.val (.long q1), .second, .val (.long q2), .second, .val (.long q3), .second, .val (.int p4), .val (.long v7_34), .second, .val (.int (p4 &&& (7 : Int32))), .val (.long (q2 % (8 : Int64))), .second, .val (.long v12_177), .second, .val (.long (q1 + v12_177)), .second, .val (.ref o3), .val (.long (b4_0 (q1 + v12_177) q1 v7_34 w_WEEK_MS w_DAY_MS)), .second, .unset, .unset] []))
        refine go (fun t k => XS.lload X6.here hx rfl (hb hby at_224) rfl  k) ?_
        show Gl _ _ _ _ _ _ _ _ (T6.setTop (mkF m 226 #[.val (.long q1), .second, .val (.long q2), .second, .val (.long q3), .second, .val (.int p4), .val (.long v7_34), .second, .val (.int (p4 &&& (7 : Int32))), .val (.long (q2 % (8 : Int64))), .second, .val (.long v12_177), .second, .val (.long (q1 + v12_177)), .second, .val (.ref o3), .val (.long (b4_0 (q1 + v12_177) q1 v7_34 w_WEEK_MS w_DAY_MS)), .second, .unset, .unset] [(.long v12_177)]))
        refine go (fun t k => X6.ldc2Long hx hown (mvT hZ (hw _ (List.mem_of_getElem? (i := 1) rfl))) (g := (mkF m 226 #[.val (.long q1), .second, .val (.long q2), .second, .val (.long q3), .second, .val (.int p4), .val (.long v7_34), .second, .val (.int (p4 &&& (7 : Int32))), .val (.long (q2 % (8 : Int64))), .second, .val (.long v12_177), .second, .val (.long (q1 + v12_177)), .second, .val (.ref o3), .val (.long (b4_0 (q1 + v12_177) q1 v7_34 w_WEEK_MS w_DAY_MS)), .second, .unset, .unset] [(.long v12_177)])) rfl (hb hby at_226) _ k) ?_
        show Gl _ _ _ _ _ _ _ _ (T6.setTop (mkF m 229 #[.val (.long q1), .second, .val (.long q2), .second, .val (.long q3), .second, .val (.int p4), .val (.long v7_34), .second, .val (.int (p4 &&& (7 : Int32))), .val (.long (q2 % (8 : Int64))), .second, .val (.long v12_177), .second, .val (.long (q1 + v12_177)), .second, .val (.ref o3), .val (.long (b4_0 (q1 + v12_177) q1 v7_34 w_WEEK_MS w_DAY_MS)), .second, .unset, .unset] [(.long (8 : Int64)), (.long v12_177)]))
        refine go (fun t k => XS.lload X6.here hx rfl (hb hby at_229) rfl  k) ?_
        show Gl _ _ _ _ _ _ _ _ (T6.setTop (mkF m 231 #[.val (.long q1), .second, .val (.long q2), .second, .val (.long q3), .second, .val (.int p4), .val (.long v7_34), .second, .val (.int (p4 &&& (7 : Int32))), .val (.long (q2 % (8 : Int64))), .second, .val (.long v12_177), .second, .val (.long (q1 + v12_177)), .second, .val (.ref o3), .val (.long (b4_0 (q1 + v12_177) q1 v7_34 w_WEEK_MS w_DAY_MS)), .second, .unset, .unset] [(.long v7_34), (.long (8 : Int64)), (.long v12_177)]))
        obtain ⟨_, _, ⟨T9, L9, k9, n9⟩, -, X9, ⟨Lc9, hQ9, l9, y9, z9⟩, st9⟩ := Jvm.LawKit.callS X6 hx (y := (⟨"com/example/leasehold/client/ScheduleRenewalTimePinLaw", "atMostTimes", "(JJJ)Z"⟩ : MethodName)) hown (mvT hZ (hw _ (List.mem_of_getElem? (i := 32) rfl))) (mvT hZ (hw _ (List.mem_of_getElem? (i := 33) rfl))) (mvT hZ (hw _ (List.mem_of_getElem? (i := 34) rfl))) (mvT hZ (hw _ (List.mem_of_getElem? (i := 35) rfl))) (by decide) (backOf (W := 0) (rm6 l Z a0 hw [] v12_177 (8 : Int64) v7_34 h4 n0 (Nat.le_trans (Nat.le_trans Z0 E3.1) K4q.1) (by decide) (by decide)) hZ (hw _ (List.mem_of_getElem? (i := 35) rfl)) (hw _ (List.mem_of_getElem? (i := 34) rfl)) (by decide) (by decide)) (g := (mkF m 231 #[.val (.long q1), .second, .val (.long q2), .second, .val (.long q3), .second, .val (.int p4), .val (.long v7_34), .second, .val (.int (p4 &&& (7 : Int32))), .val (.long (q2 % (8 : Int64))), .second, .val (.long v12_177), .second, .val (.long (q1 + v12_177)), .second, .val (.ref o3), .val (.long (b4_0 (q1 + v12_177) q1 v7_34 w_WEEK_MS w_DAY_MS)), .second, .unset, .unset] [(.long v7_34), (.long (8 : Int64)), (.long v12_177)])) rfl (by rw [hml]; rfl) (argsL := [(.long v12_177), (.long (8 : Int64)), (.long v7_34)]) (rest := []) (lenOf pd_4 rfl) rfl (by show 2 * 0 + _ ≤ _; exact Nat.le_of_eq rfl) (hb hby at_231) (fun _ _ => ⟨rfl, e6, (by decide : 1 + 0 ≤ _), (by decide : 1 + 0 ≤ _)⟩)
        dsimp only [Pt.U, Pt.locs, Pt.cells, Pt.slots] at X9 l9 y9 z9 st9 hQ9
        subst l9 y9 z9
        have X9 : Stand p l e room_1 s m #[(.long q1), (.long q2), (.long q3), (.int p4)] below meth c T9 _ 1 1 := X9
        obtain ⟨⟨rfl, e9'⟩, N9q⟩ := hQ9
        have e9 : T9.heap = h4 := e9'
        have N9 := Fr.app N6 N9q
        refine go (fun t k => st9 _ k) ?_
        show Gl _ _ _ _ _ _ _ _ (T9.setTop (mkF m 234 #[.val (.long q1), .second, .val (.long q2), .second, .val (.long q3), .second, .val (.int p4), .val (.long v7_34), .second, .val (.int (p4 &&& (7 : Int32))), .val (.long (q2 % (8 : Int64))), .second, .val (.long v12_177), .second, .val (.long (q1 + v12_177)), .second, .val (.ref o3), .val (.long (b4_0 (q1 + v12_177) q1 v7_34 w_WEEK_MS w_DAY_MS)), .second, .unset, .unset] [(.int (b6_0 v12_177 (8 : Int64) v7_34))]))
        refine gI (c := (b6_0 v12_177 (8 : Int64) v7_34) = (0 : Int32)) (fun hc234 => ?_) (fun hc234 => ?_)
        · refine go (fun t k => XS.ifYes X9.here hx rfl (pc0 := 234) (pc' := 248) rfl (hb hby at_234) rfl ((if0 _ _).trans (teq hc234).1) (by decide) (by decide) k) ?_
          show Gl _ _ _ _ _ _ _ _ (T9.setTop (mkF m 248 #[.val (.long q1), .second, .val (.long q2), .second, .val (.long q3), .second, .val (.int p4), .val (.long v7_34), .second, .val (.int (p4 &&& (7 : Int32))), .val (.long (q2 % (8 : Int64))), .second, .val (.long v12_177), .second, .val (.long (q1 + v12_177)), .second, .val (.ref o3), .val (.long (b4_0 (q1 + v12_177) q1 v7_34 w_WEEK_MS w_DAY_MS)), .second, .unset, .unset] []))
          refine go (fun t k => XS.lload X9.here hx rfl (hb hby at_248) rfl  k) ?_
          show Gl _ _ _ _ _ _ _ _ (T9.setTop (mkF m 250 #[.val (.long q1), .second, .val (.long q2), .second, .val (.long q3), .second, .val (.int p4), .val (.long v7_34), .second, .val (.int (p4 &&& (7 : Int32))), .val (.long (q2 % (8 : Int64))), .second, .val (.long v12_177), .second, .val (.long (q1 + v12_177)), .second, .val (.ref o3), .val (.long (b4_0 (q1 + v12_177) q1 v7_34 w_WEEK_MS w_DAY_MS)), .second, .unset, .unset] [(.long v12_177)]))
          refine go (fun t k => X9.ldc2Long hx hown (mvT hZ (hw _ (List.mem_of_getElem? (i := 36) rfl))) (g := (mkF m 250 #[.val (.long q1), .second, .val (.long q2), .second, .val (.long q3), .second, .val (.int p4), .val (.long v7_34), .second, .val (.int (p4 &&& (7 : Int32))), .val (.long (q2 % (8 : Int64))), .second, .val (.long v12_177), .second, .val (.long (q1 + v12_177)), .second, .val (.ref o3), .val (.long (b4_0 (q1 + v12_177) q1 v7_34 w_WEEK_MS w_DAY_MS)), .second, .unset, .unset] [(.long v12_177)])) rfl (hb hby at_250) _ k) ?_
          show Gl _ _ _ _ _ _ _ _ (T9.setTop (mkF m 253 #[.val (.long q1), .second, .val (.long q2), .second, .val (.long q3), .second, .val (.int p4), .val (.long v7_34), .second, .val (.int (p4 &&& (7 : Int32))), .val (.long (q2 % (8 : Int64))), .second, .val (.long v12_177), .second, .val (.long (q1 + v12_177)), .second, .val (.ref o3), .val (.long (b4_0 (q1 + v12_177) q1 v7_34 w_WEEK_MS w_DAY_MS)), .second, .unset, .unset] [(.long (604800000 : Int64)), (.long v12_177)]))
          refine go (fun t k => XS.lcmp X9.here hx rfl (hb hby at_253) rfl k) ?_
          show Gl _ _ _ _ _ _ _ _ (T9.setTop (mkF m 254 #[.val (.long q1), .second, .val (.long q2), .second, .val (.long q3), .second, .val (.int p4), .val (.long v7_34), .second, .val (.int (p4 &&& (7 : Int32))), .val (.long (q2 % (8 : Int64))), .second, .val (.long v12_177), .second, .val (.long (q1 + v12_177)), .second, .val (.ref o3), .val (.long (b4_0 (q1 + v12_177) q1 v7_34 w_WEEK_MS w_DAY_MS)), .second, .unset, .unset] [(.int (lcmpW v12_177 (604800000 : Int64)))]))
          refine gI (c := (604800000 : Int64) < v12_177) (fun hc254 => ?_) (fun hc254 => ?_)
          · refine go (fun t k => XS.ifYes X9.here hx rfl (pc0 := 254) (pc' := 268) rfl (hb hby at_254) rfl ((if0 _ _).trans (tlt ((lw_gt v12_177 (604800000 : Int64)).mpr hc254)).2.2.1) (by decide) (by decide) k) ?_
            show Gl _ _ _ _ _ _ _ _ (T9.setTop (mkF m 268 #[.val (.long q1), .second, .val (.long q2), .second, .val (.long q3), .second, .val (.int p4), .val (.long v7_34), .second, .val (.int (p4 &&& (7 : Int32))), .val (.long (q2 % (8 : Int64))), .second, .val (.long v12_177), .second, .val (.long (q1 + v12_177)), .second, .val (.ref o3), .val (.long (b4_0 (q1 + v12_177) q1 v7_34 w_WEEK_MS w_DAY_MS)), .second, .unset, .unset] []))
            refine go (fun t k => XS.lload X9.here hx rfl (hb hby at_268) rfl  k) ?_
            show Gl _ _ _ _ _ _ _ _ (T9.setTop (mkF m 270 #[.val (.long q1), .second, .val (.long q2), .second, .val (.long q3), .second, .val (.int p4), .val (.long v7_34), .second, .val (.int (p4 &&& (7 : Int32))), .val (.long (q2 % (8 : Int64))), .second, .val (.long v12_177), .second, .val (.long (q1 + v12_177)), .second, .val (.ref o3), .val (.long (b4_0 (q1 + v12_177) q1 v7_34 w_WEEK_MS w_DAY_MS)), .second, .unset, .unset] [(.long v12_177)]))
            refine go (fun t k => X9.ldc2Long hx hown (mvT hZ (hw _ (List.mem_of_getElem? (i := 41) rfl))) (g := (mkF m 270 #[.val (.long q1), .second, .val (.long q2), .second, .val (.long q3), .second, .val (.int p4), .val (.long v7_34), .second, .val (.int (p4 &&& (7 : Int32))), .val (.long (q2 % (8 : Int64))), .second, .val (.long v12_177), .second, .val (.long (q1 + v12_177)), .second, .val (.ref o3), .val (.long (b4_0 (q1 + v12_177) q1 v7_34 w_WEEK_MS w_DAY_MS)), .second, .unset, .unset] [(.long v12_177)])) rfl (hb hby at_270) _ k) ?_
            show Gl _ _ _ _ _ _ _ _ (T9.setTop (mkF m 273 #[.val (.long q1), .second, .val (.long q2), .second, .val (.long q3), .second, .val (.int p4), .val (.long v7_34), .second, .val (.int (p4 &&& (7 : Int32))), .val (.long (q2 % (8 : Int64))), .second, .val (.long v12_177), .second, .val (.long (q1 + v12_177)), .second, .val (.ref o3), .val (.long (b4_0 (q1 + v12_177) q1 v7_34 w_WEEK_MS w_DAY_MS)), .second, .unset, .unset] [(.long (1209600000 : Int64)), (.long v12_177)]))
            refine go (fun t k => XS.lcmp X9.here hx rfl (hb hby at_273) rfl k) ?_
            show Gl _ _ _ _ _ _ _ _ (T9.setTop (mkF m 274 #[.val (.long q1), .second, .val (.long q2), .second, .val (.long q3), .second, .val (.int p4), .val (.long v7_34), .second, .val (.int (p4 &&& (7 : Int32))), .val (.long (q2 % (8 : Int64))), .second, .val (.long v12_177), .second, .val (.long (q1 + v12_177)), .second, .val (.ref o3), .val (.long (b4_0 (q1 + v12_177) q1 v7_34 w_WEEK_MS w_DAY_MS)), .second, .unset, .unset] [(.int (lcmpW v12_177 (1209600000 : Int64)))]))
            refine gI (c := (1209600000 : Int64) < v12_177) (fun hc274 => ?_) (fun hc274 => ?_)
            · refine go (fun t k => XS.ifYes X9.here hx rfl (pc0 := 274) (pc' := 285) rfl (hb hby at_274) rfl ((if0 _ _).trans (tlt ((lw_gt v12_177 (1209600000 : Int64)).mpr hc274)).2.2.1) (by decide) (by decide) k) ?_
              show Gl _ _ _ _ _ _ _ _ (T9.setTop (mkF m 285 #[.val (.long q1), .second, .val (.long q2), .second, .val (.long q3), .second, .val (.int p4), .val (.long v7_34), .second, .val (.int (p4 &&& (7 : Int32))), .val (.long (q2 % (8 : Int64))), .second, .val (.long v12_177), .second, .val (.long (q1 + v12_177)), .second, .val (.ref o3), .val (.long (b4_0 (q1 + v12_177) q1 v7_34 w_WEEK_MS w_DAY_MS)), .second, .unset, .unset] []))
              refine go (fun t k => X9.ldc2Long hx hown (mvT hZ (hw _ (List.mem_of_getElem? (i := 42) rfl))) (g := (mkF m 285 #[.val (.long q1), .second, .val (.long q2), .second, .val (.long q3), .second, .val (.int p4), .val (.long v7_34), .second, .val (.int (p4 &&& (7 : Int32))), .val (.long (q2 % (8 : Int64))), .second, .val (.long v12_177), .second, .val (.long (q1 + v12_177)), .second, .val (.ref o3), .val (.long (b4_0 (q1 + v12_177) q1 v7_34 w_WEEK_MS w_DAY_MS)), .second, .unset, .unset] [])) rfl (hb hby at_285) _ k) ?_
              show Gl _ _ _ _ _ _ _ _ (T9.setTop (mkF m 288 #[.val (.long q1), .second, .val (.long q2), .second, .val (.long q3), .second, .val (.int p4), .val (.long v7_34), .second, .val (.int (p4 &&& (7 : Int32))), .val (.long (q2 % (8 : Int64))), .second, .val (.long v12_177), .second, .val (.long (q1 + v12_177)), .second, .val (.ref o3), .val (.long (b4_0 (q1 + v12_177) q1 v7_34 w_WEEK_MS w_DAY_MS)), .second, .unset, .unset] [(.long (259200000 : Int64))]))
              refine go (fun t k => XS.lstore X9.here hx rfl (hb hby at_288) rfl (l' := #[.val (.long q1), .second, .val (.long q2), .second, .val (.long q3), .second, .val (.int p4), .val (.long v7_34), .second, .val (.int (p4 &&& (7 : Int32))), .val (.long (q2 % (8 : Int64))), .second, .val (.long v12_177), .second, .val (.long (q1 + v12_177)), .second, .val (.ref o3), .val (.long (b4_0 (q1 + v12_177) q1 v7_34 w_WEEK_MS w_DAY_MS)), .second, .val (.long (259200000 : Int64)), .second]) rfl k) ?_
              show Gl _ _ _ _ _ _ _ _ (T9.setTop (mkF m 290 #[.val (.long q1), .second, .val (.long q2), .second, .val (.long q3), .second, .val (.int p4), .val (.long v7_34), .second, .val (.int (p4 &&& (7 : Int32))), .val (.long (q2 % (8 : Int64))), .second, .val (.long v12_177), .second, .val (.long (q1 + v12_177)), .second, .val (.ref o3), .val (.long (b4_0 (q1 + v12_177) q1 v7_34 w_WEEK_MS w_DAY_MS)), .second, .val (.long (259200000 : Int64)), .second] []))
              exact J290 (259200000 : Int64) T9 _ X9 e9 N9
            · refine go (fun t k => XS.ifNo X9.here hx rfl (hb hby at_274) rfl ((if0 _ _).trans (flt (mt (lw_gt v12_177 (1209600000 : Int64)).mp hc274)).2.2.1) k) ?_
              show Gl _ _ _ _ _ _ _ _ (T9.setTop (mkF m 277 #[.val (.long q1), .second, .val (.long q2), .second, .val (.long q3), .second, .val (.int p4), .val (.long v7_34), .second, .val (.int (p4 &&& (7 : Int32))), .val (.long (q2 % (8 : Int64))), .second, .val (.long v12_177), .second, .val (.long (q1 + v12_177)), .second, .val (.ref o3), .val (.long (b4_0 (q1 + v12_177) q1 v7_34 w_WEEK_MS w_DAY_MS)), .second, .unset, .unset] []))
              refine go (fun t k => X9.ldc2Long hx hown (mvT hZ (hw _ (List.mem_of_getElem? (i := 51) rfl))) (g := (mkF m 277 #[.val (.long q1), .second, .val (.long q2), .second, .val (.long q3), .second, .val (.int p4), .val (.long v7_34), .second, .val (.int (p4 &&& (7 : Int32))), .val (.long (q2 % (8 : Int64))), .second, .val (.long v12_177), .second, .val (.long (q1 + v12_177)), .second, .val (.ref o3), .val (.long (b4_0 (q1 + v12_177) q1 v7_34 w_WEEK_MS w_DAY_MS)), .second, .unset, .unset] [])) rfl (hb hby at_277) _ k) ?_
              show Gl _ _ _ _ _ _ _ _ (T9.setTop (mkF m 280 #[.val (.long q1), .second, .val (.long q2), .second, .val (.long q3), .second, .val (.int p4), .val (.long v7_34), .second, .val (.int (p4 &&& (7 : Int32))), .val (.long (q2 % (8 : Int64))), .second, .val (.long v12_177), .second, .val (.long (q1 + v12_177)), .second, .val (.ref o3), .val (.long (b4_0 (q1 + v12_177) q1 v7_34 w_WEEK_MS w_DAY_MS)), .second, .unset, .unset] [(.long (86400000 : Int64))]))
              refine go (fun t k => XS.lstore X9.here hx rfl (hb hby at_280) rfl (l' := #[.val (.long q1), .second, .val (.long q2), .second, .val (.long q3), .second, .val (.int p4), .val (.long v7_34), .second, .val (.int (p4 &&& (7 : Int32))), .val (.long (q2 % (8 : Int64))), .second, .val (.long v12_177), .second, .val (.long (q1 + v12_177)), .second, .val (.ref o3), .val (.long (b4_0 (q1 + v12_177) q1 v7_34 w_WEEK_MS w_DAY_MS)), .second, .val (.long (86400000 : Int64)), .second]) rfl k) ?_
              show Gl _ _ _ _ _ _ _ _ (T9.setTop (mkF m 282 #[.val (.long q1), .second, .val (.long q2), .second, .val (.long q3), .second, .val (.int p4), .val (.long v7_34), .second, .val (.int (p4 &&& (7 : Int32))), .val (.long (q2 % (8 : Int64))), .second, .val (.long v12_177), .second, .val (.long (q1 + v12_177)), .second, .val (.ref o3), .val (.long (b4_0 (q1 + v12_177) q1 v7_34 w_WEEK_MS w_DAY_MS)), .second, .val (.long (86400000 : Int64)), .second] []))
              refine go (fun t k => XS.goto X9.here hx rfl (pc0 := 282) (pc' := 290) rfl (hb hby at_282) (by decide) (by decide) k) ?_
              show Gl _ _ _ _ _ _ _ _ (T9.setTop (mkF m 290 #[.val (.long q1), .second, .val (.long q2), .second, .val (.long q3), .second, .val (.int p4), .val (.long v7_34), .second, .val (.int (p4 &&& (7 : Int32))), .val (.long (q2 % (8 : Int64))), .second, .val (.long v12_177), .second, .val (.long (q1 + v12_177)), .second, .val (.ref o3), .val (.long (b4_0 (q1 + v12_177) q1 v7_34 w_WEEK_MS w_DAY_MS)), .second, .val (.long (86400000 : Int64)), .second] []))
              exact J290 (86400000 : Int64) T9 _ X9 e9 N9
          · refine go (fun t k => XS.ifNo X9.here hx rfl (hb hby at_254) rfl ((if0 _ _).trans (flt (mt (lw_gt v12_177 (604800000 : Int64)).mp hc254)).2.2.1) k) ?_
            show Gl _ _ _ _ _ _ _ _ (T9.setTop (mkF m 257 #[.val (.long q1), .second, .val (.long q2), .second, .val (.long q3), .second, .val (.int p4), .val (.long v7_34), .second, .val (.int (p4 &&& (7 : Int32))), .val (.long (q2 % (8 : Int64))), .second, .val (.long v12_177), .second, .val (.long (q1 + v12_177)), .second, .val (.ref o3), .val (.long (b4_0 (q1 + v12_177) q1 v7_34 w_WEEK_MS w_DAY_MS)), .second, .unset, .unset] []))
            refine go (fun t k => XS.lload X9.here hx rfl (hb hby at_257) rfl  k) ?_
            show Gl _ _ _ _ _ _ _ _ (T9.setTop (mkF m 259 #[.val (.long q1), .second, .val (.long q2), .second, .val (.long q3), .second, .val (.int p4), .val (.long v7_34), .second, .val (.int (p4 &&& (7 : Int32))), .val (.long (q2 % (8 : Int64))), .second, .val (.long v12_177), .second, .val (.long (q1 + v12_177)), .second, .val (.ref o3), .val (.long (b4_0 (q1 + v12_177) q1 v7_34 w_WEEK_MS w_DAY_MS)), .second, .unset, .unset] [(.long v12_177)]))
            refine go (fun t k => X9.ldc2Long hx hown (mvT hZ (hw _ (List.mem_of_getElem? (i := 1) rfl))) (g := (mkF m 259 #[.val (.long q1), .second, .val (.long q2), .second, .val (.long q3), .second, .val (.int p4), .val (.long v7_34), .second, .val (.int (p4 &&& (7 : Int32))), .val (.long (q2 % (8 : Int64))), .second, .val (.long v12_177), .second, .val (.long (q1 + v12_177)), .second, .val (.ref o3), .val (.long (b4_0 (q1 + v12_177) q1 v7_34 w_WEEK_MS w_DAY_MS)), .second, .unset, .unset] [(.long v12_177)])) rfl (hb hby at_259) _ k) ?_
            show Gl _ _ _ _ _ _ _ _ (T9.setTop (mkF m 262 #[.val (.long q1), .second, .val (.long q2), .second, .val (.long q3), .second, .val (.int p4), .val (.long v7_34), .second, .val (.int (p4 &&& (7 : Int32))), .val (.long (q2 % (8 : Int64))), .second, .val (.long v12_177), .second, .val (.long (q1 + v12_177)), .second, .val (.ref o3), .val (.long (b4_0 (q1 + v12_177) q1 v7_34 w_WEEK_MS w_DAY_MS)), .second, .unset, .unset] [(.long (8 : Int64)), (.long v12_177)]))
            refine go (fun t k => XS.ldiv X9.here hx rfl (hb hby at_262) rfl (by decide) k) ?_
            show Gl _ _ _ _ _ _ _ _ (T9.setTop (mkF m 263 #[.val (.long q1), .second, .val (.long q2), .second, .val (.long q3), .second, .val (.int p4), .val (.long v7_34), .second, .val (.int (p4 &&& (7 : Int32))), .val (.long (q2 % (8 : Int64))), .second, .val (.long v12_177), .second, .val (.long (q1 + v12_177)), .second, .val (.ref o3), .val (.long (b4_0 (q1 + v12_177) q1 v7_34 w_WEEK_MS w_DAY_MS)), .second, .unset, .unset] [(.long (v12_177 / (8 : Int64)))]))
            refine go (fun t k => XS.lstore X9.here hx rfl (hb hby at_263) rfl (l' := #[.val (.long q1), .second, .val (.long q2), .second, .val (.long q3), .second, .val (.int p4), .val (.long v7_34), .second, .val (.int (p4 &&& (7 : Int32))), .val (.long (q2 % (8 : Int64))), .second, .val (.long v12_177), .second, .val (.long (q1 + v12_177)), .second, .val (.ref o3), .val (.long (b4_0 (q1 + v12_177) q1 v7_34 w_WEEK_MS w_DAY_MS)), .second, .val (.long (v12_177 / (8 : Int64))), .second]) rfl k) ?_
            show Gl _ _ _ _ _ _ _ _ (T9.setTop (mkF m 265 #[.val (.long q1), .second, .val (.long q2), .second, .val (.long q3), .second, .val (.int p4), .val (.long v7_34), .second, .val (.int (p4 &&& (7 : Int32))), .val (.long (q2 % (8 : Int64))), .second, .val (.long v12_177), .second, .val (.long (q1 + v12_177)), .second, .val (.ref o3), .val (.long (b4_0 (q1 + v12_177) q1 v7_34 w_WEEK_MS w_DAY_MS)), .second, .val (.long (v12_177 / (8 : Int64))), .second] []))
            refine go (fun t k => XS.goto X9.here hx rfl (pc0 := 265) (pc' := 290) rfl (hb hby at_265) (by decide) (by decide) k) ?_
            show Gl _ _ _ _ _ _ _ _ (T9.setTop (mkF m 290 #[.val (.long q1), .second, .val (.long q2), .second, .val (.long q3), .second, .val (.int p4), .val (.long v7_34), .second, .val (.int (p4 &&& (7 : Int32))), .val (.long (q2 % (8 : Int64))), .second, .val (.long v12_177), .second, .val (.long (q1 + v12_177)), .second, .val (.ref o3), .val (.long (b4_0 (q1 + v12_177) q1 v7_34 w_WEEK_MS w_DAY_MS)), .second, .val (.long (v12_177 / (8 : Int64))), .second] []))
            exact J290 (v12_177 / (8 : Int64)) T9 _ X9 e9 N9
        · refine go (fun t k => XS.ifNo X9.here hx rfl (hb hby at_234) rfl ((if0 _ _).trans (feq hc234).1) k) ?_
          show Gl _ _ _ _ _ _ _ _ (T9.setTop (mkF m 237 #[.val (.long q1), .second, .val (.long q2), .second, .val (.long q3), .second, .val (.int p4), .val (.long v7_34), .second, .val (.int (p4 &&& (7 : Int32))), .val (.long (q2 % (8 : Int64))), .second, .val (.long v12_177), .second, .val (.long (q1 + v12_177)), .second, .val (.ref o3), .val (.long (b4_0 (q1 + v12_177) q1 v7_34 w_WEEK_MS w_DAY_MS)), .second, .unset, .unset] []))
          refine go (fun t k => XS.lload X9.here hx rfl (hb hby at_237) rfl  k) ?_
          show Gl _ _ _ _ _ _ _ _ (T9.setTop (mkF m 239 #[.val (.long q1), .second, .val (.long q2), .second, .val (.long q3), .second, .val (.int p4), .val (.long v7_34), .second, .val (.int (p4 &&& (7 : Int32))), .val (.long (q2 % (8 : Int64))), .second, .val (.long v12_177), .second, .val (.long (q1 + v12_177)), .second, .val (.ref o3), .val (.long (b4_0 (q1 + v12_177) q1 v7_34 w_WEEK_MS w_DAY_MS)), .second, .unset, .unset] [(.long v12_177)]))
          refine go (fun t k => X9.ldc2Long hx hown (mvT hZ (hw _ (List.mem_of_getElem? (i := 31) rfl))) (g := (mkF m 239 #[.val (.long q1), .second, .val (.long q2), .second, .val (.long q3), .second, .val (.int p4), .val (.long v7_34), .second, .val (.int (p4 &&& (7 : Int32))), .val (.long (q2 % (8 : Int64))), .second, .val (.long v12_177), .second, .val (.long (q1 + v12_177)), .second, .val (.ref o3), .val (.long (b4_0 (q1 + v12_177) q1 v7_34 w_WEEK_MS w_DAY_MS)), .second, .unset, .unset] [(.long v12_177)])) rfl (hb hby at_239) _ k) ?_
          show Gl _ _ _ _ _ _ _ _ (T9.setTop (mkF m 242 #[.val (.long q1), .second, .val (.long q2), .second, .val (.long q3), .second, .val (.int p4), .val (.long v7_34), .second, .val (.int (p4 &&& (7 : Int32))), .val (.long (q2 % (8 : Int64))), .second, .val (.long v12_177), .second, .val (.long (q1 + v12_177)), .second, .val (.ref o3), .val (.long (b4_0 (q1 + v12_177) q1 v7_34 w_WEEK_MS w_DAY_MS)), .second, .unset, .unset] [(.long (2 : Int64)), (.long v12_177)]))
          refine go (fun t k => XS.ldiv X9.here hx rfl (hb hby at_242) rfl (by decide) k) ?_
          show Gl _ _ _ _ _ _ _ _ (T9.setTop (mkF m 243 #[.val (.long q1), .second, .val (.long q2), .second, .val (.long q3), .second, .val (.int p4), .val (.long v7_34), .second, .val (.int (p4 &&& (7 : Int32))), .val (.long (q2 % (8 : Int64))), .second, .val (.long v12_177), .second, .val (.long (q1 + v12_177)), .second, .val (.ref o3), .val (.long (b4_0 (q1 + v12_177) q1 v7_34 w_WEEK_MS w_DAY_MS)), .second, .unset, .unset] [(.long (v12_177 / (2 : Int64)))]))
          refine go (fun t k => XS.lstore X9.here hx rfl (hb hby at_243) rfl (l' := #[.val (.long q1), .second, .val (.long q2), .second, .val (.long q3), .second, .val (.int p4), .val (.long v7_34), .second, .val (.int (p4 &&& (7 : Int32))), .val (.long (q2 % (8 : Int64))), .second, .val (.long v12_177), .second, .val (.long (q1 + v12_177)), .second, .val (.ref o3), .val (.long (b4_0 (q1 + v12_177) q1 v7_34 w_WEEK_MS w_DAY_MS)), .second, .val (.long (v12_177 / (2 : Int64))), .second]) rfl k) ?_
          show Gl _ _ _ _ _ _ _ _ (T9.setTop (mkF m 245 #[.val (.long q1), .second, .val (.long q2), .second, .val (.long q3), .second, .val (.int p4), .val (.long v7_34), .second, .val (.int (p4 &&& (7 : Int32))), .val (.long (q2 % (8 : Int64))), .second, .val (.long v12_177), .second, .val (.long (q1 + v12_177)), .second, .val (.ref o3), .val (.long (b4_0 (q1 + v12_177) q1 v7_34 w_WEEK_MS w_DAY_MS)), .second, .val (.long (v12_177 / (2 : Int64))), .second] []))
          refine go (fun t k => XS.goto X9.here hx rfl (pc0 := 245) (pc' := 290) rfl (hb hby at_245) (by decide) (by decide) k) ?_
          show Gl _ _ _ _ _ _ _ _ (T9.setTop (mkF m 290 #[.val (.long q1), .second, .val (.long q2), .second, .val (.long q3), .second, .val (.int p4), .val (.long v7_34), .second, .val (.int (p4 &&& (7 : Int32))), .val (.long (q2 % (8 : Int64))), .second, .val (.long v12_177), .second, .val (.long (q1 + v12_177)), .second, .val (.ref o3), .val (.long (b4_0 (q1 + v12_177) q1 v7_34 w_WEEK_MS w_DAY_MS)), .second, .val (.long (v12_177 / (2 : Int64))), .second] []))
          exact J290 (v12_177 / (2 : Int64)) T9 _ X9 e9 N9
      · refine go (fun t k => XS.ifNo X6.here hx rfl (hb hby at_214) rfl ((if0 _ _).trans (feq hc214).1) k) ?_
        show Gl _ _ _ _ _ _ _ _ (T6.setTop (mkF m 217 #[.val (.long q1), .second, .val (.long q2), .second, .val (.long q3), .second, .val (.int p4), .val (.long v7_34), .second, .val (.int (p4 &&& (7 : Int32))), .val (.long (q2 % (8 : Int64))), .second, .val (.long v12_177), .second, .val (.long (q1 + v12_177)), .second, .val (.ref o3), .val (.long (b4_0 (q1 + v12_177) q1 v7_34 w_WEEK_MS w_DAY_MS)), .second, .unset, .unset] []))
        refine go (fun t k => XS.lload X6.here hx rfl (hb hby at_217) rfl  k) ?_
        show Gl _ _ _ _ _ _ _ _ (T6.setTop (mkF m 219 #[.val (.long q1), .second, .val (.long q2), .second, .val (.long q3), .second, .val (.int p4), .val (.long v7_34), .second, .val (.int (p4 &&& (7 : Int32))), .val (.long (q2 % (8 : Int64))), .second, .val (.long v12_177), .second, .val (.long (q1 + v12_177)), .second, .val (.ref o3), .val (.long (b4_0 (q1 + v12_177) q1 v7_34 w_WEEK_MS w_DAY_MS)), .second, .unset, .unset] [(.long v7_34)]))
        refine go (fun t k => XS.lstore X6.here hx rfl (hb hby at_219) rfl (l' := #[.val (.long q1), .second, .val (.long q2), .second, .val (.long q3), .second, .val (.int p4), .val (.long v7_34), .second, .val (.int (p4 &&& (7 : Int32))), .val (.long (q2 % (8 : Int64))), .second, .val (.long v12_177), .second, .val (.long (q1 + v12_177)), .second, .val (.ref o3), .val (.long (b4_0 (q1 + v12_177) q1 v7_34 w_WEEK_MS w_DAY_MS)), .second, .val (.long v7_34), .second]) rfl k) ?_
        show Gl _ _ _ _ _ _ _ _ (T6.setTop (mkF m 221 #[.val (.long q1), .second, .val (.long q2), .second, .val (.long q3), .second, .val (.int p4), .val (.long v7_34), .second, .val (.int (p4 &&& (7 : Int32))), .val (.long (q2 % (8 : Int64))), .second, .val (.long v12_177), .second, .val (.long (q1 + v12_177)), .second, .val (.ref o3), .val (.long (b4_0 (q1 + v12_177) q1 v7_34 w_WEEK_MS w_DAY_MS)), .second, .val (.long v7_34), .second] []))
        refine go (fun t k => XS.goto X6.here hx rfl (pc0 := 221) (pc' := 290) rfl (hb hby at_221) (by decide) (by decide) k) ?_
        show Gl _ _ _ _ _ _ _ _ (T6.setTop (mkF m 290 #[.val (.long q1), .second, .val (.long q2), .second, .val (.long q3), .second, .val (.int p4), .val (.long v7_34), .second, .val (.int (p4 &&& (7 : Int32))), .val (.long (q2 % (8 : Int64))), .second, .val (.long v12_177), .second, .val (.long (q1 + v12_177)), .second, .val (.ref o3), .val (.long (b4_0 (q1 + v12_177) q1 v7_34 w_WEEK_MS w_DAY_MS)), .second, .val (.long v7_34), .second] []))
        exact J290 v7_34 T6 _ X6 e6 N6
    refine gI (c := (p4 &&& (7 : Int32)) = (0 : Int32)) (fun hc50 => ?_) (fun hc50 => ?_)
    · refine go (fun t k => XS.ifNo XJ34.here hx rfl (hb hby at_50) rfl ((if0 _ _).trans (teq hc50).2) k) ?_
      show Gl _ _ _ _ _ _ _ _ (TJ34.setTop (mkF m 53 #[.val (.long q1), .second, .val (.long q2), .second, .val (.long q3), .second, .val (.int p4), .val (.long v7_34), .second, .val (.int (p4 &&& (7 : Int32))), .val (.long (q2 % (8 : Int64))), .second, .unset, .unset, .unset, .unset, .unset, .unset, .unset, .unset, .unset] []))
      refine go (fun t k => XS.lloadN XJ34.here hx rfl (hb hby at_53) rfl  k) ?_
      show Gl _ _ _ _ _ _ _ _ (TJ34.setTop (mkF m 54 #[.val (.long q1), .second, .val (.long q2), .second, .val (.long q3), .second, .val (.int p4), .val (.long v7_34), .second, .val (.int (p4 &&& (7 : Int32))), .val (.long (q2 % (8 : Int64))), .second, .unset, .unset, .unset, .unset, .unset, .unset, .unset, .unset, .unset] [(.long q2)]))
      refine go (fun t k => XS.lstore XJ34.here hx rfl (hb hby at_54) rfl (l' := #[.val (.long q1), .second, .val (.long q2), .second, .val (.long q3), .second, .val (.int p4), .val (.long v7_34), .second, .val (.int (p4 &&& (7 : Int32))), .val (.long (q2 % (8 : Int64))), .second, .val (.long q2), .second, .unset, .unset, .unset, .unset, .unset, .unset, .unset]) rfl k) ?_
      show Gl _ _ _ _ _ _ _ _ (TJ34.setTop (mkF m 56 #[.val (.long q1), .second, .val (.long q2), .second, .val (.long q3), .second, .val (.int p4), .val (.long v7_34), .second, .val (.int (p4 &&& (7 : Int32))), .val (.long (q2 % (8 : Int64))), .second, .val (.long q2), .second, .unset, .unset, .unset, .unset, .unset, .unset, .unset] []))
      refine go (fun t k => XS.goto XJ34.here hx rfl (pc0 := 56) (pc' := 177) rfl (hb hby at_56) (by decide) (by decide) k) ?_
      show Gl _ _ _ _ _ _ _ _ (TJ34.setTop (mkF m 177 #[.val (.long q1), .second, .val (.long q2), .second, .val (.long q3), .second, .val (.int p4), .val (.long v7_34), .second, .val (.int (p4 &&& (7 : Int32))), .val (.long (q2 % (8 : Int64))), .second, .val (.long q2), .second, .unset, .unset, .unset, .unset, .unset, .unset, .unset] []))
      exact J177 q2 TJ34 _ XJ34 eJ34 NJ34
    · refine go (fun t k => XS.ifYes XJ34.here hx rfl (pc0 := 50) (pc' := 59) rfl (hb hby at_50) rfl ((if0 _ _).trans (feq hc50).2) (by decide) (by decide) k) ?_
      show Gl _ _ _ _ _ _ _ _ (TJ34.setTop (mkF m 59 #[.val (.long q1), .second, .val (.long q2), .second, .val (.long q3), .second, .val (.int p4), .val (.long v7_34), .second, .val (.int (p4 &&& (7 : Int32))), .val (.long (q2 % (8 : Int64))), .second, .unset, .unset, .unset, .unset, .unset, .unset, .unset, .unset, .unset] []))
      refine go (fun t k => XS.iload XJ34.here hx rfl (hb hby at_59) rfl  k) ?_
      show Gl _ _ _ _ _ _ _ _ (TJ34.setTop (mkF m 61 #[.val (.long q1), .second, .val (.long q2), .second, .val (.long q3), .second, .val (.int p4), .val (.long v7_34), .second, .val (.int (p4 &&& (7 : Int32))), .val (.long (q2 % (8 : Int64))), .second, .unset, .unset, .unset, .unset, .unset, .unset, .unset, .unset, .unset] [(.int (p4 &&& (7 : Int32)))]))
      refine go (fun t k => XS.iconst XJ34.here hx rfl (hb hby at_61) k) ?_
      show Gl _ _ _ _ _ _ _ _ (TJ34.setTop (mkF m 62 #[.val (.long q1), .second, .val (.long q2), .second, .val (.long q3), .second, .val (.int p4), .val (.long v7_34), .second, .val (.int (p4 &&& (7 : Int32))), .val (.long (q2 % (8 : Int64))), .second, .unset, .unset, .unset, .unset, .unset, .unset, .unset, .unset, .unset] [(.int (1 : Int32)), (.int (p4 &&& (7 : Int32)))]))
      refine gI (c := (p4 &&& (7 : Int32)) = (1 : Int32)) (fun hc62 => ?_) (fun hc62 => ?_)
      · refine go (fun t k => XS.icmpNo XJ34.here hx rfl (hb hby at_62) rfl (teq hc62).2 k) ?_
        show Gl _ _ _ _ _ _ _ _ (TJ34.setTop (mkF m 65 #[.val (.long q1), .second, .val (.long q2), .second, .val (.long q3), .second, .val (.int p4), .val (.long v7_34), .second, .val (.int (p4 &&& (7 : Int32))), .val (.long (q2 % (8 : Int64))), .second, .unset, .unset, .unset, .unset, .unset, .unset, .unset, .unset, .unset] []))
        refine go (fun t k => XJ34.ldc2Long hx hown (mvT hZ (hw _ (List.mem_of_getElem? (i := 31) rfl))) (g := (mkF m 65 #[.val (.long q1), .second, .val (.long q2), .second, .val (.long q3), .second, .val (.int p4), .val (.long v7_34), .second, .val (.int (p4 &&& (7 : Int32))), .val (.long (q2 % (8 : Int64))), .second, .unset, .unset, .unset, .unset, .unset, .unset, .unset, .unset, .unset] [])) rfl (hb hby at_65) _ k) ?_
        show Gl _ _ _ _ _ _ _ _ (TJ34.setTop (mkF m 68 #[.val (.long q1), .second, .val (.long q2), .second, .val (.long q3), .second, .val (.int p4), .val (.long v7_34), .second, .val (.int (p4 &&& (7 : Int32))), .val (.long (q2 % (8 : Int64))), .second, .unset, .unset, .unset, .unset, .unset, .unset, .unset, .unset, .unset] [(.long (2 : Int64))]))
        refine go (fun t k => XS.lload XJ34.here hx rfl (hb hby at_68) rfl  k) ?_
        show Gl _ _ _ _ _ _ _ _ (TJ34.setTop (mkF m 70 #[.val (.long q1), .second, .val (.long q2), .second, .val (.long q3), .second, .val (.int p4), .val (.long v7_34), .second, .val (.int (p4 &&& (7 : Int32))), .val (.long (q2 % (8 : Int64))), .second, .unset, .unset, .unset, .unset, .unset, .unset, .unset, .unset, .unset] [(.long v7_34), (.long (2 : Int64))]))
        refine go (fun t k => XS.lmul XJ34.here hx rfl (hb hby at_70) rfl k) ?_
        show Gl _ _ _ _ _ _ _ _ (TJ34.setTop (mkF m 71 #[.val (.long q1), .second, .val (.long q2), .second, .val (.long q3), .second, .val (.int p4), .val (.long v7_34), .second, .val (.int (p4 &&& (7 : Int32))), .val (.long (q2 % (8 : Int64))), .second, .unset, .unset, .unset, .unset, .unset, .unset, .unset, .unset, .unset] [(.long ((2 : Int64) * v7_34))]))
        refine go (fun t k => XS.lload XJ34.here hx rfl (hb hby at_71) rfl  k) ?_
        show Gl _ _ _ _ _ _ _ _ (TJ34.setTop (mkF m 73 #[.val (.long q1), .second, .val (.long q2), .second, .val (.long q3), .second, .val (.int p4), .val (.long v7_34), .second, .val (.int (p4 &&& (7 : Int32))), .val (.long (q2 % (8 : Int64))), .second, .unset, .unset, .unset, .unset, .unset, .unset, .unset, .unset, .unset] [(.long (q2 % (8 : Int64))), (.long ((2 : Int64) * v7_34))]))
        refine go (fun t k => XS.ladd XJ34.here hx rfl (hb hby at_73) rfl k) ?_
        show Gl _ _ _ _ _ _ _ _ (TJ34.setTop (mkF m 74 #[.val (.long q1), .second, .val (.long q2), .second, .val (.long q3), .second, .val (.int p4), .val (.long v7_34), .second, .val (.int (p4 &&& (7 : Int32))), .val (.long (q2 % (8 : Int64))), .second, .unset, .unset, .unset, .unset, .unset, .unset, .unset, .unset, .unset] [(.long (((2 : Int64) * v7_34) + (q2 % (8 : Int64))))]))
        refine go (fun t k => XS.lstore XJ34.here hx rfl (hb hby at_74) rfl (l' := #[.val (.long q1), .second, .val (.long q2), .second, .val (.long q3), .second, .val (.int p4), .val (.long v7_34), .second, .val (.int (p4 &&& (7 : Int32))), .val (.long (q2 % (8 : Int64))), .second, .val (.long (((2 : Int64) * v7_34) + (q2 % (8 : Int64)))), .second, .unset, .unset, .unset, .unset, .unset, .unset, .unset]) rfl k) ?_
        show Gl _ _ _ _ _ _ _ _ (TJ34.setTop (mkF m 76 #[.val (.long q1), .second, .val (.long q2), .second, .val (.long q3), .second, .val (.int p4), .val (.long v7_34), .second, .val (.int (p4 &&& (7 : Int32))), .val (.long (q2 % (8 : Int64))), .second, .val (.long (((2 : Int64) * v7_34) + (q2 % (8 : Int64)))), .second, .unset, .unset, .unset, .unset, .unset, .unset, .unset] []))
        refine go (fun t k => XS.goto XJ34.here hx rfl (pc0 := 76) (pc' := 177) rfl (hb hby at_76) (by decide) (by decide) k) ?_
        show Gl _ _ _ _ _ _ _ _ (TJ34.setTop (mkF m 177 #[.val (.long q1), .second, .val (.long q2), .second, .val (.long q3), .second, .val (.int p4), .val (.long v7_34), .second, .val (.int (p4 &&& (7 : Int32))), .val (.long (q2 % (8 : Int64))), .second, .val (.long (((2 : Int64) * v7_34) + (q2 % (8 : Int64)))), .second, .unset, .unset, .unset, .unset, .unset, .unset, .unset] []))
        exact J177 (((2 : Int64) * v7_34) + (q2 % (8 : Int64))) TJ34 _ XJ34 eJ34 NJ34
      · refine go (fun t k => XS.icmpYes XJ34.here hx rfl (pc0 := 62) (pc' := 79) rfl (hb hby at_62) rfl (feq hc62).2 (by decide) (by decide) k) ?_
        show Gl _ _ _ _ _ _ _ _ (TJ34.setTop (mkF m 79 #[.val (.long q1), .second, .val (.long q2), .second, .val (.long q3), .second, .val (.int p4), .val (.long v7_34), .second, .val (.int (p4 &&& (7 : Int32))), .val (.long (q2 % (8 : Int64))), .second, .unset, .unset, .unset, .unset, .unset, .unset, .unset, .unset, .unset] []))
        refine go (fun t k => XS.iload XJ34.here hx rfl (hb hby at_79) rfl  k) ?_
        show Gl _ _ _ _ _ _ _ _ (TJ34.setTop (mkF m 81 #[.val (.long q1), .second, .val (.long q2), .second, .val (.long q3), .second, .val (.int p4), .val (.long v7_34), .second, .val (.int (p4 &&& (7 : Int32))), .val (.long (q2 % (8 : Int64))), .second, .unset, .unset, .unset, .unset, .unset, .unset, .unset, .unset, .unset] [(.int (p4 &&& (7 : Int32)))]))
        refine go (fun t k => XS.iconst XJ34.here hx rfl (hb hby at_81) k) ?_
        show Gl _ _ _ _ _ _ _ _ (TJ34.setTop (mkF m 82 #[.val (.long q1), .second, .val (.long q2), .second, .val (.long q3), .second, .val (.int p4), .val (.long v7_34), .second, .val (.int (p4 &&& (7 : Int32))), .val (.long (q2 % (8 : Int64))), .second, .unset, .unset, .unset, .unset, .unset, .unset, .unset, .unset, .unset] [(.int (2 : Int32)), (.int (p4 &&& (7 : Int32)))]))
        refine gI (c := (p4 &&& (7 : Int32)) = (2 : Int32)) (fun hc82 => ?_) (fun hc82 => ?_)
        · refine go (fun t k => XS.icmpNo XJ34.here hx rfl (hb hby at_82) rfl (teq hc82).2 k) ?_
          show Gl _ _ _ _ _ _ _ _ (TJ34.setTop (mkF m 85 #[.val (.long q1), .second, .val (.long q2), .second, .val (.long q3), .second, .val (.int p4), .val (.long v7_34), .second, .val (.int (p4 &&& (7 : Int32))), .val (.long (q2 % (8 : Int64))), .second, .unset, .unset, .unset, .unset, .unset, .unset, .unset, .unset, .unset] []))
          refine go (fun t k => XJ34.ldc2Long hx hown (mvT hZ (hw _ (List.mem_of_getElem? (i := 1) rfl))) (g := (mkF m 85 #[.val (.long q1), .second, .val (.long q2), .second, .val (.long q3), .second, .val (.int p4), .val (.long v7_34), .second, .val (.int (p4 &&& (7 : Int32))), .val (.long (q2 % (8 : Int64))), .second, .unset, .unset, .unset, .unset, .unset, .unset, .unset, .unset, .unset] [])) rfl (hb hby at_85) _ k) ?_
          show Gl _ _ _ _ _ _ _ _ (TJ34.setTop (mkF m 88 #[.val (.long q1), .second, .val (.long q2), .second, .val (.long q3), .second, .val (.int p4), .val (.long v7_34), .second, .val (.int (p4 &&& (7 : Int32))), .val (.long (q2 % (8 : Int64))), .second, .unset, .unset, .unset, .unset, .unset, .unset, .unset, .unset, .unset] [(.long (8 : Int64))]))
          refine go (fun t k => XS.lload XJ34.here hx rfl (hb hby at_88) rfl  k) ?_
          show Gl _ _ _ _ _ _ _ _ (TJ34.setTop (mkF m 90 #[.val (.long q1), .second, .val (.long q2), .second, .val (.long q3), .second, .val (.int p4), .val (.long v7_34), .second, .val (.int (p4 &&& (7 : Int32))), .val (.long (q2 % (8 : Int64))), .second, .unset, .unset, .unset, .unset, .unset, .unset, .unset, .unset, .unset] [(.long v7_34), (.long (8 : Int64))]))
          refine go (fun t k => XS.lmul XJ34.here hx rfl (hb hby at_90) rfl k) ?_
          show Gl _ _ _ _ _ _ _ _ (TJ34.setTop (mkF m 91 #[.val (.long q1), .second, .val (.long q2), .second, .val (.long q3), .second, .val (.int p4), .val (.long v7_34), .second, .val (.int (p4 &&& (7 : Int32))), .val (.long (q2 % (8 : Int64))), .second, .unset, .unset, .unset, .unset, .unset, .unset, .unset, .unset, .unset] [(.long ((8 : Int64) * v7_34))]))
          refine go (fun t k => XS.lload XJ34.here hx rfl (hb hby at_91) rfl  k) ?_
          show Gl _ _ _ _ _ _ _ _ (TJ34.setTop (mkF m 93 #[.val (.long q1), .second, .val (.long q2), .second, .val (.long q3), .second, .val (.int p4), .val (.long v7_34), .second, .val (.int (p4 &&& (7 : Int32))), .val (.long (q2 % (8 : Int64))), .second, .unset, .unset, .unset, .unset, .unset, .unset, .unset, .unset, .unset] [(.long (q2 % (8 : Int64))), (.long ((8 : Int64) * v7_34))]))
          refine go (fun t k => XS.ladd XJ34.here hx rfl (hb hby at_93) rfl k) ?_
          show Gl _ _ _ _ _ _ _ _ (TJ34.setTop (mkF m 94 #[.val (.long q1), .second, .val (.long q2), .second, .val (.long q3), .second, .val (.int p4), .val (.long v7_34), .second, .val (.int (p4 &&& (7 : Int32))), .val (.long (q2 % (8 : Int64))), .second, .unset, .unset, .unset, .unset, .unset, .unset, .unset, .unset, .unset] [(.long (((8 : Int64) * v7_34) + (q2 % (8 : Int64))))]))
          refine go (fun t k => XS.lstore XJ34.here hx rfl (hb hby at_94) rfl (l' := #[.val (.long q1), .second, .val (.long q2), .second, .val (.long q3), .second, .val (.int p4), .val (.long v7_34), .second, .val (.int (p4 &&& (7 : Int32))), .val (.long (q2 % (8 : Int64))), .second, .val (.long (((8 : Int64) * v7_34) + (q2 % (8 : Int64)))), .second, .unset, .unset, .unset, .unset, .unset, .unset, .unset]) rfl k) ?_
          show Gl _ _ _ _ _ _ _ _ (TJ34.setTop (mkF m 96 #[.val (.long q1), .second, .val (.long q2), .second, .val (.long q3), .second, .val (.int p4), .val (.long v7_34), .second, .val (.int (p4 &&& (7 : Int32))), .val (.long (q2 % (8 : Int64))), .second, .val (.long (((8 : Int64) * v7_34) + (q2 % (8 : Int64)))), .second, .unset, .unset, .unset, .unset, .unset, .unset, .unset] []))
          refine go (fun t k => XS.goto XJ34.here hx rfl (pc0 := 96) (pc' := 177) rfl (hb hby at_96) (by decide) (by decide) k) ?_
          show Gl _ _ _ _ _ _ _ _ (TJ34.setTop (mkF m 177 #[.val (.long q1), .second, .val (.long q2), .second, .val (.long q3), .second, .val (.int p4), .val (.long v7_34), .second, .val (.int (p4 &&& (7 : Int32))), .val (.long (q2 % (8 : Int64))), .second, .val (.long (((8 : Int64) * v7_34) + (q2 % (8 : Int64)))), .second, .unset, .unset, .unset, .unset, .unset, .unset, .unset] []))
          exact J177 (((8 : Int64) * v7_34) + (q2 % (8 : Int64))) TJ34 _ XJ34 eJ34 NJ34
        · refine go (fun t k => XS.icmpYes XJ34.here hx rfl (pc0 := 82) (pc' := 99) rfl (hb hby at_82) rfl (feq hc82).2 (by decide) (by decide) k) ?_
          show Gl _ _ _ _ _ _ _ _ (TJ34.setTop (mkF m 99 #[.val (.long q1), .second, .val (.long q2), .second, .val (.long q3), .second, .val (.int p4), .val (.long v7_34), .second, .val (.int (p4 &&& (7 : Int32))), .val (.long (q2 % (8 : Int64))), .second, .unset, .unset, .unset, .unset, .unset, .unset, .unset, .unset, .unset] []))
          refine go (fun t k => XS.iload XJ34.here hx rfl (hb hby at_99) rfl  k) ?_
          show Gl _ _ _ _ _ _ _ _ (TJ34.setTop (mkF m 101 #[.val (.long q1), .second, .val (.long q2), .second, .val (.long q3), .second, .val (.int p4), .val (.long v7_34), .second, .val (.int (p4 &&& (7 : Int32))), .val (.long (q2 % (8 : Int64))), .second, .unset, .unset, .unset, .unset, .unset, .unset, .unset, .unset, .unset] [(.int (p4 &&& (7 : Int32)))]))
          refine go (fun t k => XS.iconst XJ34.here hx rfl (hb hby at_101) k) ?_
          show Gl _ _ _ _ _ _ _ _ (TJ34.setTop (mkF m 102 #[.val (.long q1), .second, .val (.long q2), .second, .val (.long q3), .second, .val (.int p4), .val (.long v7_34), .second, .val (.int (p4 &&& (7 : Int32))), .val (.long (q2 % (8 : Int64))), .second, .unset, .unset, .unset, .unset, .unset, .unset, .unset, .unset, .unset] [(.int (3 : Int32)), (.int (p4 &&& (7 : Int32)))]))
          refine gI (c := (p4 &&& (7 : Int32)) = (3 : Int32)) (fun hc102 => ?_) (fun hc102 => ?_)
          · refine go (fun t k => XS.icmpNo XJ34.here hx rfl (hb hby at_102) rfl (teq hc102).2 k) ?_
            show Gl _ _ _ _ _ _ _ _ (TJ34.setTop (mkF m 105 #[.val (.long q1), .second, .val (.long q2), .second, .val (.long q3), .second, .val (.int p4), .val (.long v7_34), .second, .val (.int (p4 &&& (7 : Int32))), .val (.long (q2 % (8 : Int64))), .second, .unset, .unset, .unset, .unset, .unset, .unset, .unset, .unset, .unset] []))
            refine go (fun t k => XJ34.ldc2Long hx hown (mvT hZ (hw _ (List.mem_of_getElem? (i := 36) rfl))) (g := (mkF m 105 #[.val (.long q1), .second, .val (.long q2), .second, .val (.long q3), .second, .val (.int p4), .val (.long v7_34), .second, .val (.int (p4 &&& (7 : Int32))), .val (.long (q2 % (8 : Int64))), .second, .unset, .unset, .unset, .unset, .unset, .unset, .unset, .unset, .unset] [])) rfl (hb hby at_105) _ k) ?_
            show Gl _ _ _ _ _ _ _ _ (TJ34.setTop (mkF m 108 #[.val (.long q1), .second, .val (.long q2), .second, .val (.long q3), .second, .val (.int p4), .val (.long v7_34), .second, .val (.int (p4 &&& (7 : Int32))), .val (.long (q2 % (8 : Int64))), .second, .unset, .unset, .unset, .unset, .unset, .unset, .unset, .unset, .unset] [(.long (604800000 : Int64))]))
            refine go (fun t k => XS.lload XJ34.here hx rfl (hb hby at_108) rfl  k) ?_
            show Gl _ _ _ _ _ _ _ _ (TJ34.setTop (mkF m 110 #[.val (.long q1), .second, .val (.long q2), .second, .val (.long q3), .second, .val (.int p4), .val (.long v7_34), .second, .val (.int (p4 &&& (7 : Int32))), .val (.long (q2 % (8 : Int64))), .second, .unset, .unset, .unset, .unset, .unset, .unset, .unset, .unset, .unset] [(.long (q2 % (8 : Int64))), (.long (604800000 : Int64))]))
            refine go (fun t k => XS.ladd XJ34.here hx rfl (hb hby at_110) rfl k) ?_
            show Gl _ _ _ _ _ _ _ _ (TJ34.setTop (mkF m 111 #[.val (.long q1), .second, .val (.long q2), .second, .val (.long q3), .second, .val (.int p4), .val (.long v7_34), .second, .val (.int (p4 &&& (7 : Int32))), .val (.long (q2 % (8 : Int64))), .second, .unset, .unset, .unset, .unset, .unset, .unset, .unset, .unset, .unset] [(.long ((604800000 : Int64) + (q2 % (8 : Int64))))]))
            refine go (fun t k => XS.lstore XJ34.here hx rfl (hb hby at_111) rfl (l' := #[.val (.long q1), .second, .val (.long q2), .second, .val (.long q3), .second, .val (.int p4), .val (.long v7_34), .second, .val (.int (p4 &&& (7 : Int32))), .val (.long (q2 % (8 : Int64))), .second, .val (.long ((604800000 : Int64) + (q2 % (8 : Int64)))), .second, .unset, .unset, .unset, .unset, .unset, .unset, .unset]) rfl k) ?_
            show Gl _ _ _ _ _ _ _ _ (TJ34.setTop (mkF m 113 #[.val (.long q1), .second, .val (.long q2), .second, .val (.long q3), .second, .val (.int p4), .val (.long v7_34), .second, .val (.int (p4 &&& (7 : Int32))), .val (.long (q2 % (8 : Int64))), .second, .val (.long ((604800000 : Int64) + (q2 % (8 : Int64)))), .second, .unset, .unset, .unset, .unset, .unset, .unset, .unset] []))
            refine go (fun t k => XS.goto XJ34.here hx rfl (pc0 := 113) (pc' := 177) rfl (hb hby at_113) (by decide) (by decide) k) ?_
            show Gl _ _ _ _ _ _ _ _ (TJ34.setTop (mkF m 177 #[.val (.long q1), .second, .val (.long q2), .second, .val (.long q3), .second, .val (.int p4), .val (.long v7_34), .second, .val (.int (p4 &&& (7 : Int32))), .val (.long (q2 % (8 : Int64))), .second, .val (.long ((604800000 : Int64) + (q2 % (8 : Int64)))), .second, .unset, .unset, .unset, .unset, .unset, .unset, .unset] []))
            exact J177 ((604800000 : Int64) + (q2 % (8 : Int64))) TJ34 _ XJ34 eJ34 NJ34
          · refine go (fun t k => XS.icmpYes XJ34.here hx rfl (pc0 := 102) (pc' := 116) rfl (hb hby at_102) rfl (feq hc102).2 (by decide) (by decide) k) ?_
            show Gl _ _ _ _ _ _ _ _ (TJ34.setTop (mkF m 116 #[.val (.long q1), .second, .val (.long q2), .second, .val (.long q3), .second, .val (.int p4), .val (.long v7_34), .second, .val (.int (p4 &&& (7 : Int32))), .val (.long (q2 % (8 : Int64))), .second, .unset, .unset, .unset, .unset, .unset, .unset, .unset, .unset, .unset] []))
            refine go (fun t k => XS.iload XJ34.here hx rfl (hb hby at_116) rfl  k) ?_
            show Gl _ _ _ _ _ _ _ _ (TJ34.setTop (mkF m 118 #[.val (.long q1), .second, .val (.long q2), .second, .val (.long q3), .second, .val (.int p4), .val (.long v7_34), .second, .val (.int (p4 &&& (7 : Int32))), .val (.long (q2 % (8 : Int64))), .second, .unset, .unset, .unset, .unset, .unset, .unset, .unset, .unset, .unset] [(.int (p4 &&& (7 : Int32)))]))
            refine go (fun t k => XS.iconst XJ34.here hx rfl (hb hby at_118) k) ?_
            show Gl _ _ _ _ _ _ _ _ (TJ34.setTop (mkF m 119 #[.val (.long q1), .second, .val (.long q2), .second, .val (.long q3), .second, .val (.int p4), .val (.long v7_34), .second, .val (.int (p4 &&& (7 : Int32))), .val (.long (q2 % (8 : Int64))), .second, .unset, .unset, .unset, .unset, .unset, .unset, .unset, .unset, .unset] [(.int (4 : Int32)), (.int (p4 &&& (7 : Int32)))]))
            refine gI (c := (p4 &&& (7 : Int32)) = (4 : Int32)) (fun hc119 => ?_) (fun hc119 => ?_)
            · refine go (fun t k => XS.icmpNo XJ34.here hx rfl (hb hby at_119) rfl (teq hc119).2 k) ?_
              show Gl _ _ _ _ _ _ _ _ (TJ34.setTop (mkF m 122 #[.val (.long q1), .second, .val (.long q2), .second, .val (.long q3), .second, .val (.int p4), .val (.long v7_34), .second, .val (.int (p4 &&& (7 : Int32))), .val (.long (q2 % (8 : Int64))), .second, .unset, .unset, .unset, .unset, .unset, .unset, .unset, .unset, .unset] []))
              refine go (fun t k => XJ34.ldc2Long hx hown (mvT hZ (hw _ (List.mem_of_getElem? (i := 41) rfl))) (g := (mkF m 122 #[.val (.long q1), .second, .val (.long q2), .second, .val (.long q3), .second, .val (.int p4), .val (.long v7_34), .second, .val (.int (p4 &&& (7 : Int32))), .val (.long (q2 % (8 : Int64))), .second, .unset, .unset, .unset, .unset, .unset, .unset, .unset, .unset, .unset] [])) rfl (hb hby at_122) _ k) ?_
              show Gl _ _ _ _ _ _ _ _ (TJ34.setTop (mkF m 125 #[.val (.long q1), .second, .val (.long q2), .second, .val (.long q3), .second, .val (.int p4), .val (.long v7_34), .second, .val (.int (p4 &&& (7 : Int32))), .val (.long (q2 % (8 : Int64))), .second, .unset, .unset, .unset, .unset, .unset, .unset, .unset, .unset, .unset] [(.long (1209600000 : Int64))]))
              refine go (fun t k => XS.lload XJ34.here hx rfl (hb hby at_125) rfl  k) ?_
              show Gl _ _ _ _ _ _ _ _ (TJ34.setTop (mkF m 127 #[.val (.long q1), .second, .val (.long q2), .second, .val (.long q3), .second, .val (.int p4), .val (.long v7_34), .second, .val (.int (p4 &&& (7 : Int32))), .val (.long (q2 % (8 : Int64))), .second, .unset, .unset, .unset, .unset, .unset, .unset, .unset, .unset, .unset] [(.long (q2 % (8 : Int64))), (.long (1209600000 : Int64))]))
              refine go (fun t k => XS.ladd XJ34.here hx rfl (hb hby at_127) rfl k) ?_
              show Gl _ _ _ _ _ _ _ _ (TJ34.setTop (mkF m 128 #[.val (.long q1), .second, .val (.long q2), .second, .val (.long q3), .second, .val (.int p4), .val (.long v7_34), .second, .val (.int (p4 &&& (7 : Int32))), .val (.long (q2 % (8 : Int64))), .second, .unset, .unset, .unset, .unset, .unset, .unset, .unset, .unset, .unset] [(.long ((1209600000 : Int64) + (q2 % (8 : Int64))))]))
              refine go (fun t k => XS.lstore XJ34.here hx rfl (hb hby at_128) rfl (l' := #[.val (.long q1), .second, .val (.long q2), .second, .val (.long q3), .second, .val (.int p4), .val (.long v7_34), .second, .val (.int (p4 &&& (7 : Int32))), .val (.long (q2 % (8 : Int64))), .second, .val (.long ((1209600000 : Int64) + (q2 % (8 : Int64)))), .second, .unset, .unset, .unset, .unset, .unset, .unset, .unset]) rfl k) ?_
              show Gl _ _ _ _ _ _ _ _ (TJ34.setTop (mkF m 130 #[.val (.long q1), .second, .val (.long q2), .second, .val (.long q3), .second, .val (.int p4), .val (.long v7_34), .second, .val (.int (p4 &&& (7 : Int32))), .val (.long (q2 % (8 : Int64))), .second, .val (.long ((1209600000 : Int64) + (q2 % (8 : Int64)))), .second, .unset, .unset, .unset, .unset, .unset, .unset, .unset] []))
              refine go (fun t k => XS.goto XJ34.here hx rfl (pc0 := 130) (pc' := 177) rfl (hb hby at_130) (by decide) (by decide) k) ?_
              show Gl _ _ _ _ _ _ _ _ (TJ34.setTop (mkF m 177 #[.val (.long q1), .second, .val (.long q2), .second, .val (.long q3), .second, .val (.int p4), .val (.long v7_34), .second, .val (.int (p4 &&& (7 : Int32))), .val (.long (q2 % (8 : Int64))), .second, .val (.long ((1209600000 : Int64) + (q2 % (8 : Int64)))), .second, .unset, .unset, .unset, .unset, .unset, .unset, .unset] []))
              exact J177 ((1209600000 : Int64) + (q2 % (8 : Int64))) TJ34 _ XJ34 eJ34 NJ34
            · refine go (fun t k => XS.icmpYes XJ34.here hx rfl (pc0 := 119) (pc' := 133) rfl (hb hby at_119) rfl (feq hc119).2 (by decide) (by decide) k) ?_
              show Gl _ _ _ _ _ _ _ _ (TJ34.setTop (mkF m 133 #[.val (.long q1), .second, .val (.long q2), .second, .val (.long q3), .second, .val (.int p4), .val (.long v7_34), .second, .val (.int (p4 &&& (7 : Int32))), .val (.long (q2 % (8 : Int64))), .second, .unset, .unset, .unset, .unset, .unset, .unset, .unset, .unset, .unset] []))
              refine go (fun t k => XS.iload XJ34.here hx rfl (hb hby at_133) rfl  k) ?_
              show Gl _ _ _ _ _ _ _ _ (TJ34.setTop (mkF m 135 #[.val (.long q1), .second, .val (.long q2), .second, .val (.long q3), .second, .val (.int p4), .val (.long v7_34), .second, .val (.int (p4 &&& (7 : Int32))), .val (.long (q2 % (8 : Int64))), .second, .unset, .unset, .unset, .unset, .unset, .unset, .unset, .unset, .unset] [(.int (p4 &&& (7 : Int32)))]))
              refine go (fun t k => XS.iconst XJ34.here hx rfl (hb hby at_135) k) ?_
              show Gl _ _ _ _ _ _ _ _ (TJ34.setTop (mkF m 136 #[.val (.long q1), .second, .val (.long q2), .second, .val (.long q3), .second, .val (.int p4), .val (.long v7_34), .second, .val (.int (p4 &&& (7 : Int32))), .val (.long (q2 % (8 : Int64))), .second, .unset, .unset, .unset, .unset, .unset, .unset, .unset, .unset, .unset] [(.int (5 : Int32)), (.int (p4 &&& (7 : Int32)))]))
              refine gI (c := (p4 &&& (7 : Int32)) = (5 : Int32)) (fun hc136 => ?_) (fun hc136 => ?_)
              · refine go (fun t k => XS.icmpNo XJ34.here hx rfl (hb hby at_136) rfl (teq hc136).2 k) ?_
                show Gl _ _ _ _ _ _ _ _ (TJ34.setTop (mkF m 139 #[.val (.long q1), .second, .val (.long q2), .second, .val (.long q3), .second, .val (.int p4), .val (.long v7_34), .second, .val (.int (p4 &&& (7 : Int32))), .val (.long (q2 % (8 : Int64))), .second, .unset, .unset, .unset, .unset, .unset, .unset, .unset, .unset, .unset] []))
                refine go (fun t k => XS.lloadN XJ34.here hx rfl (hb hby at_139) rfl  k) ?_
                show Gl _ _ _ _ _ _ _ _ (TJ34.setTop (mkF m 140 #[.val (.long q1), .second, .val (.long q2), .second, .val (.long q3), .second, .val (.int p4), .val (.long v7_34), .second, .val (.int (p4 &&& (7 : Int32))), .val (.long (q2 % (8 : Int64))), .second, .unset, .unset, .unset, .unset, .unset, .unset, .unset, .unset, .unset] [(.long q2)]))
                refine go (fun t k => XJ34.ldc2Long hx hown (mvT hZ (hw _ (List.mem_of_getElem? (i := 50) rfl))) (g := (mkF m 140 #[.val (.long q1), .second, .val (.long q2), .second, .val (.long q3), .second, .val (.int p4), .val (.long v7_34), .second, .val (.int (p4 &&& (7 : Int32))), .val (.long (q2 % (8 : Int64))), .second, .unset, .unset, .unset, .unset, .unset, .unset, .unset, .unset, .unset] [(.long q2)])) rfl (hb hby at_140) _ k) ?_
                show Gl _ _ _ _ _ _ _ _ (TJ34.setTop (mkF m 143 #[.val (.long q1), .second, .val (.long q2), .second, .val (.long q3), .second, .val (.int p4), .val (.long v7_34), .second, .val (.int (p4 &&& (7 : Int32))), .val (.long (q2 % (8 : Int64))), .second, .unset, .unset, .unset, .unset, .unset, .unset, .unset, .unset, .unset] [(.long (68719476735 : Int64)), (.long q2)]))
                refine go (fun t k => XS.land XJ34.here hx rfl (hb hby at_143) rfl k) ?_
                show Gl _ _ _ _ _ _ _ _ (TJ34.setTop (mkF m 144 #[.val (.long q1), .second, .val (.long q2), .second, .val (.long q3), .second, .val (.int p4), .val (.long v7_34), .second, .val (.int (p4 &&& (7 : Int32))), .val (.long (q2 % (8 : Int64))), .second, .unset, .unset, .unset, .unset, .unset, .unset, .unset, .unset, .unset] [(.long (q2 &&& (68719476735 : Int64)))]))
                refine go (fun t k => XS.lstore XJ34.here hx rfl (hb hby at_144) rfl (l' := #[.val (.long q1), .second, .val (.long q2), .second, .val (.long q3), .second, .val (.int p4), .val (.long v7_34), .second, .val (.int (p4 &&& (7 : Int32))), .val (.long (q2 % (8 : Int64))), .second, .val (.long (q2 &&& (68719476735 : Int64))), .second, .unset, .unset, .unset, .unset, .unset, .unset, .unset]) rfl k) ?_
                show Gl _ _ _ _ _ _ _ _ (TJ34.setTop (mkF m 146 #[.val (.long q1), .second, .val (.long q2), .second, .val (.long q3), .second, .val (.int p4), .val (.long v7_34), .second, .val (.int (p4 &&& (7 : Int32))), .val (.long (q2 % (8 : Int64))), .second, .val (.long (q2 &&& (68719476735 : Int64))), .second, .unset, .unset, .unset, .unset, .unset, .unset, .unset] []))
                refine go (fun t k => XS.goto XJ34.here hx rfl (pc0 := 146) (pc' := 177) rfl (hb hby at_146) (by decide) (by decide) k) ?_
                show Gl _ _ _ _ _ _ _ _ (TJ34.setTop (mkF m 177 #[.val (.long q1), .second, .val (.long q2), .second, .val (.long q3), .second, .val (.int p4), .val (.long v7_34), .second, .val (.int (p4 &&& (7 : Int32))), .val (.long (q2 % (8 : Int64))), .second, .val (.long (q2 &&& (68719476735 : Int64))), .second, .unset, .unset, .unset, .unset, .unset, .unset, .unset] []))
                exact J177 (q2 &&& (68719476735 : Int64)) TJ34 _ XJ34 eJ34 NJ34
              · refine go (fun t k => XS.icmpYes XJ34.here hx rfl (pc0 := 136) (pc' := 149) rfl (hb hby at_136) rfl (feq hc136).2 (by decide) (by decide) k) ?_
                show Gl _ _ _ _ _ _ _ _ (TJ34.setTop (mkF m 149 #[.val (.long q1), .second, .val (.long q2), .second, .val (.long q3), .second, .val (.int p4), .val (.long v7_34), .second, .val (.int (p4 &&& (7 : Int32))), .val (.long (q2 % (8 : Int64))), .second, .unset, .unset, .unset, .unset, .unset, .unset, .unset, .unset, .unset] []))
                refine go (fun t k => XS.iload XJ34.here hx rfl (hb hby at_149) rfl  k) ?_
                show Gl _ _ _ _ _ _ _ _ (TJ34.setTop (mkF m 151 #[.val (.long q1), .second, .val (.long q2), .second, .val (.long q3), .second, .val (.int p4), .val (.long v7_34), .second, .val (.int (p4 &&& (7 : Int32))), .val (.long (q2 % (8 : Int64))), .second, .unset, .unset, .unset, .unset, .unset, .unset, .unset, .unset, .unset] [(.int (p4 &&& (7 : Int32)))]))
                refine go (fun t k => XS.bipush XJ34.here hx rfl (hb hby at_151) k) ?_
                show Gl _ _ _ _ _ _ _ _ (TJ34.setTop (mkF m 153 #[.val (.long q1), .second, .val (.long q2), .second, .val (.long q3), .second, .val (.int p4), .val (.long v7_34), .second, .val (.int (p4 &&& (7 : Int32))), .val (.long (q2 % (8 : Int64))), .second, .unset, .unset, .unset, .unset, .unset, .unset, .unset, .unset, .unset] [(.int (6 : Int32)), (.int (p4 &&& (7 : Int32)))]))
                refine gI (c := (p4 &&& (7 : Int32)) = (6 : Int32)) (fun hc153 => ?_) (fun hc153 => ?_)
                · refine go (fun t k => XS.icmpNo XJ34.here hx rfl (hb hby at_153) rfl (teq hc153).2 k) ?_
                  show Gl _ _ _ _ _ _ _ _ (TJ34.setTop (mkF m 156 #[.val (.long q1), .second, .val (.long q2), .second, .val (.long q3), .second, .val (.int p4), .val (.long v7_34), .second, .val (.int (p4 &&& (7 : Int32))), .val (.long (q2 % (8 : Int64))), .second, .unset, .unset, .unset, .unset, .unset, .unset, .unset, .unset, .unset] []))
                  refine go (fun t k => XS.lloadN XJ34.here hx rfl (hb hby at_156) rfl  k) ?_
                  show Gl _ _ _ _ _ _ _ _ (TJ34.setTop (mkF m 157 #[.val (.long q1), .second, .val (.long q2), .second, .val (.long q3), .second, .val (.int p4), .val (.long v7_34), .second, .val (.int (p4 &&& (7 : Int32))), .val (.long (q2 % (8 : Int64))), .second, .unset, .unset, .unset, .unset, .unset, .unset, .unset, .unset, .unset] [(.long q2)]))
                  refine go (fun t k => XJ34.ldc2Long hx hown (mvT hZ (hw _ (List.mem_of_getElem? (i := 44) rfl))) (g := (mkF m 157 #[.val (.long q1), .second, .val (.long q2), .second, .val (.long q3), .second, .val (.int p4), .val (.long v7_34), .second, .val (.int (p4 &&& (7 : Int32))), .val (.long (q2 % (8 : Int64))), .second, .unset, .unset, .unset, .unset, .unset, .unset, .unset, .unset, .unset] [(.long q2)])) rfl (hb hby at_157) _ k) ?_
                  show Gl _ _ _ _ _ _ _ _ (TJ34.setTop (mkF m 160 #[.val (.long q1), .second, .val (.long q2), .second, .val (.long q3), .second, .val (.int p4), .val (.long v7_34), .second, .val (.int (p4 &&& (7 : Int32))), .val (.long (q2 % (8 : Int64))), .second, .unset, .unset, .unset, .unset, .unset, .unset, .unset, .unset, .unset] [(.long (19353600000 : Int64)), (.long q2)]))
                  refine go (fun t k => lremM XJ34 hx rfl (hb hby at_160) rfl (by decide) k) ?_
                  show Gl _ _ _ _ _ _ _ _ (TJ34.setTop (mkF m 161 #[.val (.long q1), .second, .val (.long q2), .second, .val (.long q3), .second, .val (.int p4), .val (.long v7_34), .second, .val (.int (p4 &&& (7 : Int32))), .val (.long (q2 % (8 : Int64))), .second, .unset, .unset, .unset, .unset, .unset, .unset, .unset, .unset, .unset] [(.long (q2 % (19353600000 : Int64)))]))
                  refine go (fun t k => XS.lstore XJ34.here hx rfl (hb hby at_161) rfl (l' := #[.val (.long q1), .second, .val (.long q2), .second, .val (.long q3), .second, .val (.int p4), .val (.long v7_34), .second, .val (.int (p4 &&& (7 : Int32))), .val (.long (q2 % (8 : Int64))), .second, .val (.long (q2 % (19353600000 : Int64))), .second, .unset, .unset, .unset, .unset, .unset, .unset, .unset]) rfl k) ?_
                  show Gl _ _ _ _ _ _ _ _ (TJ34.setTop (mkF m 163 #[.val (.long q1), .second, .val (.long q2), .second, .val (.long q3), .second, .val (.int p4), .val (.long v7_34), .second, .val (.int (p4 &&& (7 : Int32))), .val (.long (q2 % (8 : Int64))), .second, .val (.long (q2 % (19353600000 : Int64))), .second, .unset, .unset, .unset, .unset, .unset, .unset, .unset] []))
                  refine go (fun t k => XS.goto XJ34.here hx rfl (pc0 := 163) (pc' := 177) rfl (hb hby at_163) (by decide) (by decide) k) ?_
                  show Gl _ _ _ _ _ _ _ _ (TJ34.setTop (mkF m 177 #[.val (.long q1), .second, .val (.long q2), .second, .val (.long q3), .second, .val (.int p4), .val (.long v7_34), .second, .val (.int (p4 &&& (7 : Int32))), .val (.long (q2 % (8 : Int64))), .second, .val (.long (q2 % (19353600000 : Int64))), .second, .unset, .unset, .unset, .unset, .unset, .unset, .unset] []))
                  exact J177 (q2 % (19353600000 : Int64)) TJ34 _ XJ34 eJ34 NJ34
                · refine go (fun t k => XS.icmpYes XJ34.here hx rfl (pc0 := 153) (pc' := 166) rfl (hb hby at_153) rfl (feq hc153).2 (by decide) (by decide) k) ?_
                  show Gl _ _ _ _ _ _ _ _ (TJ34.setTop (mkF m 166 #[.val (.long q1), .second, .val (.long q2), .second, .val (.long q3), .second, .val (.int p4), .val (.long v7_34), .second, .val (.int (p4 &&& (7 : Int32))), .val (.long (q2 % (8 : Int64))), .second, .unset, .unset, .unset, .unset, .unset, .unset, .unset, .unset, .unset] []))
                  refine go (fun t k => XJ34.ldc2Long hx hown (mvT hZ (hw _ (List.mem_of_getElem? (i := 43) rfl))) (g := (mkF m 166 #[.val (.long q1), .second, .val (.long q2), .second, .val (.long q3), .second, .val (.int p4), .val (.long v7_34), .second, .val (.int (p4 &&& (7 : Int32))), .val (.long (q2 % (8 : Int64))), .second, .unset, .unset, .unset, .unset, .unset, .unset, .unset, .unset, .unset] [])) rfl (hb hby at_166) _ k) ?_
                  show Gl _ _ _ _ _ _ _ _ (TJ34.setTop (mkF m 169 #[.val (.long q1), .second, .val (.long q2), .second, .val (.long q3), .second, .val (.int p4), .val (.long v7_34), .second, .val (.int (p4 &&& (7 : Int32))), .val (.long (q2 % (8 : Int64))), .second, .unset, .unset, .unset, .unset, .unset, .unset, .unset, .unset, .unset] [(.long (4 : Int64))]))
                  refine go (fun t k => XS.lload XJ34.here hx rfl (hb hby at_169) rfl  k) ?_
                  show Gl _ _ _ _ _ _ _ _ (TJ34.setTop (mkF m 171 #[.val (.long q1), .second, .val (.long q2), .second, .val (.long q3), .second, .val (.int p4), .val (.long v7_34), .second, .val (.int (p4 &&& (7 : Int32))), .val (.long (q2 % (8 : Int64))), .second, .unset, .unset, .unset, .unset, .unset, .unset, .unset, .unset, .unset] [(.long v7_34), (.long (4 : Int64))]))
                  refine go (fun t k => XS.lmul XJ34.here hx rfl (hb hby at_171) rfl k) ?_
                  show Gl _ _ _ _ _ _ _ _ (TJ34.setTop (mkF m 172 #[.val (.long q1), .second, .val (.long q2), .second, .val (.long q3), .second, .val (.int p4), .val (.long v7_34), .second, .val (.int (p4 &&& (7 : Int32))), .val (.long (q2 % (8 : Int64))), .second, .unset, .unset, .unset, .unset, .unset, .unset, .unset, .unset, .unset] [(.long ((4 : Int64) * v7_34))]))
                  refine go (fun t k => XS.lload XJ34.here hx rfl (hb hby at_172) rfl  k) ?_
                  show Gl _ _ _ _ _ _ _ _ (TJ34.setTop (mkF m 174 #[.val (.long q1), .second, .val (.long q2), .second, .val (.long q3), .second, .val (.int p4), .val (.long v7_34), .second, .val (.int (p4 &&& (7 : Int32))), .val (.long (q2 % (8 : Int64))), .second, .unset, .unset, .unset, .unset, .unset, .unset, .unset, .unset, .unset] [(.long (q2 % (8 : Int64))), (.long ((4 : Int64) * v7_34))]))
                  refine go (fun t k => XS.ladd XJ34.here hx rfl (hb hby at_174) rfl k) ?_
                  show Gl _ _ _ _ _ _ _ _ (TJ34.setTop (mkF m 175 #[.val (.long q1), .second, .val (.long q2), .second, .val (.long q3), .second, .val (.int p4), .val (.long v7_34), .second, .val (.int (p4 &&& (7 : Int32))), .val (.long (q2 % (8 : Int64))), .second, .unset, .unset, .unset, .unset, .unset, .unset, .unset, .unset, .unset] [(.long (((4 : Int64) * v7_34) + (q2 % (8 : Int64))))]))
                  refine go (fun t k => XS.lstore XJ34.here hx rfl (hb hby at_175) rfl (l' := #[.val (.long q1), .second, .val (.long q2), .second, .val (.long q3), .second, .val (.int p4), .val (.long v7_34), .second, .val (.int (p4 &&& (7 : Int32))), .val (.long (q2 % (8 : Int64))), .second, .val (.long (((4 : Int64) * v7_34) + (q2 % (8 : Int64)))), .second, .unset, .unset, .unset, .unset, .unset, .unset, .unset]) rfl k) ?_
                  show Gl _ _ _ _ _ _ _ _ (TJ34.setTop (mkF m 177 #[.val (.long q1), .second, .val (.long q2), .second, .val (.long q3), .second, .val (.int p4), .val (.long v7_34), .second, .val (.int (p4 &&& (7 : Int32))), .val (.long (q2 % (8 : Int64))), .second, .val (.long (((4 : Int64) * v7_34) + (q2 % (8 : Int64)))), .second, .unset, .unset, .unset, .unset, .unset, .unset, .unset] []))
                  exact J177 (((4 : Int64) * v7_34) + (q2 % (8 : Int64))) TJ34 _ XJ34 eJ34 NJ34
  refine gI (c := ((p4 >>> ((3 : Int32) &&& 31)) &&& (1 : Int32)) = (0 : Int32)) (fun hc6 => ?_) (fun hc6 => ?_)
  · refine go (fun t k => XS.ifYes X0.here hx rfl (pc0 := 6) (pc' := 24) rfl (hb hby at_6) rfl ((if0 _ _).trans (teq hc6).1) (by decide) (by decide) k) ?_
    show Gl _ _ _ _ _ _ _ _ (s₁.setTop (mkF m 24 #[.val (.long q1), .second, .val (.long q2), .second, .val (.long q3), .second, .val (.int p4), .unset, .unset, .unset, .unset, .unset, .unset, .unset, .unset, .unset, .unset, .unset, .unset, .unset, .unset] []))
    refine go (fun t k => XS.lload X0.here hx rfl (hb hby at_24) rfl  k) ?_
    show Gl _ _ _ _ _ _ _ _ (s₁.setTop (mkF m 26 #[.val (.long q1), .second, .val (.long q2), .second, .val (.long q3), .second, .val (.int p4), .unset, .unset, .unset, .unset, .unset, .unset, .unset, .unset, .unset, .unset, .unset, .unset, .unset, .unset] [(.long q3)]))
    refine go (fun t k => X0.ldc2Long hx hown (mvT hZ (hw _ (List.mem_of_getElem? (i := 0) rfl))) (g := (mkF m 26 #[.val (.long q1), .second, .val (.long q2), .second, .val (.long q3), .second, .val (.int p4), .unset, .unset, .unset, .unset, .unset, .unset, .unset, .unset, .unset, .unset, .unset, .unset, .unset, .unset] [(.long q3)])) rfl (hb hby at_26) _ k) ?_
    show Gl _ _ _ _ _ _ _ _ (s₁.setTop (mkF m 29 #[.val (.long q1), .second, .val (.long q2), .second, .val (.long q3), .second, .val (.int p4), .unset, .unset, .unset, .unset, .unset, .unset, .unset, .unset, .unset, .unset, .unset, .unset, .unset, .unset] [(.long (1048575 : Int64)), (.long q3)]))
    refine go (fun t k => XS.land X0.here hx rfl (hb hby at_29) rfl k) ?_
    show Gl _ _ _ _ _ _ _ _ (s₁.setTop (mkF m 30 #[.val (.long q1), .second, .val (.long q2), .second, .val (.long q3), .second, .val (.int p4), .unset, .unset, .unset, .unset, .unset, .unset, .unset, .unset, .unset, .unset, .unset, .unset, .unset, .unset] [(.long (q3 &&& (1048575 : Int64)))]))
    refine go (fun t k => XS.lconst X0.here hx rfl (hb hby at_30) k) ?_
    show Gl _ _ _ _ _ _ _ _ (s₁.setTop (mkF m 31 #[.val (.long q1), .second, .val (.long q2), .second, .val (.long q3), .second, .val (.int p4), .unset, .unset, .unset, .unset, .unset, .unset, .unset, .unset, .unset, .unset, .unset, .unset, .unset, .unset] [(.long (1 : Int64)), (.long (q3 &&& (1048575 : Int64)))]))
    refine go (fun t k => XS.ladd X0.here hx rfl (hb hby at_31) rfl k) ?_
    show Gl _ _ _ _ _ _ _ _ (s₁.setTop (mkF m 32 #[.val (.long q1), .second, .val (.long q2), .second, .val (.long q3), .second, .val (.int p4), .unset, .unset, .unset, .unset, .unset, .unset, .unset, .unset, .unset, .unset, .unset, .unset, .unset, .unset] [(.long ((q3 &&& (1048575 : Int64)) + (1 : Int64)))]))
    refine go (fun t k => XS.lstore X0.here hx rfl (hb hby at_32) rfl (l' := #[.val (.long q1), .second, .val (.long q2), .second, .val (.long q3), .second, .val (.int p4), .val (.long ((q3 &&& (1048575 : Int64)) + (1 : Int64))), .second, .unset, .unset, .unset, .unset, .unset, .unset, .unset, .unset, .unset, .unset, .unset, .unset]) rfl k) ?_
    show Gl _ _ _ _ _ _ _ _ (s₁.setTop (mkF m 34 #[.val (.long q1), .second, .val (.long q2), .second, .val (.long q3), .second, .val (.int p4), .val (.long ((q3 &&& (1048575 : Int64)) + (1 : Int64))), .second, .unset, .unset, .unset, .unset, .unset, .unset, .unset, .unset, .unset, .unset, .unset, .unset] []))
    exact J34 ((q3 &&& (1048575 : Int64)) + (1 : Int64)) s₁ _ X0 e0 N0
  · refine go (fun t k => XS.ifNo X0.here hx rfl (hb hby at_6) rfl ((if0 _ _).trans (feq hc6).1) k) ?_
    show Gl _ _ _ _ _ _ _ _ (s₁.setTop (mkF m 9 #[.val (.long q1), .second, .val (.long q2), .second, .val (.long q3), .second, .val (.int p4), .unset, .unset, .unset, .unset, .unset, .unset, .unset, .unset, .unset, .unset, .unset, .unset, .unset, .unset] []))
    refine go (fun t k => XS.lconst X0.here hx rfl (hb hby at_9) k) ?_
    show Gl _ _ _ _ _ _ _ _ (s₁.setTop (mkF m 10 #[.val (.long q1), .second, .val (.long q2), .second, .val (.long q3), .second, .val (.int p4), .unset, .unset, .unset, .unset, .unset, .unset, .unset, .unset, .unset, .unset, .unset, .unset, .unset, .unset] [(.long (1 : Int64))]))
    refine go (fun t k => XS.lload X0.here hx rfl (hb hby at_10) rfl  k) ?_
    show Gl _ _ _ _ _ _ _ _ (s₁.setTop (mkF m 12 #[.val (.long q1), .second, .val (.long q2), .second, .val (.long q3), .second, .val (.int p4), .unset, .unset, .unset, .unset, .unset, .unset, .unset, .unset, .unset, .unset, .unset, .unset, .unset, .unset] [(.long q3), (.long (1 : Int64))]))
    refine go (fun t k => X0.ldc2Long hx hown (mvT hZ (hw _ (List.mem_of_getElem? (i := 45) rfl))) (g := (mkF m 12 #[.val (.long q1), .second, .val (.long q2), .second, .val (.long q3), .second, .val (.int p4), .unset, .unset, .unset, .unset, .unset, .unset, .unset, .unset, .unset, .unset, .unset, .unset, .unset, .unset] [(.long q3), (.long (1 : Int64))])) rfl (hb hby at_12) _ k) ?_
    show Gl _ _ _ _ _ _ _ _ (s₁.setTop (mkF m 15 #[.val (.long q1), .second, .val (.long q2), .second, .val (.long q3), .second, .val (.int p4), .unset, .unset, .unset, .unset, .unset, .unset, .unset, .unset, .unset, .unset, .unset, .unset, .unset, .unset] [(.long (9223372036854775807 : Int64)), (.long q3), (.long (1 : Int64))]))
    refine go (fun t k => XS.land X0.here hx rfl (hb hby at_15) rfl k) ?_
    show Gl _ _ _ _ _ _ _ _ (s₁.setTop (mkF m 16 #[.val (.long q1), .second, .val (.long q2), .second, .val (.long q3), .second, .val (.int p4), .unset, .unset, .unset, .unset, .unset, .unset, .unset, .unset, .unset, .unset, .unset, .unset, .unset, .unset] [(.long (q3 &&& (9223372036854775807 : Int64))), (.long (1 : Int64))]))
    obtain ⟨_, _, ⟨T10, L10, k10, n10⟩, -, X10, ⟨Lc10, hQ10, l10, y10, z10⟩, st10⟩ := Jvm.LawKit.callS X0 hx (y := (⟨"java/lang/Math", "max", "(JJ)J"⟩ : MethodName)) hown (mvT hZ (hw _ (List.mem_of_getElem? (i := 46) rfl))) (mvT hZ (hw _ (List.mem_of_getElem? (i := 47) rfl))) (mvT hZ (hw _ (List.mem_of_getElem? (i := 48) rfl))) (mvT hZ (hw _ (List.mem_of_getElem? (i := 49) rfl))) (by decide) (backOf (W := 0) (rm7 l Z a0 hw [] (1 : Int64) (q3 &&& (9223372036854775807 : Int64)) h0 n0 Z0 ) hZ (hw _ (List.mem_of_getElem? (i := 49) rfl)) (hw _ (List.mem_of_getElem? (i := 48) rfl)) (by decide) (by decide)) (g := (mkF m 16 #[.val (.long q1), .second, .val (.long q2), .second, .val (.long q3), .second, .val (.int p4), .unset, .unset, .unset, .unset, .unset, .unset, .unset, .unset, .unset, .unset, .unset, .unset, .unset, .unset] [(.long (q3 &&& (9223372036854775807 : Int64))), (.long (1 : Int64))])) rfl (by rw [hml]; rfl) (argsL := [(.long (1 : Int64)), (.long (q3 &&& (9223372036854775807 : Int64)))]) (rest := []) (lenOf pd_3 rfl) rfl (by show 2 * 0 + _ ≤ _; exact Nat.le_of_eq rfl) (hb hby at_16) (fun _ _ => ⟨rfl, e0, (by decide : 0 + 0 ≤ _), (by decide : 0 + 0 ≤ _)⟩)
    dsimp only [Pt.U, Pt.locs, Pt.cells, Pt.slots] at X10 l10 y10 z10 st10 hQ10
    subst l10 y10 z10
    have X10 : Stand p l e room_1 s m #[(.long q1), (.long q2), (.long q3), (.int p4)] below meth c T10 _ 0 0 := X10
    obtain ⟨⟨rfl, e10'⟩, N10q⟩ := hQ10
    have e10 : T10.heap = h0 := e10'
    have N10 := Fr.app N0 N10q
    refine go (fun t k => st10 _ k) ?_
    show Gl _ _ _ _ _ _ _ _ (T10.setTop (mkF m 19 #[.val (.long q1), .second, .val (.long q2), .second, .val (.long q3), .second, .val (.int p4), .unset, .unset, .unset, .unset, .unset, .unset, .unset, .unset, .unset, .unset, .unset, .unset, .unset, .unset] [(.long (b7_0 (1 : Int64) (q3 &&& (9223372036854775807 : Int64))))]))
    refine go (fun t k => XS.lstore X10.here hx rfl (hb hby at_19) rfl (l' := #[.val (.long q1), .second, .val (.long q2), .second, .val (.long q3), .second, .val (.int p4), .val (.long (b7_0 (1 : Int64) (q3 &&& (9223372036854775807 : Int64)))), .second, .unset, .unset, .unset, .unset, .unset, .unset, .unset, .unset, .unset, .unset, .unset, .unset]) rfl k) ?_
    show Gl _ _ _ _ _ _ _ _ (T10.setTop (mkF m 21 #[.val (.long q1), .second, .val (.long q2), .second, .val (.long q3), .second, .val (.int p4), .val (.long (b7_0 (1 : Int64) (q3 &&& (9223372036854775807 : Int64)))), .second, .unset, .unset, .unset, .unset, .unset, .unset, .unset, .unset, .unset, .unset, .unset, .unset] []))
    refine go (fun t k => XS.goto X10.here hx rfl (pc0 := 21) (pc' := 34) rfl (hb hby at_21) (by decide) (by decide) k) ?_
    show Gl _ _ _ _ _ _ _ _ (T10.setTop (mkF m 34 #[.val (.long q1), .second, .val (.long q2), .second, .val (.long q3), .second, .val (.int p4), .val (.long (b7_0 (1 : Int64) (q3 &&& (9223372036854775807 : Int64)))), .second, .unset, .unset, .unset, .unset, .unset, .unset, .unset, .unset, .unset, .unset, .unset, .unset] []))
    exact J34 (b7_0 (1 : Int64) (q3 &&& (9223372036854775807 : Int64))) T10 _ X10 e10 N10
theorem own_div (n : Int64) (k : Int) (hk : n.toInt = k) (h1 : 1 ≤ k) (h2 : k ≤ 8) (x : Int64) : (x / n).toInt = x.toInt.tdiv k := by
  rw [Jvm.Kit.i64_div (by rw [hk]; omega), hk]
theorem own_at (n m : Int64) (k : Int) (hk : n.toInt = k) (h1 : k = 2 ∨ k = 8) (r L : Int64) (hr : 1 ≤ r.toInt) : b6_0 L n r = if k * r.toInt < L.toInt then 0 else 1 := by
  have m0 : b6_40 0 = 0 := rfl
  have m1 : b6_40 1 = 1 := rfl
  have z1 : nar .boolean (1 : Int32) = 1 := rfl
  have d := own_div n k hk (by omega) (by omega) L
  have hL := L.toInt_lt
  have hrl := r.toInt_lt
  have e2 : (L % n).toInt = L.toInt.tmod k := by
    rw [show (L % n).toInt = L.toInt.tmod n.toInt from Int64.toInt_mod L n, hk]
  unfold b6_0 b6_27
  simp only [m0, m1, z1]
  by_cases c0 : (0 : Int64) < L
  · rw [if_pos c0]
    have c0' : 0 < L.toInt := by simpa only [Int64.lt_iff_toInt_lt, Int64.reduceToInt] using c0
    rw [Int.tdiv_eq_ediv_of_nonneg (by omega)] at d
    rw [Int.tmod_eq_emod_of_nonneg (by omega)] at e2
    have q0 : (L % n = 0) ↔ L.toInt % k = 0 := by rw [← Int64.toInt_inj, e2]; rfl
    have e3 : (L / n + 1).toInt = L.toInt / k + 1 := by
      rw [Jvm.Kit.i64_add (by rw [d]; simp only [Int64.reduceToInt]; rcases h1 with rfl | rfl <;> omega) (by rw [d]; simp only [Int64.reduceToInt]; rcases h1 with rfl | rfl <;> omega), d]; rfl
    by_cases c1 : L % n = 0
    · rw [if_pos c1]
      have c1' := q0.mp c1
      simp only [Int64.lt_iff_toInt_lt, d]
      rcases h1 with rfl | rfl <;> (repeat' split) <;> first | rfl | (exfalso; omega)
    · rw [if_neg c1]
      have c1' := mt q0.mpr c1
      simp only [Int64.lt_iff_toInt_lt, e3]
      rcases h1 with rfl | rfl <;> (repeat' split) <;> first | rfl | (exfalso; omega)
  · rw [if_neg c0]
    have c0' : ¬ 0 < L.toInt := by simpa only [Int64.lt_iff_toInt_lt, Int64.reduceToInt] using c0
    rw [if_neg (by rcases h1 with rfl | rfl <;> omega)]
theorem own_rtts (n : Int32) (k : Int) (hk : n.toInt = k) (h1 : k = 2 ∨ k = 8) (r L : Int64) (hr : 1 ≤ r.toInt) : (b5_0 n r < L) ↔ k * r.toInt < L.toInt := by
  have hL := L.toInt_lt
  have hk' : n.toInt64.toInt = k := by rw [Jvm.Kit.i64_of_i32, hk]
  have d := own_div n.toInt64 k hk' (by omega) (by omega) 9223372036854775807
  rw [show (9223372036854775807 : Int64).toInt = 9223372036854775807 from rfl, Int.tdiv_eq_ediv_of_nonneg (by omega)] at d
  have m0 : ∀ s, b5_27 s = s := fun _ => rfl
  unfold b5_0
  simp only [m0]
  by_cases c : ((9223372036854775807 : Int64) / n.toInt64) < r
  · rw [if_pos c]
    rw [Int64.lt_iff_toInt_lt, d] at c
    rw [Int64.lt_iff_toInt_lt, show (9223372036854775807 : Int64).toInt = 9223372036854775807 from rfl]
    rcases h1 with rfl | rfl <;> omega
  · rw [if_neg c]
    rw [Int64.lt_iff_toInt_lt, d] at c
    have e : (r * n.toInt64).toInt = r.toInt * k := by
      rw [Jvm.Kit.i64_mul (by rw [hk']; rcases h1 with rfl | rfl <;> omega) (by rw [hk']; rcases h1 with rfl | rfl <;> omega), hk']
    rw [Int64.lt_iff_toInt_lt, e]
    rcases h1 with rfl | rfl <;> omega
theorem own_main (q r L : Int64) (hr : 1 ≤ r.toInt) : b0_177 q 604800000 86400000 r L = 1 := by
  have e : q + L - q = L := by rw [Int64.add_comm, Int64.add_sub_cancel]
  have a2 := own_rtts 2 2 rfl (Or.inl rfl) r L hr
  have a8 := own_rtts 8 8 rfl (Or.inr rfl) r L hr
  have c2 := own_at 2 0 2 rfl (Or.inl rfl) r L hr
  have c8 := own_at 8 0 8 rfl (Or.inr rfl) r L hr
  have k1 : (2 : Int64) * 604800000 = 1209600000 := by decide
  have k2 : (3 : Int64) * 86400000 = 259200000 := by decide
  have k0 : b0_306 1 = 1 := rfl
  have z10 : ¬ ((1 : Int32) = 0) := by decide
  have m0 : ∀ a s, b4_98 a s = a - s := fun _ _ => rfl
  unfold b0_177 b0_290 b4_0
  simp only [e, a2, a8, c2, c8, k1, k2, k0, m0]
  by_cases h2 : 2 * r.toInt < L.toInt
  · simp only [h2, if_true]
    by_cases h8 : 8 * r.toInt < L.toInt
    · simp only [h8, if_true]
      by_cases h3 : (604800000 : Int64) < L
      · simp only [h3, if_true]
        by_cases h4 : (1209600000 : Int64) < L
        · simp only [h4, if_true]
        · simp only [h4, if_false, if_true]
      · simp only [h3, if_false, if_true]
    · simp only [h8, z10, if_false, if_true]
  · simp only [h2, z10, if_false, if_true]
theorem law_eq (q1 q2 q3 : Int64) (p4 : Int32) : b0_0 q1 q2 q3 p4 604800000 86400000 = 1 := by
  have h : ∀ r : Int64, 1 ≤ r.toInt → b0_34 q1 q2 p4 604800000 86400000 r = 1 := by
    intro r hr
    unfold b0_34
    (repeat' split) <;> exact own_main _ _ _ hr
  unfold b0_0
  split
  · have e := Jvm.Kit.i64_mask q3 1048575 (k := 20) (by decide) (by decide)
    refine h _ ?_
    rw [Jvm.Kit.i64_add (by rw [e]; simp only [Int64.reduceToInt]; omega) (by rw [e]; simp only [Int64.reduceToInt]; omega), e]; simp only [Int64.reduceToInt]; omega
  · refine h _ ?_
    unfold b7_0 b7_11
    split
    · rename_i c
      rw [Int64.lt_iff_toInt_lt] at c
      simp only [Int64.reduceToInt] at c; omega
    · decide
set_option maxRecDepth 65536 in
set_option maxHeartbeats 40000000 in
theorem comes_1 {Post : Tables → Env → Array Value → State → Outcome → State → Prop} (hpost : ∀ tb e args s v u, (limb_1_1.after args s (.returned v) u = true ∧ limb_1_2.after args s (.returned v) u = true ∧ True) → FrameEnd s (.returned v) u (Jvm.fieldLocs frame_1_writes args s ++ Jvm.arrayLocs frame_1_arrays args s ++ Jvm.staticLocs frame_1_statics s) 16 128 → Post tb e args s (.returned v) u) :
    ArmFor flags0 classFile x code maxLocals ret World_1 tables_1 room_1 Calls_1 rest_1 Pre_1 Post := by
  intro l hfl _ _ p e ha hc hk s m args below hf hA hF happ hP
  obtain ⟨hcalls, hrest, hpre⟩ := hP
  obtain ⟨-, -, -, hnamed, -, -, -, hat⟩ := (Spec.applies_iff hf).mp happ
  obtain ⟨hg, hn⟩ := and_e (Cond.before_iff.mp (show (Jvm.Cond.and given_1 narrow_1).before args s = true from hpre))
  obtain ⟨g1, g2⟩ := and_e hg
  obtain ⟨g3, g4⟩ := and_e g2
  obtain ⟨g5, g6⟩ := and_e g4
  obtain ⟨g7, g8⟩ := and_e g6
  obtain ⟨w0, w1, w2, w3, rfl⟩ : ∃ w0 w1 w2 w3 : Value, args = #[w0, w1, w2, w3] := by
    have hs : args.size = 4 := by simpa [Cond.value, given_1] using g1
    obtain ⟨L⟩ := args
    match L, hs with
    | [w0, w1, w2, w3], _ => exact ⟨w0, w1, w2, w3, rfl⟩
  have hw := fun d (hd : d ∈ tables_1) => atoms_spec (ws := Jvm.Cond.code x code maxLocals ret :: tables_1) hat d (List.mem_cons_of_mem _ hd)
  have hfit : Fit s := fun {y c} hc i hi => by
    obtain ⟨ha, rfl⟩ := Array.getElem?_eq_some_iff.mp hc
    have q := List.all_eq_true.mp ((Array.all_eq_true_iff_forall_mem.mp hF) _ (Array.getElem_mem ha)) i (List.mem_range.mpr hi)
    simpa [Array.getElem?_eq_getElem hi] using q
  obtain ⟨i0, ei0⟩ := isL_v g3
  obtain rfl : w0 = (.long i0) := Option.some.inj ei0
  obtain ⟨i1, ei1⟩ := isL_v g5
  obtain rfl : w1 = (.long i1) := Option.some.inj ei1
  obtain ⟨i2, ei2⟩ := isL_v g7
  obtain rfl : w2 = (.long i2) := Option.some.inj ei2
  obtain ⟨i3, ei3⟩ := is_v g8
  obtain rfl : w3 = (.int i3) := Option.some.inj ei3
  obtain ⟨na, nb⟩ := and_e hn
  have S_WEEK_MS : Sta s s.heap "com/example/leasehold/client/RenewalManager$Schedule" "WEEK_MS" "J" (.long 604800000) := Sta.start (eqL_v na) (Or.inr ⟨(hw _ (List.mem_of_getElem? (i := 4) rfl)), (hw _ (List.mem_of_getElem? (i := 29) rfl))⟩)
  have S_DAY_MS : Sta s s.heap "com/example/leasehold/client/RenewalManager$Schedule" "DAY_MS" "J" (.long 86400000) := Sta.start (eqL_v nb) (Or.inr ⟨(hw _ (List.mem_of_getElem? (i := 4) rfl)), (hw _ (List.mem_of_getElem? (i := 40) rfl))⟩)
  obtain ⟨n, o, h1, h2, h3, _, L, rfl, ⟨⟨hv, -⟩, N⟩, hq⟩ := rm0 l s _ hw tables_1 i0 i1 i2 i3 604800000 86400000 s.heap s.heap.size (Nat.le_refl _) S_WEEK_MS S_DAY_MS p e ha hc hk s m _ below hf ((Spec.applies_iff_loose hf).mp happ).1 ⟨rfl, State.Warmed39.refl s, rfl⟩ trivial
  rw [law_eq] at hv
  subst hv
  refine ⟨n, _, h1, h2, h3, hpost _ _ _ _ _ _ ⟨Cond.after_iff.mpr rfl, Cond.after_iff.mpr (eq_i res_at (Term.int_eval (1)) rfl), trivial⟩ ⟨hq.1, hq.2.1, (hq.2.2.sift fun y hy => Or.inr (N y hy)).mono (by decide) (by decide)⟩⟩
theorem main_1_1 : Claimed_1_1 := comes_1 fun _ _ _ _ _ _ h hF => ⟨h.1, hF⟩
theorem main_1_2 : Claimed_1_2 := comes_1 fun _ _ _ _ _ _ h hF => ⟨h.2.1, hF⟩
end Jvm.Pilot.@@N@@
namespace Jvm.Pilot.@@N@@
open Jvm Jvm.ClassFile Sem Op Lib Jvm.Free Jvm.Stand Jvm.Pilot.@@N@@.Jvm.D
/-! MADE BY PROGRAM (witnessworld.py) out of the Statement's table words and the real class files: 11 classes; the members and pool entries that the words name. The judged class is class 1, her method 2. -/
namespace start1
open Jvm.ClassFile
def u (s : String) : CpInfo := .utf8 (stringToUtf16 s)
/-- a pool by its gaps: so many unusable entries, then the entry; so many at the end -/
def gap : Nat → List CpInfo → List CpInfo
  | 0, r => r
  | n + 1, r => .unusable :: gap n r
def poolList (es : List (Nat × CpInfo)) (last : Nat) : List CpInfo := es.foldr (fun e r => gap e.1 (e.2 :: r)) (gap last [])
def pool (es : List (Nat × CpInfo)) (last : Nat) : Array CpInfo := ⟨poolList es last⟩
def fileOf (pool : Array CpInfo) (this : Nat) (attrs : Array Attribute := #[]) (ms : Array MethodInfo := #[]) (fl : Nat := 33) (sup : Nat := 0) (ifs : Array Nat := #[]) (fds : Array FieldInfo := #[]) : ClassFile where
  minorVersion := 0
  majorVersion := 65
  constantPool := pool
  accessFlags := fl
  thisClass := this
  superClass := sup
  interfaces := ifs
  fields := fds
  methods := ms
  attributes := attrs
def plain (name : String) (sup : Option ClassId) : Class where
  name := name
  kind := .ordinary
  loader := none
  accessFlags := 33
  super := sup
  interfaces := #[]
  cf := none
  fields := #[]
  methods := #[]
  instanceTypes := #[]
  staticTypes := #[]
  resolved := #[]
  callSites := []
  init := .initialized
  statics := none
  mirror := none

def pool0 : Array CpInfo := pool [(5, u "<init>"), (0, u "()V"), (1, .class_ 10), (1, u "java/lang/Object")] 113

def k0c0 : Code := { maxStack := 0, maxLocals := 1, code := object_method_1_code, exceptionTable := #[], attributes := #[] }
def k0m0 : Method := { name := "<init>", desc := "()V", sig := { parameters := [], returnType := none }, accessFlags := 1, code := some k0c0 }
/-- java/lang/Object -/
def k0 : Class := { plain "java/lang/Object" none with
  accessFlags := 33
  interfaces := #[]
  cf := some (fileOf pool0 8 #[] #[{ accessFlags := 1, nameIndex := 5, descriptorIndex := 6, attributes := #[] }] 33 0 #[] #[])
  fields := #[]
  methods := #[k0m0]
  instanceTypes := #[]
  staticTypes := #[]
  resolved := Array.replicate 124 none
  statics := none }

def pool1 : Array CpInfo := pool [(2, .class_ 4), (1, u "java/lang/Object"), (0, u "<init>"), (0, u "()V"), (2, .long 9223372036854775807), (1, .methodref 12 13), (0, .class_ 14), (0, .nameAndType 15 16), (0, u "java/lang/Math"), (0, u "max"), (0, u "(JJ)J"), (0, .long 1048575), (1, .long 8), (1, .long 2), (1, .long 604800000), (1, .long 1209600000), (1, .long 68719476735), (1, .long 19353600000), (1, .long 4), (1, .class_ 34), (0, u "com/example/leasehold/client/RenewalManager$Schedule"), (0, .methodref 33 36), (0, .nameAndType 5 37), (0, u "(J)V"), (0, .methodref 33 39), (0, .nameAndType 40 16), (0, u "renewalTime"), (0, .methodref 42 43), (0, .class_ 44), (0, .nameAndType 45 46), (0, u "com/example/leasehold/client/ScheduleRenewalTimePinLaw"), (0, u "atMostTimes"), (0, u "(JJJ)Z"), (0, .long 86400000), (1, .long 259200000), (4, u "law"), (0, u "(JJJI)Z")] 6

def k1m0 : Method := { name := "<init>", desc := "()V", sig := { parameters := [], returnType := none }, accessFlags := 2, code := none }
def k1c1 : Code := { maxStack := 4, maxLocals := 8, code := method_2_code, exceptionTable := #[], attributes := #[] }
def k1m1 : Method := { name := "atMostTimes", desc := "(JJJ)Z", sig := { parameters := [.long, .long, .long], returnType := some .boolean }, accessFlags := 10, code := some k1c1 }
def k1c2 : Code := { maxStack := 6, maxLocals := 21, code := code, exceptionTable := #[], attributes := #[] }
def k1m2 : Method := { name := "law", desc := "(JJJI)Z", sig := { parameters := [.long, .long, .long, .int], returnType := some .boolean }, accessFlags := 9, code := some k1c2 }
/-- com/example/leasehold/client/ScheduleRenewalTimePinLaw -/
def k1 : Class := { plain "com/example/leasehold/client/ScheduleRenewalTimePinLaw" (some 0) with
  accessFlags := 49
  interfaces := #[]
  cf := some (fileOf pool1 42 #[] #[{ accessFlags := 2, nameIndex := 5, descriptorIndex := 6, attributes := #[] }, { accessFlags := 10, nameIndex := 45, descriptorIndex := 46, attributes := #[] }, { accessFlags := 9, nameIndex := 54, descriptorIndex := 55, attributes := #[] }] 49 2 #[] #[])
  fields := #[]
  methods := #[k1m0, k1m1, k1m2]
  instanceTypes := #[]
  staticTypes := #[]
  resolved := Array.replicate 62 none
  statics := none }

def pool2 : Array CpInfo := pool [(1, .methodref 2 3), (0, .class_ 4), (0, .nameAndType 5 6), (0, u "java/lang/Object"), (0, u "<init>"), (0, u "()V"), (0, .class_ 8), (0, u "java/lang/Record")] 13

def k2c0 : Code := { maxStack := 1, maxLocals := 1, code := jdk_30_method_1_code, exceptionTable := #[], attributes := #[] }
def k2m0 : Method := { name := "<init>", desc := "()V", sig := { parameters := [], returnType := none }, accessFlags := 4, code := some k2c0 }
/-- java/lang/Record -/
def k2 : Class := { plain "java/lang/Record" (some 0) with
  accessFlags := 1057
  interfaces := #[]
  cf := some (fileOf pool2 7 #[] #[{ accessFlags := 4, nameIndex := 5, descriptorIndex := 6, attributes := #[] }] 1057 2 #[] #[])
  fields := #[]
  methods := #[k2m0]
  instanceTypes := #[]
  staticTypes := #[]
  resolved := Array.replicate 22 none
  statics := none }

def pool3 : Array CpInfo := pool [(1, .methodref 2 3), (0, .class_ 4), (0, .nameAndType 5 6), (0, u "java/lang/Record"), (0, u "<init>"), (0, u "()V"), (0, .fieldref 8 9), (0, .class_ 10), (0, .nameAndType 11 12), (0, u "com/example/leasehold/client/RenewalManager$Schedule"), (0, u "rttMs"), (0, u "J"), (0, .methodref 8 14), (0, .nameAndType 15 16), (0, u "rtts"), (0, u "(I)J"), (0, .long 2), (1, .fieldref 8 20), (0, .nameAndType 21 12), (0, u "WEEK_MS"), (0, .long 8), (1, .fieldref 8 25), (0, .nameAndType 26 12), (0, u "DAY_MS"), (0, .long 3), (9, u "HOUR_MS"), (18, .long 9223372036854775807), (21, u "(J)V"), (3, u "renewalTime"), (0, u "(JJ)J"), (11, .class_ 96), (0, u "com/example/leasehold/client/RenewalManager")] 18

def k3c0 : Code := { maxStack := 3, maxLocals := 3, code := prog_43_method_1_code, exceptionTable := #[], attributes := #[] }
def k3m0 : Method := { name := "<init>", desc := "(J)V", sig := { parameters := [.long], returnType := none }, accessFlags := 0, code := some k3c0 }
def k3c1 : Code := { maxStack := 6, maxLocals := 7, code := prog_43_method_2_code, exceptionTable := #[], attributes := #[] }
def k3m1 : Method := { name := "renewalTime", desc := "(JJ)J", sig := { parameters := [.long, .long], returnType := some .long }, accessFlags := 0, code := some k3c1 }
def k3c2 : Code := { maxStack := 6, maxLocals := 2, code := prog_43_method_4_code, exceptionTable := #[], attributes := #[] }
def k3m2 : Method := { name := "rtts", desc := "(I)J", sig := { parameters := [.int], returnType := some .long }, accessFlags := 2, code := some k3c2 }
/-- com/example/leasehold/client/RenewalManager$Schedule -/
def k3 : Class := { plain "com/example/leasehold/client/RenewalManager$Schedule" (some 2) with
  accessFlags := 48
  interfaces := #[]
  cf := some (fileOf pool3 8 #[.nestHost 95] #[{ accessFlags := 0, nameIndex := 5, descriptorIndex := 78, attributes := #[] }, { accessFlags := 0, nameIndex := 82, descriptorIndex := 83, attributes := #[] }, { accessFlags := 2, nameIndex := 15, descriptorIndex := 16, attributes := #[] }] 48 2 #[] #[{ accessFlags := 18, nameIndex := 11, descriptorIndex := 12, attributes := #[] }, { accessFlags := 26, nameIndex := 37, descriptorIndex := 12, attributes := #[] }, { accessFlags := 26, nameIndex := 26, descriptorIndex := 12, attributes := #[] }, { accessFlags := 26, nameIndex := 21, descriptorIndex := 12, attributes := #[] }])
  fields := #[{ name := "rttMs", type := .long, accessFlags := 18, slot := 0, constantValue := 0 }, { name := "HOUR_MS", type := .long, accessFlags := 26, slot := 0, constantValue := 0 }, { name := "DAY_MS", type := .long, accessFlags := 26, slot := 1, constantValue := 0 }, { name := "WEEK_MS", type := .long, accessFlags := 26, slot := 2, constantValue := 0 }]
  methods := #[k3m0, k3m1, k3m2]
  instanceTypes := #[.long]
  staticTypes := #[.long, .long, .long]
  resolved := Array.replicate 115 none
  statics := some 0 }

def pool4 : Array CpInfo := pool [(1, .class_ 2), (0, u "java/lang/Math"), (1, .class_ 6), (1, u "java/lang/Object"), (0, u "<init>"), (0, u "()V"), (89, .class_ 100), (1, u "java/lang/Math$RandomNumberGeneratorHolder"), (20, u "(JJ)J"), (50, u "negativeZeroFloatBits"), (0, u "J"), (2, u "negativeZeroDoubleBits"), (21, u "max"), (46, u "$assertionsDisabled"), (0, u "Z"), (91, u "twoToTheDoubleScaleDown"), (0, u "D"), (4, u "twoToTheDoubleScaleUp"), (9, u "E"), (3, u "PI"), (2, u "TAU"), (2, u "DEGREES_TO_RADIANS"), (0, u "RADIANS_TO_DEGREES")] 94

def k4m0 : Method := { name := "<init>", desc := "()V", sig := { parameters := [], returnType := none }, accessFlags := 2, code := none }
def k4c1 : Code := { maxStack := 4, maxLocals := 4, code := jdk_29_method_66_code, exceptionTable := #[], attributes := #[] }
def k4m1 : Method := { name := "max", desc := "(JJ)J", sig := { parameters := [.long, .long], returnType := some .long }, accessFlags := 9, code := some k4c1 }
/-- java/lang/Math -/
def k4 : Class := { plain "java/lang/Math" (some 0) with
  accessFlags := 49
  interfaces := #[]
  cf := some (fileOf pool4 1 #[.nestMembers #[98]] #[{ accessFlags := 2, nameIndex := 7, descriptorIndex := 8, attributes := #[] }, { accessFlags := 9, nameIndex := 198, descriptorIndex := 121, attributes := #[] }] 49 4 #[] #[{ accessFlags := 25, nameIndex := 354, descriptorIndex := 339, attributes := #[] }, { accessFlags := 25, nameIndex := 358, descriptorIndex := 339, attributes := #[] }, { accessFlags := 25, nameIndex := 361, descriptorIndex := 339, attributes := #[] }, { accessFlags := 26, nameIndex := 364, descriptorIndex := 339, attributes := #[] }, { accessFlags := 26, nameIndex := 365, descriptorIndex := 339, attributes := #[] }, { accessFlags := 26, nameIndex := 172, descriptorIndex := 173, attributes := #[] }, { accessFlags := 26, nameIndex := 176, descriptorIndex := 173, attributes := #[] }, { accessFlags := 8, nameIndex := 344, descriptorIndex := 339, attributes := #[] }, { accessFlags := 8, nameIndex := 338, descriptorIndex := 339, attributes := #[] }, { accessFlags := 4120, nameIndex := 245, descriptorIndex := 246, attributes := #[] }])
  fields := #[{ name := "E", type := .double, accessFlags := 25, slot := 0, constantValue := 0 }, { name := "PI", type := .double, accessFlags := 25, slot := 1, constantValue := 0 }, { name := "TAU", type := .double, accessFlags := 25, slot := 2, constantValue := 0 }, { name := "DEGREES_TO_RADIANS", type := .double, accessFlags := 26, slot := 3, constantValue := 0 }, { name := "RADIANS_TO_DEGREES", type := .double, accessFlags := 26, slot := 4, constantValue := 0 }, { name := "negativeZeroFloatBits", type := .long, accessFlags := 26, slot := 5, constantValue := 0 }, { name := "negativeZeroDoubleBits", type := .long, accessFlags := 26, slot := 6, constantValue := 0 }, { name := "twoToTheDoubleScaleUp", type := .double, accessFlags := 8, slot := 7, constantValue := 0 }, { name := "twoToTheDoubleScaleDown", type := .double, accessFlags := 8, slot := 8, constantValue := 0 }, { name := "$assertionsDisabled", type := .boolean, accessFlags := 4120, slot := 9, constantValue := 0 }]
  methods := #[k4m0, k4m1]
  instanceTypes := #[]
  staticTypes := #[.double, .double, .double, .double, .double, .long, .long, .double, .double, .boolean]
  resolved := Array.replicate 460 none
  statics := none }

def pool5 : Array CpInfo := pool [(1, u "java/lang/Cloneable"), (0, .class_ 1), (0, u "java/lang/Object"), (0, .class_ 3)] 3

/-- java/lang/Cloneable -/
def k5 : Class := { plain "java/lang/Cloneable" (some 0) with
  accessFlags := 1537
  interfaces := #[]
  cf := some (fileOf pool5 2 #[] #[] 1537 4 #[] #[])
  fields := #[]
  methods := #[]
  instanceTypes := #[]
  staticTypes := #[]
  resolved := Array.replicate 8 none
  statics := none }

def pool6 : Array CpInfo := pool [(1, u "java/io/Serializable"), (0, .class_ 1), (0, u "java/lang/Object"), (0, .class_ 3)] 3

/-- java/io/Serializable -/
def k6 : Class := { plain "java/io/Serializable" (some 0) with
  accessFlags := 1537
  interfaces := #[]
  cf := some (fileOf pool6 2 #[] #[] 1537 4 #[] #[])
  fields := #[]
  methods := #[]
  instanceTypes := #[]
  staticTypes := #[]
  resolved := Array.replicate 8 none
  statics := none }

/-- the primitive byte -/
def k7 : Class := { plain "byte" none with kind := .primitive 'B', accessFlags := 0x411 }
/-- [B -/
def k8 : Class := { plain "[B" (some 0) with kind := .array 7 .byte, interfaces := #[5, 6], accessFlags := 1041 }

/-- the primitive int -/
def k9 : Class := { plain "int" none with kind := .primitive 'I', accessFlags := 0x411 }
/-- [I -/
def k10 : Class := { plain "[I" (some 0) with kind := .array 9 .int, interfaces := #[5, 6], accessFlags := 1041 }

def heap : Heap := #[{ cls := 3, slots := #[.long 0, .long 86400000, .long 604800000], vm := .statics 3 }]
def classes : Array Class := #[k0, k1, k2, k3, k4, k5, k6, k7, k8, k9, k10]
def interned : List (Array UInt16 × Addr) := []
def slotsUsed : Nat := 3
def theMethod : MethodId := ⟨1, 2⟩
def args0 : Array Value := #[.long 5, .long 6, .long 7, .int 3]
def aboutOver (below : List Frame) : State where
  vm := { classes := classes, interned := interned.toArray }
  heap := heap
  slotsUsed := slotsUsed
  threads := #[{ frames := .invoking theMethod args0 :: below }]
def below0 : List Frame := [.native { method := ⟨0, 0⟩, args := #[] }]
def about1 : State := aboutOver below0
def p0 : Program := .bare "" "" ""
def e0 : Env := launch0.env 0 0 0
theorem w_frames : about1.frames = Frame.invoking theMethod args0 :: below0 := rfl
set_option maxRecDepth 65536 in
theorem w_args : argsFit about1.vm theMethod args0 = true := by decide +kernel
set_option maxRecDepth 65536 in
theorem w_heap : heapFits about1 = true := by decide +kernel
set_option maxRecDepth 65536 in
theorem w_runnable : about1.curStatus? = some .runnable := by decide +kernel
set_option maxRecDepth 65536 in
theorem w_alone : about1.alone = true := by decide +kernel
set_option maxRecDepth 65536 in
theorem w_named : about1.methodNamed? x = some theMethod := by decide +kernel
set_option maxRecDepth 65536 in
theorem w_hears : about1.hears theMethod below0 = true := by decide +kernel
set_option maxRecDepth 65536 in
theorem w_ripe : about1.ripe theMethod args0 below0 = true := by decide +kernel
theorem w_running : about1.status = .running := rfl
set_option maxRecDepth 65536 in
theorem w_room : about1.hasRoom e0.platform room_1 = true :=
  launch0.hasRoom_least _ room_1 (by decide +kernel) (by decide +kernel) (by decide +kernel) (by decide +kernel) (by decide +kernel) (by decide +kernel)
theorem allAtoms_all (ts : List Jvm.Cond) (a : Array Jvm.Value) (st : Jvm.State) : (allAtoms ts).before a st = ts.all (fun c => c.before a st) := by
  induction ts with
  | nil => rfl
  | cons c t ih =>
    show (Jvm.Cond.and c (allAtoms t)).before a st = _
    rw [Jvm.Cond.before_and, ih, List.all_cons]
def words1 : List Jvm.Cond := Jvm.Cond.code x code maxLocals ret :: tables_1
/-- a 'code' word, met by the world's own term for the bytes: nothing is compared byte by byte -/
theorem code_word {y : MethodName} {bytes : ByteArray} {mx : Nat} {rt : Option FieldType} {a : Array Value} {s : State} {m : MethodId} {meth : Method} {c : Code} (h1 : s.methodNamed? y = some m) (h2 : s.vm.method? m = some meth) (h3 : meth.code = some c) (h4 : c.code = bytes)
    (h5 : (c.maxLocals == mx && c.exceptionTable.isEmpty && decide (c.maxStack ≤ mostOperands) && decide (meth.sig.returnType = rt) && !meth.locks && decide (parseMethodDescriptor y.desc = some meth.sig)) = true) : (Jvm.Cond.code y bytes mx rt).before a s = true := by
  simp only [Bool.and_eq_true, beq_iff_eq, Bool.not_eq_true', decide_eq_true_eq] at h5
  obtain ⟨⟨⟨⟨⟨g1, g2⟩, g3⟩, g4⟩, g5⟩, g6⟩ := h5
  simp [Cond.before, Cond.holds, Cond.value, h1, h2, h3, h4, g1, g2, g3, g4, g5, g6]
def isCode : Jvm.Cond → Bool
  | .code _ _ _ _ => true
  | _ => false
theorem all_split {L : List Jvm.Cond} {P : Jvm.Cond → Bool} (h1 : L.all (fun c => isCode c || P c) = true) (h2 : ∀ c ∈ L.filter isCode, P c = true) : L.all P = true := by
  refine List.all_eq_true.mpr fun c hc => ?_
  have h := List.all_eq_true.mp h1 c hc
  rcases Bool.eq_false_or_eq_true (isCode c) with hi | hi
  · exact h2 c (List.mem_filter.mpr ⟨hc, hi⟩)
  · simpa [hi] using h
set_option maxRecDepth 65536 in
theorem w_c0 : (Jvm.Cond.code x code maxLocals ret).before args0 about1 = true := code_word (m := ⟨1, 2⟩) (meth := k1m2) (c := k1c2) (by decide +kernel) rfl rfl rfl (by decide +kernel)
set_option maxRecDepth 65536 in
theorem w_c1 : (Jvm.Cond.code ({ cls := "com/example/leasehold/client/RenewalManager$Schedule", name := "<init>", desc := "(J)V" } : Jvm.MethodName) prog_43_method_1_code (3 : Nat) (Option.none : Option Jvm.ClassFile.FieldType)).before args0 about1 = true := code_word (m := ⟨3, 0⟩) (meth := k3m0) (c := k3c0) (by decide +kernel) rfl rfl rfl (by decide +kernel)
set_option maxRecDepth 65536 in
theorem w_c2 : (Jvm.Cond.code ({ cls := "java/lang/Record", name := "<init>", desc := "()V" } : Jvm.MethodName) jdk_30_method_1_code (1 : Nat) (Option.none : Option Jvm.ClassFile.FieldType)).before args0 about1 = true := code_word (m := ⟨2, 0⟩) (meth := k2m0) (c := k2c0) (by decide +kernel) rfl rfl rfl (by decide +kernel)
set_option maxRecDepth 65536 in
theorem w_c3 : (Jvm.Cond.code ({ cls := "java/lang/Object", name := "<init>", desc := "()V" } : Jvm.MethodName) object_method_1_code (1 : Nat) (Option.none : Option Jvm.ClassFile.FieldType)).before args0 about1 = true := code_word (m := ⟨0, 0⟩) (meth := k0m0) (c := k0c0) (by decide +kernel) rfl rfl rfl (by decide +kernel)
set_option maxRecDepth 65536 in
theorem w_c4 : (Jvm.Cond.code ({ cls := "com/example/leasehold/client/RenewalManager$Schedule", name := "renewalTime", desc := "(JJ)J" } : Jvm.MethodName) prog_43_method_2_code (7 : Nat) (Option.some Jvm.ClassFile.FieldType.long)).before args0 about1 = true := code_word (m := ⟨3, 1⟩) (meth := k3m1) (c := k3c1) (by decide +kernel) rfl rfl rfl (by decide +kernel)
set_option maxRecDepth 65536 in
theorem w_c5 : (Jvm.Cond.code ({ cls := "com/example/leasehold/client/RenewalManager$Schedule", name := "rtts", desc := "(I)J" } : Jvm.MethodName) prog_43_method_4_code (2 : Nat) (Option.some Jvm.ClassFile.FieldType.long)).before args0 about1 = true := code_word (m := ⟨3, 2⟩) (meth := k3m2) (c := k3c2) (by decide +kernel) rfl rfl rfl (by decide +kernel)
set_option maxRecDepth 65536 in
theorem w_c6 : (Jvm.Cond.code ({ cls := "com/example/leasehold/client/ScheduleRenewalTimePinLaw", name := "atMostTimes", desc := "(JJJ)Z" } : Jvm.MethodName) method_2_code (8 : Nat) (Option.some Jvm.ClassFile.FieldType.boolean)).before args0 about1 = true := code_word (m := ⟨1, 1⟩) (meth := k1m1) (c := k1c1) (by decide +kernel) rfl rfl rfl (by decide +kernel)
set_option maxRecDepth 65536 in
theorem w_c7 : (Jvm.Cond.code ({ cls := "java/lang/Math", name := "max", desc := "(JJ)J" } : Jvm.MethodName) jdk_29_method_66_code (4 : Nat) (Option.some Jvm.ClassFile.FieldType.long)).before args0 about1 = true := code_word (m := ⟨4, 1⟩) (meth := k4m1) (c := k4c1) (by decide +kernel) rfl rfl rfl (by decide +kernel)
def codes1 : List Jvm.Cond := [Jvm.Cond.code x code maxLocals ret, Jvm.Cond.code ({ cls := "com/example/leasehold/client/RenewalManager$Schedule", name := "<init>", desc := "(J)V" } : Jvm.MethodName) prog_43_method_1_code (3 : Nat) (Option.none : Option Jvm.ClassFile.FieldType), Jvm.Cond.code ({ cls := "java/lang/Record", name := "<init>", desc := "()V" } : Jvm.MethodName) jdk_30_method_1_code (1 : Nat) (Option.none : Option Jvm.ClassFile.FieldType), Jvm.Cond.code ({ cls := "java/lang/Object", name := "<init>", desc := "()V" } : Jvm.MethodName) object_method_1_code (1 : Nat) (Option.none : Option Jvm.ClassFile.FieldType), Jvm.Cond.code ({ cls := "com/example/leasehold/client/RenewalManager$Schedule", name := "renewalTime", desc := "(JJ)J" } : Jvm.MethodName) prog_43_method_2_code (7 : Nat) (Option.some Jvm.ClassFile.FieldType.long), Jvm.Cond.code ({ cls := "com/example/leasehold/client/RenewalManager$Schedule", name := "rtts", desc := "(I)J" } : Jvm.MethodName) prog_43_method_4_code (2 : Nat) (Option.some Jvm.ClassFile.FieldType.long), Jvm.Cond.code ({ cls := "com/example/leasehold/client/ScheduleRenewalTimePinLaw", name := "atMostTimes", desc := "(JJJ)Z" } : Jvm.MethodName) method_2_code (8 : Nat) (Option.some Jvm.ClassFile.FieldType.boolean), Jvm.Cond.code ({ cls := "java/lang/Math", name := "max", desc := "(JJ)J" } : Jvm.MethodName) jdk_29_method_66_code (4 : Nat) (Option.some Jvm.ClassFile.FieldType.long)]
set_option maxRecDepth 65536 in
theorem codes_eq : words1.filter isCode = codes1 := rfl
theorem w_codes : ∀ c ∈ words1.filter isCode, c.before args0 about1 = true := by
  rw [codes_eq]
  intro c hc
  simp only [codes1, List.mem_cons, List.not_mem_nil, or_false] at hc
  rcases hc with rfl | rfl | rfl | rfl | rfl | rfl | rfl | rfl
  · exact w_c0
  · exact w_c1
  · exact w_c2
  · exact w_c3
  · exact w_c4
  · exact w_c5
  · exact w_c6
  · exact w_c7
set_option maxRecDepth 65536 in
theorem w_t1 : (words1.take 24).all (fun c => isCode c || c.before args0 about1) = true := by decide +kernel
set_option maxRecDepth 65536 in
theorem w_t2 : ((words1.drop 24).take 24).all (fun c => isCode c || c.before args0 about1) = true := by decide +kernel
set_option maxRecDepth 65536 in
theorem w_t3 : ((words1.drop 24).drop 24).all (fun c => isCode c || c.before args0 about1) = true := by decide +kernel
theorem w_tables : (allAtoms (Jvm.Cond.code x code maxLocals ret :: tables_1)).before args0 about1 = true := by
  rw [allAtoms_all]
  show words1.all (fun c => c.before args0 about1) = true
  refine all_split ?_ w_codes
  rw [← List.take_append_drop 24 words1, List.all_append, w_t1, ← List.take_append_drop 24 (words1.drop 24), List.all_append, w_t2, w_t3]
  rfl
set_option maxRecDepth 65536 in
theorem w_case : (Jvm.Cond.and given_1 narrow_1).before args0 about1 = true := by decide +kernel
theorem w_applies : (headSpec (Jvm.Cond.code x code maxLocals ret :: tables_1) room_1).applies x e0.platform about1 = true :=
  (Spec.applies_iff w_frames).mpr ⟨w_running, w_runnable, w_alone, w_named, w_hears, w_ripe, w_room, w_tables⟩
theorem atStart : AtStart classFile x code maxLocals ret World_1 tables_1 room_1 Calls_1 rest_1 Pre_1 launch0 p0 e0 about1 theMethod args0 below0 :=
  ⟨lists_1, trivial, launch0.admits_env _ _ _, launch0.least_env, fairChoices_fair.cas, fairChoices_fair.clock, w_frames, w_args, w_heap, w_applies, trivial, trivial, w_case⟩
end start1
theorem witness_1 : WitnessClaimed_1 := ⟨start1.p0, start1.e0, start1.about1, start1.theMethod, start1.args0, start1.below0, start1.atStart⟩
end Jvm.Pilot.@@N@@
