import JvmDerived
import JvmDerived.Pilot.@@N@@Statement
import JvmDerived.Pilot.@@N@@Code
set_option linter.unusedVariables false
set_option linter.unusedSimpArgs false
@@BLOCK:NumsL.lean.txt@@
namespace Jvm.Pilot.@@N@@
open Jvm Jvm.ClassFile Sem Op Lib Jvm.Free Jvm.Stand Jvm.LawKit Jvm.RoadKit Bundle Jvm.Pilot.@@N@@.Jvm.D
section OwnKit
variable {p : Program} {l : Launch} {e : Env} {R : Room} {s : State} {m : MethodId} {args : Array Value} {below : List Frame} {meth : Method} {c : Code} {T : State} {locs : List Loc} {cells slots : Nat} {n0 cc nn : Nat} {K : Option Value → Heap → Prop} {P : Heap → Prop} {A B : State}
/-- what a contract says of the value, the heap and the places written -/
def QK (n0 : Nat) (K : Option Value → Heap → Prop) (v : Option Value) (h : Heap) (L : List Loc) : Prop := K v h ∧ Fr n0 L
def Kv (w : Option Value) (P : Heap → Prop) (v : Option Value) (h : Heap) : Prop := v = w ∧ P h
/-- from A the run comes to this body's end, and K holds there -/
def Gl (p : Program) (e : Env) (below : List Frame) (s : State) (n0 cc nn : Nat) (K : Option Value → Heap → Prop) (A : State) : Prop :=
  ∃ t o, Steps p.tables e below A t ∧ t.status = .running ∧ Ended t below o ∧ ∃ v L, o = .returned v ∧ QK n0 K v t.heap L ∧ FrameEnd s o t L cc nn
theorem go (st : ∀ t, Steps p.tables e below B t → Steps p.tables e below A t) (h : Gl p e below s n0 cc nn K B) : Gl p e below s n0 cc nn K A := by
  obtain ⟨t, o, h1, h2⟩ := h; exact ⟨t, o, st t h1, h2⟩
theorem gl_start {g g' : JFrame} (q : g = g') (h : Gl p e below s n0 cc nn K (T.setTop g')) :
    ∃ t o, Steps p.tables e below (T.setTop g) t ∧ t.status = .running ∧ Ended t below o ∧ ∃ v L, o = .returned v ∧ QK n0 K v t.heap L ∧ FrameEnd s o t L cc nn := by
  subst q; exact h
theorem gI {c : Prop} [Decidable c] {a b : Int32} (h1 : c → Gl p e below s n0 cc nn (Kv (some (.int a)) P) A) (h2 : ¬ c → Gl p e below s n0 cc nn (Kv (some (.int b)) P) A) : Gl p e below s n0 cc nn (Kv (some (.int (if c then a else b))) P) A := by
  by_cases h : c
  · rw [if_pos h]; exact h1 h
  · rw [if_neg h]; exact h2 h
theorem gJ {c : Prop} [Decidable c] {a b : Int64} (h1 : c → Gl p e below s n0 cc nn (Kv (some (.long a)) P) A) (h2 : ¬ c → Gl p e below s n0 cc nn (Kv (some (.long b)) P) A) : Gl p e below s n0 cc nn (Kv (some (.long (if c then a else b))) P) A := by
  by_cases h : c
  · rw [if_pos h]; exact h1 h
  · rw [if_neg h]; exact h2 h
theorem gR {c : Prop} [Decidable c] {a b : Addr} (h1 : c → Gl p e below s n0 cc nn (Kv (some (.ref a)) P) A) (h2 : ¬ c → Gl p e below s n0 cc nn (Kv (some (.ref b)) P) A) : Gl p e below s n0 cc nn (Kv (some (.ref (if c then a else b))) P) A := by
  by_cases h : c
  · rw [if_pos h]; exact h1 h
  · rw [if_neg h]; exact h2 h
theorem gV {c : Prop} [Decidable c] (h1 : c → Gl p e below s n0 cc nn K A) (h2 : ¬ c → Gl p e below s n0 cc nn K A) : Gl p e below s n0 cc nn K A := by
  by_cases h : c
  · exact h1 h
  · exact h2 h
variable {x : MethodName} {S : Spec} {code' : ByteArray} {ml : Nat} {s₁ : State} {pc : Nat} {Ls : Array Slot} {rest : List Value}
theorem endN (X : Stand p l e R s m args below meth c T locs cells slots) (hx : p.tables.exec = Jvm.exec) {t : FieldType} (Bd : BodyLoose p l x S code' ml (some t) e s m args below meth c s₁) (ht : t = .boolean ∨ t = .byte ∨ t = .char ∨ t = .short) {z : Int32}
    (hd : decode c.code pc = .ok (.ireturn, 1)) (hK : K (some (.int (nar t z))) T.heap) (N : Fr n0 locs) (hc : cells ≤ cc) (hs : slots ≤ nn) : Gl p e below s n0 cc nn K (T.setTop (mkF m pc Ls (.int z :: rest))) := by
  obtain ⟨fs, hr, hrun, hended, hW, hsame⟩ := X.leave (v := some (.int (nar t z))) (fun h => by rw [Bd.returns] at h; cases h)
  exact ⟨_, _, retN X hx Bd.returns ht hd hr, hrun, hended, _, _, rfl, ⟨hK, N⟩, ⟨_, rfl⟩, hW, hsame.mono hc hs⟩
theorem endO (X : Stand p l e R s m args below meth c T locs cells slots) (hx : p.tables.exec = Jvm.exec) {t : FieldType} (Bd : BodyLoose p l x S code' ml (some t) e s m args below meth c s₁) {w : Value} {i : Instr} (hn : narrow t w = w)
    (hi : (i = .ireturn ∧ (t = .int ∨ t = .boolean ∨ t = .byte ∨ t = .char ∨ t = .short) ∧ ∃ z, w = .int z) ∨ (i = .lreturn ∧ t = .long ∧ ∃ z, w = .long z) ∨ (i = .dreturn ∧ t = .double ∧ ∃ z, w = .double z) ∨ (i = .freturn ∧ t = .float ∧ ∃ z, w = .float z) ∨ (i = .areturn ∧ t.isReference = true ∧ w.isRef = true))
    (hd : decode c.code pc = .ok (i, 1)) (hK : K (some w) T.heap) (N : Fr n0 locs) (hc : cells ≤ cc) (hs : slots ≤ nn) : Gl p e below s n0 cc nn K (T.setTop (mkF m pc Ls (w :: rest))) := by
  obtain ⟨fs, hr, hrun, hended, hW, hsame⟩ := X.leave (v := some w) (fun h => by rw [Bd.returns] at h; cases h)
  exact ⟨_, _, retOut X hx Bd.returns hn hi hd hr, hrun, hended, _, _, rfl, ⟨hK, N⟩, ⟨_, rfl⟩, hW, hsame.mono hc hs⟩
theorem endI (X : Stand p l e R s m args below meth c T locs cells slots) (hx : p.tables.exec = Jvm.exec) (Bd : BodyLoose p l x S code' ml (some .int) e s m args below meth c s₁) {z : Int32}
    (hd : decode c.code pc = .ok (.ireturn, 1)) (hK : K (some (.int z)) T.heap) (N : Fr n0 locs) (hc : cells ≤ cc) (hs : slots ≤ nn) : Gl p e below s n0 cc nn K (T.setTop (mkF m pc Ls (.int z :: rest))) :=
  endO X hx Bd rfl (Or.inl ⟨rfl, Or.inl rfl, z, rfl⟩) hd hK N hc hs
theorem endJ (X : Stand p l e R s m args below meth c T locs cells slots) (hx : p.tables.exec = Jvm.exec) (Bd : BodyLoose p l x S code' ml (some .long) e s m args below meth c s₁) {z : Int64}
    (hd : decode c.code pc = .ok (.lreturn, 1)) (hK : K (some (.long z)) T.heap) (N : Fr n0 locs) (hc : cells ≤ cc) (hs : slots ≤ nn) : Gl p e below s n0 cc nn K (T.setTop (mkF m pc Ls (.long z :: rest))) :=
  endO X hx Bd rfl (Or.inr (Or.inl ⟨rfl, rfl, z, rfl⟩)) hd hK N hc hs
theorem endR (X : Stand p l e R s m args below meth c T locs cells slots) (hx : p.tables.exec = Jvm.exec) {t : FieldType} (Bd : BodyLoose p l x S code' ml (some t) e s m args below meth c s₁) (ht : t.isReference = true) {a : Addr}
    (hd : decode c.code pc = .ok (.areturn, 1)) (hK : K (some (.ref a)) T.heap) (N : Fr n0 locs) (hc : cells ≤ cc) (hs : slots ≤ nn) : Gl p e below s n0 cc nn K (T.setTop (mkF m pc Ls (.ref a :: rest))) :=
  endO X hx Bd (by cases t <;> first | rfl | cases ht) (Or.inr (Or.inr (Or.inr (Or.inr ⟨rfl, ht, rfl⟩)))) hd hK N hc hs
theorem endV (X : Stand p l e R s m args below meth c T locs cells slots) (hx : p.tables.exec = Jvm.exec) (Bd : BodyLoose p l x S code' ml none e s m args below meth c s₁)
    (hd : decode c.code pc = .ok (.return_, 1)) (hK : K none T.heap) (N : Fr n0 locs) (hc : cells ≤ cc) (hs : slots ≤ nn) : Gl p e below s n0 cc nn K (T.setTop (mkF m pc Ls [])) := by
  obtain ⟨fs, hr, hrun, hended, hW, hsame⟩ := X.leave (v := none) (fun _ => rfl)
  exact ⟨_, _, X.returnOut hx Bd.returns hd hr, hrun, hended, _, _, rfl, ⟨hK, N⟩, ⟨_, rfl⟩, hW, hsame.mono hc hs⟩
theorem lremM {g : JFrame} {target : State} (X : Stand p l e R s m args below meth c T locs cells slots) (hx : p.tables.exec = Jvm.exec) (hg : g.method = m) {x y : Int64} {rest : List Value} (hd : decode c.code g.pc = .ok (.lrem, 1)) (hs : g.stack = .long y :: .long x :: rest) (hy : y ≠ 0)
    (hr : Steps p.tables e below (T.setTop { g with pc := g.pc + 1, stack := .long (x % y) :: rest }) target) : Steps p.tables e below (T.setTop g) target := by
  have q := lrem_mod x y
  exact XS.lrem X.here hx hg hd hs hy (by rw [q]; exact hr)
theorem sta_keep {Z : State} {h h' : Heap} {a : Addr} {C n d D : String} {w : Value} (F : Sta Z h C n d w) (Kp : Keep h h' [a]) (E : Exa Z h a D) : Sta Z h' C n d w := by
  obtain ⟨cf, i, k, f, st, cell, h1, h2, h3, h4, h5, h6, h7⟩ := F
  obtain ⟨cell', k', e1, -, -, e4, -⟩ := E
  refine ⟨cf, i, k, f, st, cell, h1, h2, h3, h4, Kp.2.1 st cell h5 (ninS (fun q => ?_) nin0), h6, h7⟩
  subst q; cases h5.symm.trans e1; rw [h6] at e4; cases e4
theorem sta_keepN {Z : State} {h h' : Heap} {ws : List Addr} {C n d : String} {w : Value} (F : Sta Z h C n d w) (Kp : Keep h h' ws) (hn : ∀ x ∈ ws, ∀ cell : Cell, h[x]? = some cell → cell.vm.isStatics = false) : Sta Z h' C n d w := by
  obtain ⟨cf, i, k, f, st, cell, h1, h2, h3, h4, h5, h6, h7⟩ := F
  refine ⟨cf, i, k, f, st, cell, h1, h2, h3, h4, Kp.2.1 st cell h5 (fun q => ?_), h6, h7⟩
  have := hn st q cell h5
  rw [h6] at this; cases this
theorem sta_keep0 {Z : State} {h h' : Heap} {C n d : String} {w : Value} (F : Sta Z h C n d w) (Kp : Keep h h' []) : Sta Z h' C n d w := by
  obtain ⟨cf, i, k, f, st, cell, h1, h2, h3, h4, h5, h6, h7⟩ := F
  exact ⟨cf, i, k, f, st, cell, h1, h2, h3, h4, Kp.2.1 st cell h5 nin0, h6, h7⟩
theorem sel_priv {Z s : State} {a0 args : Array Value} {y : MethodName} {n : Nat} (hZ : Z.Warmed39 s.vm) (wi : (Cond.instantiable y.cls n).before a0 Z = true) (wp : (Cond.privateMethod y).before a0 Z = true) (wm : (Cond.instanceMethod y).before a0 Z = true) (hy : y.cls ≠ "java/lang/invoke/MethodHandle" ∧ y.cls ≠ "java/lang/invoke/VarHandle") : (Cond.selects y.cls y y).before args s = true := by
  obtain ⟨c, k, h1, h2, -, h4, -⟩ := Cond.instantiable_spec (show (Cond.instantiable y.cls n).before args s = true from mvT hZ wi)
  exact Jvm.Stand.selects_self_of_private h1 h2 (by simp only [Bool.or_eq_false_iff] at h4; exact h4.1) (Cond.privateMethod_at (mvP hZ wp (args := args))) (mvT hZ wm) hy
theorem eqL_v {t : Term} {k : Int64} {a0 : Array Value} {first u : State} {o : Option Outcome} {idx : List Nat} (h : (Cond.eq t (.long k)).value a0 first o u idx = some true) : t.eval a0 first o idx u = some (.long k) := by
  simp only [Cond.value, Term.eval] at h
  cases ht : t.eval a0 first o idx u with
  | none => simp [ht] at h
  | some x => cases x <;> simp [ht] at h ⊢; exact h
theorem eqI_v {t : Term} {k : Int32} {a0 : Array Value} {first u : State} {o : Option Outcome} {idx : List Nat} (h : (Cond.eq t (.int k)).value a0 first o u idx = some true) : t.eval a0 first o idx u = some (.int k) := by
  simp only [Cond.value, Term.eval] at h
  cases ht : t.eval a0 first o idx u with
  | none => simp [ht] at h
  | some x => cases x <;> simp [ht] at h ⊢; exact h
end OwnKit
theorem d2_0 : decode jdk_30_method_1_code 0 = .ok (.aload_n 0, 1) := by decide +kernel
theorem d2_1 : decode jdk_30_method_1_code 1 = .ok (.invokespecial 1, 3) := by decide +kernel
theorem d2_4 : decode jdk_30_method_1_code 4 = .ok (.return_, 1) := by decide +kernel
theorem pn_0 : plainName "java/lang/Record" = true := by first | (simp [plainName, overriddenIn]; done) | decide +kernel
theorem ef_2 (m : MethodId) (a1 : Addr) : entryFrame m #[(.ref a1)] 1 = mkF m 0 #[.val (.ref a1)] [] := by first | (simp [entryFrame, mkF, argsToLocals, Value.category]; done) | rfl
set_option maxRecDepth 65536 in
set_option maxHeartbeats 40000000 in
theorem rm2 (l : Launch) (Z : State) (a0 : Array Value) (hw : ∀ d ∈ tables_1, d.before a0 Z = true) (ws : List Jvm.Cond) (a1 : Addr) (h0 : Heap) (n0 : Nat) (Z0 : n0 ≤ h0.size) :
    MetFree l (⟨"java/lang/Record", "<init>", "()V"⟩ : MethodName) (head1 (Jvm.Cond.code (⟨"java/lang/Record", "<init>", "()V"⟩ : MethodName) jdk_30_method_1_code 1 none :: ws) ({ frames := 1, cells := 0, slots := 0, locals := 12 } : Room)) (fun a U => a = #[(.ref a1)] ∧ Z.Warmed39 U.vm ∧ U.heap = h0) (fun _ _ _ _ _ => True) (fun _ U o U' => ∃ v L, o = .returned v ∧ QK n0 (Kv none (fun h => h = h0)) v U'.heap L ∧ FrameEnd U o U' L ({ frames := 1, cells := 0, slots := 0, locals := 12 } : Room).cells ({ frames := 1, cells := 0, slots := 0, locals := 12 } : Room).slots) := by
  refine MetFree.of_bodySF (plainFor_of_name pn_0) hisR ?_
  intro p e s m args below meth c s₁ Bd hml0 hP hK
  obtain ⟨rfl, hZ, hh⟩ := hP
  have hx := Bd.exec
  have hby := Bd.bytes
  have hml : c.maxLocals = 1 := hml0
  have hown : s.vm.findClass "java/lang/Record" = some m.cls := findClass_of_methodNamed Bd.named
  have hnm := (name_of_methodNamed Bd.named Bd.method).1
  have X0 : Stand p l e ({ frames := 1, cells := 0, slots := 0, locals := 12 } : Room) s m #[(.ref a1)] below meth c s₁ [] 0 0 := Stand.of_body Bd
  have e0 : s₁.heap = h0 := by rw [← hh, Bd.state]; rfl
  have N0 := Fr.nil n0
  refine gl_start (ef_2 m a1) ?_
  show Gl p e below s n0 ({ frames := 1, cells := 0, slots := 0, locals := 12 } : Room).cells ({ frames := 1, cells := 0, slots := 0, locals := 12 } : Room).slots (Kv none (fun h => h = h0)) (s₁.setTop (mkF m 0 #[.val (.ref a1)] []))
  refine go (fun t k => XS.aloadN X0.here hx rfl (hb hby d2_0) rfl rfl k) ?_
  show Gl _ _ _ _ _ _ _ _ (s₁.setTop (mkF m 1 #[.val (.ref a1)] [(.ref a1)]))
  obtain ⟨T1, X1, e1, st1⟩ := initO X0 hx hZ hown (hw _ (List.mem_of_getElem? (i := 11) rfl)) (hw _ (List.mem_of_getElem? (i := 12) rfl)) (hw _ (List.mem_of_getElem? (i := 13) rfl)) e0 (g := (mkF m 1 #[.val (.ref a1)] [(.ref a1)])) rfl (by rw [hml]; rfl) rfl (hb hby d2_1) (by decide) (W := 0) (by show 2 * 0 + _ ≤ _; exact Nat.le_of_eq rfl) (by decide)
  refine go (fun t k => st1 _ k) ?_
  show Gl _ _ _ _ _ _ _ _ (T1.setTop (mkF m 4 #[.val (.ref a1)] []))
  exact endV X1 hx Bd (hb hby d2_4) ⟨rfl, e1⟩ N0 (by decide) (by decide)
theorem pd_0 : parseMethodDescriptor "()V" = some ⟨[], none⟩ := by decide +kernel
theorem d1_0 : decode prog_50_method_1_code 0 = .ok (.aload_n 0, 1) := by decide +kernel
theorem d1_1 : decode prog_50_method_1_code 1 = .ok (.invokespecial 1, 3) := by decide +kernel
theorem d1_4 : decode prog_50_method_1_code 4 = .ok (.aload_n 0, 1) := by decide +kernel
theorem d1_5 : decode prog_50_method_1_code 5 = .ok (.lload_n 1, 1) := by decide +kernel
theorem d1_6 : decode prog_50_method_1_code 6 = .ok (.putfield 7, 3) := by decide +kernel
theorem d1_9 : decode prog_50_method_1_code 9 = .ok (.aload_n 0, 1) := by decide +kernel
theorem d1_10 : decode prog_50_method_1_code 10 = .ok (.lload_n 3, 1) := by decide +kernel
theorem d1_11 : decode prog_50_method_1_code 11 = .ok (.putfield 13, 3) := by decide +kernel
theorem d1_14 : decode prog_50_method_1_code 14 = .ok (.aload_n 0, 1) := by decide +kernel
theorem d1_15 : decode prog_50_method_1_code 15 = .ok (.lload 5, 2) := by decide +kernel
theorem d1_17 : decode prog_50_method_1_code 17 = .ok (.putfield 16, 3) := by decide +kernel
theorem d1_20 : decode prog_50_method_1_code 20 = .ok (.return_, 1) := by decide +kernel
theorem pn_1 : plainName "com/example/leasehold/server/Countdown" = true := by first | (simp [plainName, overriddenIn]; done) | decide +kernel
theorem ef_1 (m : MethodId) (a1 : Addr) (q2 : Int64) (q3 : Int64) (q4 : Int64) : entryFrame m #[(.ref a1), (.long q2), (.long q3), (.long q4)] 7 = mkF m 0 #[.val (.ref a1), .val (.long q2), .second, .val (.long q3), .second, .val (.long q4), .second] [] := by first | (simp [entryFrame, mkF, argsToLocals, Value.category]; done) | rfl
set_option maxRecDepth 65536 in
set_option maxHeartbeats 40000000 in
theorem rm1 (l : Launch) (Z : State) (a0 : Array Value) (hw : ∀ d ∈ tables_1, d.before a0 Z = true) (ws : List Jvm.Cond) (a1 : Addr) (q2 : Int64) (q3 : Int64) (q4 : Int64) (w_ms_a1 : Value) (w_leftMs_a1 : Value) (w_fromNanos_a1 : Value) (h0 : Heap) (n0 : Nat) (Z0 : n0 ≤ h0.size) (E_a1 : Exa Z h0 a1 "com/example/leasehold/server/Countdown") (g_a1 : n0 ≤ a1) (F_ms_a1 : Fld Z h0 a1 "com/example/leasehold/server/Countdown" "ms" "J" w_ms_a1) (F_leftMs_a1 : Fld Z h0 a1 "com/example/leasehold/server/Countdown" "leftMs" "J" w_leftMs_a1) (F_fromNanos_a1 : Fld Z h0 a1 "com/example/leasehold/server/Countdown" "fromNanos" "J" w_fromNanos_a1) :
    MetFree l (⟨"com/example/leasehold/server/Countdown", "<init>", "(JJJ)V"⟩ : MethodName) (head1 (Jvm.Cond.code (⟨"com/example/leasehold/server/Countdown", "<init>", "(JJJ)V"⟩ : MethodName) prog_50_method_1_code 7 none :: ws) ({ frames := 2, cells := 0, slots := 0, locals := 24 } : Room)) (fun a U => a = #[(.ref a1), (.long q2), (.long q3), (.long q4)] ∧ Z.Warmed39 U.vm ∧ U.heap = h0) (fun _ _ _ _ _ => True) (fun _ U o U' => ∃ v L, o = .returned v ∧ QK n0 (Kv none (fun h => Keep h0 h [a1] ∧ Exa Z h a1 "com/example/leasehold/server/Countdown" ∧ Fld Z h a1 "com/example/leasehold/server/Countdown" "ms" "J" (.long q2) ∧ Fld Z h a1 "com/example/leasehold/server/Countdown" "leftMs" "J" (.long q3) ∧ Fld Z h a1 "com/example/leasehold/server/Countdown" "fromNanos" "J" (.long q4))) v U'.heap L ∧ FrameEnd U o U' L ({ frames := 2, cells := 0, slots := 0, locals := 24 } : Room).cells ({ frames := 2, cells := 0, slots := 0, locals := 24 } : Room).slots) := by
  refine MetFree.of_bodySF (plainFor_of_name pn_1) hisR ?_
  intro p e s m args below meth c s₁ Bd hml0 hP hK
  obtain ⟨rfl, hZ, hh⟩ := hP
  have hx := Bd.exec
  have hby := Bd.bytes
  have hml : c.maxLocals = 7 := hml0
  have hown : s.vm.findClass "com/example/leasehold/server/Countdown" = some m.cls := findClass_of_methodNamed Bd.named
  have hnm := (name_of_methodNamed Bd.named Bd.method).1
  have X0 : Stand p l e ({ frames := 2, cells := 0, slots := 0, locals := 24 } : Room) s m #[(.ref a1), (.long q2), (.long q3), (.long q4)] below meth c s₁ [] 0 0 := Stand.of_body Bd
  have e0 : s₁.heap = h0 := by rw [← hh, Bd.state]; rfl
  have N0 := Fr.nil n0
  refine gl_start (ef_1 m a1 q2 q3 q4) ?_
  show Gl p e below s n0 ({ frames := 2, cells := 0, slots := 0, locals := 24 } : Room).cells ({ frames := 2, cells := 0, slots := 0, locals := 24 } : Room).slots (Kv none (fun h => Keep h0 h [a1] ∧ Exa Z h a1 "com/example/leasehold/server/Countdown" ∧ Fld Z h a1 "com/example/leasehold/server/Countdown" "ms" "J" (.long q2) ∧ Fld Z h a1 "com/example/leasehold/server/Countdown" "leftMs" "J" (.long q3) ∧ Fld Z h a1 "com/example/leasehold/server/Countdown" "fromNanos" "J" (.long q4))) (s₁.setTop (mkF m 0 #[.val (.ref a1), .val (.long q2), .second, .val (.long q3), .second, .val (.long q4), .second] []))
  refine go (fun t k => XS.aloadN X0.here hx rfl (hb hby d1_0) rfl rfl k) ?_
  show Gl _ _ _ _ _ _ _ _ (s₁.setTop (mkF m 1 #[.val (.ref a1), .val (.long q2), .second, .val (.long q3), .second, .val (.long q4), .second] [(.ref a1)]))
  obtain ⟨_, _, ⟨T1, L1, k1, n1⟩, -, X1, ⟨Lc1, hQ1, l1, y1, z1⟩, st1⟩ := X0.specialBack hx (y := (⟨"java/lang/Record", "<init>", "()V"⟩ : MethodName)) rfl hown (mvT hZ (hw _ (List.mem_of_getElem? (i := 6) rfl))) (mvT hZ (hw _ (List.mem_of_getElem? (i := 7) rfl))) (mvT hZ (hw _ (List.mem_of_getElem? (i := 10) rfl))) (by decide) (backOf (W := 0) (rm2 l Z a0 hw [] a1 h0 n0 Z0 ) hZ (hw _ (List.mem_of_getElem? (i := 10) rfl)) (hw _ (List.mem_of_getElem? (i := 9) rfl)) (by decide) (by decide)) (g := (mkF m 1 #[.val (.ref a1), .val (.long q2), .second, .val (.long q3), .second, .val (.long q4), .second] [(.ref a1)])) rfl (by rw [hml]; rfl) (Steps.refl _) (a := a1) (argsL := []) (rest := []) (lenOf pd_0 rfl) rfl (by show 2 * 0 + _ ≤ _; exact Nat.le_of_eq rfl) (hb hby d1_1) (fun _ _ => ⟨rfl, e0, (by decide : 0 + 0 ≤ _), (by decide : 0 + 0 ≤ _)⟩)
  dsimp only [Pt.U, Pt.locs, Pt.cells, Pt.slots] at X1 l1 y1 z1 st1 hQ1
  subst l1 y1 z1
  have X1 : Stand p l e ({ frames := 2, cells := 0, slots := 0, locals := 24 } : Room) s m #[(.ref a1), (.long q2), (.long q3), (.long q4)] below meth c T1 _ 0 0 := X1
  obtain ⟨⟨rfl, e1'⟩, N1q⟩ := hQ1
  have e1 : T1.heap = h0 := e1'
  have N1 := Fr.app N0 N1q
  refine go (fun t k => st1.trans k) ?_
  show Gl _ _ _ _ _ _ _ _ (T1.setTop (mkF m 4 #[.val (.ref a1), .val (.long q2), .second, .val (.long q3), .second, .val (.long q4), .second] []))
  refine go (fun t k => XS.aloadN X1.here hx rfl (hb hby d1_4) rfl rfl k) ?_
  show Gl _ _ _ _ _ _ _ _ (T1.setTop (mkF m 5 #[.val (.ref a1), .val (.long q2), .second, .val (.long q3), .second, .val (.long q4), .second] [(.ref a1)]))
  refine go (fun t k => XS.lloadN X1.here hx rfl (hb hby d1_5) rfl  k) ?_
  show Gl _ _ _ _ _ _ _ _ (T1.setTop (mkF m 6 #[.val (.ref a1), .val (.long q2), .second, .val (.long q3), .second, .val (.long q4), .second] [(.long q2), (.ref a1)]))
  obtain ⟨T2, h2, X2, e2, W2, st2⟩ := putF X1 hx hZ hown (host := "") (Or.inl (hw _ (List.mem_of_getElem? (i := 14) rfl))) Via.refl e1 F_ms_a1 E_a1 (Or.inr ⟨(hw _ (List.mem_of_getElem? (i := 15) rfl)), rfl, hnm⟩) (hw _ (List.mem_of_getElem? (i := 1) rfl)) (ty := .long) (by decide) rfl rfl (g := (mkF m 6 #[.val (.ref a1), .val (.long q2), .second, .val (.long q3), .second, .val (.long q4), .second] [(.long q2), (.ref a1)])) rfl rfl (hb hby d1_6)
  have Fw2 := F_ms_a1.same W2
  have K2 : Keep h0 h2 [a1] := (Keep.refl h0 [a1]).wr W2 (Or.inl (List.mem_of_getElem? (i := 0) rfl))
  have N2 := Fr.snoc X2 N1 g_a1
  refine go (fun t k => st2 _ k) ?_
  show Gl _ _ _ _ _ _ _ _ (T2.setTop (mkF m 9 #[.val (.ref a1), .val (.long q2), .second, .val (.long q3), .second, .val (.long q4), .second] []))
  refine go (fun t k => XS.aloadN X2.here hx rfl (hb hby d1_9) rfl rfl k) ?_
  show Gl _ _ _ _ _ _ _ _ (T2.setTop (mkF m 10 #[.val (.ref a1), .val (.long q2), .second, .val (.long q3), .second, .val (.long q4), .second] [(.ref a1)]))
  refine go (fun t k => XS.lloadN X2.here hx rfl (hb hby d1_10) rfl  k) ?_
  show Gl _ _ _ _ _ _ _ _ (T2.setTop (mkF m 11 #[.val (.ref a1), .val (.long q2), .second, .val (.long q3), .second, .val (.long q4), .second] [(.long q3), (.ref a1)]))
  obtain ⟨T3, h3, X3, e3, W3, st3⟩ := putF X2 hx hZ hown (host := "") (Or.inl (hw _ (List.mem_of_getElem? (i := 16) rfl))) Via.refl e2 (F_leftMs_a1.other W2 (Or.inr (slot_ne (Or.inr (hw _ (List.mem_of_getElem? (i := 17) rfl))) (Or.inr (hw _ (List.mem_of_getElem? (i := 15) rfl))) (by decide) (t := .long) (t' := .long) (by decide) (by decide)))) (E_a1.wr W2) (Or.inr ⟨(hw _ (List.mem_of_getElem? (i := 17) rfl)), rfl, hnm⟩) (hw _ (List.mem_of_getElem? (i := 1) rfl)) (ty := .long) (by decide) rfl rfl (g := (mkF m 11 #[.val (.ref a1), .val (.long q2), .second, .val (.long q3), .second, .val (.long q4), .second] [(.long q3), (.ref a1)])) rfl rfl (hb hby d1_11)
  have Fw3 := (F_leftMs_a1.other W2 (Or.inr (slot_ne (Or.inr (hw _ (List.mem_of_getElem? (i := 17) rfl))) (Or.inr (hw _ (List.mem_of_getElem? (i := 15) rfl))) (by decide) (t := .long) (t' := .long) (by decide) (by decide)))).same W3
  have K3 : Keep h0 h3 [a1] := K2.wr W3 (Or.inl (List.mem_of_getElem? (i := 0) rfl))
  have N3 := Fr.snoc X3 N2 g_a1
  refine go (fun t k => st3 _ k) ?_
  show Gl _ _ _ _ _ _ _ _ (T3.setTop (mkF m 14 #[.val (.ref a1), .val (.long q2), .second, .val (.long q3), .second, .val (.long q4), .second] []))
  refine go (fun t k => XS.aloadN X3.here hx rfl (hb hby d1_14) rfl rfl k) ?_
  show Gl _ _ _ _ _ _ _ _ (T3.setTop (mkF m 15 #[.val (.ref a1), .val (.long q2), .second, .val (.long q3), .second, .val (.long q4), .second] [(.ref a1)]))
  refine go (fun t k => XS.lload X3.here hx rfl (hb hby d1_15) rfl  k) ?_
  show Gl _ _ _ _ _ _ _ _ (T3.setTop (mkF m 17 #[.val (.ref a1), .val (.long q2), .second, .val (.long q3), .second, .val (.long q4), .second] [(.long q4), (.ref a1)]))
  obtain ⟨T4, h4, X4, e4, W4, st4⟩ := putF X3 hx hZ hown (host := "") (Or.inl (hw _ (List.mem_of_getElem? (i := 18) rfl))) Via.refl e3 ((F_fromNanos_a1.other W2 (Or.inr (slot_ne (Or.inr (hw _ (List.mem_of_getElem? (i := 19) rfl))) (Or.inr (hw _ (List.mem_of_getElem? (i := 15) rfl))) (by decide) (t := .long) (t' := .long) (by decide) (by decide)))).other W3 (Or.inr (slot_ne (Or.inr (hw _ (List.mem_of_getElem? (i := 19) rfl))) (Or.inr (hw _ (List.mem_of_getElem? (i := 17) rfl))) (by decide) (t := .long) (t' := .long) (by decide) (by decide)))) ((E_a1.wr W2).wr W3) (Or.inr ⟨(hw _ (List.mem_of_getElem? (i := 19) rfl)), rfl, hnm⟩) (hw _ (List.mem_of_getElem? (i := 1) rfl)) (ty := .long) (by decide) rfl rfl (g := (mkF m 17 #[.val (.ref a1), .val (.long q2), .second, .val (.long q3), .second, .val (.long q4), .second] [(.long q4), (.ref a1)])) rfl rfl (hb hby d1_17)
  have Fw4 := ((F_fromNanos_a1.other W2 (Or.inr (slot_ne (Or.inr (hw _ (List.mem_of_getElem? (i := 19) rfl))) (Or.inr (hw _ (List.mem_of_getElem? (i := 15) rfl))) (by decide) (t := .long) (t' := .long) (by decide) (by decide)))).other W3 (Or.inr (slot_ne (Or.inr (hw _ (List.mem_of_getElem? (i := 19) rfl))) (Or.inr (hw _ (List.mem_of_getElem? (i := 17) rfl))) (by decide) (t := .long) (t' := .long) (by decide) (by decide)))).same W4
  have K4 : Keep h0 h4 [a1] := K3.wr W4 (Or.inl (List.mem_of_getElem? (i := 0) rfl))
  have N4 := Fr.snoc X4 N3 g_a1
  refine go (fun t k => st4 _ k) ?_
  show Gl _ _ _ _ _ _ _ _ (T4.setTop (mkF m 20 #[.val (.ref a1), .val (.long q2), .second, .val (.long q3), .second, .val (.long q4), .second] []))
  exact endV X4 hx Bd (hb hby d1_20) ⟨rfl, (by rw [e4]; exact ⟨K4, (((E_a1.wr W2).wr W3).wr W4), ((Fw2.other W3 (Or.inr (slot_ne (Or.inr (hw _ (List.mem_of_getElem? (i := 15) rfl))) (Or.inr (hw _ (List.mem_of_getElem? (i := 17) rfl))) (by decide) (t := .long) (t' := .long) (by decide) (by decide)))).other W4 (Or.inr (slot_ne (Or.inr (hw _ (List.mem_of_getElem? (i := 15) rfl))) (Or.inr (hw _ (List.mem_of_getElem? (i := 19) rfl))) (by decide) (t := .long) (t' := .long) (by decide) (by decide)))), (Fw3.other W4 (Or.inr (slot_ne (Or.inr (hw _ (List.mem_of_getElem? (i := 17) rfl))) (Or.inr (hw _ (List.mem_of_getElem? (i := 19) rfl))) (by decide) (t := .long) (t' := .long) (by decide) (by decide)))), Fw4⟩)⟩ N4 (by decide) (by decide)
theorem d4_0 : decode prog_50_method_6_code 0 = .ok (.aload_n 0, 1) := by decide +kernel
theorem d4_1 : decode prog_50_method_6_code 1 = .ok (.getfield 13, 3) := by decide +kernel
theorem d4_4 : decode prog_50_method_6_code 4 = .ok (.lconst 0, 1) := by decide +kernel
theorem d4_5 : decode prog_50_method_6_code 5 = .ok (.lcmp, 1) := by decide +kernel
theorem d4_6 : decode prog_50_method_6_code 6 = .ok (.ifCond .le 7, 3) := by decide +kernel
theorem d4_9 : decode prog_50_method_6_code 9 = .ok (.iconst 1, 1) := by decide +kernel
theorem d4_10 : decode prog_50_method_6_code 10 = .ok (.goto 4, 3) := by decide +kernel
theorem d4_13 : decode prog_50_method_6_code 13 = .ok (.iconst 0, 1) := by decide +kernel
theorem d4_14 : decode prog_50_method_6_code 14 = .ok (.ireturn, 1) := by decide +kernel
theorem ef_4 (m : MethodId) (a1 : Addr) : entryFrame m #[(.ref a1)] 1 = mkF m 0 #[.val (.ref a1)] [] := by first | (simp [entryFrame, mkF, argsToLocals, Value.category]; done) | rfl
def b4_14 (s0_14 : Int32) : Int32 := (nar .boolean s0_14)
def b4_0 (w_leftMs_a1 : Int64) : Int32 := (if (0 : Int64) < w_leftMs_a1 then (b4_14 (1 : Int32)) else (b4_14 (0 : Int32)))
set_option maxRecDepth 65536 in
set_option maxHeartbeats 40000000 in
theorem rm4 (l : Launch) (Z : State) (a0 : Array Value) (hw : ∀ d ∈ tables_1, d.before a0 Z = true) (ws : List Jvm.Cond) (a1 : Addr) (w_leftMs_a1 : Int64) (h0 : Heap) (n0 : Nat) (Z0 : n0 ≤ h0.size) (F_leftMs_a1 : Fld Z h0 a1 "com/example/leasehold/server/Countdown" "leftMs" "J" (.long w_leftMs_a1)) :
    MetFree l (⟨"com/example/leasehold/server/Countdown", "endsHere", "()Z"⟩ : MethodName) (head1 (Jvm.Cond.code (⟨"com/example/leasehold/server/Countdown", "endsHere", "()Z"⟩ : MethodName) prog_50_method_6_code 1 (some .boolean) :: ws) ({ frames := 0, cells := 0, slots := 0, locals := 0 } : Room)) (fun a U => a = #[(.ref a1)] ∧ Z.Warmed39 U.vm ∧ U.heap = h0) (fun _ _ _ _ _ => True) (fun _ U o U' => ∃ v L, o = .returned v ∧ QK n0 (Kv (some (.int (b4_0 w_leftMs_a1))) (fun h => h = h0)) v U'.heap L ∧ FrameEnd U o U' L ({ frames := 0, cells := 0, slots := 0, locals := 0 } : Room).cells ({ frames := 0, cells := 0, slots := 0, locals := 0 } : Room).slots) := by
  refine MetFree.of_bodySF (plainFor_of_name pn_1) hisR ?_
  intro p e s m args below meth c s₁ Bd hml0 hP hK
  obtain ⟨rfl, hZ, hh⟩ := hP
  have hx := Bd.exec
  have hby := Bd.bytes
  have hml : c.maxLocals = 1 := hml0
  have hown : s.vm.findClass "com/example/leasehold/server/Countdown" = some m.cls := findClass_of_methodNamed Bd.named
  have hnm := (name_of_methodNamed Bd.named Bd.method).1
  have X0 : Stand p l e ({ frames := 0, cells := 0, slots := 0, locals := 0 } : Room) s m #[(.ref a1)] below meth c s₁ [] 0 0 := Stand.of_body Bd
  have e0 : s₁.heap = h0 := by rw [← hh, Bd.state]; rfl
  have N0 := Fr.nil n0
  refine gl_start (ef_4 m a1) ?_
  show Gl p e below s n0 ({ frames := 0, cells := 0, slots := 0, locals := 0 } : Room).cells ({ frames := 0, cells := 0, slots := 0, locals := 0 } : Room).slots (Kv (some (.int (if (0 : Int64) < w_leftMs_a1 then (b4_14 (1 : Int32)) else (b4_14 (0 : Int32))))) (fun h => h = h0)) (s₁.setTop (mkF m 0 #[.val (.ref a1)] []))
  refine go (fun t k => XS.aloadN X0.here hx rfl (hb hby d4_0) rfl rfl k) ?_
  show Gl _ _ _ _ _ _ _ _ (s₁.setTop (mkF m 1 #[.val (.ref a1)] [(.ref a1)]))
  obtain ⟨T1, X1, e1, st1⟩ := getF X0 hx hZ hown (host := "") (Or.inl (hw _ (List.mem_of_getElem? (i := 16) rfl))) Via.refl e0 F_leftMs_a1 (g := (mkF m 1 #[.val (.ref a1)] [(.ref a1)])) rfl rfl (hb hby d4_1)
  refine go (fun t k => st1 _ k) ?_
  show Gl _ _ _ _ _ _ _ _ (T1.setTop (mkF m 4 #[.val (.ref a1)] [(.long w_leftMs_a1)]))
  refine go (fun t k => XS.lconst X1.here hx rfl (hb hby d4_4) k) ?_
  show Gl _ _ _ _ _ _ _ _ (T1.setTop (mkF m 5 #[.val (.ref a1)] [(.long (0 : Int64)), (.long w_leftMs_a1)]))
  refine go (fun t k => XS.lcmp X1.here hx rfl (hb hby d4_5) rfl k) ?_
  show Gl _ _ _ _ _ _ _ _ (T1.setTop (mkF m 6 #[.val (.ref a1)] [(.int (lcmpW w_leftMs_a1 (0 : Int64)))]))
  have J14 : ∀ (s0_14 : Int32) (TJ14 : State) (lJ14 : List Loc) (XJ14 : Stand p l e ({ frames := 0, cells := 0, slots := 0, locals := 0 } : Room) s m #[(.ref a1)] below meth c TJ14 lJ14 0 0) (eJ14 : TJ14.heap = h0) (NJ14 : Fr n0 lJ14), Gl p e below s n0 ({ frames := 0, cells := 0, slots := 0, locals := 0 } : Room).cells ({ frames := 0, cells := 0, slots := 0, locals := 0 } : Room).slots (Kv (some (.int (b4_14 s0_14))) (fun h => h = h0)) (TJ14.setTop (mkF m 14 #[.val (.ref a1)] [(.int s0_14)])) := by
    intro s0_14 TJ14 lJ14 XJ14 eJ14 NJ14
    show Gl _ _ _ _ _ _ _ (Kv (some (.int (nar .boolean s0_14))) _) _
    exact endN XJ14 hx Bd (t := .boolean) (by simp) (hb hby d4_14) ⟨rfl, eJ14⟩ NJ14 (by decide) (by decide)
  refine gI (c := (0 : Int64) < w_leftMs_a1) (fun hc6 => ?_) (fun hc6 => ?_)
  · refine go (fun t k => XS.ifNo X1.here hx rfl (hb hby d4_6) rfl ((if0 _ _).trans (tlt ((lw_gt w_leftMs_a1 (0 : Int64)).mpr hc6)).2.2.2) k) ?_
    show Gl _ _ _ _ _ _ _ _ (T1.setTop (mkF m 9 #[.val (.ref a1)] []))
    refine go (fun t k => XS.iconst X1.here hx rfl (hb hby d4_9) k) ?_
    show Gl _ _ _ _ _ _ _ _ (T1.setTop (mkF m 10 #[.val (.ref a1)] [(.int (1 : Int32))]))
    refine go (fun t k => XS.goto X1.here hx rfl (pc0 := 10) (pc' := 14) rfl (hb hby d4_10) (by decide) (by decide) k) ?_
    show Gl _ _ _ _ _ _ _ _ (T1.setTop (mkF m 14 #[.val (.ref a1)] [(.int (1 : Int32))]))
    exact J14 (1 : Int32) T1 _ X1 e1 N0
  · refine go (fun t k => XS.ifYes X1.here hx rfl (pc0 := 6) (pc' := 13) rfl (hb hby d4_6) rfl ((if0 _ _).trans (flt (mt (lw_gt w_leftMs_a1 (0 : Int64)).mp hc6)).2.2.2) (by decide) (by decide) k) ?_
    show Gl _ _ _ _ _ _ _ _ (T1.setTop (mkF m 13 #[.val (.ref a1)] []))
    refine go (fun t k => XS.iconst X1.here hx rfl (hb hby d4_13) k) ?_
    show Gl _ _ _ _ _ _ _ _ (T1.setTop (mkF m 14 #[.val (.ref a1)] [(.int (0 : Int32))]))
    exact J14 (0 : Int32) T1 _ X1 e1 N0
theorem pd_1 : parseMethodDescriptor "(JJJ)V" = some ⟨[.long, .long, .long], none⟩ := by decide +kernel
theorem pd_2 : parseMethodDescriptor "()Z" = some ⟨[], some .boolean⟩ := by decide +kernel
theorem pn_2 : plainName "com/example/leasehold/server/CountdownEndsHerePinLaw" = true := by first | (simp [plainName, overriddenIn]; done) | decide +kernel
theorem ef_0 (m : MethodId) (q1 : Int64) (q2 : Int64) (q3 : Int64) : entryFrame m #[(.long q1), (.long q2), (.long q3)] maxLocals = mkF m 0 #[.val (.long q1), .second, .val (.long q2), .second, .val (.long q3), .second, .unset, .unset] [] := by first | (simp [entryFrame, mkF, argsToLocals, Value.category, maxLocals]; done) | rfl
def b0_41 (s0_41 : Int32) : Int32 := (nar .boolean s0_41)
def b0_24 (q2 : Int64) (s0_24 : Int32) : Int32 := (if (b4_0 q2) = s0_24 then (b0_41 (1 : Int32)) else (b0_41 (0 : Int32)))
def b0_0 (q2 : Int64) : Int32 := (if q2 < (1 : Int64) then (b0_24 q2 (0 : Int32)) else (b0_24 q2 (1 : Int32)))
set_option maxRecDepth 65536 in
set_option maxHeartbeats 40000000 in
theorem rm0 (l : Launch) (Z : State) (a0 : Array Value) (hw : ∀ d ∈ tables_1, d.before a0 Z = true) (ws : List Jvm.Cond) (q1 : Int64) (q2 : Int64) (q3 : Int64) (h0 : Heap) (n0 : Nat) (Z0 : n0 ≤ h0.size) :
    MetFree l x (head1 (Jvm.Cond.code x code maxLocals ret :: ws) room_1) (fun a U => a = #[(.long q1), (.long q2), (.long q3)] ∧ Z.Warmed39 U.vm ∧ U.heap = h0) (fun _ _ _ _ _ => True) (fun _ U o U' => ∃ v L, o = .returned v ∧ QK n0 (Kv (some (.int (b0_0 q2))) (fun _ => True)) v U'.heap L ∧ FrameEnd U o U' L room_1.cells room_1.slots) := by
  refine MetFree.of_bodySF (plainFor_of_name pn_2) hisR ?_
  intro p e s m args below meth c s₁ Bd hml0 hP hK
  obtain ⟨rfl, hZ, hh⟩ := hP
  have hx := Bd.exec
  have hby := Bd.bytes
  have hml : c.maxLocals = 8 := hml0
  have hown : s.vm.findClass "com/example/leasehold/server/CountdownEndsHerePinLaw" = some m.cls := findClass_of_methodNamed Bd.named
  have hnm := (name_of_methodNamed Bd.named Bd.method).1
  have X0 : Stand p l e room_1 s m #[(.long q1), (.long q2), (.long q3)] below meth c s₁ [] 0 0 := Stand.of_body Bd
  have e0 : s₁.heap = h0 := by rw [← hh, Bd.state]; rfl
  have N0 := Fr.nil n0
  refine gl_start (ef_0 m q1 q2 q3) ?_
  show Gl p e below s n0 room_1.cells room_1.slots (Kv (some (.int (if q2 < (1 : Int64) then (b0_24 q2 (0 : Int32)) else (b0_24 q2 (1 : Int32))))) (fun _ => True)) (s₁.setTop (mkF m 0 #[.val (.long q1), .second, .val (.long q2), .second, .val (.long q3), .second, .unset, .unset] []))
  obtain ⟨T1, h1, X1, e1, E1, A1, D1, -, st1⟩ := newO X0 hx hZ hown (hw _ (List.mem_of_getElem? (i := 0) rfl)) (hw _ (List.mem_of_getElem? (i := 1) rfl)) (hw _ (List.mem_of_getElem? (i := 2) rfl)) e0 (g := (mkF m 0 #[.val (.long q1), .second, .val (.long q2), .second, .val (.long q3), .second, .unset, .unset] [])) rfl (hb hby at_0) (by decide) (by decide)
  obtain ⟨o1, gq1⟩ : ∃ z, z = h0.size := ⟨_, rfl⟩
  rw [← gq1] at A1 D1 st1
  have g_o1 : n0 ≤ o1 := Nat.le_trans Z0 (Nat.le_of_eq gq1.symm)
  have F_ms_o1 : Fld Z h1 o1 "com/example/leasehold/server/Countdown" "ms" "J" (.long (0 : Int64)) := D1 (Or.inr (hw _ (List.mem_of_getElem? (i := 15) rfl))) (ty := .long) (by decide)
  have F_leftMs_o1 : Fld Z h1 o1 "com/example/leasehold/server/Countdown" "leftMs" "J" (.long (0 : Int64)) := D1 (Or.inr (hw _ (List.mem_of_getElem? (i := 17) rfl))) (ty := .long) (by decide)
  have F_fromNanos_o1 : Fld Z h1 o1 "com/example/leasehold/server/Countdown" "fromNanos" "J" (.long (0 : Int64)) := D1 (Or.inr (hw _ (List.mem_of_getElem? (i := 19) rfl))) (ty := .long) (by decide)
  have K1 : Keep h0 h1 [] := (Keep.refl h0 []).ext E1
  have sz_o1 : h0.size ≤ o1 := Nat.le_trans (Keep.refl h0 []).1 (Nat.le_of_eq gq1.symm)
  refine go (fun t k => st1 _ k) ?_
  show Gl _ _ _ _ _ _ _ _ (T1.setTop (mkF m 3 #[.val (.long q1), .second, .val (.long q2), .second, .val (.long q3), .second, .unset, .unset] [(.ref o1)]))
  refine go (fun t k => XS.dup X1.here hx rfl (hb hby at_3) rfl rfl k) ?_
  show Gl _ _ _ _ _ _ _ _ (T1.setTop (mkF m 4 #[.val (.long q1), .second, .val (.long q2), .second, .val (.long q3), .second, .unset, .unset] [(.ref o1), (.ref o1)]))
  refine go (fun t k => XS.lloadN X1.here hx rfl (hb hby at_4) rfl  k) ?_
  show Gl _ _ _ _ _ _ _ _ (T1.setTop (mkF m 5 #[.val (.long q1), .second, .val (.long q2), .second, .val (.long q3), .second, .unset, .unset] [(.long q1), (.ref o1), (.ref o1)]))
  refine go (fun t k => XS.lloadN X1.here hx rfl (hb hby at_5) rfl  k) ?_
  show Gl _ _ _ _ _ _ _ _ (T1.setTop (mkF m 6 #[.val (.long q1), .second, .val (.long q2), .second, .val (.long q3), .second, .unset, .unset] [(.long q2), (.long q1), (.ref o1), (.ref o1)]))
  refine go (fun t k => XS.lload X1.here hx rfl (hb hby at_6) rfl  k) ?_
  show Gl _ _ _ _ _ _ _ _ (T1.setTop (mkF m 8 #[.val (.long q1), .second, .val (.long q2), .second, .val (.long q3), .second, .unset, .unset] [(.long q3), (.long q2), (.long q1), (.ref o1), (.ref o1)]))
  obtain ⟨_, _, ⟨T2, L2, k2, n2⟩, -, X2, ⟨Lc2, hQ2, l2, y2, z2⟩, st2⟩ := X1.specialBack hx (y := (⟨"com/example/leasehold/server/Countdown", "<init>", "(JJJ)V"⟩ : MethodName)) rfl hown (mvT hZ (hw _ (List.mem_of_getElem? (i := 3) rfl))) (mvT hZ (hw _ (List.mem_of_getElem? (i := 4) rfl))) (mvT hZ (hw _ (List.mem_of_getElem? (i := 5) rfl))) (by decide) (backOf (W := 1) (rm1 l Z a0 hw [] o1 q1 q2 q3 ((.long (0 : Int64))) ((.long (0 : Int64))) ((.long (0 : Int64))) h1 n0 (Nat.le_trans Z0 E1.1) A1 g_o1 F_ms_o1 F_leftMs_o1 F_fromNanos_o1) hZ (hw _ (List.mem_of_getElem? (i := 5) rfl)) (hw _ (List.mem_of_getElem? (i := 2) rfl)) (by decide) (by decide)) (g := (mkF m 8 #[.val (.long q1), .second, .val (.long q2), .second, .val (.long q3), .second, .unset, .unset] [(.long q3), (.long q2), (.long q1), (.ref o1), (.ref o1)])) rfl (by rw [hml]; rfl) (Steps.refl _) (a := o1) (argsL := [(.long q1), (.long q2), (.long q3)]) (rest := [(.ref o1)]) (lenOf pd_1 rfl) rfl (by show 2 * 0 + _ ≤ _; exact Nat.le_of_eq rfl) (hb hby at_8) (fun _ _ => ⟨rfl, e1, (by decide : 1 + 0 ≤ _), (by decide : 3 + 0 ≤ _)⟩)
  dsimp only [Pt.U, Pt.locs, Pt.cells, Pt.slots] at X2 l2 y2 z2 st2 hQ2
  subst l2 y2 z2
  have X2 : Stand p l e room_1 s m #[(.long q1), (.long q2), (.long q3)] below meth c T2 _ 1 3 := X2
  obtain ⟨⟨rfl, K2q, Ex2, Fq2_ms, Fq2_leftMs, Fq2_fromNanos⟩, N2q⟩ := hQ2
  obtain ⟨h2, e2⟩ : ∃ z, T2.heap = z := ⟨_, rfl⟩
  rw [e2] at K2q Ex2 Fq2_ms Fq2_leftMs Fq2_fromNanos
  have K2 : Keep h0 h2 [] := K1.trans K2q (allS (Or.inr sz_o1) all0)
  have N2 := Fr.app N0 N2q
  refine go (fun t k => st2.trans k) ?_
  show Gl _ _ _ _ _ _ _ _ (T2.setTop (mkF m 11 #[.val (.long q1), .second, .val (.long q2), .second, .val (.long q3), .second, .unset, .unset] [(.ref o1)]))
  refine go (fun t k => XS.astore X2.here hx rfl (hb hby at_11) rfl rfl (l' := #[.val (.long q1), .second, .val (.long q2), .second, .val (.long q3), .second, .val (.ref o1), .unset]) rfl k) ?_
  show Gl _ _ _ _ _ _ _ _ (T2.setTop (mkF m 13 #[.val (.long q1), .second, .val (.long q2), .second, .val (.long q3), .second, .val (.ref o1), .unset] []))
  refine go (fun t k => XS.lloadN X2.here hx rfl (hb hby at_13) rfl  k) ?_
  show Gl _ _ _ _ _ _ _ _ (T2.setTop (mkF m 14 #[.val (.long q1), .second, .val (.long q2), .second, .val (.long q3), .second, .val (.ref o1), .unset] [(.long q2)]))
  refine go (fun t k => XS.lconst X2.here hx rfl (hb hby at_14) k) ?_
  show Gl _ _ _ _ _ _ _ _ (T2.setTop (mkF m 15 #[.val (.long q1), .second, .val (.long q2), .second, .val (.long q3), .second, .val (.ref o1), .unset] [(.long (1 : Int64)), (.long q2)]))
  refine go (fun t k => XS.lcmp X2.here hx rfl (hb hby at_15) rfl k) ?_
  show Gl _ _ _ _ _ _ _ _ (T2.setTop (mkF m 16 #[.val (.long q1), .second, .val (.long q2), .second, .val (.long q3), .second, .val (.ref o1), .unset] [(.int (lcmpW q2 (1 : Int64)))]))
  have J24 : ∀ (s0_24 : Int32) (TJ24 : State) (lJ24 : List Loc) (XJ24 : Stand p l e room_1 s m #[(.long q1), (.long q2), (.long q3)] below meth c TJ24 lJ24 1 3) (eJ24 : TJ24.heap = h2) (NJ24 : Fr n0 lJ24), Gl p e below s n0 room_1.cells room_1.slots (Kv (some (.int (b0_24 q2 s0_24))) (fun _ => True)) (TJ24.setTop (mkF m 24 #[.val (.long q1), .second, .val (.long q2), .second, .val (.long q3), .second, .val (.ref o1), .unset] [(.int s0_24)])) := by
    intro s0_24 TJ24 lJ24 XJ24 eJ24 NJ24
    show Gl _ _ _ _ _ _ _ (Kv (some (.int (if (b4_0 q2) = s0_24 then (b0_41 (1 : Int32)) else (b0_41 (0 : Int32))))) _) _
    refine go (fun t k => XS.istore XJ24.here hx rfl (hb hby at_24) rfl (l' := #[.val (.long q1), .second, .val (.long q2), .second, .val (.long q3), .second, .val (.ref o1), .val (.int s0_24)]) rfl k) ?_
    show Gl _ _ _ _ _ _ _ _ (TJ24.setTop (mkF m 26 #[.val (.long q1), .second, .val (.long q2), .second, .val (.long q3), .second, .val (.ref o1), .val (.int s0_24)] []))
    refine go (fun t k => XS.aload XJ24.here hx rfl (hb hby at_26) rfl rfl k) ?_
    show Gl _ _ _ _ _ _ _ _ (TJ24.setTop (mkF m 28 #[.val (.long q1), .second, .val (.long q2), .second, .val (.long q3), .second, .val (.ref o1), .val (.int s0_24)] [(.ref o1)]))
    obtain ⟨cq4, kq4, q4a, q4b, q4c⟩ := isOf hZ eJ24 Ex2
    obtain ⟨_, _, ⟨T4, L4, k4, n4⟩, -, X4, ⟨Lc4, hQ4, l4, y4, z4⟩, st4⟩ := XJ24.virtualBack hx (y := (⟨"com/example/leasehold/server/Countdown", "endsHere", "()Z"⟩ : MethodName)) (z := (⟨"com/example/leasehold/server/Countdown", "endsHere", "()Z"⟩ : MethodName)) hown (mvT hZ (hw _ (List.mem_of_getElem? (i := 20) rfl))) (mvT hZ (hw _ (List.mem_of_getElem? (i := 21) rfl))) (notFace_of_selects (args := #[]) (mvT hZ (hw _ (List.mem_of_getElem? (i := 23) rfl)))) (mvT hZ (hw _ (List.mem_of_getElem? (i := 23) rfl))) (mvT hZ (hw _ (List.mem_of_getElem? (i := 22) rfl))) (by decide) (backOf (W := 0) (rm4 l Z a0 hw [] o1 q2 h2 n0 (Nat.le_trans (Nat.le_trans Z0 E1.1) K2q.1) Fq2_leftMs) hZ (hw _ (List.mem_of_getElem? (i := 24) rfl)) (hw _ (List.mem_of_getElem? (i := 2) rfl)) (by decide) (by decide)) q4a q4c (g := (mkF m 28 #[.val (.long q1), .second, .val (.long q2), .second, .val (.long q3), .second, .val (.ref o1), .val (.int s0_24)] [(.ref o1)])) rfl (by rw [hml]; rfl) (Steps.refl _) (argsL := []) (rest := []) (lenOf pd_2 rfl) rfl (by show 2 * 0 + _ ≤ _; exact Nat.le_of_eq rfl) (hb hby at_28) (fun _ _ => ⟨rfl, eJ24, (by decide : 1 + 0 ≤ _), (by decide : 3 + 0 ≤ _)⟩)
    dsimp only [Pt.U, Pt.locs, Pt.cells, Pt.slots] at X4 l4 y4 z4 st4 hQ4
    subst l4 y4 z4
    have X4 : Stand p l e room_1 s m #[(.long q1), (.long q2), (.long q3)] below meth c T4 _ 1 3 := X4
    obtain ⟨⟨rfl, e4'⟩, N4q⟩ := hQ4
    have e4 : T4.heap = h2 := e4'
    have N4 := Fr.app NJ24 N4q
    refine go (fun t k => st4.trans k) ?_
    show Gl _ _ _ _ _ _ _ _ (T4.setTop (mkF m 31 #[.val (.long q1), .second, .val (.long q2), .second, .val (.long q3), .second, .val (.ref o1), .val (.int s0_24)] [(.int (b4_0 q2))]))
    refine go (fun t k => XS.iload X4.here hx rfl (hb hby at_31) rfl  k) ?_
    show Gl _ _ _ _ _ _ _ _ (T4.setTop (mkF m 33 #[.val (.long q1), .second, .val (.long q2), .second, .val (.long q3), .second, .val (.ref o1), .val (.int s0_24)] [(.int s0_24), (.int (b4_0 q2))]))
    have J41 : ∀ (s0_41 : Int32) (TJ41 : State) (lJ41 : List Loc) (XJ41 : Stand p l e room_1 s m #[(.long q1), (.long q2), (.long q3)] below meth c TJ41 lJ41 1 3) (eJ41 : TJ41.heap = h2) (NJ41 : Fr n0 lJ41), Gl p e below s n0 room_1.cells room_1.slots (Kv (some (.int (b0_41 s0_41))) (fun _ => True)) (TJ41.setTop (mkF m 41 #[.val (.long q1), .second, .val (.long q2), .second, .val (.long q3), .second, .val (.ref o1), .val (.int s0_24)] [(.int s0_41)])) := by
      intro s0_41 TJ41 lJ41 XJ41 eJ41 NJ41
      show Gl _ _ _ _ _ _ _ (Kv (some (.int (nar .boolean s0_41))) _) _
      exact endN XJ41 hx Bd (t := .boolean) (by simp) (hb hby at_41) ⟨rfl, trivial⟩ NJ41 (by decide) (by decide)
    refine gI (c := (b4_0 q2) = s0_24) (fun hc33 => ?_) (fun hc33 => ?_)
    · refine go (fun t k => XS.icmpNo X4.here hx rfl (hb hby at_33) rfl (teq hc33).2 k) ?_
      show Gl _ _ _ _ _ _ _ _ (T4.setTop (mkF m 36 #[.val (.long q1), .second, .val (.long q2), .second, .val (.long q3), .second, .val (.ref o1), .val (.int s0_24)] []))
      refine go (fun t k => XS.iconst X4.here hx rfl (hb hby at_36) k) ?_
      show Gl _ _ _ _ _ _ _ _ (T4.setTop (mkF m 37 #[.val (.long q1), .second, .val (.long q2), .second, .val (.long q3), .second, .val (.ref o1), .val (.int s0_24)] [(.int (1 : Int32))]))
      refine go (fun t k => XS.goto X4.here hx rfl (pc0 := 37) (pc' := 41) rfl (hb hby at_37) (by decide) (by decide) k) ?_
      show Gl _ _ _ _ _ _ _ _ (T4.setTop (mkF m 41 #[.val (.long q1), .second, .val (.long q2), .second, .val (.long q3), .second, .val (.ref o1), .val (.int s0_24)] [(.int (1 : Int32))]))
      exact J41 (1 : Int32) T4 _ X4 e4 N4
    · refine go (fun t k => XS.icmpYes X4.here hx rfl (pc0 := 33) (pc' := 40) rfl (hb hby at_33) rfl (feq hc33).2 (by decide) (by decide) k) ?_
      show Gl _ _ _ _ _ _ _ _ (T4.setTop (mkF m 40 #[.val (.long q1), .second, .val (.long q2), .second, .val (.long q3), .second, .val (.ref o1), .val (.int s0_24)] []))
      refine go (fun t k => XS.iconst X4.here hx rfl (hb hby at_40) k) ?_
      show Gl _ _ _ _ _ _ _ _ (T4.setTop (mkF m 41 #[.val (.long q1), .second, .val (.long q2), .second, .val (.long q3), .second, .val (.ref o1), .val (.int s0_24)] [(.int (0 : Int32))]))
      exact J41 (0 : Int32) T4 _ X4 e4 N4
  refine gI (c := q2 < (1 : Int64)) (fun hc16 => ?_) (fun hc16 => ?_)
  · refine go (fun t k => XS.ifYes X2.here hx rfl (pc0 := 16) (pc' := 23) rfl (hb hby at_16) rfl ((if0 _ _).trans (tlt ((lw_lt q2 (1 : Int64)).mpr hc16)).1) (by decide) (by decide) k) ?_
    show Gl _ _ _ _ _ _ _ _ (T2.setTop (mkF m 23 #[.val (.long q1), .second, .val (.long q2), .second, .val (.long q3), .second, .val (.ref o1), .unset] []))
    refine go (fun t k => XS.iconst X2.here hx rfl (hb hby at_23) k) ?_
    show Gl _ _ _ _ _ _ _ _ (T2.setTop (mkF m 24 #[.val (.long q1), .second, .val (.long q2), .second, .val (.long q3), .second, .val (.ref o1), .unset] [(.int (0 : Int32))]))
    exact J24 (0 : Int32) T2 _ X2 e2 N2
  · refine go (fun t k => XS.ifNo X2.here hx rfl (hb hby at_16) rfl ((if0 _ _).trans (flt (mt (lw_lt q2 (1 : Int64)).mp hc16)).1) k) ?_
    show Gl _ _ _ _ _ _ _ _ (T2.setTop (mkF m 19 #[.val (.long q1), .second, .val (.long q2), .second, .val (.long q3), .second, .val (.ref o1), .unset] []))
    refine go (fun t k => XS.iconst X2.here hx rfl (hb hby at_19) k) ?_
    show Gl _ _ _ _ _ _ _ _ (T2.setTop (mkF m 20 #[.val (.long q1), .second, .val (.long q2), .second, .val (.long q3), .second, .val (.ref o1), .unset] [(.int (1 : Int32))]))
    refine go (fun t k => XS.goto X2.here hx rfl (pc0 := 20) (pc' := 24) rfl (hb hby at_20) (by decide) (by decide) k) ?_
    show Gl _ _ _ _ _ _ _ _ (T2.setTop (mkF m 24 #[.val (.long q1), .second, .val (.long q2), .second, .val (.long q3), .second, .val (.ref o1), .unset] [(.int (1 : Int32))]))
    exact J24 (1 : Int32) T2 _ X2 e2 N2
theorem law_eq (q2 : Int64) : b0_0 q2 = 1 := by
  have k0 : b0_41 0 = 0 := rfl
  have k1 : b0_41 1 = 1 := rfl
  have m0 : b4_14 0 = 0 := rfl
  have m1 : b4_14 1 = 1 := rfl
  have z10 : ¬ ((1 : Int32) = 0) := by decide
  have z01 : ¬ ((0 : Int32) = 1) := by decide
  unfold b0_0 b0_24 b4_0
  simp only [k0, k1, m0, m1, Int64.lt_iff_toInt_lt, Int64.reduceToInt]
  by_cases h : q2.toInt < 1
  · rw [if_pos h, if_neg (show ¬ 0 < q2.toInt by omega)]; rfl
  · rw [if_neg h, if_pos (show 0 < q2.toInt by omega)]; rfl
set_option maxRecDepth 65536 in
set_option maxHeartbeats 40000000 in
theorem comes_1 {Post : Tables → Env → Array Value → State → Outcome → State → Prop} (hpost : ∀ tb e args s v u, (limb_1_1.after args s (.returned v) u = true ∧ limb_1_2.after args s (.returned v) u = true ∧ True) → FrameEnd s (.returned v) u (Jvm.fieldLocs frame_1_writes args s ++ Jvm.arrayLocs frame_1_arrays args s ++ Jvm.staticLocs frame_1_statics s) 16 128 → Post tb e args s (.returned v) u) :
    ArmFor flags0 classFile x code maxLocals ret World_1 tables_1 room_1 Calls_1 rest_1 Pre_1 Post := by
  intro l hfl _ _ p e ha hc hk s m args below hf hA hF happ hP
  obtain ⟨hcalls, hrest, hpre⟩ := hP
  obtain ⟨-, -, -, hnamed, -, -, -, hat⟩ := (Spec.applies_iff hf).mp happ
  obtain ⟨hg, hn⟩ := and_e (Cond.before_iff.mp (show (Jvm.Cond.and given_1 narrow_1).before args s = true from hpre))
  obtain ⟨g1, g2⟩ := and_e hg
  obtain ⟨g3, g4⟩ := and_e g2
  obtain ⟨g5, g6⟩ := and_e g4
  obtain ⟨w0, w1, w2, rfl⟩ : ∃ w0 w1 w2 : Value, args = #[w0, w1, w2] := by
    have hs : args.size = 3 := by simpa [Cond.value, given_1] using g1
    obtain ⟨L⟩ := args
    match L, hs with
    | [w0, w1, w2], _ => exact ⟨w0, w1, w2, rfl⟩
  have hw := fun d (hd : d ∈ tables_1) => atoms_spec (ws := Jvm.Cond.code x code maxLocals ret :: tables_1) hat d (List.mem_cons_of_mem _ hd)
  have hfit : Fit s := fun {y c} hc i hi => by
    obtain ⟨ha, rfl⟩ := Array.getElem?_eq_some_iff.mp hc
    have q := List.all_eq_true.mp ((Array.all_eq_true_iff_forall_mem.mp hF) _ (Array.getElem_mem ha)) i (List.mem_range.mpr hi)
    simpa [Array.getElem?_eq_getElem hi] using q
  obtain ⟨i0, ei0⟩ := isL_v g3
  obtain rfl : w0 = (.long i0) := Option.some.inj ei0
  obtain ⟨i1, ei1⟩ := isL_v g5
  obtain rfl : w1 = (.long i1) := Option.some.inj ei1
  obtain ⟨i2, ei2⟩ := isL_v g6
  obtain rfl : w2 = (.long i2) := Option.some.inj ei2
  obtain ⟨n, o, h1, h2, h3, _, L, rfl, ⟨⟨hv, -⟩, N⟩, hq⟩ := rm0 l s _ hw tables_1 i0 i1 i2  s.heap s.heap.size (Nat.le_refl _)  p e ha hc hk s m _ below hf ((Spec.applies_iff_loose hf).mp happ).1 ⟨rfl, State.Warmed39.refl s, rfl⟩ trivial
  rw [law_eq] at hv
  subst hv
  refine ⟨n, _, h1, h2, h3, hpost _ _ _ _ _ _ ⟨Cond.after_iff.mpr rfl, Cond.after_iff.mpr (eq_i res_at (Term.int_eval (1)) rfl), trivial⟩ ⟨hq.1, hq.2.1, (hq.2.2.sift fun y hy => Or.inr (N y hy)).mono (by decide) (by decide)⟩⟩
theorem main_1_1 : Claimed_1_1 := comes_1 fun _ _ _ _ _ _ h hF => ⟨h.1, hF⟩
theorem main_1_2 : Claimed_1_2 := comes_1 fun _ _ _ _ _ _ h hF => ⟨h.2.1, hF⟩
end Jvm.Pilot.@@N@@
namespace Jvm.Pilot.@@N@@
open Jvm Jvm.ClassFile Sem Op Lib Jvm.Free Jvm.Stand Jvm.Pilot.@@N@@.Jvm.D
/-! MADE BY PROGRAM (witnessworld.py) out of the Statement's table words and the real class files: 8 classes; the members and pool entries that the words name. The judged class is class 1, her method 1. -/
namespace start1
open Jvm.ClassFile
def u (s : String) : CpInfo := .utf8 (stringToUtf16 s)
/-- a pool by its gaps: so many unusable entries, then the entry; so many at the end -/
def gap : Nat → List CpInfo → List CpInfo
  | 0, r => r
  | n + 1, r => .unusable :: gap n r
def poolList (es : List (Nat × CpInfo)) (last : Nat) : List CpInfo := es.foldr (fun e r => gap e.1 (e.2 :: r)) (gap last [])
def pool (es : List (Nat × CpInfo)) (last : Nat) : Array CpInfo := ⟨poolList es last⟩
def fileOf (pool : Array CpInfo) (this : Nat) (attrs : Array Attribute := #[]) (ms : Array MethodInfo := #[]) (fl : Nat := 33) (sup : Nat := 0) (ifs : Array Nat := #[]) (fds : Array FieldInfo := #[]) : ClassFile where
  minorVersion := 0
  majorVersion := 65
  constantPool := pool
  accessFlags := fl
  thisClass := this
  superClass := sup
  interfaces := ifs
  fields := fds
  methods := ms
  attributes := attrs
def plain (name : String) (sup : Option ClassId) : Class where
  name := name
  kind := .ordinary
  loader := none
  accessFlags := 33
  super := sup
  interfaces := #[]
  cf := none
  fields := #[]
  methods := #[]
  instanceTypes := #[]
  staticTypes := #[]
  resolved := #[]
  callSites := []
  init := .initialized
  statics := none
  mirror := none

def pool0 : Array CpInfo := pool [(5, u "<init>"), (0, u "()V"), (1, .class_ 10), (1, u "java/lang/Object")] 113

def k0c0 : Code := { maxStack := 0, maxLocals := 1, code := object_method_1_code, exceptionTable := #[], attributes := #[] }
def k0m0 : Method := { name := "<init>", desc := "()V", sig := { parameters := [], returnType := none }, accessFlags := 1, code := some k0c0 }
/-- java/lang/Object -/
def k0 : Class := { plain "java/lang/Object" none with
  accessFlags := 33
  interfaces := #[]
  cf := some (fileOf pool0 8 #[] #[{ accessFlags := 1, nameIndex := 5, descriptorIndex := 6, attributes := #[] }] 33 0 #[] #[])
  fields := #[]
  methods := #[k0m0]
  instanceTypes := #[]
  staticTypes := #[]
  resolved := Array.replicate 124 none
  statics := none }

def pool1 : Array CpInfo := pool [(2, .class_ 4), (1, u "java/lang/Object"), (0, u "<init>"), (0, u "()V"), (0, .class_ 8), (0, u "com/example/leasehold/server/Countdown"), (0, .methodref 7 10), (0, .nameAndType 5 11), (0, u "(JJJ)V"), (0, .methodref 7 13), (0, .nameAndType 14 15), (0, u "endsHere"), (0, u "()Z"), (0, .class_ 17), (0, u "com/example/leasehold/server/CountdownEndsHerePinLaw"), (2, u "law"), (0, u "(JJJ)Z")] 3

def k1m0 : Method := { name := "<init>", desc := "()V", sig := { parameters := [], returnType := none }, accessFlags := 2, code := none }
def k1c1 : Code := { maxStack := 8, maxLocals := 8, code := code, exceptionTable := #[], attributes := #[] }
def k1m1 : Method := { name := "law", desc := "(JJJ)Z", sig := { parameters := [.long, .long, .long], returnType := some .boolean }, accessFlags := 9, code := some k1c1 }
/-- com/example/leasehold/server/CountdownEndsHerePinLaw -/
def k1 : Class := { plain "com/example/leasehold/server/CountdownEndsHerePinLaw" (some 0) with
  accessFlags := 49
  interfaces := #[]
  cf := some (fileOf pool1 16 #[] #[{ accessFlags := 2, nameIndex := 5, descriptorIndex := 6, attributes := #[] }, { accessFlags := 9, nameIndex := 20, descriptorIndex := 21, attributes := #[] }] 49 2 #[] #[])
  fields := #[]
  methods := #[k1m0, k1m1]
  instanceTypes := #[]
  staticTypes := #[]
  resolved := Array.replicate 25 none
  statics := none }

def pool2 : Array CpInfo := pool [(1, .methodref 2 3), (0, .class_ 4), (0, .nameAndType 5 6), (0, u "java/lang/Object"), (0, u "<init>"), (0, u "()V"), (0, .class_ 8), (0, u "java/lang/Record")] 13

def k2c0 : Code := { maxStack := 1, maxLocals := 1, code := jdk_30_method_1_code, exceptionTable := #[], attributes := #[] }
def k2m0 : Method := { name := "<init>", desc := "()V", sig := { parameters := [], returnType := none }, accessFlags := 4, code := some k2c0 }
/-- java/lang/Record -/
def k2 : Class := { plain "java/lang/Record" (some 0) with
  accessFlags := 1057
  interfaces := #[]
  cf := some (fileOf pool2 7 #[] #[{ accessFlags := 4, nameIndex := 5, descriptorIndex := 6, attributes := #[] }] 1057 2 #[] #[])
  fields := #[]
  methods := #[k2m0]
  instanceTypes := #[]
  staticTypes := #[]
  resolved := Array.replicate 22 none
  statics := none }

def pool3 : Array CpInfo := pool [(1, .methodref 2 3), (0, .class_ 4), (0, .nameAndType 5 6), (0, u "java/lang/Record"), (0, u "<init>"), (0, u "()V"), (0, .fieldref 8 9), (0, .class_ 10), (0, .nameAndType 11 12), (0, u "com/example/leasehold/server/Countdown"), (0, u "ms"), (0, u "J"), (0, .fieldref 8 14), (0, .nameAndType 15 12), (0, u "leftMs"), (0, .fieldref 8 17), (0, .nameAndType 18 12), (0, u "fromNanos"), (8, u "(JJJ)V"), (30, u "NANOS_PER_MS"), (12, u "endsHere"), (0, u "()Z")] 26

def k3c0 : Code := { maxStack := 3, maxLocals := 7, code := prog_50_method_1_code, exceptionTable := #[], attributes := #[] }
def k3m0 : Method := { name := "<init>", desc := "(JJJ)V", sig := { parameters := [.long, .long, .long], returnType := none }, accessFlags := 0, code := some k3c0 }
def k3c1 : Code := { maxStack := 4, maxLocals := 1, code := prog_50_method_6_code, exceptionTable := #[], attributes := #[] }
def k3m1 : Method := { name := "endsHere", desc := "()Z", sig := { parameters := [], returnType := some .boolean }, accessFlags := 0, code := some k3c1 }
/-- com/example/leasehold/server/Countdown -/
def k3 : Class := { plain "com/example/leasehold/server/Countdown" (some 2) with
  accessFlags := 48
  interfaces := #[]
  cf := some (fileOf pool3 8 #[] #[{ accessFlags := 0, nameIndex := 5, descriptorIndex := 27, attributes := #[] }, { accessFlags := 0, nameIndex := 71, descriptorIndex := 72, attributes := #[] }] 48 2 #[] #[{ accessFlags := 18, nameIndex := 11, descriptorIndex := 12, attributes := #[] }, { accessFlags := 18, nameIndex := 15, descriptorIndex := 12, attributes := #[] }, { accessFlags := 18, nameIndex := 18, descriptorIndex := 12, attributes := #[] }, { accessFlags := 26, nameIndex := 58, descriptorIndex := 12, attributes := #[] }])
  fields := #[{ name := "ms", type := .long, accessFlags := 18, slot := 0, constantValue := 0 }, { name := "leftMs", type := .long, accessFlags := 18, slot := 1, constantValue := 0 }, { name := "fromNanos", type := .long, accessFlags := 18, slot := 2, constantValue := 0 }, { name := "NANOS_PER_MS", type := .long, accessFlags := 26, slot := 0, constantValue := 0 }]
  methods := #[k3m0, k3m1]
  instanceTypes := #[.long, .long, .long]
  staticTypes := #[.long]
  resolved := Array.replicate 99 none
  statics := none }

def pool4 : Array CpInfo := pool [(1, u "java/lang/Cloneable"), (0, .class_ 1), (0, u "java/lang/Object"), (0, .class_ 3)] 3

/-- java/lang/Cloneable -/
def k4 : Class := { plain "java/lang/Cloneable" (some 0) with
  accessFlags := 1537
  interfaces := #[]
  cf := some (fileOf pool4 2 #[] #[] 1537 4 #[] #[])
  fields := #[]
  methods := #[]
  instanceTypes := #[]
  staticTypes := #[]
  resolved := Array.replicate 8 none
  statics := none }

def pool5 : Array CpInfo := pool [(1, u "java/io/Serializable"), (0, .class_ 1), (0, u "java/lang/Object"), (0, .class_ 3)] 3

/-- java/io/Serializable -/
def k5 : Class := { plain "java/io/Serializable" (some 0) with
  accessFlags := 1537
  interfaces := #[]
  cf := some (fileOf pool5 2 #[] #[] 1537 4 #[] #[])
  fields := #[]
  methods := #[]
  instanceTypes := #[]
  staticTypes := #[]
  resolved := Array.replicate 8 none
  statics := none }

/-- the primitive byte -/
def k6 : Class := { plain "byte" none with kind := .primitive 'B', accessFlags := 0x411 }
/-- [B -/
def k7 : Class := { plain "[B" (some 0) with kind := .array 6 .byte, interfaces := #[4, 5], accessFlags := 1041 }

def heap : Heap := #[]
def classes : Array Class := #[k0, k1, k2, k3, k4, k5, k6, k7]
def interned : List (Array UInt16 × Addr) := []
def slotsUsed : Nat := 0
def theMethod : MethodId := ⟨1, 1⟩
def args0 : Array Value := #[.long 5, .long 6, .long 7]
def aboutOver (below : List Frame) : State where
  vm := { classes := classes, interned := interned.toArray }
  heap := heap
  slotsUsed := slotsUsed
  threads := #[{ frames := .invoking theMethod args0 :: below }]
def below0 : List Frame := [.native { method := ⟨0, 0⟩, args := #[] }]
def about1 : State := aboutOver below0
def p0 : Program := .bare "" "" ""
def e0 : Env := launch0.env 0 0 0
theorem w_frames : about1.frames = Frame.invoking theMethod args0 :: below0 := rfl
set_option maxRecDepth 65536 in
theorem w_args : argsFit about1.vm theMethod args0 = true := by decide +kernel
set_option maxRecDepth 65536 in
theorem w_heap : heapFits about1 = true := by decide +kernel
set_option maxRecDepth 65536 in
theorem w_runnable : about1.curStatus? = some .runnable := by decide +kernel
set_option maxRecDepth 65536 in
theorem w_alone : about1.alone = true := by decide +kernel
set_option maxRecDepth 65536 in
theorem w_named : about1.methodNamed? x = some theMethod := by decide +kernel
set_option maxRecDepth 65536 in
theorem w_hears : about1.hears theMethod below0 = true := by decide +kernel
set_option maxRecDepth 65536 in
theorem w_ripe : about1.ripe theMethod args0 below0 = true := by decide +kernel
theorem w_running : about1.status = .running := rfl
set_option maxRecDepth 65536 in
theorem w_room : about1.hasRoom e0.platform room_1 = true :=
  launch0.hasRoom_least _ room_1 (by decide +kernel) (by decide +kernel) (by decide +kernel) (by decide +kernel) (by decide +kernel) (by decide +kernel)
theorem allAtoms_all (ts : List Jvm.Cond) (a : Array Jvm.Value) (st : Jvm.State) : (allAtoms ts).before a st = ts.all (fun c => c.before a st) := by
  induction ts with
  | nil => rfl
  | cons c t ih =>
    show (Jvm.Cond.and c (allAtoms t)).before a st = _
    rw [Jvm.Cond.before_and, ih, List.all_cons]
def words1 : List Jvm.Cond := Jvm.Cond.code x code maxLocals ret :: tables_1
/-- a 'code' word, met by the world's own term for the bytes: nothing is compared byte by byte -/
theorem code_word {y : MethodName} {bytes : ByteArray} {mx : Nat} {rt : Option FieldType} {a : Array Value} {s : State} {m : MethodId} {meth : Method} {c : Code} (h1 : s.methodNamed? y = some m) (h2 : s.vm.method? m = some meth) (h3 : meth.code = some c) (h4 : c.code = bytes)
    (h5 : (c.maxLocals == mx && c.exceptionTable.isEmpty && decide (c.maxStack ≤ mostOperands) && decide (meth.sig.returnType = rt) && !meth.locks && decide (parseMethodDescriptor y.desc = some meth.sig)) = true) : (Jvm.Cond.code y bytes mx rt).before a s = true := by
  simp only [Bool.and_eq_true, beq_iff_eq, Bool.not_eq_true', decide_eq_true_eq] at h5
  obtain ⟨⟨⟨⟨⟨g1, g2⟩, g3⟩, g4⟩, g5⟩, g6⟩ := h5
  simp [Cond.before, Cond.holds, Cond.value, h1, h2, h3, h4, g1, g2, g3, g4, g5, g6]
def isCode : Jvm.Cond → Bool
  | .code _ _ _ _ => true
  | _ => false
theorem all_split {L : List Jvm.Cond} {P : Jvm.Cond → Bool} (h1 : L.all (fun c => isCode c || P c) = true) (h2 : ∀ c ∈ L.filter isCode, P c = true) : L.all P = true := by
  refine List.all_eq_true.mpr fun c hc => ?_
  have h := List.all_eq_true.mp h1 c hc
  rcases Bool.eq_false_or_eq_true (isCode c) with hi | hi
  · exact h2 c (List.mem_filter.mpr ⟨hc, hi⟩)
  · simpa [hi] using h
set_option maxRecDepth 65536 in
theorem w_c0 : (Jvm.Cond.code x code maxLocals ret).before args0 about1 = true := code_word (m := ⟨1, 1⟩) (meth := k1m1) (c := k1c1) (by decide +kernel) rfl rfl rfl (by decide +kernel)
set_option maxRecDepth 65536 in
theorem w_c1 : (Jvm.Cond.code ({ cls := "com/example/leasehold/server/Countdown", name := "<init>", desc := "(JJJ)V" } : Jvm.MethodName) prog_50_method_1_code (7 : Nat) (Option.none : Option Jvm.ClassFile.FieldType)).before args0 about1 = true := code_word (m := ⟨3, 0⟩) (meth := k3m0) (c := k3c0) (by decide +kernel) rfl rfl rfl (by decide +kernel)
set_option maxRecDepth 65536 in
theorem w_c2 : (Jvm.Cond.code ({ cls := "java/lang/Record", name := "<init>", desc := "()V" } : Jvm.MethodName) jdk_30_method_1_code (1 : Nat) (Option.none : Option Jvm.ClassFile.FieldType)).before args0 about1 = true := code_word (m := ⟨2, 0⟩) (meth := k2m0) (c := k2c0) (by decide +kernel) rfl rfl rfl (by decide +kernel)
set_option maxRecDepth 65536 in
theorem w_c3 : (Jvm.Cond.code ({ cls := "java/lang/Object", name := "<init>", desc := "()V" } : Jvm.MethodName) object_method_1_code (1 : Nat) (Option.none : Option Jvm.ClassFile.FieldType)).before args0 about1 = true := code_word (m := ⟨0, 0⟩) (meth := k0m0) (c := k0c0) (by decide +kernel) rfl rfl rfl (by decide +kernel)
set_option maxRecDepth 65536 in
theorem w_c4 : (Jvm.Cond.code ({ cls := "com/example/leasehold/server/Countdown", name := "endsHere", desc := "()Z" } : Jvm.MethodName) prog_50_method_6_code (1 : Nat) (Option.some Jvm.ClassFile.FieldType.boolean)).before args0 about1 = true := code_word (m := ⟨3, 1⟩) (meth := k3m1) (c := k3c1) (by decide +kernel) rfl rfl rfl (by decide +kernel)
def codes1 : List Jvm.Cond := [Jvm.Cond.code x code maxLocals ret, Jvm.Cond.code ({ cls := "com/example/leasehold/server/Countdown", name := "<init>", desc := "(JJJ)V" } : Jvm.MethodName) prog_50_method_1_code (7 : Nat) (Option.none : Option Jvm.ClassFile.FieldType), Jvm.Cond.code ({ cls := "java/lang/Record", name := "<init>", desc := "()V" } : Jvm.MethodName) jdk_30_method_1_code (1 : Nat) (Option.none : Option Jvm.ClassFile.FieldType), Jvm.Cond.code ({ cls := "java/lang/Object", name := "<init>", desc := "()V" } : Jvm.MethodName) object_method_1_code (1 : Nat) (Option.none : Option Jvm.ClassFile.FieldType), Jvm.Cond.code ({ cls := "com/example/leasehold/server/Countdown", name := "endsHere", desc := "()Z" } : Jvm.MethodName) prog_50_method_6_code (1 : Nat) (Option.some Jvm.ClassFile.FieldType.boolean)]
set_option maxRecDepth 65536 in
theorem codes_eq : words1.filter isCode = codes1 := rfl
theorem w_codes : ∀ c ∈ words1.filter isCode, c.before args0 about1 = true := by
  rw [codes_eq]
  intro c hc
  simp only [codes1, List.mem_cons, List.not_mem_nil, or_false] at hc
  rcases hc with rfl | rfl | rfl | rfl | rfl
  · exact w_c0
  · exact w_c1
  · exact w_c2
  · exact w_c3
  · exact w_c4
set_option maxRecDepth 65536 in
theorem w_t1 : (words1.take 24).all (fun c => isCode c || c.before args0 about1) = true := by decide +kernel
set_option maxRecDepth 65536 in
theorem w_t2 : (words1.drop 24).all (fun c => isCode c || c.before args0 about1) = true := by decide +kernel
theorem w_tables : (allAtoms (Jvm.Cond.code x code maxLocals ret :: tables_1)).before args0 about1 = true := by
  rw [allAtoms_all]
  show words1.all (fun c => c.before args0 about1) = true
  refine all_split ?_ w_codes
  rw [← List.take_append_drop 24 words1, List.all_append, w_t1, w_t2]
  rfl
set_option maxRecDepth 65536 in
theorem w_case : (Jvm.Cond.and given_1 narrow_1).before args0 about1 = true := by decide +kernel
theorem w_applies : (headSpec (Jvm.Cond.code x code maxLocals ret :: tables_1) room_1).applies x e0.platform about1 = true :=
  (Spec.applies_iff w_frames).mpr ⟨w_running, w_runnable, w_alone, w_named, w_hears, w_ripe, w_room, w_tables⟩
theorem atStart : AtStart classFile x code maxLocals ret World_1 tables_1 room_1 Calls_1 rest_1 Pre_1 launch0 p0 e0 about1 theMethod args0 below0 :=
  ⟨lists_1, trivial, launch0.admits_env _ _ _, launch0.least_env, fairChoices_fair.cas, fairChoices_fair.clock, w_frames, w_args, w_heap, w_applies, trivial, trivial, w_case⟩
end start1
theorem witness_1 : WitnessClaimed_1 := ⟨start1.p0, start1.e0, start1.about1, start1.theMethod, start1.args0, start1.below0, start1.atStart⟩
end Jvm.Pilot.@@N@@
