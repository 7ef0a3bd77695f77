import JvmDerived
import JvmDerived.Pilot.@@N@@Statement
import JvmDerived.Pilot.@@N@@Code
set_option linter.unusedVariables false
set_option linter.unusedSimpArgs false
@@BLOCK:NumsL.lean.txt@@
namespace Jvm.Pilot.@@N@@
open Jvm Jvm.ClassFile Sem Op Lib Jvm.Free Jvm.Stand Jvm.LawKit Jvm.RoadKit Bundle Jvm.Pilot.@@N@@.Jvm.D
section OwnKit
variable {p : Program} {l : Launch} {e : Env} {R : Room} {s : State} {m : MethodId} {args : Array Value} {below : List Frame} {meth : Method} {c : Code} {T : State} {locs : List Loc} {cells slots : Nat} {n0 cc nn : Nat} {K : Option Value → Heap → Prop} {P : Heap → Prop} {A B : State}
/-- what a contract says of the value, the heap and the places written -/
def QK (n0 : Nat) (K : Option Value → Heap → Prop) (v : Option Value) (h : Heap) (L : List Loc) : Prop := K v h ∧ Fr n0 L
def Kv (w : Option Value) (P : Heap → Prop) (v : Option Value) (h : Heap) : Prop := v = w ∧ P h
/-- from A the run comes to this body's end, and K holds there -/
def Gl (p : Program) (e : Env) (below : List Frame) (s : State) (n0 cc nn : Nat) (K : Option Value → Heap → Prop) (A : State) : Prop :=
  ∃ t o, Steps p.tables e below A t ∧ t.status = .running ∧ Ended t below o ∧ ∃ v L, o = .returned v ∧ QK n0 K v t.heap L ∧ FrameEnd s o t L cc nn
theorem go (st : ∀ t, Steps p.tables e below B t → Steps p.tables e below A t) (h : Gl p e below s n0 cc nn K B) : Gl p e below s n0 cc nn K A := by
  obtain ⟨t, o, h1, h2⟩ := h; exact ⟨t, o, st t h1, h2⟩
theorem gl_start {g g' : JFrame} (q : g = g') (h : Gl p e below s n0 cc nn K (T.setTop g')) :
    ∃ t o, Steps p.tables e below (T.setTop g) t ∧ t.status = .running ∧ Ended t below o ∧ ∃ v L, o = .returned v ∧ QK n0 K v t.heap L ∧ FrameEnd s o t L cc nn := by
  subst q; exact h
theorem gI {c : Prop} [Decidable c] {a b : Int32} (h1 : c → Gl p e below s n0 cc nn (Kv (some (.int a)) P) A) (h2 : ¬ c → Gl p e below s n0 cc nn (Kv (some (.int b)) P) A) : Gl p e below s n0 cc nn (Kv (some (.int (if c then a else b))) P) A := by
  by_cases h : c
  · rw [if_pos h]; exact h1 h
  · rw [if_neg h]; exact h2 h
theorem gJ {c : Prop} [Decidable c] {a b : Int64} (h1 : c → Gl p e below s n0 cc nn (Kv (some (.long a)) P) A) (h2 : ¬ c → Gl p e below s n0 cc nn (Kv (some (.long b)) P) A) : Gl p e below s n0 cc nn (Kv (some (.long (if c then a else b))) P) A := by
  by_cases h : c
  · rw [if_pos h]; exact h1 h
  · rw [if_neg h]; exact h2 h
theorem gR {c : Prop} [Decidable c] {a b : Addr} (h1 : c → Gl p e below s n0 cc nn (Kv (some (.ref a)) P) A) (h2 : ¬ c → Gl p e below s n0 cc nn (Kv (some (.ref b)) P) A) : Gl p e below s n0 cc nn (Kv (some (.ref (if c then a else b))) P) A := by
  by_cases h : c
  · rw [if_pos h]; exact h1 h
  · rw [if_neg h]; exact h2 h
theorem gV {c : Prop} [Decidable c] (h1 : c → Gl p e below s n0 cc nn K A) (h2 : ¬ c → Gl p e below s n0 cc nn K A) : Gl p e below s n0 cc nn K A := by
  by_cases h : c
  · exact h1 h
  · exact h2 h
variable {x : MethodName} {S : Spec} {code' : ByteArray} {ml : Nat} {s₁ : State} {pc : Nat} {Ls : Array Slot} {rest : List Value}
theorem endN (X : Stand p l e R s m args below meth c T locs cells slots) (hx : p.tables.exec = Jvm.exec) {t : FieldType} (Bd : BodyLoose p l x S code' ml (some t) e s m args below meth c s₁) (ht : t = .boolean ∨ t = .byte ∨ t = .char ∨ t = .short) {z : Int32}
    (hd : decode c.code pc = .ok (.ireturn, 1)) (hK : K (some (.int (nar t z))) T.heap) (N : Fr n0 locs) (hc : cells ≤ cc) (hs : slots ≤ nn) : Gl p e below s n0 cc nn K (T.setTop (mkF m pc Ls (.int z :: rest))) := by
  obtain ⟨fs, hr, hrun, hended, hW, hsame⟩ := X.leave (v := some (.int (nar t z))) (fun h => by rw [Bd.returns] at h; cases h)
  exact ⟨_, _, retN X hx Bd.returns ht hd hr, hrun, hended, _, _, rfl, ⟨hK, N⟩, ⟨_, rfl⟩, hW, hsame.mono hc hs⟩
theorem endO (X : Stand p l e R s m args below meth c T locs cells slots) (hx : p.tables.exec = Jvm.exec) {t : FieldType} (Bd : BodyLoose p l x S code' ml (some t) e s m args below meth c s₁) {w : Value} {i : Instr} (hn : narrow t w = w)
    (hi : (i = .ireturn ∧ (t = .int ∨ t = .boolean ∨ t = .byte ∨ t = .char ∨ t = .short) ∧ ∃ z, w = .int z) ∨ (i = .lreturn ∧ t = .long ∧ ∃ z, w = .long z) ∨ (i = .dreturn ∧ t = .double ∧ ∃ z, w = .double z) ∨ (i = .freturn ∧ t = .float ∧ ∃ z, w = .float z) ∨ (i = .areturn ∧ t.isReference = true ∧ w.isRef = true))
    (hd : decode c.code pc = .ok (i, 1)) (hK : K (some w) T.heap) (N : Fr n0 locs) (hc : cells ≤ cc) (hs : slots ≤ nn) : Gl p e below s n0 cc nn K (T.setTop (mkF m pc Ls (w :: rest))) := by
  obtain ⟨fs, hr, hrun, hended, hW, hsame⟩ := X.leave (v := some w) (fun h => by rw [Bd.returns] at h; cases h)
  exact ⟨_, _, retOut X hx Bd.returns hn hi hd hr, hrun, hended, _, _, rfl, ⟨hK, N⟩, ⟨_, rfl⟩, hW, hsame.mono hc hs⟩
theorem endI (X : Stand p l e R s m args below meth c T locs cells slots) (hx : p.tables.exec = Jvm.exec) (Bd : BodyLoose p l x S code' ml (some .int) e s m args below meth c s₁) {z : Int32}
    (hd : decode c.code pc = .ok (.ireturn, 1)) (hK : K (some (.int z)) T.heap) (N : Fr n0 locs) (hc : cells ≤ cc) (hs : slots ≤ nn) : Gl p e below s n0 cc nn K (T.setTop (mkF m pc Ls (.int z :: rest))) :=
  endO X hx Bd rfl (Or.inl ⟨rfl, Or.inl rfl, z, rfl⟩) hd hK N hc hs
theorem endJ (X : Stand p l e R s m args below meth c T locs cells slots) (hx : p.tables.exec = Jvm.exec) (Bd : BodyLoose p l x S code' ml (some .long) e s m args below meth c s₁) {z : Int64}
    (hd : decode c.code pc = .ok (.lreturn, 1)) (hK : K (some (.long z)) T.heap) (N : Fr n0 locs) (hc : cells ≤ cc) (hs : slots ≤ nn) : Gl p e below s n0 cc nn K (T.setTop (mkF m pc Ls (.long z :: rest))) :=
  endO X hx Bd rfl (Or.inr (Or.inl ⟨rfl, rfl, z, rfl⟩)) hd hK N hc hs
theorem endR (X : Stand p l e R s m args below meth c T locs cells slots) (hx : p.tables.exec = Jvm.exec) {t : FieldType} (Bd : BodyLoose p l x S code' ml (some t) e s m args below meth c s₁) (ht : t.isReference = true) {a : Addr}
    (hd : decode c.code pc = .ok (.areturn, 1)) (hK : K (some (.ref a)) T.heap) (N : Fr n0 locs) (hc : cells ≤ cc) (hs : slots ≤ nn) : Gl p e below s n0 cc nn K (T.setTop (mkF m pc Ls (.ref a :: rest))) :=
  endO X hx Bd (by cases t <;> first | rfl | cases ht) (Or.inr (Or.inr (Or.inr (Or.inr ⟨rfl, ht, rfl⟩)))) hd hK N hc hs
theorem endV (X : Stand p l e R s m args below meth c T locs cells slots) (hx : p.tables.exec = Jvm.exec) (Bd : BodyLoose p l x S code' ml none e s m args below meth c s₁)
    (hd : decode c.code pc = .ok (.return_, 1)) (hK : K none T.heap) (N : Fr n0 locs) (hc : cells ≤ cc) (hs : slots ≤ nn) : Gl p e below s n0 cc nn K (T.setTop (mkF m pc Ls [])) := by
  obtain ⟨fs, hr, hrun, hended, hW, hsame⟩ := X.leave (v := none) (fun _ => rfl)
  exact ⟨_, _, X.returnOut hx Bd.returns hd hr, hrun, hended, _, _, rfl, ⟨hK, N⟩, ⟨_, rfl⟩, hW, hsame.mono hc hs⟩
theorem own_mv {L L' : List Loc} {k k' n n' : Nat} (X : Stand p l e R s m args below meth c T L k n) (h1 : L = L') (h2 : k = k') (h3 : n = n') : Stand p l e R s m args below meth c T L' k' n' := by subst h1 h2 h3; exact X
theorem lremM {g : JFrame} {target : State} (X : Stand p l e R s m args below meth c T locs cells slots) (hx : p.tables.exec = Jvm.exec) (hg : g.method = m) {x y : Int64} {rest : List Value} (hd : decode c.code g.pc = .ok (.lrem, 1)) (hs : g.stack = .long y :: .long x :: rest) (hy : y ≠ 0)
    (hr : Steps p.tables e below (T.setTop { g with pc := g.pc + 1, stack := .long (x % y) :: rest }) target) : Steps p.tables e below (T.setTop g) target := by
  have q := lrem_mod x y
  exact XS.lrem X.here hx hg hd hs hy (by rw [q]; exact hr)
theorem sta_keep {Z : State} {h h' : Heap} {a : Addr} {C n d D : String} {w : Value} (F : Sta Z h C n d w) (Kp : Keep h h' [a]) (E : Exa Z h a D) : Sta Z h' C n d w := by
  obtain ⟨cf, i, k, f, st, cell, h1, h2, h3, h4, h5, h6, h7⟩ := F
  obtain ⟨cell', k', e1, -, -, e4, -⟩ := E
  refine ⟨cf, i, k, f, st, cell, h1, h2, h3, h4, Kp.2.1 st cell h5 (ninS (fun q => ?_) nin0), h6, h7⟩
  subst q; cases h5.symm.trans e1; rw [h6] at e4; cases e4
theorem sta_keepN {Z : State} {h h' : Heap} {ws : List Addr} {C n d : String} {w : Value} (F : Sta Z h C n d w) (Kp : Keep h h' ws) (hn : ∀ x ∈ ws, ∀ cell : Cell, h[x]? = some cell → cell.vm.isStatics = false) : Sta Z h' C n d w := by
  obtain ⟨cf, i, k, f, st, cell, h1, h2, h3, h4, h5, h6, h7⟩ := F
  refine ⟨cf, i, k, f, st, cell, h1, h2, h3, h4, Kp.2.1 st cell h5 (fun q => ?_), h6, h7⟩
  have := hn st q cell h5
  rw [h6] at this; cases this
theorem sta_keep0 {Z : State} {h h' : Heap} {C n d : String} {w : Value} (F : Sta Z h C n d w) (Kp : Keep h h' []) : Sta Z h' C n d w := by
  obtain ⟨cf, i, k, f, st, cell, h1, h2, h3, h4, h5, h6, h7⟩ := F
  exact ⟨cf, i, k, f, st, cell, h1, h2, h3, h4, Kp.2.1 st cell h5 nin0, h6, h7⟩
theorem sel_priv {Z s : State} {a0 args : Array Value} {y : MethodName} {n : Nat} (hZ : Z.Warmed39 s.vm) (wi : (Cond.instantiable y.cls n).before a0 Z = true) (wp : (Cond.privateMethod y).before a0 Z = true) (wm : (Cond.instanceMethod y).before a0 Z = true) (hy : y.cls ≠ "java/lang/invoke/MethodHandle" ∧ y.cls ≠ "java/lang/invoke/VarHandle") : (Cond.selects y.cls y y).before args s = true := by
  obtain ⟨c, k, h1, h2, -, h4, -⟩ := Cond.instantiable_spec (show (Cond.instantiable y.cls n).before args s = true from mvT hZ wi)
  exact Jvm.Stand.selects_self_of_private h1 h2 (by simp only [Bool.or_eq_false_iff] at h4; exact h4.1) (Cond.privateMethod_at (mvP hZ wp (args := args))) (mvT hZ wm) hy
theorem eqL_v {t : Term} {k : Int64} {a0 : Array Value} {first u : State} {o : Option Outcome} {idx : List Nat} (h : (Cond.eq t (.long k)).value a0 first o u idx = some true) : t.eval a0 first o idx u = some (.long k) := by
  simp only [Cond.value, Term.eval] at h
  cases ht : t.eval a0 first o idx u with
  | none => simp [ht] at h
  | some x => cases x <;> simp [ht] at h ⊢; exact h
theorem eqI_v {t : Term} {k : Int32} {a0 : Array Value} {first u : State} {o : Option Outcome} {idx : List Nat} (h : (Cond.eq t (.int k)).value a0 first o u idx = some true) : t.eval a0 first o idx u = some (.int k) := by
  simp only [Cond.value, Term.eval] at h
  cases ht : t.eval a0 first o idx u with
  | none => simp [ht] at h
  | some x => cases x <;> simp [ht] at h ⊢; exact h
end OwnKit
theorem d2_0 : decode jdk_43_method_3_code 0 = .ok (.iload_n 0, 1) := by decide +kernel
theorem d2_1 : decode jdk_43_method_3_code 1 = .ok (.sipush 255, 3) := by decide +kernel
theorem d2_4 : decode jdk_43_method_3_code 4 = .ok (.if_icmp .gt 7, 3) := by decide +kernel
theorem d2_7 : decode jdk_43_method_3_code 7 = .ok (.iconst 1, 1) := by decide +kernel
theorem d2_8 : decode jdk_43_method_3_code 8 = .ok (.goto 4, 3) := by decide +kernel
theorem d2_11 : decode jdk_43_method_3_code 11 = .ok (.iconst 0, 1) := by decide +kernel
theorem d2_12 : decode jdk_43_method_3_code 12 = .ok (.ireturn, 1) := by decide +kernel
theorem pn_0 : plainName "java/lang/StringLatin1" = true := by first | (simp [plainName, overriddenIn]; done) | decide +kernel
theorem ef_2 (m : MethodId) (p1 : Int32) : entryFrame m #[(.int p1)] 1 = mkF m 0 #[.val (.int p1)] [] := by first | (simp [entryFrame, mkF, argsToLocals, Value.category]; done) | rfl
def b2_12 (s0_12 : Int32) : Int32 := (nar .boolean s0_12)
def b2_0 (p1 : Int32) : Int32 := (if (255 : Int32) < p1 then (b2_12 (0 : Int32)) else (b2_12 (1 : Int32)))
set_option maxRecDepth 65536 in
set_option maxHeartbeats 40000000 in
theorem rm2 (l : Launch) (Z : State) (a0 : Array Value) (hw : ∀ d ∈ tables_1, d.before a0 Z = true) (ws : List Jvm.Cond) (p1 : Int32) (h0 : Heap) (n0 : Nat) (Z0 : n0 ≤ h0.size) :
    MetFree l (⟨"java/lang/StringLatin1", "canEncode", "(C)Z"⟩ : MethodName) (head1 (Jvm.Cond.code (⟨"java/lang/StringLatin1", "canEncode", "(C)Z"⟩ : MethodName) jdk_43_method_3_code 1 (some .boolean) :: ws) ({ frames := 0, cells := 0, slots := 0, locals := 0 } : Room)) (fun a U => a = #[(.int p1)] ∧ Z.Warmed39 U.vm ∧ U.heap = h0) (fun _ _ _ _ _ => True) (fun _ U o U' => ∃ v L, o = .returned v ∧ QK n0 (Kv (some (.int (b2_0 p1))) (fun h => h = h0)) v U'.heap L ∧ FrameEnd U o U' L ({ frames := 0, cells := 0, slots := 0, locals := 0 } : Room).cells ({ frames := 0, cells := 0, slots := 0, locals := 0 } : Room).slots) := by
  refine MetFree.of_bodySF (plainFor_of_name pn_0) hisR ?_
  intro p e s m args below meth c s₁ Bd hml0 hP hK
  obtain ⟨rfl, hZ, hh⟩ := hP
  have hx := Bd.exec
  have hby := Bd.bytes
  have hml : c.maxLocals = 1 := hml0
  have hown : s.vm.findClass "java/lang/StringLatin1" = some m.cls := findClass_of_methodNamed Bd.named
  have hnm := (name_of_methodNamed Bd.named Bd.method).1
  have X0 : Stand p l e ({ frames := 0, cells := 0, slots := 0, locals := 0 } : Room) s m #[(.int p1)] below meth c s₁ [] 0 0 := Stand.of_body Bd
  have e0 : s₁.heap = h0 := by rw [← hh, Bd.state]; rfl
  have N0 := Fr.nil n0
  refine gl_start (ef_2 m p1) ?_
  show Gl p e below s n0 ({ frames := 0, cells := 0, slots := 0, locals := 0 } : Room).cells ({ frames := 0, cells := 0, slots := 0, locals := 0 } : Room).slots (Kv (some (.int (if (255 : Int32) < p1 then (b2_12 (0 : Int32)) else (b2_12 (1 : Int32))))) (fun h => h = h0)) (s₁.setTop (mkF m 0 #[.val (.int p1)] []))
  refine go (fun t k => XS.iloadN X0.here hx rfl (hb hby d2_0) rfl  k) ?_
  show Gl _ _ _ _ _ _ _ _ (s₁.setTop (mkF m 1 #[.val (.int p1)] [(.int p1)]))
  refine go (fun t k => XS.sipush X0.here hx rfl (hb hby d2_1) k) ?_
  show Gl _ _ _ _ _ _ _ _ (s₁.setTop (mkF m 4 #[.val (.int p1)] [(.int (255 : Int32)), (.int p1)]))
  have J12 : ∀ (s0_12 : Int32) (TJ12 : State) (lJ12 : List Loc) (XJ12 : Stand p l e ({ frames := 0, cells := 0, slots := 0, locals := 0 } : Room) s m #[(.int p1)] below meth c TJ12 lJ12 0 0) (eJ12 : TJ12.heap = h0) (NJ12 : Fr n0 lJ12), Gl p e below s n0 ({ frames := 0, cells := 0, slots := 0, locals := 0 } : Room).cells ({ frames := 0, cells := 0, slots := 0, locals := 0 } : Room).slots (Kv (some (.int (b2_12 s0_12))) (fun h => h = h0)) (TJ12.setTop (mkF m 12 #[.val (.int p1)] [(.int s0_12)])) := by
    intro s0_12 TJ12 lJ12 XJ12 eJ12 NJ12
    show Gl _ _ _ _ _ _ _ (Kv (some (.int (nar .boolean s0_12))) _) _
    exact endN XJ12 hx Bd (t := .boolean) (by simp) (hb hby d2_12) ⟨rfl, eJ12⟩ NJ12 (by decide) (by decide)
  refine gI (c := (255 : Int32) < p1) (fun hc4 => ?_) (fun hc4 => ?_)
  · refine go (fun t k => XS.icmpYes X0.here hx rfl (pc0 := 4) (pc' := 11) rfl (hb hby d2_4) rfl (tlt hc4).2.2.1 (by decide) (by decide) k) ?_
    show Gl _ _ _ _ _ _ _ _ (s₁.setTop (mkF m 11 #[.val (.int p1)] []))
    refine go (fun t k => XS.iconst X0.here hx rfl (hb hby d2_11) k) ?_
    show Gl _ _ _ _ _ _ _ _ (s₁.setTop (mkF m 12 #[.val (.int p1)] [(.int (0 : Int32))]))
    exact J12 (0 : Int32) s₁ _ X0 e0 N0
  · refine go (fun t k => XS.icmpNo X0.here hx rfl (hb hby d2_4) rfl (flt hc4).2.2.1 k) ?_
    show Gl _ _ _ _ _ _ _ _ (s₁.setTop (mkF m 7 #[.val (.int p1)] []))
    refine go (fun t k => XS.iconst X0.here hx rfl (hb hby d2_7) k) ?_
    show Gl _ _ _ _ _ _ _ _ (s₁.setTop (mkF m 8 #[.val (.int p1)] [(.int (1 : Int32))]))
    refine go (fun t k => XS.goto X0.here hx rfl (pc0 := 8) (pc' := 12) rfl (hb hby d2_8) (by decide) (by decide) k) ?_
    show Gl _ _ _ _ _ _ _ _ (s₁.setTop (mkF m 12 #[.val (.int p1)] [(.int (1 : Int32))]))
    exact J12 (1 : Int32) s₁ _ X0 e0 N0
theorem d3_0 : decode jdk_43_method_46_code 0 = .ok (.iconst 1, 1) := by decide +kernel
theorem d3_1 : decode jdk_43_method_46_code 1 = .ok (.newarray .byte, 2) := by decide +kernel
theorem d3_3 : decode jdk_43_method_46_code 3 = .ok (.dup, 1) := by decide +kernel
theorem d3_4 : decode jdk_43_method_46_code 4 = .ok (.iconst 0, 1) := by decide +kernel
theorem d3_5 : decode jdk_43_method_46_code 5 = .ok (.iload_n 0, 1) := by decide +kernel
theorem d3_6 : decode jdk_43_method_46_code 6 = .ok (.i2b, 1) := by decide +kernel
theorem d3_7 : decode jdk_43_method_46_code 7 = .ok (.bastore, 1) := by decide +kernel
theorem d3_8 : decode jdk_43_method_46_code 8 = .ok (.areturn, 1) := by decide +kernel
theorem ef_3 (m : MethodId) (p1 : Int32) : entryFrame m #[(.int p1)] 1 = mkF m 0 #[.val (.int p1)] [] := by first | (simp [entryFrame, mkF, argsToLocals, Value.category]; done) | rfl
set_option maxRecDepth 65536 in
set_option maxHeartbeats 40000000 in
theorem rm3 (l : Launch) (Z : State) (a0 : Array Value) (hw : ∀ d ∈ tables_1, d.before a0 Z = true) (ws : List Jvm.Cond) (p1 : Int32) (h0 : Heap) (n0 : Nat) (Z0 : n0 ≤ h0.size) :
    MetFree l (⟨"java/lang/StringLatin1", "toBytes", "(C)[B"⟩ : MethodName) (head1 (Jvm.Cond.code (⟨"java/lang/StringLatin1", "toBytes", "(C)[B"⟩ : MethodName) jdk_43_method_46_code 1 (some (.array .byte)) :: ws) ({ frames := 0, cells := 1, slots := 1, locals := 0 } : Room)) (fun a U => a = #[(.int p1)] ∧ Z.Warmed39 U.vm ∧ U.heap = h0) (fun _ _ _ _ _ => True) (fun _ U o U' => ∃ v L, o = .returned v ∧ QK n0 (fun v h => ∃ (x0 : Addr), v = some (.ref x0) ∧ Keep h0 h [] ∧ h0.size ≤ x0) v U'.heap L ∧ FrameEnd U o U' L ({ frames := 0, cells := 1, slots := 1, locals := 0 } : Room).cells ({ frames := 0, cells := 1, slots := 1, locals := 0 } : Room).slots) := by
  refine MetFree.of_bodySF (plainFor_of_name pn_0) hisR ?_
  intro p e s m args below meth c s₁ Bd hml0 hP hK
  obtain ⟨rfl, hZ, hh⟩ := hP
  have hx := Bd.exec
  have hby := Bd.bytes
  have hml : c.maxLocals = 1 := hml0
  have hown : s.vm.findClass "java/lang/StringLatin1" = some m.cls := findClass_of_methodNamed Bd.named
  have hnm := (name_of_methodNamed Bd.named Bd.method).1
  have X0 : Stand p l e ({ frames := 0, cells := 1, slots := 1, locals := 0 } : Room) s m #[(.int p1)] below meth c s₁ [] 0 0 := Stand.of_body Bd
  have e0 : s₁.heap = h0 := by rw [← hh, Bd.state]; rfl
  have N0 := Fr.nil n0
  refine gl_start (ef_3 m p1) ?_
  show Gl p e below s n0 ({ frames := 0, cells := 1, slots := 1, locals := 0 } : Room).cells ({ frames := 0, cells := 1, slots := 1, locals := 0 } : Room).slots (fun v h => ∃ (x0 : Addr), v = some (.ref x0) ∧ Keep h0 h [] ∧ h0.size ≤ x0) (s₁.setTop (mkF m 0 #[.val (.int p1)] []))
  refine go (fun t k => XS.iconst X0.here hx rfl (hb hby d3_0) k) ?_
  show Gl _ _ _ _ _ _ _ _ (s₁.setTop (mkF m 1 #[.val (.int p1)] [(.int (1 : Int32))]))
  obtain ⟨T1, h1, k1, X1, e1, E1, A1, st1⟩ := newP X0 hx hZ (hw _ (List.mem_of_getElem? (i := 14) rfl)) e0 (g := (mkF m 1 #[.val (.int p1)] [(.int (1 : Int32))])) rfl (hb hby d3_1) rfl (by decide) (cap := 1) (by decide) (by decide) (by decide) (by decide)
  obtain ⟨o1, gq1⟩ : ∃ z, z = h0.size := ⟨_, rfl⟩
  rw [← gq1] at A1 st1
  have g_o1 : n0 ≤ o1 := Nat.le_trans Z0 (Nat.le_of_eq gq1.symm)
  have V_o1 : Arv Z h1 o1 k1 .byte (1 : Int32) [(.int (0 : Int32))] (.int (0 : Int32)) := (Arv.new A1 (by decide)).pad (pad_rep [] (.int (0 : Int32)) 1)
  have K1 : Keep h0 h1 [] := (Keep.refl h0 []).ext E1
  have sz_o1 : h0.size ≤ o1 := Nat.le_trans (Keep.refl h0 []).1 (Nat.le_of_eq gq1.symm)
  refine go (fun t k => st1 _ k) ?_
  show Gl _ _ _ _ _ _ _ _ (T1.setTop (mkF m 3 #[.val (.int p1)] [(.ref o1)]))
  refine go (fun t k => XS.dup X1.here hx rfl (hb hby d3_3) rfl rfl k) ?_
  show Gl _ _ _ _ _ _ _ _ (T1.setTop (mkF m 4 #[.val (.int p1)] [(.ref o1), (.ref o1)]))
  refine go (fun t k => XS.iconst X1.here hx rfl (hb hby d3_4) k) ?_
  show Gl _ _ _ _ _ _ _ _ (T1.setTop (mkF m 5 #[.val (.int p1)] [(.int (0 : Int32)), (.ref o1), (.ref o1)]))
  refine go (fun t k => XS.iloadN X1.here hx rfl (hb hby d3_5) rfl  k) ?_
  show Gl _ _ _ _ _ _ _ _ (T1.setTop (mkF m 6 #[.val (.int p1)] [(.int p1), (.int (0 : Int32)), (.ref o1), (.ref o1)]))
  refine go (fun t k => XS.i2b X1.here hx rfl (hb hby d3_6) rfl k) ?_
  show Gl _ _ _ _ _ _ _ _ (T1.setTop (mkF m 7 #[.val (.int p1)] [(.int (p1.toInt8.toInt32)), (.int (0 : Int32)), (.ref o1), (.ref o1)]))
  obtain ⟨cl2, Ar2, vq2, S2, M2, Hh2, G2⟩ := id V_o1
  obtain ⟨T2, h2, X2, e2, W2, st2⟩ := stB X1 hx hZ e1 Ar2 (j := (0 : Int32)) (inb_of S2 ⟨by decide, by decide⟩) (g := (mkF m 7 #[.val (.int p1)] [(.int (p1.toInt8.toInt32)), (.int (0 : Int32)), (.ref o1), (.ref o1)])) rfl rfl (hb hby d3_7)
  have V2 : Arv Z h2 o1 k1 .byte (1 : Int32) [(.int (nar .byte (p1.toInt8.toInt32)))] (.int (0 : Int32)) := Arv.set Ar2 vq2 S2 M2 Hh2 G2 (fits_nar_byte _) W2 0 rfl (Nat.le_of_ble_eq_true rfl)
  have K2 : Keep h0 h2 [] := K1.wr W2 (Or.inr sz_o1)
  have N2 := Fr.snoc X2 N0 g_o1
  refine go (fun t k => st2 _ k) ?_
  have zs3 := (Nat.le_trans (Nat.le_trans Z0 E1.1) (Keep.of_wr W2).1)
  show Gl _ _ _ _ _ _ _ _ (T2.setTop (mkF m 8 #[.val (.int p1)] [(.ref o1)]))
  exact endR X2 hx Bd rfl (hb hby d3_8) ⟨o1, rfl, (by rw [e2]; exact ⟨K2, sz_o1⟩)⟩ N2 (by decide) (by decide)
theorem d4_0 : decode jdk_42_method_151_code 0 = .ok (.aload_n 0, 1) := by decide +kernel
theorem d4_1 : decode jdk_42_method_151_code 1 = .ok (.invokespecial 1, 3) := by decide +kernel
theorem d4_4 : decode jdk_42_method_151_code 4 = .ok (.aload_n 0, 1) := by decide +kernel
theorem d4_5 : decode jdk_42_method_151_code 5 = .ok (.aload_n 1, 1) := by decide +kernel
theorem d4_6 : decode jdk_42_method_151_code 6 = .ok (.putfield 9, 3) := by decide +kernel
theorem d4_9 : decode jdk_42_method_151_code 9 = .ok (.aload_n 0, 1) := by decide +kernel
theorem d4_10 : decode jdk_42_method_151_code 10 = .ok (.iload_n 2, 1) := by decide +kernel
theorem d4_11 : decode jdk_42_method_151_code 11 = .ok (.putfield 15, 3) := by decide +kernel
theorem d4_14 : decode jdk_42_method_151_code 14 = .ok (.return_, 1) := by decide +kernel
theorem pn_1 : plainName "java/lang/String" = true := by first | (simp [plainName, overriddenIn]; done) | decide +kernel
theorem ef_4 (m : MethodId) (a1 : Addr) (a2 : Addr) (p3 : Int32) : entryFrame m #[(.ref a1), (.ref a2), (.int p3)] 3 = mkF m 0 #[.val (.ref a1), .val (.ref a2), .val (.int p3)] [] := by first | (simp [entryFrame, mkF, argsToLocals, Value.category]; done) | rfl
set_option maxRecDepth 65536 in
set_option maxHeartbeats 40000000 in
theorem rm4 (l : Launch) (Z : State) (a0 : Array Value) (hw : ∀ d ∈ tables_1, d.before a0 Z = true) (ws : List Jvm.Cond) (a1 : Addr) (a2 : Addr) (p3 : Int32) (w_value_a1 : Value) (w_coder_a1 : Value) (h0 : Heap) (n0 : Nat) (Z0 : n0 ≤ h0.size) (E_a1 : Exa Z h0 a1 "java/lang/String") (g_a1 : n0 ≤ a1) (F_value_a1 : Fld Z h0 a1 "java/lang/String" "value" "[B" w_value_a1) (F_coder_a1 : Fld Z h0 a1 "java/lang/String" "coder" "B" w_coder_a1) :
    MetFree l (⟨"java/lang/String", "<init>", "([BB)V"⟩ : MethodName) (head1 (Jvm.Cond.code (⟨"java/lang/String", "<init>", "([BB)V"⟩ : MethodName) jdk_42_method_151_code 3 none :: ws) ({ frames := 1, cells := 0, slots := 0, locals := 12 } : Room)) (fun a U => a = #[(.ref a1), (.ref a2), (.int p3)] ∧ Z.Warmed39 U.vm ∧ U.heap = h0) (fun _ _ _ _ _ => True) (fun _ U o U' => ∃ v L, o = .returned v ∧ QK n0 (Kv none (fun h => Keep h0 h [a1] ∧ Exa Z h a1 "java/lang/String" ∧ Fld Z h a1 "java/lang/String" "value" "[B" (.ref a2) ∧ Fld Z h a1 "java/lang/String" "coder" "B" (.int (nar .byte p3)))) v U'.heap L ∧ FrameEnd U o U' L ({ frames := 1, cells := 0, slots := 0, locals := 12 } : Room).cells ({ frames := 1, cells := 0, slots := 0, locals := 12 } : Room).slots) := by
  refine MetFree.of_bodySF (plainFor_of_name pn_1) hisR ?_
  intro p e s m args below meth c s₁ Bd hml0 hP hK
  obtain ⟨rfl, hZ, hh⟩ := hP
  have hx := Bd.exec
  have hby := Bd.bytes
  have hml : c.maxLocals = 3 := hml0
  have hown : s.vm.findClass "java/lang/String" = some m.cls := findClass_of_methodNamed Bd.named
  have hnm := (name_of_methodNamed Bd.named Bd.method).1
  have X0 : Stand p l e ({ frames := 1, cells := 0, slots := 0, locals := 12 } : Room) s m #[(.ref a1), (.ref a2), (.int p3)] below meth c s₁ [] 0 0 := Stand.of_body Bd
  have e0 : s₁.heap = h0 := by rw [← hh, Bd.state]; rfl
  have N0 := Fr.nil n0
  refine gl_start (ef_4 m a1 a2 p3) ?_
  show Gl p e below s n0 ({ frames := 1, cells := 0, slots := 0, locals := 12 } : Room).cells ({ frames := 1, cells := 0, slots := 0, locals := 12 } : Room).slots (Kv none (fun h => Keep h0 h [a1] ∧ Exa Z h a1 "java/lang/String" ∧ Fld Z h a1 "java/lang/String" "value" "[B" (.ref a2) ∧ Fld Z h a1 "java/lang/String" "coder" "B" (.int (nar .byte p3)))) (s₁.setTop (mkF m 0 #[.val (.ref a1), .val (.ref a2), .val (.int p3)] []))
  refine go (fun t k => XS.aloadN X0.here hx rfl (hb hby d4_0) rfl rfl k) ?_
  show Gl _ _ _ _ _ _ _ _ (s₁.setTop (mkF m 1 #[.val (.ref a1), .val (.ref a2), .val (.int p3)] [(.ref a1)]))
  obtain ⟨T1, X1, e1, st1⟩ := initO X0 hx hZ hown (hw _ (List.mem_of_getElem? (i := 19) rfl)) (hw _ (List.mem_of_getElem? (i := 20) rfl)) (hw _ (List.mem_of_getElem? (i := 21) rfl)) e0 (g := (mkF m 1 #[.val (.ref a1), .val (.ref a2), .val (.int p3)] [(.ref a1)])) rfl (by rw [hml]; rfl) rfl (hb hby d4_1) (by decide) (W := 0) (by show 2 * 0 + _ ≤ _; exact Nat.le_of_eq rfl) (by decide)
  refine go (fun t k => st1 _ k) ?_
  show Gl _ _ _ _ _ _ _ _ (T1.setTop (mkF m 4 #[.val (.ref a1), .val (.ref a2), .val (.int p3)] []))
  refine go (fun t k => XS.aloadN X1.here hx rfl (hb hby d4_4) rfl rfl k) ?_
  show Gl _ _ _ _ _ _ _ _ (T1.setTop (mkF m 5 #[.val (.ref a1), .val (.ref a2), .val (.int p3)] [(.ref a1)]))
  refine go (fun t k => XS.aloadN X1.here hx rfl (hb hby d4_5) rfl rfl k) ?_
  show Gl _ _ _ _ _ _ _ _ (T1.setTop (mkF m 6 #[.val (.ref a1), .val (.ref a2), .val (.int p3)] [(.ref a2), (.ref a1)]))
  obtain ⟨T2, h2, X2, e2, W2, st2⟩ := putF X1 hx hZ hown (host := "") (Or.inl (hw _ (List.mem_of_getElem? (i := 22) rfl))) Via.refl e1 F_value_a1 E_a1 (Or.inr ⟨(hw _ (List.mem_of_getElem? (i := 23) rfl)), rfl, hnm⟩) (hw _ (List.mem_of_getElem? (i := 10) rfl)) (ty := (.array .byte)) (by decide) rfl rfl (g := (mkF m 6 #[.val (.ref a1), .val (.ref a2), .val (.int p3)] [(.ref a2), (.ref a1)])) rfl rfl (hb hby d4_6)
  have Fw2 := F_value_a1.same W2
  have K2 : Keep h0 h2 [a1] := (Keep.refl h0 [a1]).wr W2 (Or.inl (List.mem_of_getElem? (i := 0) rfl))
  have N2 := Fr.snoc X2 N0 g_a1
  refine go (fun t k => st2 _ k) ?_
  have fs3 := (F_coder_a1.other W2 (Or.inr (slot_ne (Or.inr (hw _ (List.mem_of_getElem? (i := 25) rfl))) (Or.inr (hw _ (List.mem_of_getElem? (i := 23) rfl))) (by decide) (t := .byte) (t' := (.array .byte)) (by decide) (by decide))))
  have zs4 := (Nat.le_trans Z0 (Keep.of_wr W2).1)
  show Gl _ _ _ _ _ _ _ _ (T2.setTop (mkF m 9 #[.val (.ref a1), .val (.ref a2), .val (.int p3)] []))
  refine go (fun t k => XS.aloadN X2.here hx rfl (hb hby d4_9) rfl rfl k) ?_
  show Gl _ _ _ _ _ _ _ _ (T2.setTop (mkF m 10 #[.val (.ref a1), .val (.ref a2), .val (.int p3)] [(.ref a1)]))
  refine go (fun t k => XS.iloadN X2.here hx rfl (hb hby d4_10) rfl  k) ?_
  show Gl _ _ _ _ _ _ _ _ (T2.setTop (mkF m 11 #[.val (.ref a1), .val (.ref a2), .val (.int p3)] [(.int p3), (.ref a1)]))
  obtain ⟨T5, h5, X5, e5, W5, st5⟩ := putFN X2 hx hZ hown (hw _ (List.mem_of_getElem? (i := 24) rfl)) Via.refl e2 fs3 (E_a1.wr W2) (Or.inr ⟨(hw _ (List.mem_of_getElem? (i := 25) rfl)), rfl, hnm⟩) (hw _ (List.mem_of_getElem? (i := 10) rfl)) (ty := .byte) (v' := (.int (nar .byte p3))) (by decide) rfl (fits_nar_byte _) (g := (mkF m 11 #[.val (.ref a1), .val (.ref a2), .val (.int p3)] [(.int p3), (.ref a1)])) rfl rfl (hb hby d4_11)
  have Fw5 := fs3.same W5
  have K5 : Keep h0 h5 [a1] := K2.wr W5 (Or.inl (List.mem_of_getElem? (i := 0) rfl))
  have N5 := Fr.snoc X5 N2 g_a1
  refine go (fun t k => st5 _ k) ?_
  have fs6 := (Fw2.other W5 (Or.inr (slot_ne (Or.inr (hw _ (List.mem_of_getElem? (i := 23) rfl))) (Or.inr (hw _ (List.mem_of_getElem? (i := 25) rfl))) (by decide) (t := (.array .byte)) (t' := .byte) (by decide) (by decide))))
  have zs7 := (Nat.le_trans zs4 (Keep.of_wr W5).1)
  show Gl _ _ _ _ _ _ _ _ (T5.setTop (mkF m 14 #[.val (.ref a1), .val (.ref a2), .val (.int p3)] []))
  exact endV X5 hx Bd (hb hby d4_14) ⟨rfl, (by rw [e5]; exact ⟨K5, ((E_a1.wr W2).wr W5), fs6, Fw5⟩)⟩ N5 (by decide) (by decide)
theorem pd_0 : parseMethodDescriptor "(C)Z" = some ⟨[.char], some .boolean⟩ := by decide +kernel
theorem pd_1 : parseMethodDescriptor "(C)[B" = some ⟨[.char], some (.array .byte)⟩ := by decide +kernel
theorem pd_2 : parseMethodDescriptor "([BB)V" = some ⟨[(.array .byte), .byte], none⟩ := by decide +kernel
theorem d1_0 : decode jdk_42_method_139_code 0 = .ok (.getstatic 38, 3) := by decide +kernel
theorem d1_3 : decode jdk_42_method_139_code 3 = .ok (.ifCond .eq 23, 3) := by decide +kernel
theorem d1_6 : decode jdk_42_method_139_code 6 = .ok (.iload_n 0, 1) := by decide +kernel
theorem d1_7 : decode jdk_42_method_139_code 7 = .ok (.invokestatic 1015, 3) := by decide +kernel
theorem d1_10 : decode jdk_42_method_139_code 10 = .ok (.ifCond .eq 16, 3) := by decide +kernel
theorem d1_13 : decode jdk_42_method_139_code 13 = .ok (.new 10, 3) := by decide +kernel
theorem d1_16 : decode jdk_42_method_139_code 16 = .ok (.dup, 1) := by decide +kernel
theorem d1_17 : decode jdk_42_method_139_code 17 = .ok (.iload_n 0, 1) := by decide +kernel
theorem d1_18 : decode jdk_42_method_139_code 18 = .ok (.invokestatic 1018, 3) := by decide +kernel
theorem d1_21 : decode jdk_42_method_139_code 21 = .ok (.iconst 0, 1) := by decide +kernel
theorem d1_22 : decode jdk_42_method_139_code 22 = .ok (.invokespecial 209, 3) := by decide +kernel
theorem d1_25 : decode jdk_42_method_139_code 25 = .ok (.areturn, 1) := by decide +kernel
theorem ef_1 (m : MethodId) (p1 : Int32) : entryFrame m #[(.int p1)] 1 = mkF m 0 #[.val (.int p1)] [] := by first | (simp [entryFrame, mkF, argsToLocals, Value.category]; done) | rfl
set_option maxRecDepth 65536 in
set_option maxHeartbeats 40000000 in
theorem rm1 (l : Launch) (Z : State) (a0 : Array Value) (hw : ∀ d ∈ tables_1, d.before a0 Z = true) (ws : List Jvm.Cond) (p1 : Int32) (w_COMPACT_STRINGS : Int32) (h0 : Heap) (n0 : Nat) (Z0 : n0 ≤ h0.size) (S_COMPACT_STRINGS : Sta Z h0 "java/lang/String" "COMPACT_STRINGS" "Z" (.int w_COMPACT_STRINGS)) (hc3 : ¬ (w_COMPACT_STRINGS = (0 : Int32))) (hc10 : ¬ ((b2_0 p1) = (0 : Int32))) :
    MetFree l (⟨"java/lang/String", "valueOf", "(C)Ljava/lang/String;"⟩ : MethodName) (head1 (Jvm.Cond.code (⟨"java/lang/String", "valueOf", "(C)Ljava/lang/String;"⟩ : MethodName) jdk_42_method_139_code 1 (some (.object "java/lang/String")) :: ws) ({ frames := 2, cells := 2, slots := 5, locals := 27 } : Room)) (fun a U => a = #[(.int p1)] ∧ Z.Warmed39 U.vm ∧ U.heap = h0) (fun _ _ _ _ _ => True) (fun _ U o U' => ∃ v L, o = .returned v ∧ QK n0 (fun v h => ∃ (x0 : Addr), v = some (.ref x0) ∧ Keep h0 h [] ∧ h0.size ≤ x0 ∧ Exa Z h x0 "java/lang/String") v U'.heap L ∧ FrameEnd U o U' L ({ frames := 2, cells := 2, slots := 5, locals := 27 } : Room).cells ({ frames := 2, cells := 2, slots := 5, locals := 27 } : Room).slots) := by
  refine MetFree.of_bodySF (plainFor_of_name pn_1) hisR ?_
  intro p e s m args below meth c s₁ Bd hml0 hP hK
  obtain ⟨rfl, hZ, hh⟩ := hP
  have hx := Bd.exec
  have hby := Bd.bytes
  have hml : c.maxLocals = 1 := hml0
  have hown : s.vm.findClass "java/lang/String" = some m.cls := findClass_of_methodNamed Bd.named
  have hnm := (name_of_methodNamed Bd.named Bd.method).1
  have X0 : Stand p l e ({ frames := 2, cells := 2, slots := 5, locals := 27 } : Room) s m #[(.int p1)] below meth c s₁ [] 0 0 := Stand.of_body Bd
  have e0 : s₁.heap = h0 := by rw [← hh, Bd.state]; rfl
  have N0 := Fr.nil n0
  refine gl_start (ef_1 m p1) ?_
  show Gl p e below s n0 ({ frames := 2, cells := 2, slots := 5, locals := 27 } : Room).cells ({ frames := 2, cells := 2, slots := 5, locals := 27 } : Room).slots (fun v h => ∃ (x0 : Addr), v = some (.ref x0) ∧ Keep h0 h [] ∧ h0.size ≤ x0 ∧ Exa Z h x0 "java/lang/String") (s₁.setTop (mkF m 0 #[.val (.int p1)] []))
  obtain ⟨T1, X1, e1, st1⟩ := getS2 X0 hx hZ hown (host := "") (Or.inl (hw _ (List.mem_of_getElem? (i := 4) rfl))) Via.refl e0 S_COMPACT_STRINGS (g := (mkF m 0 #[.val (.int p1)] [])) rfl (hb hby d1_0)
  refine go (fun t k => st1 _ k) ?_
  show Gl _ _ _ _ _ _ _ _ (T1.setTop (mkF m 3 #[.val (.int p1)] [(.int w_COMPACT_STRINGS)]))
  refine go (fun t k => XS.ifNo X1.here hx rfl (hb hby d1_3) rfl ((if0 _ _).trans (feq hc3).1) k) ?_
  show Gl _ _ _ _ _ _ _ _ (T1.setTop (mkF m 6 #[.val (.int p1)] []))
  refine go (fun t k => XS.iloadN X1.here hx rfl (hb hby d1_6) rfl  k) ?_
  show Gl _ _ _ _ _ _ _ _ (T1.setTop (mkF m 7 #[.val (.int p1)] [(.int p1)]))
  obtain ⟨_, _, ⟨T2, L2, k2, n2⟩, -, X2, ⟨Lc2, hQ2, l2, y2, z2⟩, st2⟩ := Jvm.LawKit.callS X1 hx (y := (⟨"java/lang/StringLatin1", "canEncode", "(C)Z"⟩ : MethodName)) hown (mvT hZ (hw _ (List.mem_of_getElem? (i := 5) rfl))) (mvT hZ (hw _ (List.mem_of_getElem? (i := 6) rfl))) (mvT hZ (hw _ (List.mem_of_getElem? (i := 7) rfl))) (mvT hZ (hw _ (List.mem_of_getElem? (i := 8) rfl))) (by decide) (backOf (W := 0) (rm2 l Z a0 hw [] p1 h0 n0 Z0 ) hZ (hw _ (List.mem_of_getElem? (i := 8) rfl)) (hw _ (List.mem_of_getElem? (i := 7) rfl)) (by decide) (by decide)) (g := (mkF m 7 #[.val (.int p1)] [(.int p1)])) rfl (by rw [hml]; rfl) (argsL := [(.int p1)]) (rest := []) (lenOf pd_0 rfl) rfl (by show 2 * 0 + _ ≤ _; exact Nat.le_of_eq rfl) (hb hby d1_7) (fun _ _ => ⟨rfl, e1, (by decide : 0 + 0 ≤ _), (by decide : 0 + 0 ≤ _)⟩)
  dsimp only [Pt.U, Pt.locs, Pt.cells, Pt.slots] at X2 l2 y2 z2 st2 hQ2
  replace X2 : Stand p l e ({ frames := 2, cells := 2, slots := 5, locals := 27 } : Room) s m #[(.int p1)] below meth c T2 _ 0 0 := own_mv X2 l2 y2 z2
  clear l2 y2 z2
  obtain ⟨⟨rfl, e2'⟩, N2q⟩ := hQ2
  have e2 : T2.heap = h0 := e2'
  have N2 := Fr.app N0 N2q
  refine go (fun t k => st2 _ k) ?_
  show Gl _ _ _ _ _ _ _ _ (T2.setTop (mkF m 10 #[.val (.int p1)] [(.int (b2_0 p1))]))
  refine go (fun t k => XS.ifNo X2.here hx rfl (hb hby d1_10) rfl ((if0 _ _).trans (feq hc10).1) k) ?_
  show Gl _ _ _ _ _ _ _ _ (T2.setTop (mkF m 13 #[.val (.int p1)] []))
  obtain ⟨T3, h3, X3, e3, E3, A3, D3, -, st3⟩ := newO X2 hx hZ hown (hw _ (List.mem_of_getElem? (i := 9) rfl)) (hw _ (List.mem_of_getElem? (i := 10) rfl)) (hw _ (List.mem_of_getElem? (i := 2) rfl)) e2 (g := (mkF m 13 #[.val (.int p1)] [])) rfl (hb hby d1_13) (by decide) (by decide)
  obtain ⟨o3, gq3⟩ : ∃ z, z = h0.size := ⟨_, rfl⟩
  rw [← gq3] at A3 D3 st3
  have g_o3 : n0 ≤ o3 := Nat.le_trans Z0 (Nat.le_of_eq gq3.symm)
  have F_value_o3 : Fld Z h3 o3 "java/lang/String" "value" "[B" .null := D3 (Or.inr (hw _ (List.mem_of_getElem? (i := 23) rfl))) (ty := (.array .byte)) (by decide)
  have F_coder_o3 : Fld Z h3 o3 "java/lang/String" "coder" "B" (.int (0 : Int32)) := D3 (Or.inr (hw _ (List.mem_of_getElem? (i := 25) rfl))) (ty := .byte) (by decide)
  have K3 : Keep h0 h3 [] := (Keep.refl h0 []).ext E3
  have sz_o3 : h0.size ≤ o3 := Nat.le_trans (Keep.refl h0 []).1 (Nat.le_of_eq gq3.symm)
  refine go (fun t k => st3 _ k) ?_
  have fs4 := (S_COMPACT_STRINGS.ext E3)
  show Gl _ _ _ _ _ _ _ _ (T3.setTop (mkF m 16 #[.val (.int p1)] [(.ref o3)]))
  refine go (fun t k => XS.dup X3.here hx rfl (hb hby d1_16) rfl rfl k) ?_
  show Gl _ _ _ _ _ _ _ _ (T3.setTop (mkF m 17 #[.val (.int p1)] [(.ref o3), (.ref o3)]))
  refine go (fun t k => XS.iloadN X3.here hx rfl (hb hby d1_17) rfl  k) ?_
  show Gl _ _ _ _ _ _ _ _ (T3.setTop (mkF m 18 #[.val (.int p1)] [(.int p1), (.ref o3), (.ref o3)]))
  obtain ⟨_, _, ⟨T5, L5, k5, n5⟩, -, X5, ⟨Lc5, hQ5, l5, y5, z5⟩, st5⟩ := Jvm.LawKit.callS X3 hx (y := (⟨"java/lang/StringLatin1", "toBytes", "(C)[B"⟩ : MethodName)) hown (mvT hZ (hw _ (List.mem_of_getElem? (i := 11) rfl))) (mvT hZ (hw _ (List.mem_of_getElem? (i := 12) rfl))) (mvT hZ (hw _ (List.mem_of_getElem? (i := 7) rfl))) (mvT hZ (hw _ (List.mem_of_getElem? (i := 13) rfl))) (by decide) (backOf (W := 2) (rm3 l Z a0 hw [] p1 h3 n0 (Nat.le_trans Z0 E3.1) ) hZ (hw _ (List.mem_of_getElem? (i := 13) rfl)) (hw _ (List.mem_of_getElem? (i := 7) rfl)) (by decide) (by decide)) (g := (mkF m 18 #[.val (.int p1)] [(.int p1), (.ref o3), (.ref o3)])) rfl (by rw [hml]; rfl) (argsL := [(.int p1)]) (rest := [(.ref o3), (.ref o3)]) (lenOf pd_1 rfl) rfl (by show 2 * 0 + _ ≤ _; exact Nat.le_of_eq rfl) (hb hby d1_18) (fun _ _ => ⟨rfl, e3, (by decide : 1 + 1 ≤ _), (by decide : 4 + 1 ≤ _)⟩)
  dsimp only [Pt.U, Pt.locs, Pt.cells, Pt.slots] at X5 l5 y5 z5 st5 hQ5
  replace X5 : Stand p l e ({ frames := 2, cells := 2, slots := 5, locals := 27 } : Room) s m #[(.int p1)] below meth c T5 _ 2 5 := own_mv X5 l5 y5 z5
  clear l5 y5 z5
  obtain ⟨⟨y5_x0, rfl, K5q, so5_0⟩, N5q⟩ := hQ5
  obtain ⟨h5, e5⟩ : ∃ z, T5.heap = z := ⟨_, rfl⟩
  rw [e5] at K5q
  have K5 : Keep h0 h5 [] := K3.trans K5q all0
  have g_y5_x0 : n0 ≤ y5_x0 := Nat.le_trans (Nat.le_trans Z0 E3.1) so5_0
  have sz_y5_x0 : h0.size ≤ y5_x0 := Nat.le_trans K3.1 so5_0
  have ne_o3_y5_x0 : o3 ≠ y5_x0 := Nat.ne_of_lt (Nat.lt_of_lt_of_le A3.lt so5_0)
  have N5 := Fr.app N2 N5q
  refine go (fun t k => st5 _ k) ?_
  have fs6 := (F_value_o3.keep K5q nin0)
  have fs7 := (F_coder_o3.keep K5q nin0)
  have zs8 := (Nat.le_trans (Nat.le_trans Z0 E3.1) K5q.1)
  show Gl _ _ _ _ _ _ _ _ (T5.setTop (mkF m 21 #[.val (.int p1)] [(.ref y5_x0), (.ref o3), (.ref o3)]))
  refine go (fun t k => XS.iconst X5.here hx rfl (hb hby d1_21) k) ?_
  show Gl _ _ _ _ _ _ _ _ (T5.setTop (mkF m 22 #[.val (.int p1)] [(.int (0 : Int32)), (.ref y5_x0), (.ref o3), (.ref o3)]))
  obtain ⟨_, _, ⟨T9, L9, k9, n9⟩, -, X9, ⟨Lc9, hQ9, l9, y9, z9⟩, st9⟩ := X5.specialBack hx (y := (⟨"java/lang/String", "<init>", "([BB)V"⟩ : MethodName)) rfl hown (mvT hZ (hw _ (List.mem_of_getElem? (i := 15) rfl))) (mvT hZ (hw _ (List.mem_of_getElem? (i := 16) rfl))) (mvT hZ (hw _ (List.mem_of_getElem? (i := 18) rfl))) (by decide) (backOf (W := 1) (rm4 l Z a0 hw [] o3 y5_x0 (0 : Int32) (.null) ((.int (0 : Int32))) h5 n0 zs8 (A3.keep K5q) g_o3 fs6 fs7) hZ (hw _ (List.mem_of_getElem? (i := 18) rfl)) (hw _ (List.mem_of_getElem? (i := 2) rfl)) (by decide) (by decide)) (g := (mkF m 22 #[.val (.int p1)] [(.int (0 : Int32)), (.ref y5_x0), (.ref o3), (.ref o3)])) rfl (by rw [hml]; rfl) (Steps.refl _) (a := o3) (argsL := [(.ref y5_x0), (.int (0 : Int32))]) (rest := [(.ref o3)]) (lenOf pd_2 rfl) rfl (by show 2 * 0 + _ ≤ _; exact Nat.le_of_eq rfl) (hb hby d1_22) (fun _ _ => ⟨rfl, e5, (by decide : 2 + 0 ≤ _), (by decide : 5 + 0 ≤ _)⟩)
  dsimp only [Pt.U, Pt.locs, Pt.cells, Pt.slots] at X9 l9 y9 z9 st9 hQ9
  replace X9 : Stand p l e ({ frames := 2, cells := 2, slots := 5, locals := 27 } : Room) s m #[(.int p1)] below meth c T9 _ 2 5 := own_mv X9 l9 y9 z9
  clear l9 y9 z9
  obtain ⟨⟨rfl, K9q, Ex9, Fq9_value, Fq9_coder⟩, N9q⟩ := hQ9
  obtain ⟨h9, e9⟩ : ∃ z, T9.heap = z := ⟨_, rfl⟩
  rw [e9] at K9q Ex9 Fq9_value Fq9_coder
  have K9 : Keep h0 h9 [] := K5.trans K9q (allS (Or.inr sz_o3) all0)
  have N9 := Fr.app N5 N9q
  refine go (fun t k => st9.trans k) ?_
  have fs10 := (sta_keep (sta_keepN fs4 K5q ns0) K9q (A3.keep K5q))
  show Gl _ _ _ _ _ _ _ _ (T9.setTop (mkF m 25 #[.val (.int p1)] [(.ref o3)]))
  exact endR X9 hx Bd rfl (hb hby d1_25) ⟨o3, rfl, (by rw [e9]; exact ⟨K9, sz_o3, Ex9⟩)⟩ N9 (by decide) (by decide)
theorem d8_0 : decode jdk_22_method_1_code 0 = .ok (.aload_n 0, 1) := by decide +kernel
theorem d8_1 : decode jdk_22_method_1_code 1 = .ok (.invokespecial 1, 3) := by decide +kernel
theorem d8_4 : decode jdk_22_method_1_code 4 = .ok (.return_, 1) := by decide +kernel
theorem pn_2 : plainName "java/util/AbstractCollection" = true := by first | (simp [plainName, overriddenIn]; done) | decide +kernel
theorem ef_8 (m : MethodId) (a1 : Addr) : entryFrame m #[(.ref a1)] 1 = mkF m 0 #[.val (.ref a1)] [] := by first | (simp [entryFrame, mkF, argsToLocals, Value.category]; done) | rfl
set_option maxRecDepth 65536 in
set_option maxHeartbeats 40000000 in
theorem rm8 (l : Launch) (Z : State) (a0 : Array Value) (hw : ∀ d ∈ tables_1, d.before a0 Z = true) (ws : List Jvm.Cond) (a1 : Addr) (h0 : Heap) (n0 : Nat) (Z0 : n0 ≤ h0.size) :
    MetFree l (⟨"java/util/AbstractCollection", "<init>", "()V"⟩ : MethodName) (head1 (Jvm.Cond.code (⟨"java/util/AbstractCollection", "<init>", "()V"⟩ : MethodName) jdk_22_method_1_code 1 none :: ws) ({ frames := 1, cells := 0, slots := 0, locals := 12 } : Room)) (fun a U => a = #[(.ref a1)] ∧ Z.Warmed39 U.vm ∧ U.heap = h0) (fun _ _ _ _ _ => True) (fun _ U o U' => ∃ v L, o = .returned v ∧ QK n0 (Kv none (fun h => h = h0)) v U'.heap L ∧ FrameEnd U o U' L ({ frames := 1, cells := 0, slots := 0, locals := 12 } : Room).cells ({ frames := 1, cells := 0, slots := 0, locals := 12 } : Room).slots) := by
  refine MetFree.of_bodySF (plainFor_of_name pn_2) hisR ?_
  intro p e s m args below meth c s₁ Bd hml0 hP hK
  obtain ⟨rfl, hZ, hh⟩ := hP
  have hx := Bd.exec
  have hby := Bd.bytes
  have hml : c.maxLocals = 1 := hml0
  have hown : s.vm.findClass "java/util/AbstractCollection" = some m.cls := findClass_of_methodNamed Bd.named
  have hnm := (name_of_methodNamed Bd.named Bd.method).1
  have X0 : Stand p l e ({ frames := 1, cells := 0, slots := 0, locals := 12 } : Room) s m #[(.ref a1)] below meth c s₁ [] 0 0 := Stand.of_body Bd
  have e0 : s₁.heap = h0 := by rw [← hh, Bd.state]; rfl
  have N0 := Fr.nil n0
  refine gl_start (ef_8 m a1) ?_
  show Gl p e below s n0 ({ frames := 1, cells := 0, slots := 0, locals := 12 } : Room).cells ({ frames := 1, cells := 0, slots := 0, locals := 12 } : Room).slots (Kv none (fun h => h = h0)) (s₁.setTop (mkF m 0 #[.val (.ref a1)] []))
  refine go (fun t k => XS.aloadN X0.here hx rfl (hb hby d8_0) rfl rfl k) ?_
  show Gl _ _ _ _ _ _ _ _ (s₁.setTop (mkF m 1 #[.val (.ref a1)] [(.ref a1)]))
  obtain ⟨T1, X1, e1, st1⟩ := initO X0 hx hZ hown (hw _ (List.mem_of_getElem? (i := 44) rfl)) (hw _ (List.mem_of_getElem? (i := 20) rfl)) (hw _ (List.mem_of_getElem? (i := 21) rfl)) e0 (g := (mkF m 1 #[.val (.ref a1)] [(.ref a1)])) rfl (by rw [hml]; rfl) rfl (hb hby d8_1) (by decide) (W := 0) (by show 2 * 0 + _ ≤ _; exact Nat.le_of_eq rfl) (by decide)
  refine go (fun t k => st1 _ k) ?_
  show Gl _ _ _ _ _ _ _ _ (T1.setTop (mkF m 4 #[.val (.ref a1)] []))
  exact endV X1 hx Bd (hb hby d8_4) ⟨rfl, e1⟩ N0 (by decide) (by decide)
theorem pd_3 : parseMethodDescriptor "()V" = some ⟨[], none⟩ := by decide +kernel
theorem d7_0 : decode jdk_39_method_1_code 0 = .ok (.aload_n 0, 1) := by decide +kernel
theorem d7_1 : decode jdk_39_method_1_code 1 = .ok (.invokespecial 1, 3) := by decide +kernel
theorem d7_4 : decode jdk_39_method_1_code 4 = .ok (.aload_n 0, 1) := by decide +kernel
theorem d7_5 : decode jdk_39_method_1_code 5 = .ok (.iconst 0, 1) := by decide +kernel
theorem d7_6 : decode jdk_39_method_1_code 6 = .ok (.putfield 7, 3) := by decide +kernel
theorem d7_9 : decode jdk_39_method_1_code 9 = .ok (.return_, 1) := by decide +kernel
theorem pn_3 : plainName "java/util/AbstractList" = true := by first | (simp [plainName, overriddenIn]; done) | decide +kernel
theorem ef_7 (m : MethodId) (a1 : Addr) : entryFrame m #[(.ref a1)] 1 = mkF m 0 #[.val (.ref a1)] [] := by first | (simp [entryFrame, mkF, argsToLocals, Value.category]; done) | rfl
set_option maxRecDepth 65536 in
set_option maxHeartbeats 40000000 in
theorem rm7 (l : Launch) (Z : State) (a0 : Array Value) (hw : ∀ d ∈ tables_1, d.before a0 Z = true) (ws : List Jvm.Cond) (a1 : Addr) (w_size_a1 : Value) (w_elementData_a1 : Value) (w_modCount_a1 : Value) (h0 : Heap) (n0 : Nat) (Z0 : n0 ≤ h0.size) (E_a1 : Exa Z h0 a1 "java/util/ArrayList") (g_a1 : n0 ≤ a1) (F_size_a1 : Fld Z h0 a1 "java/util/ArrayList" "size" "I" w_size_a1) (F_elementData_a1 : Fld Z h0 a1 "java/util/ArrayList" "elementData" "[Ljava/lang/Object;" w_elementData_a1) (F_modCount_a1 : Fld Z h0 a1 "java/util/AbstractList" "modCount" "I" w_modCount_a1) :
    MetFree l (⟨"java/util/AbstractList", "<init>", "()V"⟩ : MethodName) (head1 (Jvm.Cond.code (⟨"java/util/AbstractList", "<init>", "()V"⟩ : MethodName) jdk_39_method_1_code 1 none :: ws) ({ frames := 2, cells := 0, slots := 0, locals := 24 } : Room)) (fun a U => a = #[(.ref a1)] ∧ Z.Warmed39 U.vm ∧ U.heap = h0) (fun _ _ _ _ _ => True) (fun _ U o U' => ∃ v L, o = .returned v ∧ QK n0 (Kv none (fun h => Keep h0 h [a1] ∧ Exa Z h a1 "java/util/ArrayList" ∧ Fld Z h a1 "java/util/ArrayList" "size" "I" w_size_a1 ∧ Fld Z h a1 "java/util/ArrayList" "elementData" "[Ljava/lang/Object;" w_elementData_a1 ∧ Fld Z h a1 "java/util/AbstractList" "modCount" "I" (.int (0 : Int32)))) v U'.heap L ∧ FrameEnd U o U' L ({ frames := 2, cells := 0, slots := 0, locals := 24 } : Room).cells ({ frames := 2, cells := 0, slots := 0, locals := 24 } : Room).slots) := by
  refine MetFree.of_bodySF (plainFor_of_name pn_3) hisR ?_
  intro p e s m args below meth c s₁ Bd hml0 hP hK
  obtain ⟨rfl, hZ, hh⟩ := hP
  have hx := Bd.exec
  have hby := Bd.bytes
  have hml : c.maxLocals = 1 := hml0
  have hown : s.vm.findClass "java/util/AbstractList" = some m.cls := findClass_of_methodNamed Bd.named
  have hnm := (name_of_methodNamed Bd.named Bd.method).1
  have X0 : Stand p l e ({ frames := 2, cells := 0, slots := 0, locals := 24 } : Room) s m #[(.ref a1)] below meth c s₁ [] 0 0 := Stand.of_body Bd
  have e0 : s₁.heap = h0 := by rw [← hh, Bd.state]; rfl
  have N0 := Fr.nil n0
  refine gl_start (ef_7 m a1) ?_
  show Gl p e below s n0 ({ frames := 2, cells := 0, slots := 0, locals := 24 } : Room).cells ({ frames := 2, cells := 0, slots := 0, locals := 24 } : Room).slots (Kv none (fun h => Keep h0 h [a1] ∧ Exa Z h a1 "java/util/ArrayList" ∧ Fld Z h a1 "java/util/ArrayList" "size" "I" w_size_a1 ∧ Fld Z h a1 "java/util/ArrayList" "elementData" "[Ljava/lang/Object;" w_elementData_a1 ∧ Fld Z h a1 "java/util/AbstractList" "modCount" "I" (.int (0 : Int32)))) (s₁.setTop (mkF m 0 #[.val (.ref a1)] []))
  refine go (fun t k => XS.aloadN X0.here hx rfl (hb hby d7_0) rfl rfl k) ?_
  show Gl _ _ _ _ _ _ _ _ (s₁.setTop (mkF m 1 #[.val (.ref a1)] [(.ref a1)]))
  obtain ⟨_, _, ⟨T1, L1, k1, n1⟩, -, X1, ⟨Lc1, hQ1, l1, y1, z1⟩, st1⟩ := X0.specialBack hx (y := (⟨"java/util/AbstractCollection", "<init>", "()V"⟩ : MethodName)) rfl hown (mvT hZ (hw _ (List.mem_of_getElem? (i := 38) rfl))) (mvT hZ (hw _ (List.mem_of_getElem? (i := 39) rfl))) (mvT hZ (hw _ (List.mem_of_getElem? (i := 43) rfl))) (by decide) (backOf (W := 0) (rm8 l Z a0 hw [] a1 h0 n0 Z0 ) hZ (hw _ (List.mem_of_getElem? (i := 43) rfl)) (hw _ (List.mem_of_getElem? (i := 42) rfl)) (by decide) (by decide)) (g := (mkF m 1 #[.val (.ref a1)] [(.ref a1)])) rfl (by rw [hml]; rfl) (Steps.refl _) (a := a1) (argsL := []) (rest := []) (lenOf pd_3 rfl) rfl (by show 2 * 0 + _ ≤ _; exact Nat.le_of_eq rfl) (hb hby d7_1) (fun _ _ => ⟨rfl, e0, (by decide : 0 + 0 ≤ _), (by decide : 0 + 0 ≤ _)⟩)
  dsimp only [Pt.U, Pt.locs, Pt.cells, Pt.slots] at X1 l1 y1 z1 st1 hQ1
  replace X1 : Stand p l e ({ frames := 2, cells := 0, slots := 0, locals := 24 } : Room) s m #[(.ref a1)] below meth c T1 _ 0 0 := own_mv X1 l1 y1 z1
  clear l1 y1 z1
  obtain ⟨⟨rfl, e1'⟩, N1q⟩ := hQ1
  have e1 : T1.heap = h0 := e1'
  have N1 := Fr.app N0 N1q
  refine go (fun t k => st1.trans k) ?_
  show Gl _ _ _ _ _ _ _ _ (T1.setTop (mkF m 4 #[.val (.ref a1)] []))
  refine go (fun t k => XS.aloadN X1.here hx rfl (hb hby d7_4) rfl rfl k) ?_
  show Gl _ _ _ _ _ _ _ _ (T1.setTop (mkF m 5 #[.val (.ref a1)] [(.ref a1)]))
  refine go (fun t k => XS.iconst X1.here hx rfl (hb hby d7_5) k) ?_
  show Gl _ _ _ _ _ _ _ _ (T1.setTop (mkF m 6 #[.val (.ref a1)] [(.int (0 : Int32)), (.ref a1)]))
  obtain ⟨T2, h2, X2, e2, W2, st2⟩ := putF X1 hx hZ hown (host := "") (Or.inl (hw _ (List.mem_of_getElem? (i := 45) rfl))) Via.refl e1 F_modCount_a1 E_a1 (Or.inl (hw _ (List.mem_of_getElem? (i := 46) rfl))) (hw _ (List.mem_of_getElem? (i := 27) rfl)) (ty := .int) (by decide) rfl rfl (g := (mkF m 6 #[.val (.ref a1)] [(.int (0 : Int32)), (.ref a1)])) rfl rfl (hb hby d7_6)
  have Fw2 := F_modCount_a1.same W2
  have K2 : Keep h0 h2 [a1] := (Keep.refl h0 [a1]).wr W2 (Or.inl (List.mem_of_getElem? (i := 0) rfl))
  have N2 := Fr.snoc X2 N1 g_a1
  refine go (fun t k => st2 _ k) ?_
  have fs3 := (F_size_a1.other W2 (Or.inr (slot_ne (Or.inl (hw _ (List.mem_of_getElem? (i := 56) rfl))) (Or.inl (hw _ (List.mem_of_getElem? (i := 46) rfl))) (by decide) (t := .int) (t' := .int) (by decide) (by decide))))
  have fs4 := (F_elementData_a1.other W2 (Or.inr (slot_ne (Or.inl (hw _ (List.mem_of_getElem? (i := 49) rfl))) (Or.inl (hw _ (List.mem_of_getElem? (i := 46) rfl))) (by decide) (t := (.array (.object "java/lang/Object"))) (t' := .int) (by decide) (by decide))))
  have zs5 := (Nat.le_trans Z0 (Keep.of_wr W2).1)
  show Gl _ _ _ _ _ _ _ _ (T2.setTop (mkF m 9 #[.val (.ref a1)] []))
  exact endV X2 hx Bd (hb hby d7_9) ⟨rfl, (by rw [e2]; exact ⟨K2, (E_a1.wr W2), fs3, fs4, Fw2⟩)⟩ N2 (by decide) (by decide)
theorem d6_0 : decode jdk_38_method_2_code 0 = .ok (.aload_n 0, 1) := by decide +kernel
theorem d6_1 : decode jdk_38_method_2_code 1 = .ok (.invokespecial 1, 3) := by decide +kernel
theorem d6_4 : decode jdk_38_method_2_code 4 = .ok (.aload_n 0, 1) := by decide +kernel
theorem d6_5 : decode jdk_38_method_2_code 5 = .ok (.getstatic 39, 3) := by decide +kernel
theorem d6_8 : decode jdk_38_method_2_code 8 = .ok (.putfield 9, 3) := by decide +kernel
theorem d6_11 : decode jdk_38_method_2_code 11 = .ok (.return_, 1) := by decide +kernel
theorem pn_4 : plainName "java/util/ArrayList" = true := by first | (simp [plainName, overriddenIn]; done) | decide +kernel
theorem ef_6 (m : MethodId) (a1 : Addr) : entryFrame m #[(.ref a1)] 1 = mkF m 0 #[.val (.ref a1)] [] := by first | (simp [entryFrame, mkF, argsToLocals, Value.category]; done) | rfl
set_option maxRecDepth 65536 in
set_option maxHeartbeats 40000000 in
theorem rm6 (l : Launch) (Z : State) (a0 : Array Value) (hw : ∀ d ∈ tables_1, d.before a0 Z = true) (ws : List Jvm.Cond) (a1 : Addr) (w_modCount_a1 : Value) (w_size_a1 : Value) (w_elementData_a1 : Value) (w_DEFAULTCAPACITY_EMPTY_ELEMENTDATA : Addr) (h0 : Heap) (n0 : Nat) (Z0 : n0 ≤ h0.size) (E_a1 : Exa Z h0 a1 "java/util/ArrayList") (g_a1 : n0 ≤ a1) (F_modCount_a1 : Fld Z h0 a1 "java/util/AbstractList" "modCount" "I" w_modCount_a1) (F_size_a1 : Fld Z h0 a1 "java/util/ArrayList" "size" "I" w_size_a1) (F_elementData_a1 : Fld Z h0 a1 "java/util/ArrayList" "elementData" "[Ljava/lang/Object;" w_elementData_a1) (S_DEFAULTCAPACITY_EMPTY_ELEMENTDATA : Sta Z h0 "java/util/ArrayList" "DEFAULTCAPACITY_EMPTY_ELEMENTDATA" "[Ljava/lang/Object;" (.ref w_DEFAULTCAPACITY_EMPTY_ELEMENTDATA)) :
    MetFree l (⟨"java/util/ArrayList", "<init>", "()V"⟩ : MethodName) (head1 (Jvm.Cond.code (⟨"java/util/ArrayList", "<init>", "()V"⟩ : MethodName) jdk_38_method_2_code 1 none :: ws) ({ frames := 3, cells := 0, slots := 0, locals := 36 } : Room)) (fun a U => a = #[(.ref a1)] ∧ Z.Warmed39 U.vm ∧ U.heap = h0) (fun _ _ _ _ _ => True) (fun _ U o U' => ∃ v L, o = .returned v ∧ QK n0 (Kv none (fun h => Keep h0 h [a1] ∧ Exa Z h a1 "java/util/ArrayList" ∧ Fld Z h a1 "java/util/ArrayList" "size" "I" w_size_a1 ∧ Fld Z h a1 "java/util/ArrayList" "elementData" "[Ljava/lang/Object;" (.ref w_DEFAULTCAPACITY_EMPTY_ELEMENTDATA) ∧ Fld Z h a1 "java/util/AbstractList" "modCount" "I" (.int (0 : Int32)))) v U'.heap L ∧ FrameEnd U o U' L ({ frames := 3, cells := 0, slots := 0, locals := 36 } : Room).cells ({ frames := 3, cells := 0, slots := 0, locals := 36 } : Room).slots) := by
  refine MetFree.of_bodySF (plainFor_of_name pn_4) hisR ?_
  intro p e s m args below meth c s₁ Bd hml0 hP hK
  obtain ⟨rfl, hZ, hh⟩ := hP
  have hx := Bd.exec
  have hby := Bd.bytes
  have hml : c.maxLocals = 1 := hml0
  have hown : s.vm.findClass "java/util/ArrayList" = some m.cls := findClass_of_methodNamed Bd.named
  have hnm := (name_of_methodNamed Bd.named Bd.method).1
  have X0 : Stand p l e ({ frames := 3, cells := 0, slots := 0, locals := 36 } : Room) s m #[(.ref a1)] below meth c s₁ [] 0 0 := Stand.of_body Bd
  have e0 : s₁.heap = h0 := by rw [← hh, Bd.state]; rfl
  have N0 := Fr.nil n0
  refine gl_start (ef_6 m a1) ?_
  show Gl p e below s n0 ({ frames := 3, cells := 0, slots := 0, locals := 36 } : Room).cells ({ frames := 3, cells := 0, slots := 0, locals := 36 } : Room).slots (Kv none (fun h => Keep h0 h [a1] ∧ Exa Z h a1 "java/util/ArrayList" ∧ Fld Z h a1 "java/util/ArrayList" "size" "I" w_size_a1 ∧ Fld Z h a1 "java/util/ArrayList" "elementData" "[Ljava/lang/Object;" (.ref w_DEFAULTCAPACITY_EMPTY_ELEMENTDATA) ∧ Fld Z h a1 "java/util/AbstractList" "modCount" "I" (.int (0 : Int32)))) (s₁.setTop (mkF m 0 #[.val (.ref a1)] []))
  refine go (fun t k => XS.aloadN X0.here hx rfl (hb hby d6_0) rfl rfl k) ?_
  have fs1 := S_DEFAULTCAPACITY_EMPTY_ELEMENTDATA
  show Gl _ _ _ _ _ _ _ _ (s₁.setTop (mkF m 1 #[.val (.ref a1)] [(.ref a1)]))
  obtain ⟨_, _, ⟨T2, L2, k2, n2⟩, -, X2, ⟨Lc2, hQ2, l2, y2, z2⟩, st2⟩ := X0.specialBack hx (y := (⟨"java/util/AbstractList", "<init>", "()V"⟩ : MethodName)) rfl hown (mvT hZ (hw _ (List.mem_of_getElem? (i := 32) rfl))) (mvT hZ (hw _ (List.mem_of_getElem? (i := 33) rfl))) (mvT hZ (hw _ (List.mem_of_getElem? (i := 37) rfl))) (by decide) (backOf (W := 0) (rm7 l Z a0 hw [] a1 (w_size_a1) (w_elementData_a1) (w_modCount_a1) h0 n0 Z0 E_a1 g_a1 F_size_a1 F_elementData_a1 F_modCount_a1) hZ (hw _ (List.mem_of_getElem? (i := 37) rfl)) (hw _ (List.mem_of_getElem? (i := 36) rfl)) (by decide) (by decide)) (g := (mkF m 1 #[.val (.ref a1)] [(.ref a1)])) rfl (by rw [hml]; rfl) (Steps.refl _) (a := a1) (argsL := []) (rest := []) (lenOf pd_3 rfl) rfl (by show 2 * 0 + _ ≤ _; exact Nat.le_of_eq rfl) (hb hby d6_1) (fun _ _ => ⟨rfl, e0, (by decide : 0 + 0 ≤ _), (by decide : 0 + 0 ≤ _)⟩)
  dsimp only [Pt.U, Pt.locs, Pt.cells, Pt.slots] at X2 l2 y2 z2 st2 hQ2
  replace X2 : Stand p l e ({ frames := 3, cells := 0, slots := 0, locals := 36 } : Room) s m #[(.ref a1)] below meth c T2 _ 0 0 := own_mv X2 l2 y2 z2
  clear l2 y2 z2
  obtain ⟨⟨rfl, K2q, Ex2, Fq2_size, Fq2_elementData, Fq2_modCount⟩, N2q⟩ := hQ2
  obtain ⟨h2, e2⟩ : ∃ z, T2.heap = z := ⟨_, rfl⟩
  rw [e2] at K2q Ex2 Fq2_size Fq2_elementData Fq2_modCount
  have K2 : Keep h0 h2 [a1] := (Keep.refl h0 [a1]).trans K2q (allS (Or.inl (List.mem_of_getElem? (i := 0) rfl)) all0)
  have N2 := Fr.app N0 N2q
  refine go (fun t k => st2.trans k) ?_
  show Gl _ _ _ _ _ _ _ _ (T2.setTop (mkF m 4 #[.val (.ref a1)] []))
  refine go (fun t k => XS.aloadN X2.here hx rfl (hb hby d6_4) rfl rfl k) ?_
  show Gl _ _ _ _ _ _ _ _ (T2.setTop (mkF m 5 #[.val (.ref a1)] [(.ref a1)]))
  obtain ⟨T3, X3, e3, st3⟩ := getS2 X2 hx hZ hown (host := "") (Or.inl (hw _ (List.mem_of_getElem? (i := 47) rfl))) Via.refl e2 (sta_keep fs1 K2q E_a1) (g := (mkF m 5 #[.val (.ref a1)] [(.ref a1)])) rfl (hb hby d6_5)
  refine go (fun t k => st3 _ k) ?_
  show Gl _ _ _ _ _ _ _ _ (T3.setTop (mkF m 8 #[.val (.ref a1)] [(.ref w_DEFAULTCAPACITY_EMPTY_ELEMENTDATA), (.ref a1)]))
  obtain ⟨T4, h4, X4, e4, W4, st4⟩ := putF X3 hx hZ hown (host := "") (Or.inl (hw _ (List.mem_of_getElem? (i := 48) rfl))) Via.refl e3 Fq2_elementData Ex2 (Or.inl (hw _ (List.mem_of_getElem? (i := 49) rfl))) (hw _ (List.mem_of_getElem? (i := 27) rfl)) (ty := (.array (.object "java/lang/Object"))) (by decide) rfl rfl (g := (mkF m 8 #[.val (.ref a1)] [(.ref w_DEFAULTCAPACITY_EMPTY_ELEMENTDATA), (.ref a1)])) rfl rfl (hb hby d6_8)
  have Fw4 := Fq2_elementData.same W4
  have K4 : Keep h0 h4 [a1] := K2.wr W4 (Or.inl (List.mem_of_getElem? (i := 0) rfl))
  have N4 := Fr.snoc X4 N2 g_a1
  refine go (fun t k => st4 _ k) ?_
  have fs5 := (Sta.wr W4 (sta_keep fs1 K2q E_a1))
  have fs6 := (Fq2_size.other W4 (Or.inr (slot_ne (Or.inl (hw _ (List.mem_of_getElem? (i := 56) rfl))) (Or.inl (hw _ (List.mem_of_getElem? (i := 49) rfl))) (by decide) (t := .int) (t' := (.array (.object "java/lang/Object"))) (by decide) (by decide))))
  have fs7 := (Fq2_modCount.other W4 (Or.inr (slot_ne (Or.inl (hw _ (List.mem_of_getElem? (i := 46) rfl))) (Or.inl (hw _ (List.mem_of_getElem? (i := 49) rfl))) (by decide) (t := .int) (t' := (.array (.object "java/lang/Object"))) (by decide) (by decide))))
  have zs8 := (Nat.le_trans (Nat.le_trans Z0 K2q.1) (Keep.of_wr W4).1)
  show Gl _ _ _ _ _ _ _ _ (T4.setTop (mkF m 11 #[.val (.ref a1)] []))
  exact endV X4 hx Bd (hb hby d6_11) ⟨rfl, (by rw [e4]; exact ⟨K4, (Ex2.wr W4), fs6, Fw4, fs7⟩)⟩ N4 (by decide) (by decide)
theorem d9_0 : decode jdk_38_method_8_code 0 = .ok (.aload_n 0, 1) := by decide +kernel
theorem d9_1 : decode jdk_38_method_8_code 1 = .ok (.getfield 48, 3) := by decide +kernel
theorem d9_4 : decode jdk_38_method_8_code 4 = .ok (.ireturn, 1) := by decide +kernel
theorem ef_9 (m : MethodId) (a1 : Addr) : entryFrame m #[(.ref a1)] 1 = mkF m 0 #[.val (.ref a1)] [] := by first | (simp [entryFrame, mkF, argsToLocals, Value.category]; done) | rfl
def b9_0 (w_size_a1 : Int32) : Int32 := w_size_a1
set_option maxRecDepth 65536 in
set_option maxHeartbeats 40000000 in
theorem rm9 (l : Launch) (Z : State) (a0 : Array Value) (hw : ∀ d ∈ tables_1, d.before a0 Z = true) (ws : List Jvm.Cond) (a1 : Addr) (w_size_a1 : Int32) (h0 : Heap) (n0 : Nat) (Z0 : n0 ≤ h0.size) (F_size_a1 : Fld Z h0 a1 "java/util/ArrayList" "size" "I" (.int w_size_a1)) :
    MetFree l (⟨"java/util/ArrayList", "size", "()I"⟩ : MethodName) (head1 (Jvm.Cond.code (⟨"java/util/ArrayList", "size", "()I"⟩ : MethodName) jdk_38_method_8_code 1 (some .int) :: ws) ({ frames := 0, cells := 0, slots := 0, locals := 0 } : Room)) (fun a U => a = #[(.ref a1)] ∧ Z.Warmed39 U.vm ∧ U.heap = h0) (fun _ _ _ _ _ => True) (fun _ U o U' => ∃ v L, o = .returned v ∧ QK n0 (Kv (some (.int (b9_0 w_size_a1))) (fun h => h = h0)) v U'.heap L ∧ FrameEnd U o U' L ({ frames := 0, cells := 0, slots := 0, locals := 0 } : Room).cells ({ frames := 0, cells := 0, slots := 0, locals := 0 } : Room).slots) := by
  refine MetFree.of_bodySF (plainFor_of_name pn_4) hisR ?_
  intro p e s m args below meth c s₁ Bd hml0 hP hK
  obtain ⟨rfl, hZ, hh⟩ := hP
  have hx := Bd.exec
  have hby := Bd.bytes
  have hml : c.maxLocals = 1 := hml0
  have hown : s.vm.findClass "java/util/ArrayList" = some m.cls := findClass_of_methodNamed Bd.named
  have hnm := (name_of_methodNamed Bd.named Bd.method).1
  have X0 : Stand p l e ({ frames := 0, cells := 0, slots := 0, locals := 0 } : Room) s m #[(.ref a1)] below meth c s₁ [] 0 0 := Stand.of_body Bd
  have e0 : s₁.heap = h0 := by rw [← hh, Bd.state]; rfl
  have N0 := Fr.nil n0
  refine gl_start (ef_9 m a1) ?_
  show Gl p e below s n0 ({ frames := 0, cells := 0, slots := 0, locals := 0 } : Room).cells ({ frames := 0, cells := 0, slots := 0, locals := 0 } : Room).slots (Kv (some (.int w_size_a1)) (fun h => h = h0)) (s₁.setTop (mkF m 0 #[.val (.ref a1)] []))
  refine go (fun t k => XS.aloadN X0.here hx rfl (hb hby d9_0) rfl rfl k) ?_
  show Gl _ _ _ _ _ _ _ _ (s₁.setTop (mkF m 1 #[.val (.ref a1)] [(.ref a1)]))
  obtain ⟨T1, X1, e1, st1⟩ := getF X0 hx hZ hown (host := "") (Or.inl (hw _ (List.mem_of_getElem? (i := 55) rfl))) Via.refl e0 F_size_a1 (g := (mkF m 1 #[.val (.ref a1)] [(.ref a1)])) rfl rfl (hb hby d9_1)
  refine go (fun t k => st1 _ k) ?_
  show Gl _ _ _ _ _ _ _ _ (T1.setTop (mkF m 4 #[.val (.ref a1)] [(.int w_size_a1)]))
  exact endI X1 hx Bd (hb hby d9_4) ⟨rfl, e1⟩ N0 (by decide) (by decide)
theorem d23_0 : decode jdk_29_method_65_code 0 = .ok (.iload_n 0, 1) := by decide +kernel
theorem d23_1 : decode jdk_29_method_65_code 1 = .ok (.iload_n 1, 1) := by decide +kernel
theorem d23_2 : decode jdk_29_method_65_code 2 = .ok (.if_icmp .lt 7, 3) := by decide +kernel
theorem d23_5 : decode jdk_29_method_65_code 5 = .ok (.iload_n 0, 1) := by decide +kernel
theorem d23_6 : decode jdk_29_method_65_code 6 = .ok (.goto 4, 3) := by decide +kernel
theorem d23_9 : decode jdk_29_method_65_code 9 = .ok (.iload_n 1, 1) := by decide +kernel
theorem d23_10 : decode jdk_29_method_65_code 10 = .ok (.ireturn, 1) := by decide +kernel
theorem ef_23 (m : MethodId) (p1 : Int32) (p2 : Int32) : entryFrame m #[(.int p1), (.int p2)] 2 = mkF m 0 #[.val (.int p1), .val (.int p2)] [] := by first | (simp [entryFrame, mkF, argsToLocals, Value.category]; done) | rfl
def b23_10 (s0_10 : Int32) : Int32 := s0_10
def b23_0 (p1 : Int32) (p2 : Int32) : Int32 := (if p1 < p2 then (b23_10 p2) else (b23_10 p1))
set_option maxRecDepth 65536 in
set_option maxHeartbeats 40000000 in
theorem rm23 (l : Launch) (Z : State) (a0 : Array Value) (hw : ∀ d ∈ tables_1, d.before a0 Z = true) (ws : List Jvm.Cond) (p1 : Int32) (p2 : Int32) (h0 : Heap) (n0 : Nat) (Z0 : n0 ≤ h0.size) :
    MetFree l (⟨"java/lang/Math", "max", "(II)I"⟩ : MethodName) (head1 (Jvm.Cond.code (⟨"java/lang/Math", "max", "(II)I"⟩ : MethodName) jdk_29_method_65_code 2 (some .int) :: ws) ({ frames := 0, cells := 0, slots := 0, locals := 0 } : Room)) (fun a U => a = #[(.int p1), (.int p2)] ∧ Z.Warmed39 U.vm ∧ U.heap = h0) (fun _ _ _ _ _ => True) (fun _ U o U' => ∃ v L, o = .returned v ∧ QK n0 (Kv (some (.int (b23_0 p1 p2))) (fun h => h = h0)) v U'.heap L ∧ FrameEnd U o U' L ({ frames := 0, cells := 0, slots := 0, locals := 0 } : Room).cells ({ frames := 0, cells := 0, slots := 0, locals := 0 } : Room).slots) := by
  refine MetFree.of_bodySF (Jvm.Free.JP.mathPlain rfl (by decide +kernel)) hisR ?_
  intro p e s m args below meth c s₁ Bd hml0 hP hK
  obtain ⟨rfl, hZ, hh⟩ := hP
  have hx := Bd.exec
  have hby := Bd.bytes
  have hml : c.maxLocals = 2 := hml0
  have hown : s.vm.findClass "java/lang/Math" = some m.cls := findClass_of_methodNamed Bd.named
  have hnm := (name_of_methodNamed Bd.named Bd.method).1
  have X0 : Stand p l e ({ frames := 0, cells := 0, slots := 0, locals := 0 } : Room) s m #[(.int p1), (.int p2)] below meth c s₁ [] 0 0 := Stand.of_body Bd
  have e0 : s₁.heap = h0 := by rw [← hh, Bd.state]; rfl
  have N0 := Fr.nil n0
  refine gl_start (ef_23 m p1 p2) ?_
  show Gl p e below s n0 ({ frames := 0, cells := 0, slots := 0, locals := 0 } : Room).cells ({ frames := 0, cells := 0, slots := 0, locals := 0 } : Room).slots (Kv (some (.int (if p1 < p2 then (b23_10 p2) else (b23_10 p1)))) (fun h => h = h0)) (s₁.setTop (mkF m 0 #[.val (.int p1), .val (.int p2)] []))
  refine go (fun t k => XS.iloadN X0.here hx rfl (hb hby d23_0) rfl  k) ?_
  show Gl _ _ _ _ _ _ _ _ (s₁.setTop (mkF m 1 #[.val (.int p1), .val (.int p2)] [(.int p1)]))
  refine go (fun t k => XS.iloadN X0.here hx rfl (hb hby d23_1) rfl  k) ?_
  show Gl _ _ _ _ _ _ _ _ (s₁.setTop (mkF m 2 #[.val (.int p1), .val (.int p2)] [(.int p2), (.int p1)]))
  have J10 : ∀ (s0_10 : Int32) (TJ10 : State) (lJ10 : List Loc) (XJ10 : Stand p l e ({ frames := 0, cells := 0, slots := 0, locals := 0 } : Room) s m #[(.int p1), (.int p2)] below meth c TJ10 lJ10 0 0) (eJ10 : TJ10.heap = h0) (NJ10 : Fr n0 lJ10), Gl p e below s n0 ({ frames := 0, cells := 0, slots := 0, locals := 0 } : Room).cells ({ frames := 0, cells := 0, slots := 0, locals := 0 } : Room).slots (Kv (some (.int (b23_10 s0_10))) (fun h => h = h0)) (TJ10.setTop (mkF m 10 #[.val (.int p1), .val (.int p2)] [(.int s0_10)])) := by
    intro s0_10 TJ10 lJ10 XJ10 eJ10 NJ10
    show Gl _ _ _ _ _ _ _ (Kv (some (.int s0_10)) _) _
    exact endI XJ10 hx Bd (hb hby d23_10) ⟨rfl, eJ10⟩ NJ10 (by decide) (by decide)
  refine gI (c := p1 < p2) (fun hc2 => ?_) (fun hc2 => ?_)
  · refine go (fun t k => XS.icmpYes X0.here hx rfl (pc0 := 2) (pc' := 9) rfl (hb hby d23_2) rfl (tlt hc2).1 (by decide) (by decide) k) ?_
    show Gl _ _ _ _ _ _ _ _ (s₁.setTop (mkF m 9 #[.val (.int p1), .val (.int p2)] []))
    refine go (fun t k => XS.iloadN X0.here hx rfl (hb hby d23_9) rfl  k) ?_
    show Gl _ _ _ _ _ _ _ _ (s₁.setTop (mkF m 10 #[.val (.int p1), .val (.int p2)] [(.int p2)]))
    exact J10 p2 s₁ _ X0 e0 N0
  · refine go (fun t k => XS.icmpNo X0.here hx rfl (hb hby d23_2) rfl (flt hc2).1 k) ?_
    show Gl _ _ _ _ _ _ _ _ (s₁.setTop (mkF m 5 #[.val (.int p1), .val (.int p2)] []))
    refine go (fun t k => XS.iloadN X0.here hx rfl (hb hby d23_5) rfl  k) ?_
    show Gl _ _ _ _ _ _ _ _ (s₁.setTop (mkF m 6 #[.val (.int p1), .val (.int p2)] [(.int p1)]))
    refine go (fun t k => XS.goto X0.here hx rfl (pc0 := 6) (pc' := 10) rfl (hb hby d23_6) (by decide) (by decide) k) ?_
    show Gl _ _ _ _ _ _ _ _ (s₁.setTop (mkF m 10 #[.val (.int p1), .val (.int p2)] [(.int p1)]))
    exact J10 p1 s₁ _ X0 e0 N0
theorem pd_4 : parseMethodDescriptor "(II)I" = some ⟨[.int, .int], some .int⟩ := by decide +kernel
theorem d22_0 : decode jdk_38_method_6_code 0 = .ok (.aload_n 0, 1) := by decide +kernel
theorem d22_1 : decode jdk_38_method_6_code 1 = .ok (.getfield 9, 3) := by decide +kernel
theorem d22_4 : decode jdk_38_method_6_code 4 = .ok (.arraylength, 1) := by decide +kernel
theorem d22_5 : decode jdk_38_method_6_code 5 = .ok (.istore_n 2, 1) := by decide +kernel
theorem d22_6 : decode jdk_38_method_6_code 6 = .ok (.iload_n 2, 1) := by decide +kernel
theorem d22_7 : decode jdk_38_method_6_code 7 = .ok (.ifCond .gt 13, 3) := by decide +kernel
theorem d22_10 : decode jdk_38_method_6_code 10 = .ok (.aload_n 0, 1) := by decide +kernel
theorem d22_11 : decode jdk_38_method_6_code 11 = .ok (.getfield 9, 3) := by decide +kernel
theorem d22_14 : decode jdk_38_method_6_code 14 = .ok (.getstatic 39, 3) := by decide +kernel
theorem d22_17 : decode jdk_38_method_6_code 17 = .ok (.if_acmp .eq 28, 3) := by decide +kernel
theorem d22_45 : decode jdk_38_method_6_code 45 = .ok (.aload_n 0, 1) := by decide +kernel
theorem d22_46 : decode jdk_38_method_6_code 46 = .ok (.bipush 10, 2) := by decide +kernel
theorem d22_48 : decode jdk_38_method_6_code 48 = .ok (.iload_n 1, 1) := by decide +kernel
theorem d22_49 : decode jdk_38_method_6_code 49 = .ok (.invokestatic 79, 3) := by decide +kernel
theorem d22_52 : decode jdk_38_method_6_code 52 = .ok (.anewarray 7, 3) := by decide +kernel
theorem d22_55 : decode jdk_38_method_6_code 55 = .ok (.dup_x1, 1) := by decide +kernel
theorem d22_56 : decode jdk_38_method_6_code 56 = .ok (.putfield 9, 3) := by decide +kernel
theorem d22_59 : decode jdk_38_method_6_code 59 = .ok (.areturn, 1) := by decide +kernel
theorem ef_22 (m : MethodId) (a1 : Addr) : entryFrame m #[(.ref a1), (.int (1 : Int32))] 4 = mkF m 0 #[.val (.ref a1), .val (.int (1 : Int32)), .unset, .unset] [] := by first | (simp [entryFrame, mkF, argsToLocals, Value.category]; done) | rfl
set_option maxRecDepth 65536 in
set_option maxHeartbeats 40000000 in
theorem rm22 (l : Launch) (Z : State) (a0 : Array Value) (hw : ∀ d ∈ tables_1, d.before a0 Z = true) (ws : List Jvm.Cond) (a1 : Addr) (w_DEFAULTCAPACITY_EMPTY_ELEMENTDATA : Addr) (w_modCount_a1 : Int32) (w_size_a1 : Int32) (kd : ClassId) (h0 : Heap) (n0 : Nat) (Z0 : n0 ≤ h0.size) (S_DEFAULTCAPACITY_EMPTY_ELEMENTDATA : Sta Z h0 "java/util/ArrayList" "DEFAULTCAPACITY_EMPTY_ELEMENTDATA" "[Ljava/lang/Object;" (.ref w_DEFAULTCAPACITY_EMPTY_ELEMENTDATA)) (E_a1 : Exa Z h0 a1 "java/util/ArrayList") (F_modCount_a1 : Fld Z h0 a1 "java/util/AbstractList" "modCount" "I" (.int w_modCount_a1)) (F_size_a1 : Fld Z h0 a1 "java/util/ArrayList" "size" "I" (.int w_size_a1)) (F_elementData_a1 : Fld Z h0 a1 "java/util/ArrayList" "elementData" "[Ljava/lang/Object;" (.ref w_DEFAULTCAPACITY_EMPTY_ELEMENTDATA)) (g_a1 : n0 ≤ a1) (V_d : Arv Z h0 w_DEFAULTCAPACITY_EMPTY_ELEMENTDATA kd (.object "java/lang/Object") (0 : Int32) [] .null) :
    MetFree l (⟨"java/util/ArrayList", "grow", "(I)[Ljava/lang/Object;"⟩ : MethodName) (head1 (Jvm.Cond.code (⟨"java/util/ArrayList", "grow", "(I)[Ljava/lang/Object;"⟩ : MethodName) jdk_38_method_6_code 4 (some (.array (.object "java/lang/Object"))) :: ws) ({ frames := 1, cells := 1, slots := 10, locals := 14 } : Room)) (fun a U => a = #[(.ref a1), (.int (1 : Int32))] ∧ Z.Warmed39 U.vm ∧ U.heap = h0) (fun _ _ _ _ _ => True) (fun _ U o U' => ∃ v L, o = .returned v ∧ QK n0 (fun v h => ∃ (x0 : Addr) (k0 : ClassId), v = some (.ref x0) ∧ Keep h0 h [a1] ∧ h0.size ≤ x0 ∧ Exa Z h a1 "java/util/ArrayList" ∧ Fld Z h a1 "java/util/AbstractList" "modCount" "I" (.int w_modCount_a1) ∧ Fld Z h a1 "java/util/ArrayList" "size" "I" (.int w_size_a1) ∧ Fld Z h a1 "java/util/ArrayList" "elementData" "[Ljava/lang/Object;" (.ref x0) ∧ Arv Z h x0 k0 (.object "java/lang/Object") (10 : Int32) [.null, .null, .null, .null, .null, .null, .null, .null, .null, .null] .null ∧ Ovr Z k0 "java/lang/Object") v U'.heap L ∧ FrameEnd U o U' L ({ frames := 1, cells := 1, slots := 10, locals := 14 } : Room).cells ({ frames := 1, cells := 1, slots := 10, locals := 14 } : Room).slots) := by
  refine MetFree.of_bodySF (plainFor_of_name pn_4) hisR ?_
  intro p e s m args below meth c s₁ Bd hml0 hP hK
  obtain ⟨rfl, hZ, hh⟩ := hP
  have hx := Bd.exec
  have hby := Bd.bytes
  have hml : c.maxLocals = 4 := hml0
  have hown : s.vm.findClass "java/util/ArrayList" = some m.cls := findClass_of_methodNamed Bd.named
  have hnm := (name_of_methodNamed Bd.named Bd.method).1
  have X0 : Stand p l e ({ frames := 1, cells := 1, slots := 10, locals := 14 } : Room) s m #[(.ref a1), (.int (1 : Int32))] below meth c s₁ [] 0 0 := Stand.of_body Bd
  have e0 : s₁.heap = h0 := by rw [← hh, Bd.state]; rfl
  have N0 := Fr.nil n0
  refine gl_start (ef_22 m a1) ?_
  show Gl p e below s n0 ({ frames := 1, cells := 1, slots := 10, locals := 14 } : Room).cells ({ frames := 1, cells := 1, slots := 10, locals := 14 } : Room).slots (fun v h => ∃ (x0 : Addr) (k0 : ClassId), v = some (.ref x0) ∧ Keep h0 h [a1] ∧ h0.size ≤ x0 ∧ Exa Z h a1 "java/util/ArrayList" ∧ Fld Z h a1 "java/util/AbstractList" "modCount" "I" (.int w_modCount_a1) ∧ Fld Z h a1 "java/util/ArrayList" "size" "I" (.int w_size_a1) ∧ Fld Z h a1 "java/util/ArrayList" "elementData" "[Ljava/lang/Object;" (.ref x0) ∧ Arv Z h x0 k0 (.object "java/lang/Object") (10 : Int32) [.null, .null, .null, .null, .null, .null, .null, .null, .null, .null] .null ∧ Ovr Z k0 "java/lang/Object") (s₁.setTop (mkF m 0 #[.val (.ref a1), .val (.int (1 : Int32)), .unset, .unset] []))
  have ne_a1_w_DEFAULTCAPACITY_EMPTY_ELEMENTDATA : a1 ≠ w_DEFAULTCAPACITY_EMPTY_ELEMENTDATA := Exa.neArv E_a1 V_d (hw _ (List.mem_of_getElem? (i := 27) rfl))
  refine go (fun t k => XS.aloadN X0.here hx rfl (hb hby d22_0) rfl rfl k) ?_
  have fs1 := S_DEFAULTCAPACITY_EMPTY_ELEMENTDATA
  show Gl _ _ _ _ _ _ _ _ (s₁.setTop (mkF m 1 #[.val (.ref a1), .val (.int (1 : Int32)), .unset, .unset] [(.ref a1)]))
  obtain ⟨T2, X2, e2, st2⟩ := getF X0 hx hZ hown (host := "") (Or.inl (hw _ (List.mem_of_getElem? (i := 48) rfl))) Via.refl e0 F_elementData_a1 (g := (mkF m 1 #[.val (.ref a1), .val (.int (1 : Int32)), .unset, .unset] [(.ref a1)])) rfl rfl (hb hby d22_1)
  refine go (fun t k => st2 _ k) ?_
  show Gl _ _ _ _ _ _ _ _ (T2.setTop (mkF m 4 #[.val (.ref a1), .val (.int (1 : Int32)), .unset, .unset] [(.ref w_DEFAULTCAPACITY_EMPTY_ELEMENTDATA)]))
  obtain ⟨cl3, Ar3, vq3, S3, M3, Hh3, G3⟩ := id V_d
  have hl3 : cl3.slots.size.toInt32 = (0 : Int32) := len_of S3 M3
  refine go (fun t k => X2.arraylength hx (by rw [e2]; exact Ar3.1) (State.isArrayOf_alike hZ.alike Ar3.2.1) (g := (mkF m 4 #[.val (.ref a1), .val (.int (1 : Int32)), .unset, .unset] [(.ref w_DEFAULTCAPACITY_EMPTY_ELEMENTDATA)])) rfl rfl (hb hby d22_4) _ (by rw [hl3]; exact k)) ?_
  show Gl _ _ _ _ _ _ _ _ (T2.setTop (mkF m 5 #[.val (.ref a1), .val (.int (1 : Int32)), .unset, .unset] [(.int (0 : Int32))]))
  refine go (fun t k => XS.istoreN X2.here hx rfl (hb hby d22_5) rfl (l' := #[.val (.ref a1), .val (.int (1 : Int32)), .val (.int (0 : Int32)), .unset]) rfl k) ?_
  show Gl _ _ _ _ _ _ _ _ (T2.setTop (mkF m 6 #[.val (.ref a1), .val (.int (1 : Int32)), .val (.int (0 : Int32)), .unset] []))
  refine go (fun t k => XS.iloadN X2.here hx rfl (hb hby d22_6) rfl  k) ?_
  show Gl _ _ _ _ _ _ _ _ (T2.setTop (mkF m 7 #[.val (.ref a1), .val (.int (1 : Int32)), .val (.int (0 : Int32)), .unset] [(.int (0 : Int32))]))
  refine go (fun t k => XS.ifNo X2.here hx rfl (hb hby d22_7) rfl ((if0 _ _).trans (flt (by decide : ¬ ((0 : Int32) < (0 : Int32)))).2.2.1) k) ?_
  show Gl _ _ _ _ _ _ _ _ (T2.setTop (mkF m 10 #[.val (.ref a1), .val (.int (1 : Int32)), .val (.int (0 : Int32)), .unset] []))
  refine go (fun t k => XS.aloadN X2.here hx rfl (hb hby d22_10) rfl rfl k) ?_
  show Gl _ _ _ _ _ _ _ _ (T2.setTop (mkF m 11 #[.val (.ref a1), .val (.int (1 : Int32)), .val (.int (0 : Int32)), .unset] [(.ref a1)]))
  obtain ⟨T4, X4, e4, st4⟩ := getF X2 hx hZ hown (host := "") (Or.inl (hw _ (List.mem_of_getElem? (i := 48) rfl))) Via.refl e2 F_elementData_a1 (g := (mkF m 11 #[.val (.ref a1), .val (.int (1 : Int32)), .val (.int (0 : Int32)), .unset] [(.ref a1)])) rfl rfl (hb hby d22_11)
  refine go (fun t k => st4 _ k) ?_
  show Gl _ _ _ _ _ _ _ _ (T4.setTop (mkF m 14 #[.val (.ref a1), .val (.int (1 : Int32)), .val (.int (0 : Int32)), .unset] [(.ref w_DEFAULTCAPACITY_EMPTY_ELEMENTDATA)]))
  obtain ⟨T5, X5, e5, st5⟩ := getS2 X4 hx hZ hown (host := "") (Or.inl (hw _ (List.mem_of_getElem? (i := 47) rfl))) Via.refl e4 fs1 (g := (mkF m 14 #[.val (.ref a1), .val (.int (1 : Int32)), .val (.int (0 : Int32)), .unset] [(.ref w_DEFAULTCAPACITY_EMPTY_ELEMENTDATA)])) rfl (hb hby d22_14)
  refine go (fun t k => st5 _ k) ?_
  show Gl _ _ _ _ _ _ _ _ (T5.setTop (mkF m 17 #[.val (.ref a1), .val (.int (1 : Int32)), .val (.int (0 : Int32)), .unset] [(.ref w_DEFAULTCAPACITY_EMPTY_ELEMENTDATA), (.ref w_DEFAULTCAPACITY_EMPTY_ELEMENTDATA)]))
  refine go (fun t k => Jvm.RoadKit.acmp (g := (mkF m 17 #[.val (.ref a1), .val (.int (1 : Int32)), .val (.int (0 : Int32)), .unset] [(.ref w_DEFAULTCAPACITY_EMPTY_ELEMENTDATA), (.ref w_DEFAULTCAPACITY_EMPTY_ELEMENTDATA)])) X5 hx rfl rfl rfl (pc0 := 17) (pc' := 45) (same := true) rfl (hb hby d22_17) rfl (decide_eq_true rfl) (by decide) (by decide) k) ?_
  show Gl _ _ _ _ _ _ _ _ (T5.setTop (mkF m 45 #[.val (.ref a1), .val (.int (1 : Int32)), .val (.int (0 : Int32)), .unset] []))
  refine go (fun t k => XS.aloadN X5.here hx rfl (hb hby d22_45) rfl rfl k) ?_
  show Gl _ _ _ _ _ _ _ _ (T5.setTop (mkF m 46 #[.val (.ref a1), .val (.int (1 : Int32)), .val (.int (0 : Int32)), .unset] [(.ref a1)]))
  refine go (fun t k => XS.bipush X5.here hx rfl (hb hby d22_46) k) ?_
  show Gl _ _ _ _ _ _ _ _ (T5.setTop (mkF m 48 #[.val (.ref a1), .val (.int (1 : Int32)), .val (.int (0 : Int32)), .unset] [(.int (10 : Int32)), (.ref a1)]))
  refine go (fun t k => XS.iloadN X5.here hx rfl (hb hby d22_48) rfl  k) ?_
  show Gl _ _ _ _ _ _ _ _ (T5.setTop (mkF m 49 #[.val (.ref a1), .val (.int (1 : Int32)), .val (.int (0 : Int32)), .unset] [(.int (1 : Int32)), (.int (10 : Int32)), (.ref a1)]))
  obtain ⟨_, _, ⟨T6, L6, k6, n6⟩, -, X6, ⟨Lc6, hQ6, l6, y6, z6⟩, st6⟩ := Jvm.LawKit.callS X5 hx (y := (⟨"java/lang/Math", "max", "(II)I"⟩ : MethodName)) hown (mvT hZ (hw _ (List.mem_of_getElem? (i := 145) rfl))) (mvT hZ (hw _ (List.mem_of_getElem? (i := 146) rfl))) (mvT hZ (hw _ (List.mem_of_getElem? (i := 147) rfl))) (mvT hZ (hw _ (List.mem_of_getElem? (i := 148) rfl))) (by decide) (backOf (W := 1) (rm23 l Z a0 hw [] (10 : Int32) (1 : Int32) h0 n0 Z0 ) hZ (hw _ (List.mem_of_getElem? (i := 148) rfl)) (hw _ (List.mem_of_getElem? (i := 147) rfl)) (by decide) (by decide)) (g := (mkF m 49 #[.val (.ref a1), .val (.int (1 : Int32)), .val (.int (0 : Int32)), .unset] [(.int (1 : Int32)), (.int (10 : Int32)), (.ref a1)])) rfl (by rw [hml]; rfl) (argsL := [(.int (10 : Int32)), (.int (1 : Int32))]) (rest := [(.ref a1)]) (lenOf pd_4 rfl) rfl (by show 2 * 0 + _ ≤ _; exact Nat.le_of_eq rfl) (hb hby d22_49) (fun _ _ => ⟨rfl, e5, (by decide : 0 + 0 ≤ _), (by decide : 0 + 0 ≤ _)⟩)
  dsimp only [Pt.U, Pt.locs, Pt.cells, Pt.slots] at X6 l6 y6 z6 st6 hQ6
  replace X6 : Stand p l e ({ frames := 1, cells := 1, slots := 10, locals := 14 } : Room) s m #[(.ref a1), (.int (1 : Int32))] below meth c T6 _ 0 0 := own_mv X6 l6 y6 z6
  clear l6 y6 z6
  obtain ⟨⟨rfl, e6'⟩, N6q⟩ := hQ6
  have e6 : T6.heap = h0 := e6'
  have N6 := Fr.app N0 N6q
  refine go (fun t k => st6 _ k) ?_
  show Gl _ _ _ _ _ _ _ _ (T6.setTop (mkF m 52 #[.val (.ref a1), .val (.int (1 : Int32)), .val (.int (0 : Int32)), .unset] [(.int (10 : Int32)), (.ref a1)]))
  obtain ⟨T7, h7, k7, X7, e7, E7, A7, O7, st7⟩ := newR X6 hx hZ hown (hw _ (List.mem_of_getElem? (i := 149) rfl)) (hw _ (List.mem_of_getElem? (i := 150) rfl)) e6 (g := (mkF m 52 #[.val (.ref a1), .val (.int (1 : Int32)), .val (.int (0 : Int32)), .unset] [(.int (10 : Int32)), (.ref a1)])) rfl (hb hby d22_52) rfl (by decide) (cap := 10) (by decide) (by decide) (by decide) (by decide)
  obtain ⟨o7, gq7⟩ : ∃ z, z = h0.size := ⟨_, rfl⟩
  rw [← gq7] at A7 st7
  have g_o7 : n0 ≤ o7 := Nat.le_trans Z0 (Nat.le_of_eq gq7.symm)
  have ne_a1_o7 : a1 ≠ o7 := Nat.ne_of_lt (Nat.lt_of_lt_of_le E_a1.lt (Nat.le_of_eq gq7.symm))
  have ne_w_DEFAULTCAPACITY_EMPTY_ELEMENTDATA_o7 : w_DEFAULTCAPACITY_EMPTY_ELEMENTDATA ≠ o7 := Nat.ne_of_lt (Nat.lt_of_lt_of_le V_d.lt (Nat.le_of_eq gq7.symm))
  have V_o7 : Arv Z h7 o7 k7 (.object "java/lang/Object") (10 : Int32) [.null, .null, .null, .null, .null, .null, .null, .null, .null, .null] .null := (Arv.new A7 (by decide)).pad (pad_rep [] .null 10)
  have K7 : Keep h0 h7 [a1] := (Keep.refl h0 [a1]).ext E7
  have sz_o7 : h0.size ≤ o7 := Nat.le_trans (Keep.refl h0 [a1]).1 (Nat.le_of_eq gq7.symm)
  refine go (fun t k => st7 _ k) ?_
  have fs8 := (F_elementData_a1.ext E7)
  show Gl _ _ _ _ _ _ _ _ (T7.setTop (mkF m 55 #[.val (.ref a1), .val (.int (1 : Int32)), .val (.int (0 : Int32)), .unset] [(.ref o7), (.ref a1)]))
  refine go (fun t k => XS.dupX1 X7.here hx rfl (hb hby d22_55) rfl rfl rfl k) ?_
  show Gl _ _ _ _ _ _ _ _ (T7.setTop (mkF m 56 #[.val (.ref a1), .val (.int (1 : Int32)), .val (.int (0 : Int32)), .unset] [(.ref o7), (.ref a1), (.ref o7)]))
  obtain ⟨T9, h9, X9, e9, W9, st9⟩ := putF X7 hx hZ hown (host := "") (Or.inl (hw _ (List.mem_of_getElem? (i := 48) rfl))) Via.refl e7 fs8 (E_a1.ext E7) (Or.inl (hw _ (List.mem_of_getElem? (i := 49) rfl))) (hw _ (List.mem_of_getElem? (i := 27) rfl)) (ty := (.array (.object "java/lang/Object"))) (by decide) rfl rfl (g := (mkF m 56 #[.val (.ref a1), .val (.int (1 : Int32)), .val (.int (0 : Int32)), .unset] [(.ref o7), (.ref a1), (.ref o7)])) rfl rfl (hb hby d22_56)
  have Fw9 := fs8.same W9
  have K9 : Keep h0 h9 [a1] := K7.wr W9 (Or.inl (List.mem_of_getElem? (i := 0) rfl))
  have N9 := Fr.snoc X9 N6 g_a1
  refine go (fun t k => st9 _ k) ?_
  have fs10 := ((F_modCount_a1.ext E7).other W9 (Or.inr (slot_ne (Or.inl (hw _ (List.mem_of_getElem? (i := 46) rfl))) (Or.inl (hw _ (List.mem_of_getElem? (i := 49) rfl))) (by decide) (t := .int) (t' := (.array (.object "java/lang/Object"))) (by decide) (by decide))))
  have fs11 := ((F_size_a1.ext E7).other W9 (Or.inr (slot_ne (Or.inl (hw _ (List.mem_of_getElem? (i := 56) rfl))) (Or.inl (hw _ (List.mem_of_getElem? (i := 49) rfl))) (by decide) (t := .int) (t' := (.array (.object "java/lang/Object"))) (by decide) (by decide))))
  have fs12 := ((V_d.ext E7).other W9 (Ne.symm ne_a1_w_DEFAULTCAPACITY_EMPTY_ELEMENTDATA))
  have fs13 := (V_o7.other W9 (Ne.symm ne_a1_o7))
  have zs14 := (Nat.le_trans (Nat.le_trans Z0 E7.1) (Keep.of_wr W9).1)
  show Gl _ _ _ _ _ _ _ _ (T9.setTop (mkF m 59 #[.val (.ref a1), .val (.int (1 : Int32)), .val (.int (0 : Int32)), .unset] [(.ref o7)]))
  exact endR X9 hx Bd rfl (hb hby d22_59) ⟨o7, k7, rfl, (by rw [e9]; exact ⟨K9, sz_o7, ((E_a1.ext E7).wr W9), fs10, fs11, Fw9, fs13, O7⟩)⟩ N9 (by decide) (by decide)
theorem pd_5 : parseMethodDescriptor "(I)[Ljava/lang/Object;" = some ⟨[.int], some (.array (.object "java/lang/Object"))⟩ := by decide +kernel
theorem d21_0 : decode jdk_38_method_7_code 0 = .ok (.aload_n 0, 1) := by decide +kernel
theorem d21_1 : decode jdk_38_method_7_code 1 = .ok (.aload_n 0, 1) := by decide +kernel
theorem d21_2 : decode jdk_38_method_7_code 2 = .ok (.getfield 48, 3) := by decide +kernel
theorem d21_5 : decode jdk_38_method_7_code 5 = .ok (.iconst 1, 1) := by decide +kernel
theorem d21_6 : decode jdk_38_method_7_code 6 = .ok (.iadd, 1) := by decide +kernel
theorem d21_7 : decode jdk_38_method_7_code 7 = .ok (.invokevirtual 69, 3) := by decide +kernel
theorem d21_10 : decode jdk_38_method_7_code 10 = .ok (.areturn, 1) := by decide +kernel
theorem ef_21 (m : MethodId) (a1 : Addr) : entryFrame m #[(.ref a1)] 1 = mkF m 0 #[.val (.ref a1)] [] := by first | (simp [entryFrame, mkF, argsToLocals, Value.category]; done) | rfl
set_option maxRecDepth 65536 in
set_option maxHeartbeats 40000000 in
theorem rm21 (l : Launch) (Z : State) (a0 : Array Value) (hw : ∀ d ∈ tables_1, d.before a0 Z = true) (ws : List Jvm.Cond) (a1 : Addr) (w_DEFAULTCAPACITY_EMPTY_ELEMENTDATA : Addr) (w_modCount_a1 : Int32) (kd : ClassId) (h0 : Heap) (n0 : Nat) (Z0 : n0 ≤ h0.size) (S_DEFAULTCAPACITY_EMPTY_ELEMENTDATA : Sta Z h0 "java/util/ArrayList" "DEFAULTCAPACITY_EMPTY_ELEMENTDATA" "[Ljava/lang/Object;" (.ref w_DEFAULTCAPACITY_EMPTY_ELEMENTDATA)) (E_a1 : Exa Z h0 a1 "java/util/ArrayList") (F_modCount_a1 : Fld Z h0 a1 "java/util/AbstractList" "modCount" "I" (.int w_modCount_a1)) (F_size_a1 : Fld Z h0 a1 "java/util/ArrayList" "size" "I" (.int (0 : Int32))) (F_elementData_a1 : Fld Z h0 a1 "java/util/ArrayList" "elementData" "[Ljava/lang/Object;" (.ref w_DEFAULTCAPACITY_EMPTY_ELEMENTDATA)) (g_a1 : n0 ≤ a1) (V_d : Arv Z h0 w_DEFAULTCAPACITY_EMPTY_ELEMENTDATA kd (.object "java/lang/Object") (0 : Int32) [] .null) :
    MetFree l (⟨"java/util/ArrayList", "grow", "()[Ljava/lang/Object;"⟩ : MethodName) (head1 (Jvm.Cond.code (⟨"java/util/ArrayList", "grow", "()[Ljava/lang/Object;"⟩ : MethodName) jdk_38_method_7_code 1 (some (.array (.object "java/lang/Object"))) :: ws) ({ frames := 2, cells := 1, slots := 10, locals := 29 } : Room)) (fun a U => a = #[(.ref a1)] ∧ Z.Warmed39 U.vm ∧ U.heap = h0) (fun _ _ _ _ _ => True) (fun _ U o U' => ∃ v L, o = .returned v ∧ QK n0 (fun v h => ∃ (x0 : Addr) (k0 : ClassId), v = some (.ref x0) ∧ Keep h0 h [a1] ∧ h0.size ≤ x0 ∧ Exa Z h a1 "java/util/ArrayList" ∧ Fld Z h a1 "java/util/AbstractList" "modCount" "I" (.int w_modCount_a1) ∧ Fld Z h a1 "java/util/ArrayList" "size" "I" (.int (0 : Int32)) ∧ Fld Z h a1 "java/util/ArrayList" "elementData" "[Ljava/lang/Object;" (.ref x0) ∧ Arv Z h x0 k0 (.object "java/lang/Object") (10 : Int32) [.null, .null, .null, .null, .null, .null, .null, .null, .null, .null] .null ∧ Ovr Z k0 "java/lang/Object") v U'.heap L ∧ FrameEnd U o U' L ({ frames := 2, cells := 1, slots := 10, locals := 29 } : Room).cells ({ frames := 2, cells := 1, slots := 10, locals := 29 } : Room).slots) := by
  refine MetFree.of_bodySF (plainFor_of_name pn_4) hisR ?_
  intro p e s m args below meth c s₁ Bd hml0 hP hK
  obtain ⟨rfl, hZ, hh⟩ := hP
  have hx := Bd.exec
  have hby := Bd.bytes
  have hml : c.maxLocals = 1 := hml0
  have hown : s.vm.findClass "java/util/ArrayList" = some m.cls := findClass_of_methodNamed Bd.named
  have hnm := (name_of_methodNamed Bd.named Bd.method).1
  have X0 : Stand p l e ({ frames := 2, cells := 1, slots := 10, locals := 29 } : Room) s m #[(.ref a1)] below meth c s₁ [] 0 0 := Stand.of_body Bd
  have e0 : s₁.heap = h0 := by rw [← hh, Bd.state]; rfl
  have N0 := Fr.nil n0
  refine gl_start (ef_21 m a1) ?_
  show Gl p e below s n0 ({ frames := 2, cells := 1, slots := 10, locals := 29 } : Room).cells ({ frames := 2, cells := 1, slots := 10, locals := 29 } : Room).slots (fun v h => ∃ (x0 : Addr) (k0 : ClassId), v = some (.ref x0) ∧ Keep h0 h [a1] ∧ h0.size ≤ x0 ∧ Exa Z h a1 "java/util/ArrayList" ∧ Fld Z h a1 "java/util/AbstractList" "modCount" "I" (.int w_modCount_a1) ∧ Fld Z h a1 "java/util/ArrayList" "size" "I" (.int (0 : Int32)) ∧ Fld Z h a1 "java/util/ArrayList" "elementData" "[Ljava/lang/Object;" (.ref x0) ∧ Arv Z h x0 k0 (.object "java/lang/Object") (10 : Int32) [.null, .null, .null, .null, .null, .null, .null, .null, .null, .null] .null ∧ Ovr Z k0 "java/lang/Object") (s₁.setTop (mkF m 0 #[.val (.ref a1)] []))
  have ne_a1_w_DEFAULTCAPACITY_EMPTY_ELEMENTDATA : a1 ≠ w_DEFAULTCAPACITY_EMPTY_ELEMENTDATA := Exa.neArv E_a1 V_d (hw _ (List.mem_of_getElem? (i := 27) rfl))
  refine go (fun t k => XS.aloadN X0.here hx rfl (hb hby d21_0) rfl rfl k) ?_
  have fs1 := S_DEFAULTCAPACITY_EMPTY_ELEMENTDATA
  show Gl _ _ _ _ _ _ _ _ (s₁.setTop (mkF m 1 #[.val (.ref a1)] [(.ref a1)]))
  refine go (fun t k => XS.aloadN X0.here hx rfl (hb hby d21_1) rfl rfl k) ?_
  show Gl _ _ _ _ _ _ _ _ (s₁.setTop (mkF m 2 #[.val (.ref a1)] [(.ref a1), (.ref a1)]))
  obtain ⟨T2, X2, e2, st2⟩ := getF X0 hx hZ hown (host := "") (Or.inl (hw _ (List.mem_of_getElem? (i := 55) rfl))) Via.refl e0 F_size_a1 (g := (mkF m 2 #[.val (.ref a1)] [(.ref a1), (.ref a1)])) rfl rfl (hb hby d21_2)
  refine go (fun t k => st2 _ k) ?_
  show Gl _ _ _ _ _ _ _ _ (T2.setTop (mkF m 5 #[.val (.ref a1)] [(.int (0 : Int32)), (.ref a1)]))
  refine go (fun t k => XS.iconst X2.here hx rfl (hb hby d21_5) k) ?_
  show Gl _ _ _ _ _ _ _ _ (T2.setTop (mkF m 6 #[.val (.ref a1)] [(.int (1 : Int32)), (.int (0 : Int32)), (.ref a1)]))
  refine go (fun t k => XS.iadd X2.here hx rfl (hb hby d21_6) rfl k) ?_
  show Gl _ _ _ _ _ _ _ _ (T2.setTop (mkF m 7 #[.val (.ref a1)] [(.int (1 : Int32)), (.ref a1)]))
  obtain ⟨cq3, pq3, pq3'⟩ := E_a1.cell
  obtain ⟨_, _, ⟨T3, L3, k3, n3⟩, -, X3, ⟨Lc3, hQ3, l3, y3, z3⟩, st3⟩ := X2.privateBack hx (y := (⟨"java/util/ArrayList", "grow", "(I)[Ljava/lang/Object;"⟩ : MethodName)) hown (mvT hZ (hw _ (List.mem_of_getElem? (i := 140) rfl))) (mvT hZ (hw _ (List.mem_of_getElem? (i := 141) rfl))) (mvT hZ (hw _ (List.mem_of_getElem? (i := 143) rfl))) (Cond.privateMethod_at (mvP hZ (hw _ (List.mem_of_getElem? (i := 142) rfl)) (args := #[]))) (mvT hZ (hw _ (List.mem_of_getElem? (i := 144) rfl))) (by decide) (backOf (W := 0) (rm22 l Z a0 hw [] a1 w_DEFAULTCAPACITY_EMPTY_ELEMENTDATA w_modCount_a1 (0 : Int32) kd h0 n0 Z0 fs1 E_a1 F_modCount_a1 F_size_a1 F_elementData_a1 g_a1 V_d) hZ (hw _ (List.mem_of_getElem? (i := 144) rfl)) (hw _ (List.mem_of_getElem? (i := 28) rfl)) (by decide) (by decide)) (g := (mkF m 7 #[.val (.ref a1)] [(.int (1 : Int32)), (.ref a1)])) rfl (by rw [hml]; rfl) (Steps.refl _) (a := a1) (by rw [e2]; exact pq3) pq3' (argsL := [(.int (1 : Int32))]) (rest := []) (lenOf pd_5 rfl) rfl (by show 2 * 0 + _ ≤ _; exact Nat.le_of_eq rfl) (hb hby d21_7) (fun _ _ => ⟨rfl, e2, (by decide : 0 + 1 ≤ _), (by decide : 0 + 10 ≤ _)⟩)
  dsimp only [Pt.U, Pt.locs, Pt.cells, Pt.slots] at X3 l3 y3 z3 st3 hQ3
  replace X3 : Stand p l e ({ frames := 2, cells := 1, slots := 10, locals := 29 } : Room) s m #[(.ref a1)] below meth c T3 _ 1 10 := own_mv X3 l3 y3 z3
  clear l3 y3 z3
  obtain ⟨⟨y3_x0, c3_k0, rfl, K3q, so3_0, Fo3_0, Fo3_1, Fo3_2, Fo3_3, Fo3_4, Fo3_5⟩, N3q⟩ := hQ3
  obtain ⟨h3, e3⟩ : ∃ z, T3.heap = z := ⟨_, rfl⟩
  rw [e3] at K3q Fo3_0 Fo3_1 Fo3_2 Fo3_3 Fo3_4
  have K3 : Keep h0 h3 [a1] := (Keep.refl h0 [a1]).trans K3q (allS (Or.inl (List.mem_of_getElem? (i := 0) rfl)) all0)
  have g_y3_x0 : n0 ≤ y3_x0 := Nat.le_trans Z0 so3_0
  have sz_y3_x0 : h0.size ≤ y3_x0 := Nat.le_trans (Keep.refl h0 [a1]).1 so3_0
  have ne_a1_y3_x0 : a1 ≠ y3_x0 := Nat.ne_of_lt (Nat.lt_of_lt_of_le E_a1.lt so3_0)
  have ne_w_DEFAULTCAPACITY_EMPTY_ELEMENTDATA_y3_x0 : w_DEFAULTCAPACITY_EMPTY_ELEMENTDATA ≠ y3_x0 := Nat.ne_of_lt (Nat.lt_of_lt_of_le V_d.lt so3_0)
  have N3 := Fr.app N0 N3q
  refine go (fun t k => st3.trans k) ?_
  have fs4 := (sta_keepN fs1 K3q (nsS (Exa.nostat E_a1) ns0))
  have fs5 := (V_d.keep K3q (ninS (Ne.symm ne_a1_w_DEFAULTCAPACITY_EMPTY_ELEMENTDATA) nin0))
  show Gl _ _ _ _ _ _ _ _ (T3.setTop (mkF m 10 #[.val (.ref a1)] [(.ref y3_x0)]))
  exact endR X3 hx Bd rfl (hb hby d21_10) ⟨y3_x0, c3_k0, rfl, (by rw [e3]; exact ⟨K3, sz_y3_x0, Fo3_0, Fo3_1, Fo3_2, Fo3_3, Fo3_4, Fo3_5⟩)⟩ N3 (by decide) (by decide)
theorem pd_6 : parseMethodDescriptor "()[Ljava/lang/Object;" = some ⟨[], some (.array (.object "java/lang/Object"))⟩ := by decide +kernel
theorem d20_0 : decode jdk_38_method_24_code 0 = .ok (.iload_n 3, 1) := by decide +kernel
theorem d20_1 : decode jdk_38_method_24_code 1 = .ok (.aload_n 2, 1) := by decide +kernel
theorem d20_2 : decode jdk_38_method_24_code 2 = .ok (.arraylength, 1) := by decide +kernel
theorem d20_3 : decode jdk_38_method_24_code 3 = .ok (.if_icmp .ne 8, 3) := by decide +kernel
theorem d20_6 : decode jdk_38_method_24_code 6 = .ok (.aload_n 0, 1) := by decide +kernel
theorem d20_7 : decode jdk_38_method_24_code 7 = .ok (.invokevirtual 129, 3) := by decide +kernel
theorem d20_10 : decode jdk_38_method_24_code 10 = .ok (.astore_n 2, 1) := by decide +kernel
theorem d20_11 : decode jdk_38_method_24_code 11 = .ok (.aload_n 2, 1) := by decide +kernel
theorem d20_12 : decode jdk_38_method_24_code 12 = .ok (.iload_n 3, 1) := by decide +kernel
theorem d20_13 : decode jdk_38_method_24_code 13 = .ok (.aload_n 1, 1) := by decide +kernel
theorem d20_14 : decode jdk_38_method_24_code 14 = .ok (.aastore, 1) := by decide +kernel
theorem d20_15 : decode jdk_38_method_24_code 15 = .ok (.aload_n 0, 1) := by decide +kernel
theorem d20_16 : decode jdk_38_method_24_code 16 = .ok (.iload_n 3, 1) := by decide +kernel
theorem d20_17 : decode jdk_38_method_24_code 17 = .ok (.iconst 1, 1) := by decide +kernel
theorem d20_18 : decode jdk_38_method_24_code 18 = .ok (.iadd, 1) := by decide +kernel
theorem d20_19 : decode jdk_38_method_24_code 19 = .ok (.putfield 48, 3) := by decide +kernel
theorem d20_22 : decode jdk_38_method_24_code 22 = .ok (.return_, 1) := by decide +kernel
theorem ef_20tg (m : MethodId) (a1 : Addr) (a2 : Addr) (w_DEFAULTCAPACITY_EMPTY_ELEMENTDATA : Addr) : entryFrame m #[(.ref a1), (.ref a2), (.ref w_DEFAULTCAPACITY_EMPTY_ELEMENTDATA), (.int (0 : Int32))] 4 = mkF m 0 #[.val (.ref a1), .val (.ref a2), .val (.ref w_DEFAULTCAPACITY_EMPTY_ELEMENTDATA), .val (.int (0 : Int32))] [] := by first | (simp [entryFrame, mkF, argsToLocals, Value.category]; done) | rfl
set_option maxRecDepth 65536 in
set_option maxHeartbeats 40000000 in
theorem rm20tg (l : Launch) (Z : State) (a0 : Array Value) (hw : ∀ d ∈ tables_1, d.before a0 Z = true) (ws : List Jvm.Cond) (a1 : Addr) (a2 : Addr) (w_DEFAULTCAPACITY_EMPTY_ELEMENTDATA : Addr) (w_modCount_a1 : Int32) (kd : ClassId) (h0 : Heap) (n0 : Nat) (Z0 : n0 ≤ h0.size) (S_DEFAULTCAPACITY_EMPTY_ELEMENTDATA : Sta Z h0 "java/util/ArrayList" "DEFAULTCAPACITY_EMPTY_ELEMENTDATA" "[Ljava/lang/Object;" (.ref w_DEFAULTCAPACITY_EMPTY_ELEMENTDATA)) (E_a1 : Exa Z h0 a1 "java/util/ArrayList") (F_modCount_a1 : Fld Z h0 a1 "java/util/AbstractList" "modCount" "I" (.int w_modCount_a1)) (F_size_a1 : Fld Z h0 a1 "java/util/ArrayList" "size" "I" (.int (0 : Int32))) (F_elementData_a1 : Fld Z h0 a1 "java/util/ArrayList" "elementData" "[Ljava/lang/Object;" (.ref w_DEFAULTCAPACITY_EMPTY_ELEMENTDATA)) (g_a1 : n0 ≤ a1) (V_d : Arv Z h0 w_DEFAULTCAPACITY_EMPTY_ELEMENTDATA kd (.object "java/lang/Object") (0 : Int32) [] .null) (E_a2 : Exa Z h0 a2 "java/lang/String") :
    MetFree l (⟨"java/util/ArrayList", "add", "(Ljava/lang/Object;[Ljava/lang/Object;I)V"⟩ : MethodName) (head1 (Jvm.Cond.code (⟨"java/util/ArrayList", "add", "(Ljava/lang/Object;[Ljava/lang/Object;I)V"⟩ : MethodName) jdk_38_method_24_code 4 none :: ws) ({ frames := 3, cells := 1, slots := 10, locals := 41 } : Room)) (fun a U => a = #[(.ref a1), (.ref a2), (.ref w_DEFAULTCAPACITY_EMPTY_ELEMENTDATA), (.int (0 : Int32))] ∧ Z.Warmed39 U.vm ∧ U.heap = h0) (fun _ _ _ _ _ => True) (fun _ U o U' => ∃ v L, o = .returned v ∧ QK n0 (fun v h => ∃ (x0 : Addr) (k0 : ClassId), v = none ∧ Keep h0 h [a1] ∧ h0.size ≤ x0 ∧ Exa Z h a1 "java/util/ArrayList" ∧ Fld Z h a1 "java/util/AbstractList" "modCount" "I" (.int w_modCount_a1) ∧ Fld Z h a1 "java/util/ArrayList" "size" "I" (.int (1 : Int32)) ∧ Fld Z h a1 "java/util/ArrayList" "elementData" "[Ljava/lang/Object;" (.ref x0) ∧ Arv Z h x0 k0 (.object "java/lang/Object") (10 : Int32) [(.ref a2), .null, .null, .null, .null, .null, .null, .null, .null, .null] .null ∧ Ovr Z k0 "java/lang/Object") v U'.heap L ∧ FrameEnd U o U' L ({ frames := 3, cells := 1, slots := 10, locals := 41 } : Room).cells ({ frames := 3, cells := 1, slots := 10, locals := 41 } : Room).slots) := by
  refine MetFree.of_bodySF (plainFor_of_name pn_4) hisR ?_
  intro p e s m args below meth c s₁ Bd hml0 hP hK
  obtain ⟨rfl, hZ, hh⟩ := hP
  have hx := Bd.exec
  have hby := Bd.bytes
  have hml : c.maxLocals = 4 := hml0
  have hown : s.vm.findClass "java/util/ArrayList" = some m.cls := findClass_of_methodNamed Bd.named
  have hnm := (name_of_methodNamed Bd.named Bd.method).1
  have X0 : Stand p l e ({ frames := 3, cells := 1, slots := 10, locals := 41 } : Room) s m #[(.ref a1), (.ref a2), (.ref w_DEFAULTCAPACITY_EMPTY_ELEMENTDATA), (.int (0 : Int32))] below meth c s₁ [] 0 0 := Stand.of_body Bd
  have e0 : s₁.heap = h0 := by rw [← hh, Bd.state]; rfl
  have N0 := Fr.nil n0
  refine gl_start (ef_20tg m a1 a2 w_DEFAULTCAPACITY_EMPTY_ELEMENTDATA) ?_
  show Gl p e below s n0 ({ frames := 3, cells := 1, slots := 10, locals := 41 } : Room).cells ({ frames := 3, cells := 1, slots := 10, locals := 41 } : Room).slots (fun v h => ∃ (x0 : Addr) (k0 : ClassId), v = none ∧ Keep h0 h [a1] ∧ h0.size ≤ x0 ∧ Exa Z h a1 "java/util/ArrayList" ∧ Fld Z h a1 "java/util/AbstractList" "modCount" "I" (.int w_modCount_a1) ∧ Fld Z h a1 "java/util/ArrayList" "size" "I" (.int (1 : Int32)) ∧ Fld Z h a1 "java/util/ArrayList" "elementData" "[Ljava/lang/Object;" (.ref x0) ∧ Arv Z h x0 k0 (.object "java/lang/Object") (10 : Int32) [(.ref a2), .null, .null, .null, .null, .null, .null, .null, .null, .null] .null ∧ Ovr Z k0 "java/lang/Object") (s₁.setTop (mkF m 0 #[.val (.ref a1), .val (.ref a2), .val (.ref w_DEFAULTCAPACITY_EMPTY_ELEMENTDATA), .val (.int (0 : Int32))] []))
  have ne_a1_w_DEFAULTCAPACITY_EMPTY_ELEMENTDATA : a1 ≠ w_DEFAULTCAPACITY_EMPTY_ELEMENTDATA := Exa.neArv E_a1 V_d (hw _ (List.mem_of_getElem? (i := 27) rfl))
  refine go (fun t k => XS.iloadN X0.here hx rfl (hb hby d20_0) rfl  k) ?_
  have fs1 := S_DEFAULTCAPACITY_EMPTY_ELEMENTDATA
  show Gl _ _ _ _ _ _ _ _ (s₁.setTop (mkF m 1 #[.val (.ref a1), .val (.ref a2), .val (.ref w_DEFAULTCAPACITY_EMPTY_ELEMENTDATA), .val (.int (0 : Int32))] [(.int (0 : Int32))]))
  refine go (fun t k => XS.aloadN X0.here hx rfl (hb hby d20_1) rfl rfl k) ?_
  show Gl _ _ _ _ _ _ _ _ (s₁.setTop (mkF m 2 #[.val (.ref a1), .val (.ref a2), .val (.ref w_DEFAULTCAPACITY_EMPTY_ELEMENTDATA), .val (.int (0 : Int32))] [(.ref w_DEFAULTCAPACITY_EMPTY_ELEMENTDATA), (.int (0 : Int32))]))
  obtain ⟨cl2, Ar2, vq2, S2, M2, Hh2, G2⟩ := id V_d
  have hl2 : cl2.slots.size.toInt32 = (0 : Int32) := len_of S2 M2
  refine go (fun t k => X0.arraylength hx (by rw [e0]; exact Ar2.1) (State.isArrayOf_alike hZ.alike Ar2.2.1) (g := (mkF m 2 #[.val (.ref a1), .val (.ref a2), .val (.ref w_DEFAULTCAPACITY_EMPTY_ELEMENTDATA), .val (.int (0 : Int32))] [(.ref w_DEFAULTCAPACITY_EMPTY_ELEMENTDATA), (.int (0 : Int32))])) rfl rfl (hb hby d20_2) _ (by rw [hl2]; exact k)) ?_
  show Gl _ _ _ _ _ _ _ _ (s₁.setTop (mkF m 3 #[.val (.ref a1), .val (.ref a2), .val (.ref w_DEFAULTCAPACITY_EMPTY_ELEMENTDATA), .val (.int (0 : Int32))] [(.int (0 : Int32)), (.int (0 : Int32))]))
  refine go (fun t k => XS.icmpNo X0.here hx rfl (hb hby d20_3) rfl (teq (by decide : (0 : Int32) = (0 : Int32))).2 k) ?_
  show Gl _ _ _ _ _ _ _ _ (s₁.setTop (mkF m 6 #[.val (.ref a1), .val (.ref a2), .val (.ref w_DEFAULTCAPACITY_EMPTY_ELEMENTDATA), .val (.int (0 : Int32))] []))
  refine go (fun t k => XS.aloadN X0.here hx rfl (hb hby d20_6) rfl rfl k) ?_
  show Gl _ _ _ _ _ _ _ _ (s₁.setTop (mkF m 7 #[.val (.ref a1), .val (.ref a2), .val (.ref w_DEFAULTCAPACITY_EMPTY_ELEMENTDATA), .val (.int (0 : Int32))] [(.ref a1)]))
  obtain ⟨cq3, pq3, pq3'⟩ := E_a1.cell
  obtain ⟨_, _, ⟨T3, L3, k3, n3⟩, -, X3, ⟨Lc3, hQ3, l3, y3, z3⟩, st3⟩ := X0.privateBack hx (y := (⟨"java/util/ArrayList", "grow", "()[Ljava/lang/Object;"⟩ : MethodName)) hown (mvT hZ (hw _ (List.mem_of_getElem? (i := 135) rfl))) (mvT hZ (hw _ (List.mem_of_getElem? (i := 136) rfl))) (mvT hZ (hw _ (List.mem_of_getElem? (i := 138) rfl))) (Cond.privateMethod_at (mvP hZ (hw _ (List.mem_of_getElem? (i := 137) rfl)) (args := #[]))) (mvT hZ (hw _ (List.mem_of_getElem? (i := 139) rfl))) (by decide) (backOf (W := 0) (rm21 l Z a0 hw [] a1 w_DEFAULTCAPACITY_EMPTY_ELEMENTDATA w_modCount_a1 kd h0 n0 Z0 fs1 E_a1 F_modCount_a1 F_size_a1 F_elementData_a1 g_a1 V_d) hZ (hw _ (List.mem_of_getElem? (i := 139) rfl)) (hw _ (List.mem_of_getElem? (i := 28) rfl)) (by decide) (by decide)) (g := (mkF m 7 #[.val (.ref a1), .val (.ref a2), .val (.ref w_DEFAULTCAPACITY_EMPTY_ELEMENTDATA), .val (.int (0 : Int32))] [(.ref a1)])) rfl (by rw [hml]; rfl) (Steps.refl _) (a := a1) (by rw [e0]; exact pq3) pq3' (argsL := []) (rest := []) (lenOf pd_6 rfl) rfl (by show 2 * 0 + _ ≤ _; exact Nat.le_of_eq rfl) (hb hby d20_7) (fun _ _ => ⟨rfl, e0, (by decide : 0 + 1 ≤ _), (by decide : 0 + 10 ≤ _)⟩)
  dsimp only [Pt.U, Pt.locs, Pt.cells, Pt.slots] at X3 l3 y3 z3 st3 hQ3
  replace X3 : Stand p l e ({ frames := 3, cells := 1, slots := 10, locals := 41 } : Room) s m #[(.ref a1), (.ref a2), (.ref w_DEFAULTCAPACITY_EMPTY_ELEMENTDATA), (.int (0 : Int32))] below meth c T3 _ 1 10 := own_mv X3 l3 y3 z3
  clear l3 y3 z3
  obtain ⟨⟨y3_x0, c3_k0, rfl, K3q, so3_0, Fo3_0, Fo3_1, Fo3_2, Fo3_3, Fo3_4, Fo3_5⟩, N3q⟩ := hQ3
  obtain ⟨h3, e3⟩ : ∃ z, T3.heap = z := ⟨_, rfl⟩
  rw [e3] at K3q Fo3_0 Fo3_1 Fo3_2 Fo3_3 Fo3_4
  have K3 : Keep h0 h3 [a1] := (Keep.refl h0 [a1]).trans K3q (allS (Or.inl (List.mem_of_getElem? (i := 0) rfl)) all0)
  have g_y3_x0 : n0 ≤ y3_x0 := Nat.le_trans Z0 so3_0
  have sz_y3_x0 : h0.size ≤ y3_x0 := Nat.le_trans (Keep.refl h0 [a1]).1 so3_0
  have ne_a1_y3_x0 : a1 ≠ y3_x0 := Nat.ne_of_lt (Nat.lt_of_lt_of_le E_a1.lt so3_0)
  have ne_w_DEFAULTCAPACITY_EMPTY_ELEMENTDATA_y3_x0 : w_DEFAULTCAPACITY_EMPTY_ELEMENTDATA ≠ y3_x0 := Nat.ne_of_lt (Nat.lt_of_lt_of_le V_d.lt so3_0)
  have ne_a2_y3_x0 : a2 ≠ y3_x0 := Nat.ne_of_lt (Nat.lt_of_lt_of_le E_a2.lt so3_0)
  have N3 := Fr.app N0 N3q
  refine go (fun t k => st3.trans k) ?_
  have fs4 := (sta_keepN fs1 K3q (nsS (Exa.nostat E_a1) ns0))
  have fs5 := (V_d.keep K3q (ninS (Ne.symm ne_a1_w_DEFAULTCAPACITY_EMPTY_ELEMENTDATA) nin0))
  show Gl _ _ _ _ _ _ _ _ (T3.setTop (mkF m 10 #[.val (.ref a1), .val (.ref a2), .val (.ref w_DEFAULTCAPACITY_EMPTY_ELEMENTDATA), .val (.int (0 : Int32))] [(.ref y3_x0)]))
  refine go (fun t k => XS.astoreN X3.here hx rfl (hb hby d20_10) rfl rfl (l' := #[.val (.ref a1), .val (.ref a2), .val (.ref y3_x0), .val (.int (0 : Int32))]) rfl k) ?_
  show Gl _ _ _ _ _ _ _ _ (T3.setTop (mkF m 11 #[.val (.ref a1), .val (.ref a2), .val (.ref y3_x0), .val (.int (0 : Int32))] []))
  refine go (fun t k => XS.aloadN X3.here hx rfl (hb hby d20_11) rfl rfl k) ?_
  show Gl _ _ _ _ _ _ _ _ (T3.setTop (mkF m 12 #[.val (.ref a1), .val (.ref a2), .val (.ref y3_x0), .val (.int (0 : Int32))] [(.ref y3_x0)]))
  refine go (fun t k => XS.iloadN X3.here hx rfl (hb hby d20_12) rfl  k) ?_
  show Gl _ _ _ _ _ _ _ _ (T3.setTop (mkF m 13 #[.val (.ref a1), .val (.ref a2), .val (.ref y3_x0), .val (.int (0 : Int32))] [(.int (0 : Int32)), (.ref y3_x0)]))
  refine go (fun t k => XS.aloadN X3.here hx rfl (hb hby d20_13) rfl rfl k) ?_
  show Gl _ _ _ _ _ _ _ _ (T3.setTop (mkF m 14 #[.val (.ref a1), .val (.ref a2), .val (.ref y3_x0), .val (.int (0 : Int32))] [(.ref a2), (.int (0 : Int32)), (.ref y3_x0)]))
  obtain ⟨cl6, Ar6, vq6, S6, M6, Hh6, G6⟩ := id Fo3_4
  obtain ⟨T6, h6, X6, e6, W6, st6⟩ := stR X3 hx hZ e3 Ar6 (j := (0 : Int32)) (inb_of S6 ⟨by decide, by decide⟩) rfl (Sto.ofV Ar6 vq6 Fo3_5 (Ins.of_exa (E_a2.keep K3q) (hw _ (List.mem_of_getElem? (i := 151) rfl)))) (g := (mkF m 14 #[.val (.ref a1), .val (.ref a2), .val (.ref y3_x0), .val (.int (0 : Int32))] [(.ref a2), (.int (0 : Int32)), (.ref y3_x0)])) rfl rfl (hb hby d20_14)
  have V6 : Arv Z h6 y3_x0 c3_k0 (.object "java/lang/Object") (10 : Int32) [(.ref a2), .null, .null, .null, .null, .null, .null, .null, .null, .null] .null := Arv.set Ar6 vq6 S6 M6 Hh6 G6 rfl W6 0 rfl (Nat.le_of_ble_eq_true rfl)
  have K6 : Keep h0 h6 [a1] := K3.wr W6 (Or.inr sz_y3_x0)
  have N6 := Fr.snoc X6 N3 g_y3_x0
  refine go (fun t k => st6 _ k) ?_
  have fs7 := (fs5.other W6 ne_w_DEFAULTCAPACITY_EMPTY_ELEMENTDATA_y3_x0)
  have fs8 := (Fo3_1.other W6 (Or.inl ne_a1_y3_x0))
  have fs9 := (Fo3_2.other W6 (Or.inl ne_a1_y3_x0))
  have fs10 := (Fo3_3.other W6 (Or.inl ne_a1_y3_x0))
  have zs11 := (Nat.le_trans (Nat.le_trans Z0 K3q.1) (Keep.of_wr W6).1)
  show Gl _ _ _ _ _ _ _ _ (T6.setTop (mkF m 15 #[.val (.ref a1), .val (.ref a2), .val (.ref y3_x0), .val (.int (0 : Int32))] []))
  refine go (fun t k => XS.aloadN X6.here hx rfl (hb hby d20_15) rfl rfl k) ?_
  show Gl _ _ _ _ _ _ _ _ (T6.setTop (mkF m 16 #[.val (.ref a1), .val (.ref a2), .val (.ref y3_x0), .val (.int (0 : Int32))] [(.ref a1)]))
  refine go (fun t k => XS.iloadN X6.here hx rfl (hb hby d20_16) rfl  k) ?_
  show Gl _ _ _ _ _ _ _ _ (T6.setTop (mkF m 17 #[.val (.ref a1), .val (.ref a2), .val (.ref y3_x0), .val (.int (0 : Int32))] [(.int (0 : Int32)), (.ref a1)]))
  refine go (fun t k => XS.iconst X6.here hx rfl (hb hby d20_17) k) ?_
  show Gl _ _ _ _ _ _ _ _ (T6.setTop (mkF m 18 #[.val (.ref a1), .val (.ref a2), .val (.ref y3_x0), .val (.int (0 : Int32))] [(.int (1 : Int32)), (.int (0 : Int32)), (.ref a1)]))
  refine go (fun t k => XS.iadd X6.here hx rfl (hb hby d20_18) rfl k) ?_
  show Gl _ _ _ _ _ _ _ _ (T6.setTop (mkF m 19 #[.val (.ref a1), .val (.ref a2), .val (.ref y3_x0), .val (.int (0 : Int32))] [(.int (1 : Int32)), (.ref a1)]))
  obtain ⟨T12, h12, X12, e12, W12, st12⟩ := putF X6 hx hZ hown (host := "") (Or.inl (hw _ (List.mem_of_getElem? (i := 55) rfl))) Via.refl e6 fs9 (Fo3_0.wr W6) (Or.inl (hw _ (List.mem_of_getElem? (i := 56) rfl))) (hw _ (List.mem_of_getElem? (i := 27) rfl)) (ty := .int) (by decide) rfl rfl (g := (mkF m 19 #[.val (.ref a1), .val (.ref a2), .val (.ref y3_x0), .val (.int (0 : Int32))] [(.int (1 : Int32)), (.ref a1)])) rfl rfl (hb hby d20_19)
  have Fw12 := fs9.same W12
  have K12 : Keep h0 h12 [a1] := K6.wr W12 (Or.inl (List.mem_of_getElem? (i := 0) rfl))
  have N12 := Fr.snoc X12 N6 g_a1
  refine go (fun t k => st12 _ k) ?_
  have fs13 := (Sta.wr W12 (Sta.wr W6 fs4))
  have fs14 := (fs7.other W12 (Ne.symm ne_a1_w_DEFAULTCAPACITY_EMPTY_ELEMENTDATA))
  have fs15 := (((E_a2.keep K3q).wr W6).wr W12)
  have fs16 := (fs8.other W12 (Or.inr (slot_ne (Or.inl (hw _ (List.mem_of_getElem? (i := 46) rfl))) (Or.inl (hw _ (List.mem_of_getElem? (i := 56) rfl))) (by decide) (t := .int) (t' := .int) (by decide) (by decide))))
  have fs17 := (fs10.other W12 (Or.inr (slot_ne (Or.inl (hw _ (List.mem_of_getElem? (i := 49) rfl))) (Or.inl (hw _ (List.mem_of_getElem? (i := 56) rfl))) (by decide) (t := (.array (.object "java/lang/Object"))) (t' := .int) (by decide) (by decide))))
  have fs18 := (V6.other W12 (Ne.symm ne_a1_y3_x0))
  have zs19 := (Nat.le_trans zs11 (Keep.of_wr W12).1)
  show Gl _ _ _ _ _ _ _ _ (T12.setTop (mkF m 22 #[.val (.ref a1), .val (.ref a2), .val (.ref y3_x0), .val (.int (0 : Int32))] []))
  exact endV X12 hx Bd (hb hby d20_22) ⟨y3_x0, c3_k0, rfl, (by rw [e12]; exact ⟨K12, sz_y3_x0, ((Fo3_0.wr W6).wr W12), fs16, Fw12, fs17, fs18, Fo3_5⟩)⟩ N12 (by decide) (by decide)
theorem ef_20tn (m : MethodId) (a1 : Addr) (a2 : Addr) (a3 : Addr) : entryFrame m #[(.ref a1), (.ref a2), (.ref a3), (.int (1 : Int32))] 4 = mkF m 0 #[.val (.ref a1), .val (.ref a2), .val (.ref a3), .val (.int (1 : Int32))] [] := by first | (simp [entryFrame, mkF, argsToLocals, Value.category]; done) | rfl
set_option maxRecDepth 65536 in
set_option maxHeartbeats 40000000 in
theorem rm20tn (l : Launch) (Z : State) (a0 : Array Value) (hw : ∀ d ∈ tables_1, d.before a0 Z = true) (ws : List Jvm.Cond) (a1 : Addr) (a2 : Addr) (a3 : Addr) (w_modCount_a1 : Int32) (ka : ClassId) (u0 : Addr) (h0 : Heap) (n0 : Nat) (Z0 : n0 ≤ h0.size) (E_a1 : Exa Z h0 a1 "java/util/ArrayList") (F_modCount_a1 : Fld Z h0 a1 "java/util/AbstractList" "modCount" "I" (.int w_modCount_a1)) (F_size_a1 : Fld Z h0 a1 "java/util/ArrayList" "size" "I" (.int (1 : Int32))) (F_elementData_a1 : Fld Z h0 a1 "java/util/ArrayList" "elementData" "[Ljava/lang/Object;" (.ref a3)) (g_a1 : n0 ≤ a1) (g_a3 : n0 ≤ a3) (E_a2 : Exa Z h0 a2 "java/lang/String") (V_a3 : Arv Z h0 a3 ka (.object "java/lang/Object") (10 : Int32) [(.ref u0), .null, .null, .null, .null, .null, .null, .null, .null, .null] .null) (O_ka : Ovr Z ka "java/lang/Object") :
    MetFree l (⟨"java/util/ArrayList", "add", "(Ljava/lang/Object;[Ljava/lang/Object;I)V"⟩ : MethodName) (head1 (Jvm.Cond.code (⟨"java/util/ArrayList", "add", "(Ljava/lang/Object;[Ljava/lang/Object;I)V"⟩ : MethodName) jdk_38_method_24_code 4 none :: ws) ({ frames := 0, cells := 0, slots := 0, locals := 0 } : Room)) (fun a U => a = #[(.ref a1), (.ref a2), (.ref a3), (.int (1 : Int32))] ∧ Z.Warmed39 U.vm ∧ U.heap = h0) (fun _ _ _ _ _ => True) (fun _ U o U' => ∃ v L, o = .returned v ∧ QK n0 (fun v h => v = none ∧ Keep h0 h [a1, a3] ∧ Exa Z h a1 "java/util/ArrayList" ∧ Fld Z h a1 "java/util/AbstractList" "modCount" "I" (.int w_modCount_a1) ∧ Fld Z h a1 "java/util/ArrayList" "size" "I" (.int (2 : Int32)) ∧ Fld Z h a1 "java/util/ArrayList" "elementData" "[Ljava/lang/Object;" (.ref a3) ∧ Arv Z h a3 ka (.object "java/lang/Object") (10 : Int32) [(.ref u0), (.ref a2), .null, .null, .null, .null, .null, .null, .null, .null] .null) v U'.heap L ∧ FrameEnd U o U' L ({ frames := 0, cells := 0, slots := 0, locals := 0 } : Room).cells ({ frames := 0, cells := 0, slots := 0, locals := 0 } : Room).slots) := by
  refine MetFree.of_bodySF (plainFor_of_name pn_4) hisR ?_
  intro p e s m args below meth c s₁ Bd hml0 hP hK
  obtain ⟨rfl, hZ, hh⟩ := hP
  have hx := Bd.exec
  have hby := Bd.bytes
  have hml : c.maxLocals = 4 := hml0
  have hown : s.vm.findClass "java/util/ArrayList" = some m.cls := findClass_of_methodNamed Bd.named
  have hnm := (name_of_methodNamed Bd.named Bd.method).1
  have X0 : Stand p l e ({ frames := 0, cells := 0, slots := 0, locals := 0 } : Room) s m #[(.ref a1), (.ref a2), (.ref a3), (.int (1 : Int32))] below meth c s₁ [] 0 0 := Stand.of_body Bd
  have e0 : s₁.heap = h0 := by rw [← hh, Bd.state]; rfl
  have N0 := Fr.nil n0
  refine gl_start (ef_20tn m a1 a2 a3) ?_
  show Gl p e below s n0 ({ frames := 0, cells := 0, slots := 0, locals := 0 } : Room).cells ({ frames := 0, cells := 0, slots := 0, locals := 0 } : Room).slots (fun v h => v = none ∧ Keep h0 h [a1, a3] ∧ Exa Z h a1 "java/util/ArrayList" ∧ Fld Z h a1 "java/util/AbstractList" "modCount" "I" (.int w_modCount_a1) ∧ Fld Z h a1 "java/util/ArrayList" "size" "I" (.int (2 : Int32)) ∧ Fld Z h a1 "java/util/ArrayList" "elementData" "[Ljava/lang/Object;" (.ref a3) ∧ Arv Z h a3 ka (.object "java/lang/Object") (10 : Int32) [(.ref u0), (.ref a2), .null, .null, .null, .null, .null, .null, .null, .null] .null) (s₁.setTop (mkF m 0 #[.val (.ref a1), .val (.ref a2), .val (.ref a3), .val (.int (1 : Int32))] []))
  have ne_a1_a3 : a1 ≠ a3 := Exa.neArv E_a1 V_a3 (hw _ (List.mem_of_getElem? (i := 27) rfl))
  refine go (fun t k => XS.iloadN X0.here hx rfl (hb hby d20_0) rfl  k) ?_
  show Gl _ _ _ _ _ _ _ _ (s₁.setTop (mkF m 1 #[.val (.ref a1), .val (.ref a2), .val (.ref a3), .val (.int (1 : Int32))] [(.int (1 : Int32))]))
  refine go (fun t k => XS.aloadN X0.here hx rfl (hb hby d20_1) rfl rfl k) ?_
  show Gl _ _ _ _ _ _ _ _ (s₁.setTop (mkF m 2 #[.val (.ref a1), .val (.ref a2), .val (.ref a3), .val (.int (1 : Int32))] [(.ref a3), (.int (1 : Int32))]))
  obtain ⟨cl1, Ar1, vq1, S1, M1, Hh1, G1⟩ := id V_a3
  have hl1 : cl1.slots.size.toInt32 = (10 : Int32) := len_of S1 M1
  refine go (fun t k => X0.arraylength hx (by rw [e0]; exact Ar1.1) (State.isArrayOf_alike hZ.alike Ar1.2.1) (g := (mkF m 2 #[.val (.ref a1), .val (.ref a2), .val (.ref a3), .val (.int (1 : Int32))] [(.ref a3), (.int (1 : Int32))])) rfl rfl (hb hby d20_2) _ (by rw [hl1]; exact k)) ?_
  show Gl _ _ _ _ _ _ _ _ (s₁.setTop (mkF m 3 #[.val (.ref a1), .val (.ref a2), .val (.ref a3), .val (.int (1 : Int32))] [(.int (10 : Int32)), (.int (1 : Int32))]))
  refine go (fun t k => XS.icmpYes X0.here hx rfl (pc0 := 3) (pc' := 11) rfl (hb hby d20_3) rfl (feq (by decide : ¬ ((1 : Int32) = (10 : Int32)))).2 (by decide) (by decide) k) ?_
  show Gl _ _ _ _ _ _ _ _ (s₁.setTop (mkF m 11 #[.val (.ref a1), .val (.ref a2), .val (.ref a3), .val (.int (1 : Int32))] []))
  refine go (fun t k => XS.aloadN X0.here hx rfl (hb hby d20_11) rfl rfl k) ?_
  show Gl _ _ _ _ _ _ _ _ (s₁.setTop (mkF m 12 #[.val (.ref a1), .val (.ref a2), .val (.ref a3), .val (.int (1 : Int32))] [(.ref a3)]))
  refine go (fun t k => XS.iloadN X0.here hx rfl (hb hby d20_12) rfl  k) ?_
  show Gl _ _ _ _ _ _ _ _ (s₁.setTop (mkF m 13 #[.val (.ref a1), .val (.ref a2), .val (.ref a3), .val (.int (1 : Int32))] [(.int (1 : Int32)), (.ref a3)]))
  refine go (fun t k => XS.aloadN X0.here hx rfl (hb hby d20_13) rfl rfl k) ?_
  show Gl _ _ _ _ _ _ _ _ (s₁.setTop (mkF m 14 #[.val (.ref a1), .val (.ref a2), .val (.ref a3), .val (.int (1 : Int32))] [(.ref a2), (.int (1 : Int32)), (.ref a3)]))
  obtain ⟨cl2, Ar2, vq2, S2, M2, Hh2, G2⟩ := id V_a3
  obtain ⟨T2, h2, X2, e2, W2, st2⟩ := stR X0 hx hZ e0 Ar2 (j := (1 : Int32)) (inb_of S2 ⟨by decide, by decide⟩) rfl (Sto.ofV Ar2 vq2 O_ka (Ins.of_exa E_a2 (hw _ (List.mem_of_getElem? (i := 151) rfl)))) (g := (mkF m 14 #[.val (.ref a1), .val (.ref a2), .val (.ref a3), .val (.int (1 : Int32))] [(.ref a2), (.int (1 : Int32)), (.ref a3)])) rfl rfl (hb hby d20_14)
  have V2 : Arv Z h2 a3 ka (.object "java/lang/Object") (10 : Int32) [(.ref u0), (.ref a2), .null, .null, .null, .null, .null, .null, .null, .null] .null := Arv.set Ar2 vq2 S2 M2 Hh2 G2 rfl W2 1 rfl (Nat.le_of_ble_eq_true rfl)
  have K2 : Keep h0 h2 [a1, a3] := (Keep.refl h0 [a1, a3]).wr W2 (Or.inl (List.mem_of_getElem? (i := 1) rfl))
  have N2 := Fr.snoc X2 N0 g_a3
  refine go (fun t k => st2 _ k) ?_
  have fs3 := (F_modCount_a1.other W2 (Or.inl ne_a1_a3))
  have fs4 := (F_size_a1.other W2 (Or.inl ne_a1_a3))
  have fs5 := (F_elementData_a1.other W2 (Or.inl ne_a1_a3))
  have zs6 := (Nat.le_trans Z0 (Keep.of_wr W2).1)
  show Gl _ _ _ _ _ _ _ _ (T2.setTop (mkF m 15 #[.val (.ref a1), .val (.ref a2), .val (.ref a3), .val (.int (1 : Int32))] []))
  refine go (fun t k => XS.aloadN X2.here hx rfl (hb hby d20_15) rfl rfl k) ?_
  show Gl _ _ _ _ _ _ _ _ (T2.setTop (mkF m 16 #[.val (.ref a1), .val (.ref a2), .val (.ref a3), .val (.int (1 : Int32))] [(.ref a1)]))
  refine go (fun t k => XS.iloadN X2.here hx rfl (hb hby d20_16) rfl  k) ?_
  show Gl _ _ _ _ _ _ _ _ (T2.setTop (mkF m 17 #[.val (.ref a1), .val (.ref a2), .val (.ref a3), .val (.int (1 : Int32))] [(.int (1 : Int32)), (.ref a1)]))
  refine go (fun t k => XS.iconst X2.here hx rfl (hb hby d20_17) k) ?_
  show Gl _ _ _ _ _ _ _ _ (T2.setTop (mkF m 18 #[.val (.ref a1), .val (.ref a2), .val (.ref a3), .val (.int (1 : Int32))] [(.int (1 : Int32)), (.int (1 : Int32)), (.ref a1)]))
  refine go (fun t k => XS.iadd X2.here hx rfl (hb hby d20_18) rfl k) ?_
  show Gl _ _ _ _ _ _ _ _ (T2.setTop (mkF m 19 #[.val (.ref a1), .val (.ref a2), .val (.ref a3), .val (.int (1 : Int32))] [(.int (2 : Int32)), (.ref a1)]))
  obtain ⟨T7, h7, X7, e7, W7, st7⟩ := putF X2 hx hZ hown (host := "") (Or.inl (hw _ (List.mem_of_getElem? (i := 55) rfl))) Via.refl e2 fs4 (E_a1.wr W2) (Or.inl (hw _ (List.mem_of_getElem? (i := 56) rfl))) (hw _ (List.mem_of_getElem? (i := 27) rfl)) (ty := .int) (by decide) rfl rfl (g := (mkF m 19 #[.val (.ref a1), .val (.ref a2), .val (.ref a3), .val (.int (1 : Int32))] [(.int (2 : Int32)), (.ref a1)])) rfl rfl (hb hby d20_19)
  have Fw7 := fs4.same W7
  have K7 : Keep h0 h7 [a1, a3] := K2.wr W7 (Or.inl (List.mem_of_getElem? (i := 0) rfl))
  have N7 := Fr.snoc X7 N2 g_a1
  refine go (fun t k => st7 _ k) ?_
  have fs8 := (fs3.other W7 (Or.inr (slot_ne (Or.inl (hw _ (List.mem_of_getElem? (i := 46) rfl))) (Or.inl (hw _ (List.mem_of_getElem? (i := 56) rfl))) (by decide) (t := .int) (t' := .int) (by decide) (by decide))))
  have fs9 := (fs5.other W7 (Or.inr (slot_ne (Or.inl (hw _ (List.mem_of_getElem? (i := 49) rfl))) (Or.inl (hw _ (List.mem_of_getElem? (i := 56) rfl))) (by decide) (t := (.array (.object "java/lang/Object"))) (t' := .int) (by decide) (by decide))))
  have fs10 := (V2.other W7 (Ne.symm ne_a1_a3))
  have zs11 := (Nat.le_trans zs6 (Keep.of_wr W7).1)
  show Gl _ _ _ _ _ _ _ _ (T7.setTop (mkF m 22 #[.val (.ref a1), .val (.ref a2), .val (.ref a3), .val (.int (1 : Int32))] []))
  exact endV X7 hx Bd (hb hby d20_22) ⟨rfl, (by rw [e7]; exact ⟨K7, ((E_a1.wr W2).wr W7), fs8, Fw7, fs9, fs10⟩)⟩ N7 (by decide) (by decide)
theorem pd_7 : parseMethodDescriptor "(Ljava/lang/Object;[Ljava/lang/Object;I)V" = some ⟨[(.object "java/lang/Object"), (.array (.object "java/lang/Object")), .int], none⟩ := by decide +kernel
theorem d19_0 : decode jdk_38_method_25_code 0 = .ok (.aload_n 0, 1) := by decide +kernel
theorem d19_1 : decode jdk_38_method_25_code 1 = .ok (.dup, 1) := by decide +kernel
theorem d19_2 : decode jdk_38_method_25_code 2 = .ok (.getfield 63, 3) := by decide +kernel
theorem d19_5 : decode jdk_38_method_25_code 5 = .ok (.iconst 1, 1) := by decide +kernel
theorem d19_6 : decode jdk_38_method_25_code 6 = .ok (.iadd, 1) := by decide +kernel
theorem d19_7 : decode jdk_38_method_25_code 7 = .ok (.putfield 63, 3) := by decide +kernel
theorem d19_10 : decode jdk_38_method_25_code 10 = .ok (.aload_n 0, 1) := by decide +kernel
theorem d19_11 : decode jdk_38_method_25_code 11 = .ok (.aload_n 1, 1) := by decide +kernel
theorem d19_12 : decode jdk_38_method_25_code 12 = .ok (.aload_n 0, 1) := by decide +kernel
theorem d19_13 : decode jdk_38_method_25_code 13 = .ok (.getfield 9, 3) := by decide +kernel
theorem d19_16 : decode jdk_38_method_25_code 16 = .ok (.aload_n 0, 1) := by decide +kernel
theorem d19_17 : decode jdk_38_method_25_code 17 = .ok (.getfield 48, 3) := by decide +kernel
theorem d19_20 : decode jdk_38_method_25_code 20 = .ok (.invokevirtual 131, 3) := by decide +kernel
theorem d19_23 : decode jdk_38_method_25_code 23 = .ok (.iconst 1, 1) := by decide +kernel
theorem d19_24 : decode jdk_38_method_25_code 24 = .ok (.ireturn, 1) := by decide +kernel
theorem ef_19tg (m : MethodId) (a1 : Addr) (a2 : Addr) : entryFrame m #[(.ref a1), (.ref a2)] 2 = mkF m 0 #[.val (.ref a1), .val (.ref a2)] [] := by first | (simp [entryFrame, mkF, argsToLocals, Value.category]; done) | rfl
set_option maxRecDepth 65536 in
set_option maxHeartbeats 40000000 in
theorem rm19tg (l : Launch) (Z : State) (a0 : Array Value) (hw : ∀ d ∈ tables_1, d.before a0 Z = true) (ws : List Jvm.Cond) (a1 : Addr) (a2 : Addr) (w_DEFAULTCAPACITY_EMPTY_ELEMENTDATA : Addr) (w_modCount_a1 : Int32) (kd : ClassId) (h0 : Heap) (n0 : Nat) (Z0 : n0 ≤ h0.size) (S_DEFAULTCAPACITY_EMPTY_ELEMENTDATA : Sta Z h0 "java/util/ArrayList" "DEFAULTCAPACITY_EMPTY_ELEMENTDATA" "[Ljava/lang/Object;" (.ref w_DEFAULTCAPACITY_EMPTY_ELEMENTDATA)) (E_a1 : Exa Z h0 a1 "java/util/ArrayList") (F_modCount_a1 : Fld Z h0 a1 "java/util/AbstractList" "modCount" "I" (.int w_modCount_a1)) (F_size_a1 : Fld Z h0 a1 "java/util/ArrayList" "size" "I" (.int (0 : Int32))) (F_elementData_a1 : Fld Z h0 a1 "java/util/ArrayList" "elementData" "[Ljava/lang/Object;" (.ref w_DEFAULTCAPACITY_EMPTY_ELEMENTDATA)) (g_a1 : n0 ≤ a1) (V_d : Arv Z h0 w_DEFAULTCAPACITY_EMPTY_ELEMENTDATA kd (.object "java/lang/Object") (0 : Int32) [] .null) (E_a2 : Exa Z h0 a2 "java/lang/String") :
    MetFree l (⟨"java/util/ArrayList", "add", "(Ljava/lang/Object;)Z"⟩ : MethodName) (head1 (Jvm.Cond.code (⟨"java/util/ArrayList", "add", "(Ljava/lang/Object;)Z"⟩ : MethodName) jdk_38_method_25_code 2 (some .boolean) :: ws) ({ frames := 4, cells := 1, slots := 10, locals := 56 } : Room)) (fun a U => a = #[(.ref a1), (.ref a2)] ∧ Z.Warmed39 U.vm ∧ U.heap = h0) (fun _ _ _ _ _ => True) (fun _ U o U' => ∃ v L, o = .returned v ∧ QK n0 (fun v h => ∃ (x0 : Addr) (k0 : ClassId), v = some (.int (nar .boolean (1 : Int32))) ∧ Keep h0 h [a1] ∧ h0.size ≤ x0 ∧ Exa Z h a1 "java/util/ArrayList" ∧ Fld Z h a1 "java/util/AbstractList" "modCount" "I" (.int (w_modCount_a1 + (1 : Int32))) ∧ Fld Z h a1 "java/util/ArrayList" "size" "I" (.int (1 : Int32)) ∧ Fld Z h a1 "java/util/ArrayList" "elementData" "[Ljava/lang/Object;" (.ref x0) ∧ Arv Z h x0 k0 (.object "java/lang/Object") (10 : Int32) [(.ref a2), .null, .null, .null, .null, .null, .null, .null, .null, .null] .null ∧ Ovr Z k0 "java/lang/Object") v U'.heap L ∧ FrameEnd U o U' L ({ frames := 4, cells := 1, slots := 10, locals := 56 } : Room).cells ({ frames := 4, cells := 1, slots := 10, locals := 56 } : Room).slots) := by
  refine MetFree.of_bodySF (plainFor_of_name pn_4) hisR ?_
  intro p e s m args below meth c s₁ Bd hml0 hP hK
  obtain ⟨rfl, hZ, hh⟩ := hP
  have hx := Bd.exec
  have hby := Bd.bytes
  have hml : c.maxLocals = 2 := hml0
  have hown : s.vm.findClass "java/util/ArrayList" = some m.cls := findClass_of_methodNamed Bd.named
  have hnm := (name_of_methodNamed Bd.named Bd.method).1
  have X0 : Stand p l e ({ frames := 4, cells := 1, slots := 10, locals := 56 } : Room) s m #[(.ref a1), (.ref a2)] below meth c s₁ [] 0 0 := Stand.of_body Bd
  have e0 : s₁.heap = h0 := by rw [← hh, Bd.state]; rfl
  have N0 := Fr.nil n0
  refine gl_start (ef_19tg m a1 a2) ?_
  show Gl p e below s n0 ({ frames := 4, cells := 1, slots := 10, locals := 56 } : Room).cells ({ frames := 4, cells := 1, slots := 10, locals := 56 } : Room).slots (fun v h => ∃ (x0 : Addr) (k0 : ClassId), v = some (.int (nar .boolean (1 : Int32))) ∧ Keep h0 h [a1] ∧ h0.size ≤ x0 ∧ Exa Z h a1 "java/util/ArrayList" ∧ Fld Z h a1 "java/util/AbstractList" "modCount" "I" (.int (w_modCount_a1 + (1 : Int32))) ∧ Fld Z h a1 "java/util/ArrayList" "size" "I" (.int (1 : Int32)) ∧ Fld Z h a1 "java/util/ArrayList" "elementData" "[Ljava/lang/Object;" (.ref x0) ∧ Arv Z h x0 k0 (.object "java/lang/Object") (10 : Int32) [(.ref a2), .null, .null, .null, .null, .null, .null, .null, .null, .null] .null ∧ Ovr Z k0 "java/lang/Object") (s₁.setTop (mkF m 0 #[.val (.ref a1), .val (.ref a2)] []))
  have ne_a1_w_DEFAULTCAPACITY_EMPTY_ELEMENTDATA : a1 ≠ w_DEFAULTCAPACITY_EMPTY_ELEMENTDATA := Exa.neArv E_a1 V_d (hw _ (List.mem_of_getElem? (i := 27) rfl))
  refine go (fun t k => XS.aloadN X0.here hx rfl (hb hby d19_0) rfl rfl k) ?_
  have fs1 := S_DEFAULTCAPACITY_EMPTY_ELEMENTDATA
  show Gl _ _ _ _ _ _ _ _ (s₁.setTop (mkF m 1 #[.val (.ref a1), .val (.ref a2)] [(.ref a1)]))
  refine go (fun t k => XS.dup X0.here hx rfl (hb hby d19_1) rfl rfl k) ?_
  show Gl _ _ _ _ _ _ _ _ (s₁.setTop (mkF m 2 #[.val (.ref a1), .val (.ref a2)] [(.ref a1), (.ref a1)]))
  obtain ⟨T2, X2, e2, st2⟩ := getF X0 hx hZ hown (host := "") (Or.inl (hw _ (List.mem_of_getElem? (i := 128) rfl))) (Via.of (hw _ (List.mem_of_getElem? (i := 129) rfl))) e0 F_modCount_a1 (g := (mkF m 2 #[.val (.ref a1), .val (.ref a2)] [(.ref a1), (.ref a1)])) rfl rfl (hb hby d19_2)
  refine go (fun t k => st2 _ k) ?_
  show Gl _ _ _ _ _ _ _ _ (T2.setTop (mkF m 5 #[.val (.ref a1), .val (.ref a2)] [(.int w_modCount_a1), (.ref a1)]))
  refine go (fun t k => XS.iconst X2.here hx rfl (hb hby d19_5) k) ?_
  show Gl _ _ _ _ _ _ _ _ (T2.setTop (mkF m 6 #[.val (.ref a1), .val (.ref a2)] [(.int (1 : Int32)), (.int w_modCount_a1), (.ref a1)]))
  refine go (fun t k => XS.iadd X2.here hx rfl (hb hby d19_6) rfl k) ?_
  show Gl _ _ _ _ _ _ _ _ (T2.setTop (mkF m 7 #[.val (.ref a1), .val (.ref a2)] [(.int (w_modCount_a1 + (1 : Int32))), (.ref a1)]))
  obtain ⟨T3, h3, X3, e3, W3, st3⟩ := putF X2 hx hZ hown (host := "") (Or.inl (hw _ (List.mem_of_getElem? (i := 128) rfl))) (Via.of (hw _ (List.mem_of_getElem? (i := 129) rfl))) e2 F_modCount_a1 E_a1 (Or.inl (hw _ (List.mem_of_getElem? (i := 46) rfl))) (hw _ (List.mem_of_getElem? (i := 27) rfl)) (ty := .int) (by decide) rfl rfl (g := (mkF m 7 #[.val (.ref a1), .val (.ref a2)] [(.int (w_modCount_a1 + (1 : Int32))), (.ref a1)])) rfl rfl (hb hby d19_7)
  have Fw3 := F_modCount_a1.same W3
  have K3 : Keep h0 h3 [a1] := (Keep.refl h0 [a1]).wr W3 (Or.inl (List.mem_of_getElem? (i := 0) rfl))
  have N3 := Fr.snoc X3 N0 g_a1
  refine go (fun t k => st3 _ k) ?_
  have fs4 := (F_size_a1.other W3 (Or.inr (slot_ne (Or.inl (hw _ (List.mem_of_getElem? (i := 56) rfl))) (Or.inl (hw _ (List.mem_of_getElem? (i := 46) rfl))) (by decide) (t := .int) (t' := .int) (by decide) (by decide))))
  have fs5 := (F_elementData_a1.other W3 (Or.inr (slot_ne (Or.inl (hw _ (List.mem_of_getElem? (i := 49) rfl))) (Or.inl (hw _ (List.mem_of_getElem? (i := 46) rfl))) (by decide) (t := (.array (.object "java/lang/Object"))) (t' := .int) (by decide) (by decide))))
  have fs6 := (V_d.other W3 (Ne.symm ne_a1_w_DEFAULTCAPACITY_EMPTY_ELEMENTDATA))
  have zs7 := (Nat.le_trans Z0 (Keep.of_wr W3).1)
  show Gl _ _ _ _ _ _ _ _ (T3.setTop (mkF m 10 #[.val (.ref a1), .val (.ref a2)] []))
  refine go (fun t k => XS.aloadN X3.here hx rfl (hb hby d19_10) rfl rfl k) ?_
  show Gl _ _ _ _ _ _ _ _ (T3.setTop (mkF m 11 #[.val (.ref a1), .val (.ref a2)] [(.ref a1)]))
  refine go (fun t k => XS.aloadN X3.here hx rfl (hb hby d19_11) rfl rfl k) ?_
  show Gl _ _ _ _ _ _ _ _ (T3.setTop (mkF m 12 #[.val (.ref a1), .val (.ref a2)] [(.ref a2), (.ref a1)]))
  refine go (fun t k => XS.aloadN X3.here hx rfl (hb hby d19_12) rfl rfl k) ?_
  show Gl _ _ _ _ _ _ _ _ (T3.setTop (mkF m 13 #[.val (.ref a1), .val (.ref a2)] [(.ref a1), (.ref a2), (.ref a1)]))
  obtain ⟨T8, X8, e8, st8⟩ := getF X3 hx hZ hown (host := "") (Or.inl (hw _ (List.mem_of_getElem? (i := 48) rfl))) Via.refl e3 fs5 (g := (mkF m 13 #[.val (.ref a1), .val (.ref a2)] [(.ref a1), (.ref a2), (.ref a1)])) rfl rfl (hb hby d19_13)
  refine go (fun t k => st8 _ k) ?_
  show Gl _ _ _ _ _ _ _ _ (T8.setTop (mkF m 16 #[.val (.ref a1), .val (.ref a2)] [(.ref w_DEFAULTCAPACITY_EMPTY_ELEMENTDATA), (.ref a2), (.ref a1)]))
  refine go (fun t k => XS.aloadN X8.here hx rfl (hb hby d19_16) rfl rfl k) ?_
  show Gl _ _ _ _ _ _ _ _ (T8.setTop (mkF m 17 #[.val (.ref a1), .val (.ref a2)] [(.ref a1), (.ref w_DEFAULTCAPACITY_EMPTY_ELEMENTDATA), (.ref a2), (.ref a1)]))
  obtain ⟨T9, X9, e9, st9⟩ := getF X8 hx hZ hown (host := "") (Or.inl (hw _ (List.mem_of_getElem? (i := 55) rfl))) Via.refl e8 fs4 (g := (mkF m 17 #[.val (.ref a1), .val (.ref a2)] [(.ref a1), (.ref w_DEFAULTCAPACITY_EMPTY_ELEMENTDATA), (.ref a2), (.ref a1)])) rfl rfl (hb hby d19_17)
  refine go (fun t k => st9 _ k) ?_
  show Gl _ _ _ _ _ _ _ _ (T9.setTop (mkF m 20 #[.val (.ref a1), .val (.ref a2)] [(.int (0 : Int32)), (.ref w_DEFAULTCAPACITY_EMPTY_ELEMENTDATA), (.ref a2), (.ref a1)]))
  obtain ⟨cq10, pq10, pq10'⟩ := (E_a1.wr W3).cell
  obtain ⟨_, _, ⟨T10, L10, k10, n10⟩, -, X10, ⟨Lc10, hQ10, l10, y10, z10⟩, st10⟩ := X9.privateBack hx (y := (⟨"java/util/ArrayList", "add", "(Ljava/lang/Object;[Ljava/lang/Object;I)V"⟩ : MethodName)) hown (mvT hZ (hw _ (List.mem_of_getElem? (i := 130) rfl))) (mvT hZ (hw _ (List.mem_of_getElem? (i := 131) rfl))) (mvT hZ (hw _ (List.mem_of_getElem? (i := 133) rfl))) (Cond.privateMethod_at (mvP hZ (hw _ (List.mem_of_getElem? (i := 132) rfl)) (args := #[]))) (mvT hZ (hw _ (List.mem_of_getElem? (i := 134) rfl))) (by decide) (backOf (W := 0) (rm20tg l Z a0 hw [] a1 a2 w_DEFAULTCAPACITY_EMPTY_ELEMENTDATA (w_modCount_a1 + (1 : Int32)) kd h3 n0 zs7 (Sta.wr W3 fs1) (E_a1.wr W3) Fw3 fs4 fs5 g_a1 fs6 (E_a2.wr W3)) hZ (hw _ (List.mem_of_getElem? (i := 134) rfl)) (hw _ (List.mem_of_getElem? (i := 28) rfl)) (by decide) (by decide)) (g := (mkF m 20 #[.val (.ref a1), .val (.ref a2)] [(.int (0 : Int32)), (.ref w_DEFAULTCAPACITY_EMPTY_ELEMENTDATA), (.ref a2), (.ref a1)])) rfl (by rw [hml]; rfl) (Steps.refl _) (a := a1) (by rw [e9]; exact pq10) pq10' (argsL := [(.ref a2), (.ref w_DEFAULTCAPACITY_EMPTY_ELEMENTDATA), (.int (0 : Int32))]) (rest := []) (lenOf pd_7 rfl) rfl (by show 2 * 0 + _ ≤ _; exact Nat.le_of_eq rfl) (hb hby d19_20) (fun _ _ => ⟨rfl, e9, (by decide : 0 + 1 ≤ _), (by decide : 0 + 10 ≤ _)⟩)
  dsimp only [Pt.U, Pt.locs, Pt.cells, Pt.slots] at X10 l10 y10 z10 st10 hQ10
  replace X10 : Stand p l e ({ frames := 4, cells := 1, slots := 10, locals := 56 } : Room) s m #[(.ref a1), (.ref a2)] below meth c T10 _ 1 10 := own_mv X10 l10 y10 z10
  clear l10 y10 z10
  obtain ⟨⟨y10_x0, c10_k0, rfl, K10q, so10_0, Fo10_0, Fo10_1, Fo10_2, Fo10_3, Fo10_4, Fo10_5⟩, N10q⟩ := hQ10
  obtain ⟨h10, e10⟩ : ∃ z, T10.heap = z := ⟨_, rfl⟩
  rw [e10] at K10q Fo10_0 Fo10_1 Fo10_2 Fo10_3 Fo10_4
  have K10 : Keep h0 h10 [a1] := K3.trans K10q (allS (Or.inl (List.mem_of_getElem? (i := 0) rfl)) all0)
  have g_y10_x0 : n0 ≤ y10_x0 := Nat.le_trans zs7 so10_0
  have sz_y10_x0 : h0.size ≤ y10_x0 := Nat.le_trans K3.1 so10_0
  have ne_a1_y10_x0 : a1 ≠ y10_x0 := Nat.ne_of_lt (Nat.lt_of_lt_of_le (E_a1.wr W3).lt so10_0)
  have ne_w_DEFAULTCAPACITY_EMPTY_ELEMENTDATA_y10_x0 : w_DEFAULTCAPACITY_EMPTY_ELEMENTDATA ≠ y10_x0 := Nat.ne_of_lt (Nat.lt_of_lt_of_le fs6.lt so10_0)
  have ne_a2_y10_x0 : a2 ≠ y10_x0 := Nat.ne_of_lt (Nat.lt_of_lt_of_le (E_a2.wr W3).lt so10_0)
  have N10 := Fr.app N3 N10q
  refine go (fun t k => st10.trans k) ?_
  have fs11 := (sta_keepN (Sta.wr W3 fs1) K10q (nsS (Exa.nostat (E_a1.wr W3)) ns0))
  have fs12 := (fs6.keep K10q (ninS (Ne.symm ne_a1_w_DEFAULTCAPACITY_EMPTY_ELEMENTDATA) nin0))
  have zs13 := (Nat.le_trans zs7 K10q.1)
  show Gl _ _ _ _ _ _ _ _ (T10.setTop (mkF m 23 #[.val (.ref a1), .val (.ref a2)] []))
  refine go (fun t k => XS.iconst X10.here hx rfl (hb hby d19_23) k) ?_
  show Gl _ _ _ _ _ _ _ _ (T10.setTop (mkF m 24 #[.val (.ref a1), .val (.ref a2)] [(.int (1 : Int32))]))
  exact endN X10 hx Bd (t := .boolean) (by simp) (hb hby d19_24) ⟨y10_x0, c10_k0, rfl, (by rw [e10]; exact ⟨K10, sz_y10_x0, Fo10_0, Fo10_1, Fo10_2, Fo10_3, Fo10_4, Fo10_5⟩)⟩ N10 (by decide) (by decide)
theorem ef_19tn (m : MethodId) (a1 : Addr) (a2 : Addr) : entryFrame m #[(.ref a1), (.ref a2)] 2 = mkF m 0 #[.val (.ref a1), .val (.ref a2)] [] := by first | (simp [entryFrame, mkF, argsToLocals, Value.category]; done) | rfl
set_option maxRecDepth 65536 in
set_option maxHeartbeats 40000000 in
theorem rm19tn (l : Launch) (Z : State) (a0 : Array Value) (hw : ∀ d ∈ tables_1, d.before a0 Z = true) (ws : List Jvm.Cond) (a1 : Addr) (a2 : Addr) (w_modCount_a1 : Int32) (w_elementData_a1 : Addr) (ka : ClassId) (u0 : Addr) (h0 : Heap) (n0 : Nat) (Z0 : n0 ≤ h0.size) (E_a1 : Exa Z h0 a1 "java/util/ArrayList") (F_modCount_a1 : Fld Z h0 a1 "java/util/AbstractList" "modCount" "I" (.int w_modCount_a1)) (F_size_a1 : Fld Z h0 a1 "java/util/ArrayList" "size" "I" (.int (1 : Int32))) (F_elementData_a1 : Fld Z h0 a1 "java/util/ArrayList" "elementData" "[Ljava/lang/Object;" (.ref w_elementData_a1)) (g_a1 : n0 ≤ a1) (g_w_elementData_a1 : n0 ≤ w_elementData_a1) (E_a2 : Exa Z h0 a2 "java/lang/String") (V_e : Arv Z h0 w_elementData_a1 ka (.object "java/lang/Object") (10 : Int32) [(.ref u0), .null, .null, .null, .null, .null, .null, .null, .null, .null] .null) (O_ka : Ovr Z ka "java/lang/Object") :
    MetFree l (⟨"java/util/ArrayList", "add", "(Ljava/lang/Object;)Z"⟩ : MethodName) (head1 (Jvm.Cond.code (⟨"java/util/ArrayList", "add", "(Ljava/lang/Object;)Z"⟩ : MethodName) jdk_38_method_25_code 2 (some .boolean) :: ws) ({ frames := 1, cells := 0, slots := 0, locals := 15 } : Room)) (fun a U => a = #[(.ref a1), (.ref a2)] ∧ Z.Warmed39 U.vm ∧ U.heap = h0) (fun _ _ _ _ _ => True) (fun _ U o U' => ∃ v L, o = .returned v ∧ QK n0 (fun v h => v = some (.int (nar .boolean (1 : Int32))) ∧ Keep h0 h [a1, w_elementData_a1] ∧ Exa Z h a1 "java/util/ArrayList" ∧ Fld Z h a1 "java/util/AbstractList" "modCount" "I" (.int (w_modCount_a1 + (1 : Int32))) ∧ Fld Z h a1 "java/util/ArrayList" "size" "I" (.int (2 : Int32)) ∧ Fld Z h a1 "java/util/ArrayList" "elementData" "[Ljava/lang/Object;" (.ref w_elementData_a1) ∧ Arv Z h w_elementData_a1 ka (.object "java/lang/Object") (10 : Int32) [(.ref u0), (.ref a2), .null, .null, .null, .null, .null, .null, .null, .null] .null) v U'.heap L ∧ FrameEnd U o U' L ({ frames := 1, cells := 0, slots := 0, locals := 15 } : Room).cells ({ frames := 1, cells := 0, slots := 0, locals := 15 } : Room).slots) := by
  refine MetFree.of_bodySF (plainFor_of_name pn_4) hisR ?_
  intro p e s m args below meth c s₁ Bd hml0 hP hK
  obtain ⟨rfl, hZ, hh⟩ := hP
  have hx := Bd.exec
  have hby := Bd.bytes
  have hml : c.maxLocals = 2 := hml0
  have hown : s.vm.findClass "java/util/ArrayList" = some m.cls := findClass_of_methodNamed Bd.named
  have hnm := (name_of_methodNamed Bd.named Bd.method).1
  have X0 : Stand p l e ({ frames := 1, cells := 0, slots := 0, locals := 15 } : Room) s m #[(.ref a1), (.ref a2)] below meth c s₁ [] 0 0 := Stand.of_body Bd
  have e0 : s₁.heap = h0 := by rw [← hh, Bd.state]; rfl
  have N0 := Fr.nil n0
  refine gl_start (ef_19tn m a1 a2) ?_
  show Gl p e below s n0 ({ frames := 1, cells := 0, slots := 0, locals := 15 } : Room).cells ({ frames := 1, cells := 0, slots := 0, locals := 15 } : Room).slots (fun v h => v = some (.int (nar .boolean (1 : Int32))) ∧ Keep h0 h [a1, w_elementData_a1] ∧ Exa Z h a1 "java/util/ArrayList" ∧ Fld Z h a1 "java/util/AbstractList" "modCount" "I" (.int (w_modCount_a1 + (1 : Int32))) ∧ Fld Z h a1 "java/util/ArrayList" "size" "I" (.int (2 : Int32)) ∧ Fld Z h a1 "java/util/ArrayList" "elementData" "[Ljava/lang/Object;" (.ref w_elementData_a1) ∧ Arv Z h w_elementData_a1 ka (.object "java/lang/Object") (10 : Int32) [(.ref u0), (.ref a2), .null, .null, .null, .null, .null, .null, .null, .null] .null) (s₁.setTop (mkF m 0 #[.val (.ref a1), .val (.ref a2)] []))
  have ne_a1_w_elementData_a1 : a1 ≠ w_elementData_a1 := Exa.neArv E_a1 V_e (hw _ (List.mem_of_getElem? (i := 27) rfl))
  refine go (fun t k => XS.aloadN X0.here hx rfl (hb hby d19_0) rfl rfl k) ?_
  show Gl _ _ _ _ _ _ _ _ (s₁.setTop (mkF m 1 #[.val (.ref a1), .val (.ref a2)] [(.ref a1)]))
  refine go (fun t k => XS.dup X0.here hx rfl (hb hby d19_1) rfl rfl k) ?_
  show Gl _ _ _ _ _ _ _ _ (s₁.setTop (mkF m 2 #[.val (.ref a1), .val (.ref a2)] [(.ref a1), (.ref a1)]))
  obtain ⟨T1, X1, e1, st1⟩ := getF X0 hx hZ hown (host := "") (Or.inl (hw _ (List.mem_of_getElem? (i := 128) rfl))) (Via.of (hw _ (List.mem_of_getElem? (i := 129) rfl))) e0 F_modCount_a1 (g := (mkF m 2 #[.val (.ref a1), .val (.ref a2)] [(.ref a1), (.ref a1)])) rfl rfl (hb hby d19_2)
  refine go (fun t k => st1 _ k) ?_
  show Gl _ _ _ _ _ _ _ _ (T1.setTop (mkF m 5 #[.val (.ref a1), .val (.ref a2)] [(.int w_modCount_a1), (.ref a1)]))
  refine go (fun t k => XS.iconst X1.here hx rfl (hb hby d19_5) k) ?_
  show Gl _ _ _ _ _ _ _ _ (T1.setTop (mkF m 6 #[.val (.ref a1), .val (.ref a2)] [(.int (1 : Int32)), (.int w_modCount_a1), (.ref a1)]))
  refine go (fun t k => XS.iadd X1.here hx rfl (hb hby d19_6) rfl k) ?_
  show Gl _ _ _ _ _ _ _ _ (T1.setTop (mkF m 7 #[.val (.ref a1), .val (.ref a2)] [(.int (w_modCount_a1 + (1 : Int32))), (.ref a1)]))
  obtain ⟨T2, h2, X2, e2, W2, st2⟩ := putF X1 hx hZ hown (host := "") (Or.inl (hw _ (List.mem_of_getElem? (i := 128) rfl))) (Via.of (hw _ (List.mem_of_getElem? (i := 129) rfl))) e1 F_modCount_a1 E_a1 (Or.inl (hw _ (List.mem_of_getElem? (i := 46) rfl))) (hw _ (List.mem_of_getElem? (i := 27) rfl)) (ty := .int) (by decide) rfl rfl (g := (mkF m 7 #[.val (.ref a1), .val (.ref a2)] [(.int (w_modCount_a1 + (1 : Int32))), (.ref a1)])) rfl rfl (hb hby d19_7)
  have Fw2 := F_modCount_a1.same W2
  have K2 : Keep h0 h2 [a1, w_elementData_a1] := (Keep.refl h0 [a1, w_elementData_a1]).wr W2 (Or.inl (List.mem_of_getElem? (i := 0) rfl))
  have N2 := Fr.snoc X2 N0 g_a1
  refine go (fun t k => st2 _ k) ?_
  have fs3 := (F_size_a1.other W2 (Or.inr (slot_ne (Or.inl (hw _ (List.mem_of_getElem? (i := 56) rfl))) (Or.inl (hw _ (List.mem_of_getElem? (i := 46) rfl))) (by decide) (t := .int) (t' := .int) (by decide) (by decide))))
  have fs4 := (F_elementData_a1.other W2 (Or.inr (slot_ne (Or.inl (hw _ (List.mem_of_getElem? (i := 49) rfl))) (Or.inl (hw _ (List.mem_of_getElem? (i := 46) rfl))) (by decide) (t := (.array (.object "java/lang/Object"))) (t' := .int) (by decide) (by decide))))
  have fs5 := (V_e.other W2 (Ne.symm ne_a1_w_elementData_a1))
  have zs6 := (Nat.le_trans Z0 (Keep.of_wr W2).1)
  show Gl _ _ _ _ _ _ _ _ (T2.setTop (mkF m 10 #[.val (.ref a1), .val (.ref a2)] []))
  refine go (fun t k => XS.aloadN X2.here hx rfl (hb hby d19_10) rfl rfl k) ?_
  show Gl _ _ _ _ _ _ _ _ (T2.setTop (mkF m 11 #[.val (.ref a1), .val (.ref a2)] [(.ref a1)]))
  refine go (fun t k => XS.aloadN X2.here hx rfl (hb hby d19_11) rfl rfl k) ?_
  show Gl _ _ _ _ _ _ _ _ (T2.setTop (mkF m 12 #[.val (.ref a1), .val (.ref a2)] [(.ref a2), (.ref a1)]))
  refine go (fun t k => XS.aloadN X2.here hx rfl (hb hby d19_12) rfl rfl k) ?_
  show Gl _ _ _ _ _ _ _ _ (T2.setTop (mkF m 13 #[.val (.ref a1), .val (.ref a2)] [(.ref a1), (.ref a2), (.ref a1)]))
  obtain ⟨T7, X7, e7, st7⟩ := getF X2 hx hZ hown (host := "") (Or.inl (hw _ (List.mem_of_getElem? (i := 48) rfl))) Via.refl e2 fs4 (g := (mkF m 13 #[.val (.ref a1), .val (.ref a2)] [(.ref a1), (.ref a2), (.ref a1)])) rfl rfl (hb hby d19_13)
  refine go (fun t k => st7 _ k) ?_
  show Gl _ _ _ _ _ _ _ _ (T7.setTop (mkF m 16 #[.val (.ref a1), .val (.ref a2)] [(.ref w_elementData_a1), (.ref a2), (.ref a1)]))
  refine go (fun t k => XS.aloadN X7.here hx rfl (hb hby d19_16) rfl rfl k) ?_
  show Gl _ _ _ _ _ _ _ _ (T7.setTop (mkF m 17 #[.val (.ref a1), .val (.ref a2)] [(.ref a1), (.ref w_elementData_a1), (.ref a2), (.ref a1)]))
  obtain ⟨T8, X8, e8, st8⟩ := getF X7 hx hZ hown (host := "") (Or.inl (hw _ (List.mem_of_getElem? (i := 55) rfl))) Via.refl e7 fs3 (g := (mkF m 17 #[.val (.ref a1), .val (.ref a2)] [(.ref a1), (.ref w_elementData_a1), (.ref a2), (.ref a1)])) rfl rfl (hb hby d19_17)
  refine go (fun t k => st8 _ k) ?_
  show Gl _ _ _ _ _ _ _ _ (T8.setTop (mkF m 20 #[.val (.ref a1), .val (.ref a2)] [(.int (1 : Int32)), (.ref w_elementData_a1), (.ref a2), (.ref a1)]))
  obtain ⟨cq9, pq9, pq9'⟩ := (E_a1.wr W2).cell
  obtain ⟨_, _, ⟨T9, L9, k9, n9⟩, -, X9, ⟨Lc9, hQ9, l9, y9, z9⟩, st9⟩ := X8.privateBack hx (y := (⟨"java/util/ArrayList", "add", "(Ljava/lang/Object;[Ljava/lang/Object;I)V"⟩ : MethodName)) hown (mvT hZ (hw _ (List.mem_of_getElem? (i := 130) rfl))) (mvT hZ (hw _ (List.mem_of_getElem? (i := 131) rfl))) (mvT hZ (hw _ (List.mem_of_getElem? (i := 133) rfl))) (Cond.privateMethod_at (mvP hZ (hw _ (List.mem_of_getElem? (i := 132) rfl)) (args := #[]))) (mvT hZ (hw _ (List.mem_of_getElem? (i := 134) rfl))) (by decide) (backOf (W := 0) (rm20tn l Z a0 hw [] a1 a2 w_elementData_a1 (w_modCount_a1 + (1 : Int32)) ka u0 h2 n0 zs6 (E_a1.wr W2) Fw2 fs3 fs4 g_a1 g_w_elementData_a1 (E_a2.wr W2) fs5 O_ka) hZ (hw _ (List.mem_of_getElem? (i := 134) rfl)) (hw _ (List.mem_of_getElem? (i := 28) rfl)) (by decide) (by decide)) (g := (mkF m 20 #[.val (.ref a1), .val (.ref a2)] [(.int (1 : Int32)), (.ref w_elementData_a1), (.ref a2), (.ref a1)])) rfl (by rw [hml]; rfl) (Steps.refl _) (a := a1) (by rw [e8]; exact pq9) pq9' (argsL := [(.ref a2), (.ref w_elementData_a1), (.int (1 : Int32))]) (rest := []) (lenOf pd_7 rfl) rfl (by show 2 * 0 + _ ≤ _; exact Nat.le_of_eq rfl) (hb hby d19_20) (fun _ _ => ⟨rfl, e8, (by decide : 0 + 0 ≤ _), (by decide : 0 + 0 ≤ _)⟩)
  dsimp only [Pt.U, Pt.locs, Pt.cells, Pt.slots] at X9 l9 y9 z9 st9 hQ9
  replace X9 : Stand p l e ({ frames := 1, cells := 0, slots := 0, locals := 15 } : Room) s m #[(.ref a1), (.ref a2)] below meth c T9 _ 0 0 := own_mv X9 l9 y9 z9
  clear l9 y9 z9
  obtain ⟨⟨rfl, K9q, Fo9_0, Fo9_1, Fo9_2, Fo9_3, Fo9_4⟩, N9q⟩ := hQ9
  obtain ⟨h9, e9⟩ : ∃ z, T9.heap = z := ⟨_, rfl⟩
  rw [e9] at K9q Fo9_0 Fo9_1 Fo9_2 Fo9_3 Fo9_4
  have K9 : Keep h0 h9 [a1, w_elementData_a1] := K2.trans K9q (allS (Or.inl (List.mem_of_getElem? (i := 0) rfl)) (allS (Or.inl (List.mem_of_getElem? (i := 1) rfl)) all0))
  have N9 := Fr.app N2 N9q
  refine go (fun t k => st9.trans k) ?_
  show Gl _ _ _ _ _ _ _ _ (T9.setTop (mkF m 23 #[.val (.ref a1), .val (.ref a2)] []))
  refine go (fun t k => XS.iconst X9.here hx rfl (hb hby d19_23) k) ?_
  show Gl _ _ _ _ _ _ _ _ (T9.setTop (mkF m 24 #[.val (.ref a1), .val (.ref a2)] [(.int (1 : Int32))]))
  exact endN X9 hx Bd (t := .boolean) (by simp) (hb hby d19_24) ⟨rfl, (by rw [e9]; exact ⟨K9, Fo9_0, Fo9_1, Fo9_2, Fo9_3, Fo9_4⟩)⟩ N9 (by decide) (by decide)
theorem d26_0 : decode jdk_41_method_11_code 0 = .ok (.iload_n 0, 1) := by decide +kernel
theorem d26_1 : decode jdk_41_method_11_code 1 = .ok (.ifCond .lt 8, 3) := by decide +kernel
theorem d26_4 : decode jdk_41_method_11_code 4 = .ok (.iload_n 0, 1) := by decide +kernel
theorem d26_5 : decode jdk_41_method_11_code 5 = .ok (.iload_n 1, 1) := by decide +kernel
theorem d26_6 : decode jdk_41_method_11_code 6 = .ok (.if_icmp .lt 10, 3) := by decide +kernel
theorem d26_16 : decode jdk_41_method_11_code 16 = .ok (.iload_n 0, 1) := by decide +kernel
theorem d26_17 : decode jdk_41_method_11_code 17 = .ok (.ireturn, 1) := by decide +kernel
theorem pn_5 : plainName "jdk/internal/util/Preconditions" = true := by first | (simp [plainName, overriddenIn]; done) | decide +kernel
theorem ef_26 (m : MethodId) (p1 : Int32) (p2 : Int32) : entryFrame m #[(.int p1), (.int p2), .null] 3 = mkF m 0 #[.val (.int p1), .val (.int p2), .val .null] [] := by first | (simp [entryFrame, mkF, argsToLocals, Value.category]; done) | rfl
def b26_0 (p1 : Int32) : Int32 := p1
set_option maxRecDepth 65536 in
set_option maxHeartbeats 40000000 in
theorem rm26 (l : Launch) (Z : State) (a0 : Array Value) (hw : ∀ d ∈ tables_1, d.before a0 Z = true) (ws : List Jvm.Cond) (p1 : Int32) (p2 : Int32) (h0 : Heap) (n0 : Nat) (Z0 : n0 ≤ h0.size) (hc1 : ¬ (p1 < (0 : Int32))) (hc6 : p1 < p2) :
    MetFree l (⟨"jdk/internal/util/Preconditions", "checkIndex", "(IILjava/util/function/BiFunction;)I"⟩ : MethodName) (head1 (Jvm.Cond.code (⟨"jdk/internal/util/Preconditions", "checkIndex", "(IILjava/util/function/BiFunction;)I"⟩ : MethodName) jdk_41_method_11_code 3 (some .int) :: ws) ({ frames := 0, cells := 0, slots := 0, locals := 0 } : Room)) (fun a U => a = #[(.int p1), (.int p2), .null] ∧ Z.Warmed39 U.vm ∧ U.heap = h0) (fun _ _ _ _ _ => True) (fun _ U o U' => ∃ v L, o = .returned v ∧ QK n0 (Kv (some (.int (b26_0 p1))) (fun h => h = h0)) v U'.heap L ∧ FrameEnd U o U' L ({ frames := 0, cells := 0, slots := 0, locals := 0 } : Room).cells ({ frames := 0, cells := 0, slots := 0, locals := 0 } : Room).slots) := by
  refine MetFree.of_bodySF (plainFor_of_name pn_5) hisR ?_
  intro p e s m args below meth c s₁ Bd hml0 hP hK
  obtain ⟨rfl, hZ, hh⟩ := hP
  have hx := Bd.exec
  have hby := Bd.bytes
  have hml : c.maxLocals = 3 := hml0
  have hown : s.vm.findClass "jdk/internal/util/Preconditions" = some m.cls := findClass_of_methodNamed Bd.named
  have hnm := (name_of_methodNamed Bd.named Bd.method).1
  have X0 : Stand p l e ({ frames := 0, cells := 0, slots := 0, locals := 0 } : Room) s m #[(.int p1), (.int p2), .null] below meth c s₁ [] 0 0 := Stand.of_body Bd
  have e0 : s₁.heap = h0 := by rw [← hh, Bd.state]; rfl
  have N0 := Fr.nil n0
  refine gl_start (ef_26 m p1 p2) ?_
  show Gl p e below s n0 ({ frames := 0, cells := 0, slots := 0, locals := 0 } : Room).cells ({ frames := 0, cells := 0, slots := 0, locals := 0 } : Room).slots (Kv (some (.int p1)) (fun h => h = h0)) (s₁.setTop (mkF m 0 #[.val (.int p1), .val (.int p2), .val .null] []))
  refine go (fun t k => XS.iloadN X0.here hx rfl (hb hby d26_0) rfl  k) ?_
  show Gl _ _ _ _ _ _ _ _ (s₁.setTop (mkF m 1 #[.val (.int p1), .val (.int p2), .val .null] [(.int p1)]))
  refine go (fun t k => XS.ifNo X0.here hx rfl (hb hby d26_1) rfl ((if0 _ _).trans (flt hc1).1) k) ?_
  show Gl _ _ _ _ _ _ _ _ (s₁.setTop (mkF m 4 #[.val (.int p1), .val (.int p2), .val .null] []))
  refine go (fun t k => XS.iloadN X0.here hx rfl (hb hby d26_4) rfl  k) ?_
  show Gl _ _ _ _ _ _ _ _ (s₁.setTop (mkF m 5 #[.val (.int p1), .val (.int p2), .val .null] [(.int p1)]))
  refine go (fun t k => XS.iloadN X0.here hx rfl (hb hby d26_5) rfl  k) ?_
  show Gl _ _ _ _ _ _ _ _ (s₁.setTop (mkF m 6 #[.val (.int p1), .val (.int p2), .val .null] [(.int p2), (.int p1)]))
  refine go (fun t k => XS.icmpYes X0.here hx rfl (pc0 := 6) (pc' := 16) rfl (hb hby d26_6) rfl (tlt hc6).1 (by decide) (by decide) k) ?_
  show Gl _ _ _ _ _ _ _ _ (s₁.setTop (mkF m 16 #[.val (.int p1), .val (.int p2), .val .null] []))
  refine go (fun t k => XS.iloadN X0.here hx rfl (hb hby d26_16) rfl  k) ?_
  show Gl _ _ _ _ _ _ _ _ (s₁.setTop (mkF m 17 #[.val (.int p1), .val (.int p2), .val .null] [(.int p1)]))
  exact endI X0 hx Bd (hb hby d26_17) ⟨rfl, e0⟩ N0 (by decide) (by decide)
theorem pd_8 : parseMethodDescriptor "(IILjava/util/function/BiFunction;)I" = some ⟨[.int, .int, (.object "java/util/function/BiFunction")], some .int⟩ := by decide +kernel
theorem d25_0 : decode jdk_31_method_17_code 0 = .ok (.iload_n 0, 1) := by decide +kernel
theorem d25_1 : decode jdk_31_method_17_code 1 = .ok (.iload_n 1, 1) := by decide +kernel
theorem d25_2 : decode jdk_31_method_17_code 2 = .ok (.aconst_null, 1) := by decide +kernel
theorem d25_3 : decode jdk_31_method_17_code 3 = .ok (.invokestatic 105, 3) := by decide +kernel
theorem d25_6 : decode jdk_31_method_17_code 6 = .ok (.ireturn, 1) := by decide +kernel
theorem pn_6 : plainName "java/util/Objects" = true := by first | (simp [plainName, overriddenIn]; done) | decide +kernel
theorem ef_25 (m : MethodId) (p1 : Int32) (p2 : Int32) : entryFrame m #[(.int p1), (.int p2)] 2 = mkF m 0 #[.val (.int p1), .val (.int p2)] [] := by first | (simp [entryFrame, mkF, argsToLocals, Value.category]; done) | rfl
def b25_0 (p1 : Int32) : Int32 := (b26_0 p1)
set_option maxRecDepth 65536 in
set_option maxHeartbeats 40000000 in
theorem rm25 (l : Launch) (Z : State) (a0 : Array Value) (hw : ∀ d ∈ tables_1, d.before a0 Z = true) (ws : List Jvm.Cond) (p1 : Int32) (p2 : Int32) (h0 : Heap) (n0 : Nat) (Z0 : n0 ≤ h0.size) (hA : ¬ (p1 < (0 : Int32))) (hB : p1 < p2) :
    MetFree l (⟨"java/util/Objects", "checkIndex", "(II)I"⟩ : MethodName) (head1 (Jvm.Cond.code (⟨"java/util/Objects", "checkIndex", "(II)I"⟩ : MethodName) jdk_31_method_17_code 2 (some .int) :: ws) ({ frames := 1, cells := 0, slots := 0, locals := 14 } : Room)) (fun a U => a = #[(.int p1), (.int p2)] ∧ Z.Warmed39 U.vm ∧ U.heap = h0) (fun _ _ _ _ _ => True) (fun _ U o U' => ∃ v L, o = .returned v ∧ QK n0 (Kv (some (.int (b25_0 p1))) (fun h => h = h0)) v U'.heap L ∧ FrameEnd U o U' L ({ frames := 1, cells := 0, slots := 0, locals := 14 } : Room).cells ({ frames := 1, cells := 0, slots := 0, locals := 14 } : Room).slots) := by
  refine MetFree.of_bodySF (plainFor_of_name pn_6) hisR ?_
  intro p e s m args below meth c s₁ Bd hml0 hP hK
  obtain ⟨rfl, hZ, hh⟩ := hP
  have hx := Bd.exec
  have hby := Bd.bytes
  have hml : c.maxLocals = 2 := hml0
  have hown : s.vm.findClass "java/util/Objects" = some m.cls := findClass_of_methodNamed Bd.named
  have hnm := (name_of_methodNamed Bd.named Bd.method).1
  have X0 : Stand p l e ({ frames := 1, cells := 0, slots := 0, locals := 14 } : Room) s m #[(.int p1), (.int p2)] below meth c s₁ [] 0 0 := Stand.of_body Bd
  have e0 : s₁.heap = h0 := by rw [← hh, Bd.state]; rfl
  have N0 := Fr.nil n0
  refine gl_start (ef_25 m p1 p2) ?_
  show Gl p e below s n0 ({ frames := 1, cells := 0, slots := 0, locals := 14 } : Room).cells ({ frames := 1, cells := 0, slots := 0, locals := 14 } : Room).slots (Kv (some (.int (b26_0 p1))) (fun h => h = h0)) (s₁.setTop (mkF m 0 #[.val (.int p1), .val (.int p2)] []))
  refine go (fun t k => XS.iloadN X0.here hx rfl (hb hby d25_0) rfl  k) ?_
  show Gl _ _ _ _ _ _ _ _ (s₁.setTop (mkF m 1 #[.val (.int p1), .val (.int p2)] [(.int p1)]))
  refine go (fun t k => XS.iloadN X0.here hx rfl (hb hby d25_1) rfl  k) ?_
  show Gl _ _ _ _ _ _ _ _ (s₁.setTop (mkF m 2 #[.val (.int p1), .val (.int p2)] [(.int p2), (.int p1)]))
  refine go (fun t k => XS.aconstNull X0.here hx rfl (hb hby d25_2) k) ?_
  show Gl _ _ _ _ _ _ _ _ (s₁.setTop (mkF m 3 #[.val (.int p1), .val (.int p2)] [.null, (.int p2), (.int p1)]))
  obtain ⟨_, _, ⟨T1, L1, k1, n1⟩, -, X1, ⟨Lc1, hQ1, l1, y1, z1⟩, st1⟩ := Jvm.LawKit.callS X0 hx (y := (⟨"jdk/internal/util/Preconditions", "checkIndex", "(IILjava/util/function/BiFunction;)I"⟩ : MethodName)) hown (mvT hZ (hw _ (List.mem_of_getElem? (i := 164) rfl))) (mvT hZ (hw _ (List.mem_of_getElem? (i := 165) rfl))) (mvT hZ (hw _ (List.mem_of_getElem? (i := 166) rfl))) (mvT hZ (hw _ (List.mem_of_getElem? (i := 167) rfl))) (by decide) (backOf (W := 0) (rm26 l Z a0 hw [] p1 p2 h0 n0 Z0 hA hB) hZ (hw _ (List.mem_of_getElem? (i := 167) rfl)) (hw _ (List.mem_of_getElem? (i := 166) rfl)) (by decide) (by decide)) (g := (mkF m 3 #[.val (.int p1), .val (.int p2)] [.null, (.int p2), (.int p1)])) rfl (by rw [hml]; rfl) (argsL := [(.int p1), (.int p2), .null]) (rest := []) (lenOf pd_8 rfl) rfl (by show 2 * 0 + _ ≤ _; exact Nat.le_of_eq rfl) (hb hby d25_3) (fun _ _ => ⟨rfl, e0, (by decide : 0 + 0 ≤ _), (by decide : 0 + 0 ≤ _)⟩)
  dsimp only [Pt.U, Pt.locs, Pt.cells, Pt.slots] at X1 l1 y1 z1 st1 hQ1
  replace X1 : Stand p l e ({ frames := 1, cells := 0, slots := 0, locals := 14 } : Room) s m #[(.int p1), (.int p2)] below meth c T1 _ 0 0 := own_mv X1 l1 y1 z1
  clear l1 y1 z1
  obtain ⟨⟨rfl, e1'⟩, N1q⟩ := hQ1
  have e1 : T1.heap = h0 := e1'
  have N1 := Fr.app N0 N1q
  refine go (fun t k => st1 _ k) ?_
  show Gl _ _ _ _ _ _ _ _ (T1.setTop (mkF m 6 #[.val (.int p1), .val (.int p2)] [(.int (b26_0 p1))]))
  exact endI X1 hx Bd (hb hby d25_6) ⟨rfl, e1⟩ N1 (by decide) (by decide)
theorem d27_0 : decode jdk_38_method_18_code 0 = .ok (.aload_n 0, 1) := by decide +kernel
theorem d27_1 : decode jdk_38_method_18_code 1 = .ok (.getfield 9, 3) := by decide +kernel
theorem d27_4 : decode jdk_38_method_18_code 4 = .ok (.iload_n 1, 1) := by decide +kernel
theorem d27_5 : decode jdk_38_method_18_code 5 = .ok (.aaload, 1) := by decide +kernel
theorem d27_6 : decode jdk_38_method_18_code 6 = .ok (.areturn, 1) := by decide +kernel
theorem ef_27t0_1 (m : MethodId) (a1 : Addr) : entryFrame m #[(.ref a1), (.int (0 : Int32))] 2 = mkF m 0 #[.val (.ref a1), .val (.int (0 : Int32))] [] := by first | (simp [entryFrame, mkF, argsToLocals, Value.category]; done) | rfl
def b27t0_1_0 (u0 : Addr) : Addr := u0
set_option maxRecDepth 65536 in
set_option maxHeartbeats 40000000 in
theorem rm27t0_1 (l : Launch) (Z : State) (a0 : Array Value) (hw : ∀ d ∈ tables_1, d.before a0 Z = true) (ws : List Jvm.Cond) (a1 : Addr) (w_elementData_a1 : Addr) (ka : ClassId) (u0 : Addr) (h0 : Heap) (n0 : Nat) (Z0 : n0 ≤ h0.size) (F_elementData_a1 : Fld Z h0 a1 "java/util/ArrayList" "elementData" "[Ljava/lang/Object;" (.ref w_elementData_a1)) (V_e : Arv Z h0 w_elementData_a1 ka (.object "java/lang/Object") (10 : Int32) [(.ref u0), .null, .null, .null, .null, .null, .null, .null, .null, .null] .null) :
    MetFree l (⟨"java/util/ArrayList", "elementData", "(I)Ljava/lang/Object;"⟩ : MethodName) (head1 (Jvm.Cond.code (⟨"java/util/ArrayList", "elementData", "(I)Ljava/lang/Object;"⟩ : MethodName) jdk_38_method_18_code 2 (some (.object "java/lang/Object")) :: ws) ({ frames := 0, cells := 0, slots := 0, locals := 0 } : Room)) (fun a U => a = #[(.ref a1), (.int (0 : Int32))] ∧ Z.Warmed39 U.vm ∧ U.heap = h0) (fun _ _ _ _ _ => True) (fun _ U o U' => ∃ v L, o = .returned v ∧ QK n0 (Kv (some (.ref (b27t0_1_0 u0))) (fun h => h = h0)) v U'.heap L ∧ FrameEnd U o U' L ({ frames := 0, cells := 0, slots := 0, locals := 0 } : Room).cells ({ frames := 0, cells := 0, slots := 0, locals := 0 } : Room).slots) := by
  refine MetFree.of_bodySF (plainFor_of_name pn_4) hisR ?_
  intro p e s m args below meth c s₁ Bd hml0 hP hK
  obtain ⟨rfl, hZ, hh⟩ := hP
  have hx := Bd.exec
  have hby := Bd.bytes
  have hml : c.maxLocals = 2 := hml0
  have hown : s.vm.findClass "java/util/ArrayList" = some m.cls := findClass_of_methodNamed Bd.named
  have hnm := (name_of_methodNamed Bd.named Bd.method).1
  have X0 : Stand p l e ({ frames := 0, cells := 0, slots := 0, locals := 0 } : Room) s m #[(.ref a1), (.int (0 : Int32))] below meth c s₁ [] 0 0 := Stand.of_body Bd
  have e0 : s₁.heap = h0 := by rw [← hh, Bd.state]; rfl
  have N0 := Fr.nil n0
  refine gl_start (ef_27t0_1 m a1) ?_
  show Gl p e below s n0 ({ frames := 0, cells := 0, slots := 0, locals := 0 } : Room).cells ({ frames := 0, cells := 0, slots := 0, locals := 0 } : Room).slots (Kv (some (.ref u0)) (fun h => h = h0)) (s₁.setTop (mkF m 0 #[.val (.ref a1), .val (.int (0 : Int32))] []))
  refine go (fun t k => XS.aloadN X0.here hx rfl (hb hby d27_0) rfl rfl k) ?_
  show Gl _ _ _ _ _ _ _ _ (s₁.setTop (mkF m 1 #[.val (.ref a1), .val (.int (0 : Int32))] [(.ref a1)]))
  obtain ⟨T1, X1, e1, st1⟩ := getF X0 hx hZ hown (host := "") (Or.inl (hw _ (List.mem_of_getElem? (i := 48) rfl))) Via.refl e0 F_elementData_a1 (g := (mkF m 1 #[.val (.ref a1), .val (.int (0 : Int32))] [(.ref a1)])) rfl rfl (hb hby d27_1)
  refine go (fun t k => st1 _ k) ?_
  show Gl _ _ _ _ _ _ _ _ (T1.setTop (mkF m 4 #[.val (.ref a1), .val (.int (0 : Int32))] [(.ref w_elementData_a1)]))
  refine go (fun t k => XS.iloadN X1.here hx rfl (hb hby d27_4) rfl  k) ?_
  show Gl _ _ _ _ _ _ _ _ (T1.setTop (mkF m 5 #[.val (.ref a1), .val (.int (0 : Int32))] [(.int (0 : Int32)), (.ref w_elementData_a1)]))
  obtain ⟨cl2, Ar2, vq2, S2, M2, Hh2, G2⟩ := id V_e
  have hin2 : ¬ ((0 : Int32) < 0 ∨ cl2.slots.size ≤ ((0 : Int32)).toNatClampNeg) := inb_of S2 ⟨by decide, by decide⟩
  have hat2 : cl2.slots[((0 : Int32)).toNatClampNeg]? = some (.ref u0) := Hh2 0 (by rw [S2]; decide)
  refine go (fun t k => X1.aaload hx (j := (0 : Int32)) (v := (.ref u0)) (by rw [e1]; exact Ar2.1) (State.isArrayOf_alike hZ.alike Ar2.2.1) rfl Ar2.2.2 hin2 hat2 (g := (mkF m 5 #[.val (.ref a1), .val (.int (0 : Int32))] [(.int (0 : Int32)), (.ref w_elementData_a1)])) rfl rfl (hb hby d27_5) _ k) ?_
  show Gl _ _ _ _ _ _ _ _ (T1.setTop (mkF m 6 #[.val (.ref a1), .val (.int (0 : Int32))] [(.ref u0)]))
  exact endR X1 hx Bd rfl (hb hby d27_6) ⟨rfl, e1⟩ N0 (by decide) (by decide)
theorem pd_9 : parseMethodDescriptor "(I)Ljava/lang/Object;" = some ⟨[.int], some (.object "java/lang/Object")⟩ := by decide +kernel
theorem d24_0 : decode jdk_38_method_20_code 0 = .ok (.iload_n 1, 1) := by decide +kernel
theorem d24_1 : decode jdk_38_method_20_code 1 = .ok (.aload_n 0, 1) := by decide +kernel
theorem d24_2 : decode jdk_38_method_20_code 2 = .ok (.getfield 48, 3) := by decide +kernel
theorem d24_5 : decode jdk_38_method_20_code 5 = .ok (.invokestatic 118, 3) := by decide +kernel
theorem d24_8 : decode jdk_38_method_20_code 8 = .ok (.pop, 1) := by decide +kernel
theorem d24_9 : decode jdk_38_method_20_code 9 = .ok (.aload_n 0, 1) := by decide +kernel
theorem d24_10 : decode jdk_38_method_20_code 10 = .ok (.iload_n 1, 1) := by decide +kernel
theorem d24_11 : decode jdk_38_method_20_code 11 = .ok (.invokevirtual 123, 3) := by decide +kernel
theorem d24_14 : decode jdk_38_method_20_code 14 = .ok (.areturn, 1) := by decide +kernel
theorem ef_24t0_1 (m : MethodId) (a1 : Addr) : entryFrame m #[(.ref a1), (.int (0 : Int32))] 2 = mkF m 0 #[.val (.ref a1), .val (.int (0 : Int32))] [] := by first | (simp [entryFrame, mkF, argsToLocals, Value.category]; done) | rfl
def b24t0_1_0 (u0 : Addr) : Addr := (b27t0_1_0 u0)
set_option maxRecDepth 65536 in
set_option maxHeartbeats 40000000 in
theorem rm24t0_1 (l : Launch) (Z : State) (a0 : Array Value) (hw : ∀ d ∈ tables_1, d.before a0 Z = true) (ws : List Jvm.Cond) (a1 : Addr) (w_elementData_a1 : Addr) (ka : ClassId) (u0 : Addr) (h0 : Heap) (n0 : Nat) (Z0 : n0 ≤ h0.size) (E_a1 : Exa Z h0 a1 "java/util/ArrayList") (F_size_a1 : Fld Z h0 a1 "java/util/ArrayList" "size" "I" (.int (1 : Int32))) (F_elementData_a1 : Fld Z h0 a1 "java/util/ArrayList" "elementData" "[Ljava/lang/Object;" (.ref w_elementData_a1)) (V_e : Arv Z h0 w_elementData_a1 ka (.object "java/lang/Object") (10 : Int32) [(.ref u0), .null, .null, .null, .null, .null, .null, .null, .null, .null] .null) :
    MetFree l (⟨"java/util/ArrayList", "get", "(I)Ljava/lang/Object;"⟩ : MethodName) (head1 (Jvm.Cond.code (⟨"java/util/ArrayList", "get", "(I)Ljava/lang/Object;"⟩ : MethodName) jdk_38_method_20_code 2 (some (.object "java/lang/Object")) :: ws) ({ frames := 2, cells := 0, slots := 0, locals := 27 } : Room)) (fun a U => a = #[(.ref a1), (.int (0 : Int32))] ∧ Z.Warmed39 U.vm ∧ U.heap = h0) (fun _ _ _ _ _ => True) (fun _ U o U' => ∃ v L, o = .returned v ∧ QK n0 (Kv (some (.ref (b24t0_1_0 u0))) (fun h => h = h0)) v U'.heap L ∧ FrameEnd U o U' L ({ frames := 2, cells := 0, slots := 0, locals := 27 } : Room).cells ({ frames := 2, cells := 0, slots := 0, locals := 27 } : Room).slots) := by
  refine MetFree.of_bodySF (plainFor_of_name pn_4) hisR ?_
  intro p e s m args below meth c s₁ Bd hml0 hP hK
  obtain ⟨rfl, hZ, hh⟩ := hP
  have hx := Bd.exec
  have hby := Bd.bytes
  have hml : c.maxLocals = 2 := hml0
  have hown : s.vm.findClass "java/util/ArrayList" = some m.cls := findClass_of_methodNamed Bd.named
  have hnm := (name_of_methodNamed Bd.named Bd.method).1
  have X0 : Stand p l e ({ frames := 2, cells := 0, slots := 0, locals := 27 } : Room) s m #[(.ref a1), (.int (0 : Int32))] below meth c s₁ [] 0 0 := Stand.of_body Bd
  have e0 : s₁.heap = h0 := by rw [← hh, Bd.state]; rfl
  have N0 := Fr.nil n0
  refine gl_start (ef_24t0_1 m a1) ?_
  show Gl p e below s n0 ({ frames := 2, cells := 0, slots := 0, locals := 27 } : Room).cells ({ frames := 2, cells := 0, slots := 0, locals := 27 } : Room).slots (Kv (some (.ref (b27t0_1_0 u0))) (fun h => h = h0)) (s₁.setTop (mkF m 0 #[.val (.ref a1), .val (.int (0 : Int32))] []))
  refine go (fun t k => XS.iloadN X0.here hx rfl (hb hby d24_0) rfl  k) ?_
  show Gl _ _ _ _ _ _ _ _ (s₁.setTop (mkF m 1 #[.val (.ref a1), .val (.int (0 : Int32))] [(.int (0 : Int32))]))
  refine go (fun t k => XS.aloadN X0.here hx rfl (hb hby d24_1) rfl rfl k) ?_
  show Gl _ _ _ _ _ _ _ _ (s₁.setTop (mkF m 2 #[.val (.ref a1), .val (.int (0 : Int32))] [(.ref a1), (.int (0 : Int32))]))
  obtain ⟨T1, X1, e1, st1⟩ := getF X0 hx hZ hown (host := "") (Or.inl (hw _ (List.mem_of_getElem? (i := 55) rfl))) Via.refl e0 F_size_a1 (g := (mkF m 2 #[.val (.ref a1), .val (.int (0 : Int32))] [(.ref a1), (.int (0 : Int32))])) rfl rfl (hb hby d24_2)
  refine go (fun t k => st1 _ k) ?_
  show Gl _ _ _ _ _ _ _ _ (T1.setTop (mkF m 5 #[.val (.ref a1), .val (.int (0 : Int32))] [(.int (1 : Int32)), (.int (0 : Int32))]))
  obtain ⟨_, _, ⟨T2, L2, k2, n2⟩, -, X2, ⟨Lc2, hQ2, l2, y2, z2⟩, st2⟩ := Jvm.LawKit.callS X1 hx (y := (⟨"java/util/Objects", "checkIndex", "(II)I"⟩ : MethodName)) hown (mvT hZ (hw _ (List.mem_of_getElem? (i := 160) rfl))) (mvT hZ (hw _ (List.mem_of_getElem? (i := 161) rfl))) (mvT hZ (hw _ (List.mem_of_getElem? (i := 162) rfl))) (mvT hZ (hw _ (List.mem_of_getElem? (i := 163) rfl))) (by decide) (backOf (W := 0) (rm25 l Z a0 hw [] (0 : Int32) (1 : Int32) h0 n0 Z0 (by decide) (by decide)) hZ (hw _ (List.mem_of_getElem? (i := 163) rfl)) (hw _ (List.mem_of_getElem? (i := 162) rfl)) (by decide) (by decide)) (g := (mkF m 5 #[.val (.ref a1), .val (.int (0 : Int32))] [(.int (1 : Int32)), (.int (0 : Int32))])) rfl (by rw [hml]; rfl) (argsL := [(.int (0 : Int32)), (.int (1 : Int32))]) (rest := []) (lenOf pd_4 rfl) rfl (by show 2 * 0 + _ ≤ _; exact Nat.le_of_eq rfl) (hb hby d24_5) (fun _ _ => ⟨rfl, e1, (by decide : 0 + 0 ≤ _), (by decide : 0 + 0 ≤ _)⟩)
  dsimp only [Pt.U, Pt.locs, Pt.cells, Pt.slots] at X2 l2 y2 z2 st2 hQ2
  replace X2 : Stand p l e ({ frames := 2, cells := 0, slots := 0, locals := 27 } : Room) s m #[(.ref a1), (.int (0 : Int32))] below meth c T2 _ 0 0 := own_mv X2 l2 y2 z2
  clear l2 y2 z2
  obtain ⟨⟨rfl, e2'⟩, N2q⟩ := hQ2
  have e2 : T2.heap = h0 := e2'
  have N2 := Fr.app N0 N2q
  refine go (fun t k => st2 _ k) ?_
  show Gl _ _ _ _ _ _ _ _ (T2.setTop (mkF m 8 #[.val (.ref a1), .val (.int (0 : Int32))] [(.int (b25_0 (0 : Int32)))]))
  refine go (fun t k => XS.pop X2.here hx rfl (hb hby d24_8) rfl rfl k) ?_
  show Gl _ _ _ _ _ _ _ _ (T2.setTop (mkF m 9 #[.val (.ref a1), .val (.int (0 : Int32))] []))
  refine go (fun t k => XS.aloadN X2.here hx rfl (hb hby d24_9) rfl rfl k) ?_
  show Gl _ _ _ _ _ _ _ _ (T2.setTop (mkF m 10 #[.val (.ref a1), .val (.int (0 : Int32))] [(.ref a1)]))
  refine go (fun t k => XS.iloadN X2.here hx rfl (hb hby d24_10) rfl  k) ?_
  show Gl _ _ _ _ _ _ _ _ (T2.setTop (mkF m 11 #[.val (.ref a1), .val (.int (0 : Int32))] [(.int (0 : Int32)), (.ref a1)]))
  obtain ⟨cq3, kq3, q3a, q3b, q3c⟩ := isOf hZ e2 E_a1
  obtain ⟨_, _, ⟨T3, L3, k3, n3⟩, -, X3, ⟨Lc3, hQ3, l3, y3, z3⟩, st3⟩ := X2.virtualBack hx (y := (⟨"java/util/ArrayList", "elementData", "(I)Ljava/lang/Object;"⟩ : MethodName)) (z := (⟨"java/util/ArrayList", "elementData", "(I)Ljava/lang/Object;"⟩ : MethodName)) hown (mvT hZ (hw _ (List.mem_of_getElem? (i := 168) rfl))) (mvT hZ (hw _ (List.mem_of_getElem? (i := 169) rfl))) (notFace_of_selects (args := #[]) (mvT hZ (hw _ (List.mem_of_getElem? (i := 171) rfl)))) (mvT hZ (hw _ (List.mem_of_getElem? (i := 171) rfl))) (mvT hZ (hw _ (List.mem_of_getElem? (i := 170) rfl))) (by decide) (backOf (W := 0) (rm27t0_1 l Z a0 hw [] a1 w_elementData_a1 ka u0 h0 n0 Z0 F_elementData_a1 V_e) hZ (hw _ (List.mem_of_getElem? (i := 172) rfl)) (hw _ (List.mem_of_getElem? (i := 28) rfl)) (by decide) (by decide)) q3a q3c (g := (mkF m 11 #[.val (.ref a1), .val (.int (0 : Int32))] [(.int (0 : Int32)), (.ref a1)])) rfl (by rw [hml]; rfl) (Steps.refl _) (argsL := [(.int (0 : Int32))]) (rest := []) (lenOf pd_9 rfl) rfl (by show 2 * 0 + _ ≤ _; exact Nat.le_of_eq rfl) (hb hby d24_11) (fun _ _ => ⟨rfl, e2, (by decide : 0 + 0 ≤ _), (by decide : 0 + 0 ≤ _)⟩)
  dsimp only [Pt.U, Pt.locs, Pt.cells, Pt.slots] at X3 l3 y3 z3 st3 hQ3
  replace X3 : Stand p l e ({ frames := 2, cells := 0, slots := 0, locals := 27 } : Room) s m #[(.ref a1), (.int (0 : Int32))] below meth c T3 _ 0 0 := own_mv X3 l3 y3 z3
  clear l3 y3 z3
  obtain ⟨⟨rfl, e3'⟩, N3q⟩ := hQ3
  have e3 : T3.heap = h0 := e3'
  have N3 := Fr.app N2 N3q
  refine go (fun t k => st3.trans k) ?_
  show Gl _ _ _ _ _ _ _ _ (T3.setTop (mkF m 14 #[.val (.ref a1), .val (.int (0 : Int32))] [(.ref (b27t0_1_0 u0))]))
  exact endR X3 hx Bd rfl (hb hby d24_14) ⟨rfl, e3⟩ N3 (by decide) (by decide)
theorem ef_27t0_2 (m : MethodId) (a1 : Addr) : entryFrame m #[(.ref a1), (.int (0 : Int32))] 2 = mkF m 0 #[.val (.ref a1), .val (.int (0 : Int32))] [] := by first | (simp [entryFrame, mkF, argsToLocals, Value.category]; done) | rfl
def b27t0_2_0 (u0 : Addr) : Addr := u0
set_option maxRecDepth 65536 in
set_option maxHeartbeats 40000000 in
theorem rm27t0_2 (l : Launch) (Z : State) (a0 : Array Value) (hw : ∀ d ∈ tables_1, d.before a0 Z = true) (ws : List Jvm.Cond) (a1 : Addr) (w_elementData_a1 : Addr) (ka : ClassId) (u0 : Addr) (u1 : Addr) (h0 : Heap) (n0 : Nat) (Z0 : n0 ≤ h0.size) (F_elementData_a1 : Fld Z h0 a1 "java/util/ArrayList" "elementData" "[Ljava/lang/Object;" (.ref w_elementData_a1)) (V_e : Arv Z h0 w_elementData_a1 ka (.object "java/lang/Object") (10 : Int32) [(.ref u0), (.ref u1), .null, .null, .null, .null, .null, .null, .null, .null] .null) :
    MetFree l (⟨"java/util/ArrayList", "elementData", "(I)Ljava/lang/Object;"⟩ : MethodName) (head1 (Jvm.Cond.code (⟨"java/util/ArrayList", "elementData", "(I)Ljava/lang/Object;"⟩ : MethodName) jdk_38_method_18_code 2 (some (.object "java/lang/Object")) :: ws) ({ frames := 0, cells := 0, slots := 0, locals := 0 } : Room)) (fun a U => a = #[(.ref a1), (.int (0 : Int32))] ∧ Z.Warmed39 U.vm ∧ U.heap = h0) (fun _ _ _ _ _ => True) (fun _ U o U' => ∃ v L, o = .returned v ∧ QK n0 (Kv (some (.ref (b27t0_2_0 u0))) (fun h => h = h0)) v U'.heap L ∧ FrameEnd U o U' L ({ frames := 0, cells := 0, slots := 0, locals := 0 } : Room).cells ({ frames := 0, cells := 0, slots := 0, locals := 0 } : Room).slots) := by
  refine MetFree.of_bodySF (plainFor_of_name pn_4) hisR ?_
  intro p e s m args below meth c s₁ Bd hml0 hP hK
  obtain ⟨rfl, hZ, hh⟩ := hP
  have hx := Bd.exec
  have hby := Bd.bytes
  have hml : c.maxLocals = 2 := hml0
  have hown : s.vm.findClass "java/util/ArrayList" = some m.cls := findClass_of_methodNamed Bd.named
  have hnm := (name_of_methodNamed Bd.named Bd.method).1
  have X0 : Stand p l e ({ frames := 0, cells := 0, slots := 0, locals := 0 } : Room) s m #[(.ref a1), (.int (0 : Int32))] below meth c s₁ [] 0 0 := Stand.of_body Bd
  have e0 : s₁.heap = h0 := by rw [← hh, Bd.state]; rfl
  have N0 := Fr.nil n0
  refine gl_start (ef_27t0_2 m a1) ?_
  show Gl p e below s n0 ({ frames := 0, cells := 0, slots := 0, locals := 0 } : Room).cells ({ frames := 0, cells := 0, slots := 0, locals := 0 } : Room).slots (Kv (some (.ref u0)) (fun h => h = h0)) (s₁.setTop (mkF m 0 #[.val (.ref a1), .val (.int (0 : Int32))] []))
  refine go (fun t k => XS.aloadN X0.here hx rfl (hb hby d27_0) rfl rfl k) ?_
  show Gl _ _ _ _ _ _ _ _ (s₁.setTop (mkF m 1 #[.val (.ref a1), .val (.int (0 : Int32))] [(.ref a1)]))
  obtain ⟨T1, X1, e1, st1⟩ := getF X0 hx hZ hown (host := "") (Or.inl (hw _ (List.mem_of_getElem? (i := 48) rfl))) Via.refl e0 F_elementData_a1 (g := (mkF m 1 #[.val (.ref a1), .val (.int (0 : Int32))] [(.ref a1)])) rfl rfl (hb hby d27_1)
  refine go (fun t k => st1 _ k) ?_
  show Gl _ _ _ _ _ _ _ _ (T1.setTop (mkF m 4 #[.val (.ref a1), .val (.int (0 : Int32))] [(.ref w_elementData_a1)]))
  refine go (fun t k => XS.iloadN X1.here hx rfl (hb hby d27_4) rfl  k) ?_
  show Gl _ _ _ _ _ _ _ _ (T1.setTop (mkF m 5 #[.val (.ref a1), .val (.int (0 : Int32))] [(.int (0 : Int32)), (.ref w_elementData_a1)]))
  obtain ⟨cl2, Ar2, vq2, S2, M2, Hh2, G2⟩ := id V_e
  have hin2 : ¬ ((0 : Int32) < 0 ∨ cl2.slots.size ≤ ((0 : Int32)).toNatClampNeg) := inb_of S2 ⟨by decide, by decide⟩
  have hat2 : cl2.slots[((0 : Int32)).toNatClampNeg]? = some (.ref u0) := Hh2 0 (by rw [S2]; decide)
  refine go (fun t k => X1.aaload hx (j := (0 : Int32)) (v := (.ref u0)) (by rw [e1]; exact Ar2.1) (State.isArrayOf_alike hZ.alike Ar2.2.1) rfl Ar2.2.2 hin2 hat2 (g := (mkF m 5 #[.val (.ref a1), .val (.int (0 : Int32))] [(.int (0 : Int32)), (.ref w_elementData_a1)])) rfl rfl (hb hby d27_5) _ k) ?_
  show Gl _ _ _ _ _ _ _ _ (T1.setTop (mkF m 6 #[.val (.ref a1), .val (.int (0 : Int32))] [(.ref u0)]))
  exact endR X1 hx Bd rfl (hb hby d27_6) ⟨rfl, e1⟩ N0 (by decide) (by decide)
theorem ef_24t0_2 (m : MethodId) (a1 : Addr) : entryFrame m #[(.ref a1), (.int (0 : Int32))] 2 = mkF m 0 #[.val (.ref a1), .val (.int (0 : Int32))] [] := by first | (simp [entryFrame, mkF, argsToLocals, Value.category]; done) | rfl
def b24t0_2_0 (u0 : Addr) : Addr := (b27t0_2_0 u0)
set_option maxRecDepth 65536 in
set_option maxHeartbeats 40000000 in
theorem rm24t0_2 (l : Launch) (Z : State) (a0 : Array Value) (hw : ∀ d ∈ tables_1, d.before a0 Z = true) (ws : List Jvm.Cond) (a1 : Addr) (w_elementData_a1 : Addr) (ka : ClassId) (u0 : Addr) (u1 : Addr) (h0 : Heap) (n0 : Nat) (Z0 : n0 ≤ h0.size) (E_a1 : Exa Z h0 a1 "java/util/ArrayList") (F_size_a1 : Fld Z h0 a1 "java/util/ArrayList" "size" "I" (.int (2 : Int32))) (F_elementData_a1 : Fld Z h0 a1 "java/util/ArrayList" "elementData" "[Ljava/lang/Object;" (.ref w_elementData_a1)) (V_e : Arv Z h0 w_elementData_a1 ka (.object "java/lang/Object") (10 : Int32) [(.ref u0), (.ref u1), .null, .null, .null, .null, .null, .null, .null, .null] .null) :
    MetFree l (⟨"java/util/ArrayList", "get", "(I)Ljava/lang/Object;"⟩ : MethodName) (head1 (Jvm.Cond.code (⟨"java/util/ArrayList", "get", "(I)Ljava/lang/Object;"⟩ : MethodName) jdk_38_method_20_code 2 (some (.object "java/lang/Object")) :: ws) ({ frames := 2, cells := 0, slots := 0, locals := 27 } : Room)) (fun a U => a = #[(.ref a1), (.int (0 : Int32))] ∧ Z.Warmed39 U.vm ∧ U.heap = h0) (fun _ _ _ _ _ => True) (fun _ U o U' => ∃ v L, o = .returned v ∧ QK n0 (Kv (some (.ref (b24t0_2_0 u0))) (fun h => h = h0)) v U'.heap L ∧ FrameEnd U o U' L ({ frames := 2, cells := 0, slots := 0, locals := 27 } : Room).cells ({ frames := 2, cells := 0, slots := 0, locals := 27 } : Room).slots) := by
  refine MetFree.of_bodySF (plainFor_of_name pn_4) hisR ?_
  intro p e s m args below meth c s₁ Bd hml0 hP hK
  obtain ⟨rfl, hZ, hh⟩ := hP
  have hx := Bd.exec
  have hby := Bd.bytes
  have hml : c.maxLocals = 2 := hml0
  have hown : s.vm.findClass "java/util/ArrayList" = some m.cls := findClass_of_methodNamed Bd.named
  have hnm := (name_of_methodNamed Bd.named Bd.method).1
  have X0 : Stand p l e ({ frames := 2, cells := 0, slots := 0, locals := 27 } : Room) s m #[(.ref a1), (.int (0 : Int32))] below meth c s₁ [] 0 0 := Stand.of_body Bd
  have e0 : s₁.heap = h0 := by rw [← hh, Bd.state]; rfl
  have N0 := Fr.nil n0
  refine gl_start (ef_24t0_2 m a1) ?_
  show Gl p e below s n0 ({ frames := 2, cells := 0, slots := 0, locals := 27 } : Room).cells ({ frames := 2, cells := 0, slots := 0, locals := 27 } : Room).slots (Kv (some (.ref (b27t0_2_0 u0))) (fun h => h = h0)) (s₁.setTop (mkF m 0 #[.val (.ref a1), .val (.int (0 : Int32))] []))
  refine go (fun t k => XS.iloadN X0.here hx rfl (hb hby d24_0) rfl  k) ?_
  show Gl _ _ _ _ _ _ _ _ (s₁.setTop (mkF m 1 #[.val (.ref a1), .val (.int (0 : Int32))] [(.int (0 : Int32))]))
  refine go (fun t k => XS.aloadN X0.here hx rfl (hb hby d24_1) rfl rfl k) ?_
  show Gl _ _ _ _ _ _ _ _ (s₁.setTop (mkF m 2 #[.val (.ref a1), .val (.int (0 : Int32))] [(.ref a1), (.int (0 : Int32))]))
  obtain ⟨T1, X1, e1, st1⟩ := getF X0 hx hZ hown (host := "") (Or.inl (hw _ (List.mem_of_getElem? (i := 55) rfl))) Via.refl e0 F_size_a1 (g := (mkF m 2 #[.val (.ref a1), .val (.int (0 : Int32))] [(.ref a1), (.int (0 : Int32))])) rfl rfl (hb hby d24_2)
  refine go (fun t k => st1 _ k) ?_
  show Gl _ _ _ _ _ _ _ _ (T1.setTop (mkF m 5 #[.val (.ref a1), .val (.int (0 : Int32))] [(.int (2 : Int32)), (.int (0 : Int32))]))
  obtain ⟨_, _, ⟨T2, L2, k2, n2⟩, -, X2, ⟨Lc2, hQ2, l2, y2, z2⟩, st2⟩ := Jvm.LawKit.callS X1 hx (y := (⟨"java/util/Objects", "checkIndex", "(II)I"⟩ : MethodName)) hown (mvT hZ (hw _ (List.mem_of_getElem? (i := 160) rfl))) (mvT hZ (hw _ (List.mem_of_getElem? (i := 161) rfl))) (mvT hZ (hw _ (List.mem_of_getElem? (i := 162) rfl))) (mvT hZ (hw _ (List.mem_of_getElem? (i := 163) rfl))) (by decide) (backOf (W := 0) (rm25 l Z a0 hw [] (0 : Int32) (2 : Int32) h0 n0 Z0 (by decide) (by decide)) hZ (hw _ (List.mem_of_getElem? (i := 163) rfl)) (hw _ (List.mem_of_getElem? (i := 162) rfl)) (by decide) (by decide)) (g := (mkF m 5 #[.val (.ref a1), .val (.int (0 : Int32))] [(.int (2 : Int32)), (.int (0 : Int32))])) rfl (by rw [hml]; rfl) (argsL := [(.int (0 : Int32)), (.int (2 : Int32))]) (rest := []) (lenOf pd_4 rfl) rfl (by show 2 * 0 + _ ≤ _; exact Nat.le_of_eq rfl) (hb hby d24_5) (fun _ _ => ⟨rfl, e1, (by decide : 0 + 0 ≤ _), (by decide : 0 + 0 ≤ _)⟩)
  dsimp only [Pt.U, Pt.locs, Pt.cells, Pt.slots] at X2 l2 y2 z2 st2 hQ2
  replace X2 : Stand p l e ({ frames := 2, cells := 0, slots := 0, locals := 27 } : Room) s m #[(.ref a1), (.int (0 : Int32))] below meth c T2 _ 0 0 := own_mv X2 l2 y2 z2
  clear l2 y2 z2
  obtain ⟨⟨rfl, e2'⟩, N2q⟩ := hQ2
  have e2 : T2.heap = h0 := e2'
  have N2 := Fr.app N0 N2q
  refine go (fun t k => st2 _ k) ?_
  show Gl _ _ _ _ _ _ _ _ (T2.setTop (mkF m 8 #[.val (.ref a1), .val (.int (0 : Int32))] [(.int (b25_0 (0 : Int32)))]))
  refine go (fun t k => XS.pop X2.here hx rfl (hb hby d24_8) rfl rfl k) ?_
  show Gl _ _ _ _ _ _ _ _ (T2.setTop (mkF m 9 #[.val (.ref a1), .val (.int (0 : Int32))] []))
  refine go (fun t k => XS.aloadN X2.here hx rfl (hb hby d24_9) rfl rfl k) ?_
  show Gl _ _ _ _ _ _ _ _ (T2.setTop (mkF m 10 #[.val (.ref a1), .val (.int (0 : Int32))] [(.ref a1)]))
  refine go (fun t k => XS.iloadN X2.here hx rfl (hb hby d24_10) rfl  k) ?_
  show Gl _ _ _ _ _ _ _ _ (T2.setTop (mkF m 11 #[.val (.ref a1), .val (.int (0 : Int32))] [(.int (0 : Int32)), (.ref a1)]))
  obtain ⟨cq3, kq3, q3a, q3b, q3c⟩ := isOf hZ e2 E_a1
  obtain ⟨_, _, ⟨T3, L3, k3, n3⟩, -, X3, ⟨Lc3, hQ3, l3, y3, z3⟩, st3⟩ := X2.virtualBack hx (y := (⟨"java/util/ArrayList", "elementData", "(I)Ljava/lang/Object;"⟩ : MethodName)) (z := (⟨"java/util/ArrayList", "elementData", "(I)Ljava/lang/Object;"⟩ : MethodName)) hown (mvT hZ (hw _ (List.mem_of_getElem? (i := 168) rfl))) (mvT hZ (hw _ (List.mem_of_getElem? (i := 169) rfl))) (notFace_of_selects (args := #[]) (mvT hZ (hw _ (List.mem_of_getElem? (i := 171) rfl)))) (mvT hZ (hw _ (List.mem_of_getElem? (i := 171) rfl))) (mvT hZ (hw _ (List.mem_of_getElem? (i := 170) rfl))) (by decide) (backOf (W := 0) (rm27t0_2 l Z a0 hw [] a1 w_elementData_a1 ka u0 u1 h0 n0 Z0 F_elementData_a1 V_e) hZ (hw _ (List.mem_of_getElem? (i := 172) rfl)) (hw _ (List.mem_of_getElem? (i := 28) rfl)) (by decide) (by decide)) q3a q3c (g := (mkF m 11 #[.val (.ref a1), .val (.int (0 : Int32))] [(.int (0 : Int32)), (.ref a1)])) rfl (by rw [hml]; rfl) (Steps.refl _) (argsL := [(.int (0 : Int32))]) (rest := []) (lenOf pd_9 rfl) rfl (by show 2 * 0 + _ ≤ _; exact Nat.le_of_eq rfl) (hb hby d24_11) (fun _ _ => ⟨rfl, e2, (by decide : 0 + 0 ≤ _), (by decide : 0 + 0 ≤ _)⟩)
  dsimp only [Pt.U, Pt.locs, Pt.cells, Pt.slots] at X3 l3 y3 z3 st3 hQ3
  replace X3 : Stand p l e ({ frames := 2, cells := 0, slots := 0, locals := 27 } : Room) s m #[(.ref a1), (.int (0 : Int32))] below meth c T3 _ 0 0 := own_mv X3 l3 y3 z3
  clear l3 y3 z3
  obtain ⟨⟨rfl, e3'⟩, N3q⟩ := hQ3
  have e3 : T3.heap = h0 := e3'
  have N3 := Fr.app N2 N3q
  refine go (fun t k => st3.trans k) ?_
  show Gl _ _ _ _ _ _ _ _ (T3.setTop (mkF m 14 #[.val (.ref a1), .val (.int (0 : Int32))] [(.ref (b27t0_2_0 u0))]))
  exact endR X3 hx Bd rfl (hb hby d24_14) ⟨rfl, e3⟩ N3 (by decide) (by decide)
theorem ef_27t1_2 (m : MethodId) (a1 : Addr) : entryFrame m #[(.ref a1), (.int (1 : Int32))] 2 = mkF m 0 #[.val (.ref a1), .val (.int (1 : Int32))] [] := by first | (simp [entryFrame, mkF, argsToLocals, Value.category]; done) | rfl
def b27t1_2_0 (u1 : Addr) : Addr := u1
set_option maxRecDepth 65536 in
set_option maxHeartbeats 40000000 in
theorem rm27t1_2 (l : Launch) (Z : State) (a0 : Array Value) (hw : ∀ d ∈ tables_1, d.before a0 Z = true) (ws : List Jvm.Cond) (a1 : Addr) (w_elementData_a1 : Addr) (ka : ClassId) (u0 : Addr) (u1 : Addr) (h0 : Heap) (n0 : Nat) (Z0 : n0 ≤ h0.size) (F_elementData_a1 : Fld Z h0 a1 "java/util/ArrayList" "elementData" "[Ljava/lang/Object;" (.ref w_elementData_a1)) (V_e : Arv Z h0 w_elementData_a1 ka (.object "java/lang/Object") (10 : Int32) [(.ref u0), (.ref u1), .null, .null, .null, .null, .null, .null, .null, .null] .null) :
    MetFree l (⟨"java/util/ArrayList", "elementData", "(I)Ljava/lang/Object;"⟩ : MethodName) (head1 (Jvm.Cond.code (⟨"java/util/ArrayList", "elementData", "(I)Ljava/lang/Object;"⟩ : MethodName) jdk_38_method_18_code 2 (some (.object "java/lang/Object")) :: ws) ({ frames := 0, cells := 0, slots := 0, locals := 0 } : Room)) (fun a U => a = #[(.ref a1), (.int (1 : Int32))] ∧ Z.Warmed39 U.vm ∧ U.heap = h0) (fun _ _ _ _ _ => True) (fun _ U o U' => ∃ v L, o = .returned v ∧ QK n0 (Kv (some (.ref (b27t1_2_0 u1))) (fun h => h = h0)) v U'.heap L ∧ FrameEnd U o U' L ({ frames := 0, cells := 0, slots := 0, locals := 0 } : Room).cells ({ frames := 0, cells := 0, slots := 0, locals := 0 } : Room).slots) := by
  refine MetFree.of_bodySF (plainFor_of_name pn_4) hisR ?_
  intro p e s m args below meth c s₁ Bd hml0 hP hK
  obtain ⟨rfl, hZ, hh⟩ := hP
  have hx := Bd.exec
  have hby := Bd.bytes
  have hml : c.maxLocals = 2 := hml0
  have hown : s.vm.findClass "java/util/ArrayList" = some m.cls := findClass_of_methodNamed Bd.named
  have hnm := (name_of_methodNamed Bd.named Bd.method).1
  have X0 : Stand p l e ({ frames := 0, cells := 0, slots := 0, locals := 0 } : Room) s m #[(.ref a1), (.int (1 : Int32))] below meth c s₁ [] 0 0 := Stand.of_body Bd
  have e0 : s₁.heap = h0 := by rw [← hh, Bd.state]; rfl
  have N0 := Fr.nil n0
  refine gl_start (ef_27t1_2 m a1) ?_
  show Gl p e below s n0 ({ frames := 0, cells := 0, slots := 0, locals := 0 } : Room).cells ({ frames := 0, cells := 0, slots := 0, locals := 0 } : Room).slots (Kv (some (.ref u1)) (fun h => h = h0)) (s₁.setTop (mkF m 0 #[.val (.ref a1), .val (.int (1 : Int32))] []))
  refine go (fun t k => XS.aloadN X0.here hx rfl (hb hby d27_0) rfl rfl k) ?_
  show Gl _ _ _ _ _ _ _ _ (s₁.setTop (mkF m 1 #[.val (.ref a1), .val (.int (1 : Int32))] [(.ref a1)]))
  obtain ⟨T1, X1, e1, st1⟩ := getF X0 hx hZ hown (host := "") (Or.inl (hw _ (List.mem_of_getElem? (i := 48) rfl))) Via.refl e0 F_elementData_a1 (g := (mkF m 1 #[.val (.ref a1), .val (.int (1 : Int32))] [(.ref a1)])) rfl rfl (hb hby d27_1)
  refine go (fun t k => st1 _ k) ?_
  show Gl _ _ _ _ _ _ _ _ (T1.setTop (mkF m 4 #[.val (.ref a1), .val (.int (1 : Int32))] [(.ref w_elementData_a1)]))
  refine go (fun t k => XS.iloadN X1.here hx rfl (hb hby d27_4) rfl  k) ?_
  show Gl _ _ _ _ _ _ _ _ (T1.setTop (mkF m 5 #[.val (.ref a1), .val (.int (1 : Int32))] [(.int (1 : Int32)), (.ref w_elementData_a1)]))
  obtain ⟨cl2, Ar2, vq2, S2, M2, Hh2, G2⟩ := id V_e
  have hin2 : ¬ ((1 : Int32) < 0 ∨ cl2.slots.size ≤ ((1 : Int32)).toNatClampNeg) := inb_of S2 ⟨by decide, by decide⟩
  have hat2 : cl2.slots[((1 : Int32)).toNatClampNeg]? = some (.ref u1) := Hh2 1 (by rw [S2]; decide)
  refine go (fun t k => X1.aaload hx (j := (1 : Int32)) (v := (.ref u1)) (by rw [e1]; exact Ar2.1) (State.isArrayOf_alike hZ.alike Ar2.2.1) rfl Ar2.2.2 hin2 hat2 (g := (mkF m 5 #[.val (.ref a1), .val (.int (1 : Int32))] [(.int (1 : Int32)), (.ref w_elementData_a1)])) rfl rfl (hb hby d27_5) _ k) ?_
  show Gl _ _ _ _ _ _ _ _ (T1.setTop (mkF m 6 #[.val (.ref a1), .val (.int (1 : Int32))] [(.ref u1)]))
  exact endR X1 hx Bd rfl (hb hby d27_6) ⟨rfl, e1⟩ N0 (by decide) (by decide)
theorem ef_24t1_2 (m : MethodId) (a1 : Addr) : entryFrame m #[(.ref a1), (.int (1 : Int32))] 2 = mkF m 0 #[.val (.ref a1), .val (.int (1 : Int32))] [] := by first | (simp [entryFrame, mkF, argsToLocals, Value.category]; done) | rfl
def b24t1_2_0 (u1 : Addr) : Addr := (b27t1_2_0 u1)
set_option maxRecDepth 65536 in
set_option maxHeartbeats 40000000 in
theorem rm24t1_2 (l : Launch) (Z : State) (a0 : Array Value) (hw : ∀ d ∈ tables_1, d.before a0 Z = true) (ws : List Jvm.Cond) (a1 : Addr) (w_elementData_a1 : Addr) (ka : ClassId) (u0 : Addr) (u1 : Addr) (h0 : Heap) (n0 : Nat) (Z0 : n0 ≤ h0.size) (E_a1 : Exa Z h0 a1 "java/util/ArrayList") (F_size_a1 : Fld Z h0 a1 "java/util/ArrayList" "size" "I" (.int (2 : Int32))) (F_elementData_a1 : Fld Z h0 a1 "java/util/ArrayList" "elementData" "[Ljava/lang/Object;" (.ref w_elementData_a1)) (V_e : Arv Z h0 w_elementData_a1 ka (.object "java/lang/Object") (10 : Int32) [(.ref u0), (.ref u1), .null, .null, .null, .null, .null, .null, .null, .null] .null) :
    MetFree l (⟨"java/util/ArrayList", "get", "(I)Ljava/lang/Object;"⟩ : MethodName) (head1 (Jvm.Cond.code (⟨"java/util/ArrayList", "get", "(I)Ljava/lang/Object;"⟩ : MethodName) jdk_38_method_20_code 2 (some (.object "java/lang/Object")) :: ws) ({ frames := 2, cells := 0, slots := 0, locals := 27 } : Room)) (fun a U => a = #[(.ref a1), (.int (1 : Int32))] ∧ Z.Warmed39 U.vm ∧ U.heap = h0) (fun _ _ _ _ _ => True) (fun _ U o U' => ∃ v L, o = .returned v ∧ QK n0 (Kv (some (.ref (b24t1_2_0 u1))) (fun h => h = h0)) v U'.heap L ∧ FrameEnd U o U' L ({ frames := 2, cells := 0, slots := 0, locals := 27 } : Room).cells ({ frames := 2, cells := 0, slots := 0, locals := 27 } : Room).slots) := by
  refine MetFree.of_bodySF (plainFor_of_name pn_4) hisR ?_
  intro p e s m args below meth c s₁ Bd hml0 hP hK
  obtain ⟨rfl, hZ, hh⟩ := hP
  have hx := Bd.exec
  have hby := Bd.bytes
  have hml : c.maxLocals = 2 := hml0
  have hown : s.vm.findClass "java/util/ArrayList" = some m.cls := findClass_of_methodNamed Bd.named
  have hnm := (name_of_methodNamed Bd.named Bd.method).1
  have X0 : Stand p l e ({ frames := 2, cells := 0, slots := 0, locals := 27 } : Room) s m #[(.ref a1), (.int (1 : Int32))] below meth c s₁ [] 0 0 := Stand.of_body Bd
  have e0 : s₁.heap = h0 := by rw [← hh, Bd.state]; rfl
  have N0 := Fr.nil n0
  refine gl_start (ef_24t1_2 m a1) ?_
  show Gl p e below s n0 ({ frames := 2, cells := 0, slots := 0, locals := 27 } : Room).cells ({ frames := 2, cells := 0, slots := 0, locals := 27 } : Room).slots (Kv (some (.ref (b27t1_2_0 u1))) (fun h => h = h0)) (s₁.setTop (mkF m 0 #[.val (.ref a1), .val (.int (1 : Int32))] []))
  refine go (fun t k => XS.iloadN X0.here hx rfl (hb hby d24_0) rfl  k) ?_
  show Gl _ _ _ _ _ _ _ _ (s₁.setTop (mkF m 1 #[.val (.ref a1), .val (.int (1 : Int32))] [(.int (1 : Int32))]))
  refine go (fun t k => XS.aloadN X0.here hx rfl (hb hby d24_1) rfl rfl k) ?_
  show Gl _ _ _ _ _ _ _ _ (s₁.setTop (mkF m 2 #[.val (.ref a1), .val (.int (1 : Int32))] [(.ref a1), (.int (1 : Int32))]))
  obtain ⟨T1, X1, e1, st1⟩ := getF X0 hx hZ hown (host := "") (Or.inl (hw _ (List.mem_of_getElem? (i := 55) rfl))) Via.refl e0 F_size_a1 (g := (mkF m 2 #[.val (.ref a1), .val (.int (1 : Int32))] [(.ref a1), (.int (1 : Int32))])) rfl rfl (hb hby d24_2)
  refine go (fun t k => st1 _ k) ?_
  show Gl _ _ _ _ _ _ _ _ (T1.setTop (mkF m 5 #[.val (.ref a1), .val (.int (1 : Int32))] [(.int (2 : Int32)), (.int (1 : Int32))]))
  obtain ⟨_, _, ⟨T2, L2, k2, n2⟩, -, X2, ⟨Lc2, hQ2, l2, y2, z2⟩, st2⟩ := Jvm.LawKit.callS X1 hx (y := (⟨"java/util/Objects", "checkIndex", "(II)I"⟩ : MethodName)) hown (mvT hZ (hw _ (List.mem_of_getElem? (i := 160) rfl))) (mvT hZ (hw _ (List.mem_of_getElem? (i := 161) rfl))) (mvT hZ (hw _ (List.mem_of_getElem? (i := 162) rfl))) (mvT hZ (hw _ (List.mem_of_getElem? (i := 163) rfl))) (by decide) (backOf (W := 0) (rm25 l Z a0 hw [] (1 : Int32) (2 : Int32) h0 n0 Z0 (by decide) (by decide)) hZ (hw _ (List.mem_of_getElem? (i := 163) rfl)) (hw _ (List.mem_of_getElem? (i := 162) rfl)) (by decide) (by decide)) (g := (mkF m 5 #[.val (.ref a1), .val (.int (1 : Int32))] [(.int (2 : Int32)), (.int (1 : Int32))])) rfl (by rw [hml]; rfl) (argsL := [(.int (1 : Int32)), (.int (2 : Int32))]) (rest := []) (lenOf pd_4 rfl) rfl (by show 2 * 0 + _ ≤ _; exact Nat.le_of_eq rfl) (hb hby d24_5) (fun _ _ => ⟨rfl, e1, (by decide : 0 + 0 ≤ _), (by decide : 0 + 0 ≤ _)⟩)
  dsimp only [Pt.U, Pt.locs, Pt.cells, Pt.slots] at X2 l2 y2 z2 st2 hQ2
  replace X2 : Stand p l e ({ frames := 2, cells := 0, slots := 0, locals := 27 } : Room) s m #[(.ref a1), (.int (1 : Int32))] below meth c T2 _ 0 0 := own_mv X2 l2 y2 z2
  clear l2 y2 z2
  obtain ⟨⟨rfl, e2'⟩, N2q⟩ := hQ2
  have e2 : T2.heap = h0 := e2'
  have N2 := Fr.app N0 N2q
  refine go (fun t k => st2 _ k) ?_
  show Gl _ _ _ _ _ _ _ _ (T2.setTop (mkF m 8 #[.val (.ref a1), .val (.int (1 : Int32))] [(.int (b25_0 (1 : Int32)))]))
  refine go (fun t k => XS.pop X2.here hx rfl (hb hby d24_8) rfl rfl k) ?_
  show Gl _ _ _ _ _ _ _ _ (T2.setTop (mkF m 9 #[.val (.ref a1), .val (.int (1 : Int32))] []))
  refine go (fun t k => XS.aloadN X2.here hx rfl (hb hby d24_9) rfl rfl k) ?_
  show Gl _ _ _ _ _ _ _ _ (T2.setTop (mkF m 10 #[.val (.ref a1), .val (.int (1 : Int32))] [(.ref a1)]))
  refine go (fun t k => XS.iloadN X2.here hx rfl (hb hby d24_10) rfl  k) ?_
  show Gl _ _ _ _ _ _ _ _ (T2.setTop (mkF m 11 #[.val (.ref a1), .val (.int (1 : Int32))] [(.int (1 : Int32)), (.ref a1)]))
  obtain ⟨cq3, kq3, q3a, q3b, q3c⟩ := isOf hZ e2 E_a1
  obtain ⟨_, _, ⟨T3, L3, k3, n3⟩, -, X3, ⟨Lc3, hQ3, l3, y3, z3⟩, st3⟩ := X2.virtualBack hx (y := (⟨"java/util/ArrayList", "elementData", "(I)Ljava/lang/Object;"⟩ : MethodName)) (z := (⟨"java/util/ArrayList", "elementData", "(I)Ljava/lang/Object;"⟩ : MethodName)) hown (mvT hZ (hw _ (List.mem_of_getElem? (i := 168) rfl))) (mvT hZ (hw _ (List.mem_of_getElem? (i := 169) rfl))) (notFace_of_selects (args := #[]) (mvT hZ (hw _ (List.mem_of_getElem? (i := 171) rfl)))) (mvT hZ (hw _ (List.mem_of_getElem? (i := 171) rfl))) (mvT hZ (hw _ (List.mem_of_getElem? (i := 170) rfl))) (by decide) (backOf (W := 0) (rm27t1_2 l Z a0 hw [] a1 w_elementData_a1 ka u0 u1 h0 n0 Z0 F_elementData_a1 V_e) hZ (hw _ (List.mem_of_getElem? (i := 172) rfl)) (hw _ (List.mem_of_getElem? (i := 28) rfl)) (by decide) (by decide)) q3a q3c (g := (mkF m 11 #[.val (.ref a1), .val (.int (1 : Int32))] [(.int (1 : Int32)), (.ref a1)])) rfl (by rw [hml]; rfl) (Steps.refl _) (argsL := [(.int (1 : Int32))]) (rest := []) (lenOf pd_9 rfl) rfl (by show 2 * 0 + _ ≤ _; exact Nat.le_of_eq rfl) (hb hby d24_11) (fun _ _ => ⟨rfl, e2, (by decide : 0 + 0 ≤ _), (by decide : 0 + 0 ≤ _)⟩)
  dsimp only [Pt.U, Pt.locs, Pt.cells, Pt.slots] at X3 l3 y3 z3 st3 hQ3
  replace X3 : Stand p l e ({ frames := 2, cells := 0, slots := 0, locals := 27 } : Room) s m #[(.ref a1), (.int (1 : Int32))] below meth c T3 _ 0 0 := own_mv X3 l3 y3 z3
  clear l3 y3 z3
  obtain ⟨⟨rfl, e3'⟩, N3q⟩ := hQ3
  have e3 : T3.heap = h0 := e3'
  have N3 := Fr.app N2 N3q
  refine go (fun t k => st3.trans k) ?_
  show Gl _ _ _ _ _ _ _ _ (T3.setTop (mkF m 14 #[.val (.ref a1), .val (.int (1 : Int32))] [(.ref (b27t1_2_0 u1))]))
  exact endR X3 hx Bd rfl (hb hby d24_14) ⟨rfl, e3⟩ N3 (by decide) (by decide)
theorem d11_0 : decode jdk_30_method_1_code 0 = .ok (.aload_n 0, 1) := by decide +kernel
theorem d11_1 : decode jdk_30_method_1_code 1 = .ok (.invokespecial 1, 3) := by decide +kernel
theorem d11_4 : decode jdk_30_method_1_code 4 = .ok (.return_, 1) := by decide +kernel
theorem pn_7 : plainName "java/lang/Record" = true := by first | (simp [plainName, overriddenIn]; done) | decide +kernel
theorem ef_11 (m : MethodId) (a1 : Addr) : entryFrame m #[(.ref a1)] 1 = mkF m 0 #[.val (.ref a1)] [] := by first | (simp [entryFrame, mkF, argsToLocals, Value.category]; done) | rfl
set_option maxRecDepth 65536 in
set_option maxHeartbeats 40000000 in
theorem rm11 (l : Launch) (Z : State) (a0 : Array Value) (hw : ∀ d ∈ tables_1, d.before a0 Z = true) (ws : List Jvm.Cond) (a1 : Addr) (h0 : Heap) (n0 : Nat) (Z0 : n0 ≤ h0.size) :
    MetFree l (⟨"java/lang/Record", "<init>", "()V"⟩ : MethodName) (head1 (Jvm.Cond.code (⟨"java/lang/Record", "<init>", "()V"⟩ : MethodName) jdk_30_method_1_code 1 none :: ws) ({ frames := 1, cells := 0, slots := 0, locals := 12 } : Room)) (fun a U => a = #[(.ref a1)] ∧ Z.Warmed39 U.vm ∧ U.heap = h0) (fun _ _ _ _ _ => True) (fun _ U o U' => ∃ v L, o = .returned v ∧ QK n0 (Kv none (fun h => h = h0)) v U'.heap L ∧ FrameEnd U o U' L ({ frames := 1, cells := 0, slots := 0, locals := 12 } : Room).cells ({ frames := 1, cells := 0, slots := 0, locals := 12 } : Room).slots) := by
  refine MetFree.of_bodySF (plainFor_of_name pn_7) hisR ?_
  intro p e s m args below meth c s₁ Bd hml0 hP hK
  obtain ⟨rfl, hZ, hh⟩ := hP
  have hx := Bd.exec
  have hby := Bd.bytes
  have hml : c.maxLocals = 1 := hml0
  have hown : s.vm.findClass "java/lang/Record" = some m.cls := findClass_of_methodNamed Bd.named
  have hnm := (name_of_methodNamed Bd.named Bd.method).1
  have X0 : Stand p l e ({ frames := 1, cells := 0, slots := 0, locals := 12 } : Room) s m #[(.ref a1)] below meth c s₁ [] 0 0 := Stand.of_body Bd
  have e0 : s₁.heap = h0 := by rw [← hh, Bd.state]; rfl
  have N0 := Fr.nil n0
  refine gl_start (ef_11 m a1) ?_
  show Gl p e below s n0 ({ frames := 1, cells := 0, slots := 0, locals := 12 } : Room).cells ({ frames := 1, cells := 0, slots := 0, locals := 12 } : Room).slots (Kv none (fun h => h = h0)) (s₁.setTop (mkF m 0 #[.val (.ref a1)] []))
  refine go (fun t k => XS.aloadN X0.here hx rfl (hb hby d11_0) rfl rfl k) ?_
  show Gl _ _ _ _ _ _ _ _ (s₁.setTop (mkF m 1 #[.val (.ref a1)] [(.ref a1)]))
  obtain ⟨T1, X1, e1, st1⟩ := initO X0 hx hZ hown (hw _ (List.mem_of_getElem? (i := 68) rfl)) (hw _ (List.mem_of_getElem? (i := 20) rfl)) (hw _ (List.mem_of_getElem? (i := 21) rfl)) e0 (g := (mkF m 1 #[.val (.ref a1)] [(.ref a1)])) rfl (by rw [hml]; rfl) rfl (hb hby d11_1) (by decide) (W := 0) (by show 2 * 0 + _ ≤ _; exact Nat.le_of_eq rfl) (by decide)
  refine go (fun t k => st1 _ k) ?_
  show Gl _ _ _ _ _ _ _ _ (T1.setTop (mkF m 4 #[.val (.ref a1)] []))
  exact endV X1 hx Bd (hb hby d11_4) ⟨rfl, e1⟩ N0 (by decide) (by decide)
theorem d10_0 : decode prog_150_method_1_code 0 = .ok (.aload_n 0, 1) := by decide +kernel
theorem d10_1 : decode prog_150_method_1_code 1 = .ok (.invokespecial 1, 3) := by decide +kernel
theorem d10_4 : decode prog_150_method_1_code 4 = .ok (.aload_n 0, 1) := by decide +kernel
theorem d10_5 : decode prog_150_method_1_code 5 = .ok (.aload_n 1, 1) := by decide +kernel
theorem d10_6 : decode prog_150_method_1_code 6 = .ok (.putfield 7, 3) := by decide +kernel
theorem d10_9 : decode prog_150_method_1_code 9 = .ok (.aload_n 0, 1) := by decide +kernel
theorem d10_10 : decode prog_150_method_1_code 10 = .ok (.aload_n 2, 1) := by decide +kernel
theorem d10_11 : decode prog_150_method_1_code 11 = .ok (.putfield 13, 3) := by decide +kernel
theorem d10_14 : decode prog_150_method_1_code 14 = .ok (.aload_n 0, 1) := by decide +kernel
theorem d10_15 : decode prog_150_method_1_code 15 = .ok (.aload_n 3, 1) := by decide +kernel
theorem d10_16 : decode prog_150_method_1_code 16 = .ok (.putfield 16, 3) := by decide +kernel
theorem d10_19 : decode prog_150_method_1_code 19 = .ok (.aload_n 0, 1) := by decide +kernel
theorem d10_20 : decode prog_150_method_1_code 20 = .ok (.aload 4, 2) := by decide +kernel
theorem d10_22 : decode prog_150_method_1_code 22 = .ok (.putfield 19, 3) := by decide +kernel
theorem d10_25 : decode prog_150_method_1_code 25 = .ok (.aload_n 0, 1) := by decide +kernel
theorem d10_26 : decode prog_150_method_1_code 26 = .ok (.lload 5, 2) := by decide +kernel
theorem d10_28 : decode prog_150_method_1_code 28 = .ok (.putfield 23, 3) := by decide +kernel
theorem d10_31 : decode prog_150_method_1_code 31 = .ok (.return_, 1) := by decide +kernel
theorem pn_8 : plainName "com/example/leasehold/server/Watches$Kept" = true := by first | (simp [plainName, overriddenIn]; done) | decide +kernel
theorem ef_10 (m : MethodId) (a1 : Addr) (a2 : Addr) (a3 : Addr) (a4 : Addr) (a5 : Addr) (q6 : Int64) : entryFrame m #[(.ref a1), (.ref a2), (.ref a3), (.ref a4), (.ref a5), (.long q6)] 7 = mkF m 0 #[.val (.ref a1), .val (.ref a2), .val (.ref a3), .val (.ref a4), .val (.ref a5), .val (.long q6), .second] [] := by first | (simp [entryFrame, mkF, argsToLocals, Value.category]; done) | rfl
set_option maxRecDepth 65536 in
set_option maxHeartbeats 40000000 in
theorem rm10 (l : Launch) (Z : State) (a0 : Array Value) (hw : ∀ d ∈ tables_1, d.before a0 Z = true) (ws : List Jvm.Cond) (a1 : Addr) (a2 : Addr) (a3 : Addr) (a4 : Addr) (a5 : Addr) (q6 : Int64) (w_watched_a1 : Value) (w_id_a1 : Value) (w_handback_a1 : Value) (w_beside_a1 : Value) (w_reserved_a1 : Value) (h0 : Heap) (n0 : Nat) (Z0 : n0 ≤ h0.size) (E_a1 : Exa Z h0 a1 "com/example/leasehold/server/Watches$Kept") (g_a1 : n0 ≤ a1) (F_watched_a1 : Fld Z h0 a1 "com/example/leasehold/server/Watches$Kept" "watched" "Ljava/lang/String;" w_watched_a1) (F_id_a1 : Fld Z h0 a1 "com/example/leasehold/server/Watches$Kept" "id" "Ljava/lang/String;" w_id_a1) (F_handback_a1 : Fld Z h0 a1 "com/example/leasehold/server/Watches$Kept" "handback" "Ljava/lang/String;" w_handback_a1) (F_beside_a1 : Fld Z h0 a1 "com/example/leasehold/server/Watches$Kept" "beside" "Ljava/util/List;" w_beside_a1) (F_reserved_a1 : Fld Z h0 a1 "com/example/leasehold/server/Watches$Kept" "reserved" "J" w_reserved_a1) :
    MetFree l (⟨"com/example/leasehold/server/Watches$Kept", "<init>", "(Ljava/lang/String;Ljava/lang/String;Ljava/lang/String;Ljava/util/List;J)V"⟩ : MethodName) (head1 (Jvm.Cond.code (⟨"com/example/leasehold/server/Watches$Kept", "<init>", "(Ljava/lang/String;Ljava/lang/String;Ljava/lang/String;Ljava/util/List;J)V"⟩ : MethodName) prog_150_method_1_code 7 none :: ws) ({ frames := 2, cells := 0, slots := 0, locals := 24 } : Room)) (fun a U => a = #[(.ref a1), (.ref a2), (.ref a3), (.ref a4), (.ref a5), (.long q6)] ∧ Z.Warmed39 U.vm ∧ U.heap = h0) (fun _ _ _ _ _ => True) (fun _ U o U' => ∃ v L, o = .returned v ∧ QK n0 (Kv none (fun h => Keep h0 h [a1] ∧ Exa Z h a1 "com/example/leasehold/server/Watches$Kept" ∧ Fld Z h a1 "com/example/leasehold/server/Watches$Kept" "watched" "Ljava/lang/String;" (.ref a2) ∧ Fld Z h a1 "com/example/leasehold/server/Watches$Kept" "id" "Ljava/lang/String;" (.ref a3) ∧ Fld Z h a1 "com/example/leasehold/server/Watches$Kept" "handback" "Ljava/lang/String;" (.ref a4) ∧ Fld Z h a1 "com/example/leasehold/server/Watches$Kept" "beside" "Ljava/util/List;" (.ref a5) ∧ Fld Z h a1 "com/example/leasehold/server/Watches$Kept" "reserved" "J" (.long q6))) v U'.heap L ∧ FrameEnd U o U' L ({ frames := 2, cells := 0, slots := 0, locals := 24 } : Room).cells ({ frames := 2, cells := 0, slots := 0, locals := 24 } : Room).slots) := by
  refine MetFree.of_bodySF (plainFor_of_name pn_8) hisR ?_
  intro p e s m args below meth c s₁ Bd hml0 hP hK
  obtain ⟨rfl, hZ, hh⟩ := hP
  have hx := Bd.exec
  have hby := Bd.bytes
  have hml : c.maxLocals = 7 := hml0
  have hown : s.vm.findClass "com/example/leasehold/server/Watches$Kept" = some m.cls := findClass_of_methodNamed Bd.named
  have hnm := (name_of_methodNamed Bd.named Bd.method).1
  have X0 : Stand p l e ({ frames := 2, cells := 0, slots := 0, locals := 24 } : Room) s m #[(.ref a1), (.ref a2), (.ref a3), (.ref a4), (.ref a5), (.long q6)] below meth c s₁ [] 0 0 := Stand.of_body Bd
  have e0 : s₁.heap = h0 := by rw [← hh, Bd.state]; rfl
  have N0 := Fr.nil n0
  refine gl_start (ef_10 m a1 a2 a3 a4 a5 q6) ?_
  show Gl p e below s n0 ({ frames := 2, cells := 0, slots := 0, locals := 24 } : Room).cells ({ frames := 2, cells := 0, slots := 0, locals := 24 } : Room).slots (Kv none (fun h => Keep h0 h [a1] ∧ Exa Z h a1 "com/example/leasehold/server/Watches$Kept" ∧ Fld Z h a1 "com/example/leasehold/server/Watches$Kept" "watched" "Ljava/lang/String;" (.ref a2) ∧ Fld Z h a1 "com/example/leasehold/server/Watches$Kept" "id" "Ljava/lang/String;" (.ref a3) ∧ Fld Z h a1 "com/example/leasehold/server/Watches$Kept" "handback" "Ljava/lang/String;" (.ref a4) ∧ Fld Z h a1 "com/example/leasehold/server/Watches$Kept" "beside" "Ljava/util/List;" (.ref a5) ∧ Fld Z h a1 "com/example/leasehold/server/Watches$Kept" "reserved" "J" (.long q6))) (s₁.setTop (mkF m 0 #[.val (.ref a1), .val (.ref a2), .val (.ref a3), .val (.ref a4), .val (.ref a5), .val (.long q6), .second] []))
  refine go (fun t k => XS.aloadN X0.here hx rfl (hb hby d10_0) rfl rfl k) ?_
  show Gl _ _ _ _ _ _ _ _ (s₁.setTop (mkF m 1 #[.val (.ref a1), .val (.ref a2), .val (.ref a3), .val (.ref a4), .val (.ref a5), .val (.long q6), .second] [(.ref a1)]))
  obtain ⟨_, _, ⟨T1, L1, k1, n1⟩, -, X1, ⟨Lc1, hQ1, l1, y1, z1⟩, st1⟩ := X0.specialBack hx (y := (⟨"java/lang/Record", "<init>", "()V"⟩ : MethodName)) rfl hown (mvT hZ (hw _ (List.mem_of_getElem? (i := 63) rfl))) (mvT hZ (hw _ (List.mem_of_getElem? (i := 64) rfl))) (mvT hZ (hw _ (List.mem_of_getElem? (i := 67) rfl))) (by decide) (backOf (W := 0) (rm11 l Z a0 hw [] a1 h0 n0 Z0 ) hZ (hw _ (List.mem_of_getElem? (i := 67) rfl)) (hw _ (List.mem_of_getElem? (i := 66) rfl)) (by decide) (by decide)) (g := (mkF m 1 #[.val (.ref a1), .val (.ref a2), .val (.ref a3), .val (.ref a4), .val (.ref a5), .val (.long q6), .second] [(.ref a1)])) rfl (by rw [hml]; rfl) (Steps.refl _) (a := a1) (argsL := []) (rest := []) (lenOf pd_3 rfl) rfl (by show 2 * 0 + _ ≤ _; exact Nat.le_of_eq rfl) (hb hby d10_1) (fun _ _ => ⟨rfl, e0, (by decide : 0 + 0 ≤ _), (by decide : 0 + 0 ≤ _)⟩)
  dsimp only [Pt.U, Pt.locs, Pt.cells, Pt.slots] at X1 l1 y1 z1 st1 hQ1
  replace X1 : Stand p l e ({ frames := 2, cells := 0, slots := 0, locals := 24 } : Room) s m #[(.ref a1), (.ref a2), (.ref a3), (.ref a4), (.ref a5), (.long q6)] below meth c T1 _ 0 0 := own_mv X1 l1 y1 z1
  clear l1 y1 z1
  obtain ⟨⟨rfl, e1'⟩, N1q⟩ := hQ1
  have e1 : T1.heap = h0 := e1'
  have N1 := Fr.app N0 N1q
  refine go (fun t k => st1.trans k) ?_
  show Gl _ _ _ _ _ _ _ _ (T1.setTop (mkF m 4 #[.val (.ref a1), .val (.ref a2), .val (.ref a3), .val (.ref a4), .val (.ref a5), .val (.long q6), .second] []))
  refine go (fun t k => XS.aloadN X1.here hx rfl (hb hby d10_4) rfl rfl k) ?_
  show Gl _ _ _ _ _ _ _ _ (T1.setTop (mkF m 5 #[.val (.ref a1), .val (.ref a2), .val (.ref a3), .val (.ref a4), .val (.ref a5), .val (.long q6), .second] [(.ref a1)]))
  refine go (fun t k => XS.aloadN X1.here hx rfl (hb hby d10_5) rfl rfl k) ?_
  show Gl _ _ _ _ _ _ _ _ (T1.setTop (mkF m 6 #[.val (.ref a1), .val (.ref a2), .val (.ref a3), .val (.ref a4), .val (.ref a5), .val (.long q6), .second] [(.ref a2), (.ref a1)]))
  obtain ⟨T2, h2, X2, e2, W2, st2⟩ := putF X1 hx hZ hown (host := "") (Or.inl (hw _ (List.mem_of_getElem? (i := 69) rfl))) Via.refl e1 F_watched_a1 E_a1 (Or.inr ⟨(hw _ (List.mem_of_getElem? (i := 70) rfl)), rfl, hnm⟩) (hw _ (List.mem_of_getElem? (i := 58) rfl)) (ty := (.object "java/lang/String")) (by decide) rfl rfl (g := (mkF m 6 #[.val (.ref a1), .val (.ref a2), .val (.ref a3), .val (.ref a4), .val (.ref a5), .val (.long q6), .second] [(.ref a2), (.ref a1)])) rfl rfl (hb hby d10_6)
  have Fw2 := F_watched_a1.same W2
  have K2 : Keep h0 h2 [a1] := (Keep.refl h0 [a1]).wr W2 (Or.inl (List.mem_of_getElem? (i := 0) rfl))
  have N2 := Fr.snoc X2 N1 g_a1
  refine go (fun t k => st2 _ k) ?_
  have fs3 := (F_id_a1.other W2 (Or.inr (slot_ne (Or.inr (hw _ (List.mem_of_getElem? (i := 72) rfl))) (Or.inr (hw _ (List.mem_of_getElem? (i := 70) rfl))) (by decide) (t := (.object "java/lang/String")) (t' := (.object "java/lang/String")) (by decide) (by decide))))
  have fs4 := (F_handback_a1.other W2 (Or.inr (slot_ne (Or.inr (hw _ (List.mem_of_getElem? (i := 74) rfl))) (Or.inr (hw _ (List.mem_of_getElem? (i := 70) rfl))) (by decide) (t := (.object "java/lang/String")) (t' := (.object "java/lang/String")) (by decide) (by decide))))
  have fs5 := (F_beside_a1.other W2 (Or.inr (slot_ne (Or.inr (hw _ (List.mem_of_getElem? (i := 76) rfl))) (Or.inr (hw _ (List.mem_of_getElem? (i := 70) rfl))) (by decide) (t := (.object "java/util/List")) (t' := (.object "java/lang/String")) (by decide) (by decide))))
  have fs6 := (F_reserved_a1.other W2 (Or.inr (slot_ne (Or.inr (hw _ (List.mem_of_getElem? (i := 78) rfl))) (Or.inr (hw _ (List.mem_of_getElem? (i := 70) rfl))) (by decide) (t := .long) (t' := (.object "java/lang/String")) (by decide) (by decide))))
  have zs7 := (Nat.le_trans Z0 (Keep.of_wr W2).1)
  show Gl _ _ _ _ _ _ _ _ (T2.setTop (mkF m 9 #[.val (.ref a1), .val (.ref a2), .val (.ref a3), .val (.ref a4), .val (.ref a5), .val (.long q6), .second] []))
  refine go (fun t k => XS.aloadN X2.here hx rfl (hb hby d10_9) rfl rfl k) ?_
  show Gl _ _ _ _ _ _ _ _ (T2.setTop (mkF m 10 #[.val (.ref a1), .val (.ref a2), .val (.ref a3), .val (.ref a4), .val (.ref a5), .val (.long q6), .second] [(.ref a1)]))
  refine go (fun t k => XS.aloadN X2.here hx rfl (hb hby d10_10) rfl rfl k) ?_
  show Gl _ _ _ _ _ _ _ _ (T2.setTop (mkF m 11 #[.val (.ref a1), .val (.ref a2), .val (.ref a3), .val (.ref a4), .val (.ref a5), .val (.long q6), .second] [(.ref a3), (.ref a1)]))
  obtain ⟨T8, h8, X8, e8, W8, st8⟩ := putF X2 hx hZ hown (host := "") (Or.inl (hw _ (List.mem_of_getElem? (i := 71) rfl))) Via.refl e2 fs3 (E_a1.wr W2) (Or.inr ⟨(hw _ (List.mem_of_getElem? (i := 72) rfl)), rfl, hnm⟩) (hw _ (List.mem_of_getElem? (i := 58) rfl)) (ty := (.object "java/lang/String")) (by decide) rfl rfl (g := (mkF m 11 #[.val (.ref a1), .val (.ref a2), .val (.ref a3), .val (.ref a4), .val (.ref a5), .val (.long q6), .second] [(.ref a3), (.ref a1)])) rfl rfl (hb hby d10_11)
  have Fw8 := fs3.same W8
  have K8 : Keep h0 h8 [a1] := K2.wr W8 (Or.inl (List.mem_of_getElem? (i := 0) rfl))
  have N8 := Fr.snoc X8 N2 g_a1
  refine go (fun t k => st8 _ k) ?_
  have fs9 := (Fw2.other W8 (Or.inr (slot_ne (Or.inr (hw _ (List.mem_of_getElem? (i := 70) rfl))) (Or.inr (hw _ (List.mem_of_getElem? (i := 72) rfl))) (by decide) (t := (.object "java/lang/String")) (t' := (.object "java/lang/String")) (by decide) (by decide))))
  have fs10 := (fs4.other W8 (Or.inr (slot_ne (Or.inr (hw _ (List.mem_of_getElem? (i := 74) rfl))) (Or.inr (hw _ (List.mem_of_getElem? (i := 72) rfl))) (by decide) (t := (.object "java/lang/String")) (t' := (.object "java/lang/String")) (by decide) (by decide))))
  have fs11 := (fs5.other W8 (Or.inr (slot_ne (Or.inr (hw _ (List.mem_of_getElem? (i := 76) rfl))) (Or.inr (hw _ (List.mem_of_getElem? (i := 72) rfl))) (by decide) (t := (.object "java/util/List")) (t' := (.object "java/lang/String")) (by decide) (by decide))))
  have fs12 := (fs6.other W8 (Or.inr (slot_ne (Or.inr (hw _ (List.mem_of_getElem? (i := 78) rfl))) (Or.inr (hw _ (List.mem_of_getElem? (i := 72) rfl))) (by decide) (t := .long) (t' := (.object "java/lang/String")) (by decide) (by decide))))
  have zs13 := (Nat.le_trans zs7 (Keep.of_wr W8).1)
  show Gl _ _ _ _ _ _ _ _ (T8.setTop (mkF m 14 #[.val (.ref a1), .val (.ref a2), .val (.ref a3), .val (.ref a4), .val (.ref a5), .val (.long q6), .second] []))
  refine go (fun t k => XS.aloadN X8.here hx rfl (hb hby d10_14) rfl rfl k) ?_
  show Gl _ _ _ _ _ _ _ _ (T8.setTop (mkF m 15 #[.val (.ref a1), .val (.ref a2), .val (.ref a3), .val (.ref a4), .val (.ref a5), .val (.long q6), .second] [(.ref a1)]))
  refine go (fun t k => XS.aloadN X8.here hx rfl (hb hby d10_15) rfl rfl k) ?_
  show Gl _ _ _ _ _ _ _ _ (T8.setTop (mkF m 16 #[.val (.ref a1), .val (.ref a2), .val (.ref a3), .val (.ref a4), .val (.ref a5), .val (.long q6), .second] [(.ref a4), (.ref a1)]))
  obtain ⟨T14, h14, X14, e14, W14, st14⟩ := putF X8 hx hZ hown (host := "") (Or.inl (hw _ (List.mem_of_getElem? (i := 73) rfl))) Via.refl e8 fs10 ((E_a1.wr W2).wr W8) (Or.inr ⟨(hw _ (List.mem_of_getElem? (i := 74) rfl)), rfl, hnm⟩) (hw _ (List.mem_of_getElem? (i := 58) rfl)) (ty := (.object "java/lang/String")) (by decide) rfl rfl (g := (mkF m 16 #[.val (.ref a1), .val (.ref a2), .val (.ref a3), .val (.ref a4), .val (.ref a5), .val (.long q6), .second] [(.ref a4), (.ref a1)])) rfl rfl (hb hby d10_16)
  have Fw14 := fs10.same W14
  have K14 : Keep h0 h14 [a1] := K8.wr W14 (Or.inl (List.mem_of_getElem? (i := 0) rfl))
  have N14 := Fr.snoc X14 N8 g_a1
  refine go (fun t k => st14 _ k) ?_
  have fs15 := (((E_a1.wr W2).wr W8).wr W14)
  have fs16 := (fs9.other W14 (Or.inr (slot_ne (Or.inr (hw _ (List.mem_of_getElem? (i := 70) rfl))) (Or.inr (hw _ (List.mem_of_getElem? (i := 74) rfl))) (by decide) (t := (.object "java/lang/String")) (t' := (.object "java/lang/String")) (by decide) (by decide))))
  have fs17 := (Fw8.other W14 (Or.inr (slot_ne (Or.inr (hw _ (List.mem_of_getElem? (i := 72) rfl))) (Or.inr (hw _ (List.mem_of_getElem? (i := 74) rfl))) (by decide) (t := (.object "java/lang/String")) (t' := (.object "java/lang/String")) (by decide) (by decide))))
  have fs18 := (fs11.other W14 (Or.inr (slot_ne (Or.inr (hw _ (List.mem_of_getElem? (i := 76) rfl))) (Or.inr (hw _ (List.mem_of_getElem? (i := 74) rfl))) (by decide) (t := (.object "java/util/List")) (t' := (.object "java/lang/String")) (by decide) (by decide))))
  have fs19 := (fs12.other W14 (Or.inr (slot_ne (Or.inr (hw _ (List.mem_of_getElem? (i := 78) rfl))) (Or.inr (hw _ (List.mem_of_getElem? (i := 74) rfl))) (by decide) (t := .long) (t' := (.object "java/lang/String")) (by decide) (by decide))))
  have zs20 := (Nat.le_trans zs13 (Keep.of_wr W14).1)
  show Gl _ _ _ _ _ _ _ _ (T14.setTop (mkF m 19 #[.val (.ref a1), .val (.ref a2), .val (.ref a3), .val (.ref a4), .val (.ref a5), .val (.long q6), .second] []))
  refine go (fun t k => XS.aloadN X14.here hx rfl (hb hby d10_19) rfl rfl k) ?_
  show Gl _ _ _ _ _ _ _ _ (T14.setTop (mkF m 20 #[.val (.ref a1), .val (.ref a2), .val (.ref a3), .val (.ref a4), .val (.ref a5), .val (.long q6), .second] [(.ref a1)]))
  refine go (fun t k => XS.aload X14.here hx rfl (hb hby d10_20) rfl rfl k) ?_
  show Gl _ _ _ _ _ _ _ _ (T14.setTop (mkF m 22 #[.val (.ref a1), .val (.ref a2), .val (.ref a3), .val (.ref a4), .val (.ref a5), .val (.long q6), .second] [(.ref a5), (.ref a1)]))
  obtain ⟨T21, h21, X21, e21, W21, st21⟩ := putF X14 hx hZ hown (host := "") (Or.inl (hw _ (List.mem_of_getElem? (i := 75) rfl))) Via.refl e14 fs18 fs15 (Or.inr ⟨(hw _ (List.mem_of_getElem? (i := 76) rfl)), rfl, hnm⟩) (hw _ (List.mem_of_getElem? (i := 58) rfl)) (ty := (.object "java/util/List")) (by decide) rfl rfl (g := (mkF m 22 #[.val (.ref a1), .val (.ref a2), .val (.ref a3), .val (.ref a4), .val (.ref a5), .val (.long q6), .second] [(.ref a5), (.ref a1)])) rfl rfl (hb hby d10_22)
  have Fw21 := fs18.same W21
  have K21 : Keep h0 h21 [a1] := K14.wr W21 (Or.inl (List.mem_of_getElem? (i := 0) rfl))
  have N21 := Fr.snoc X21 N14 g_a1
  refine go (fun t k => st21 _ k) ?_
  have fs22 := (fs16.other W21 (Or.inr (slot_ne (Or.inr (hw _ (List.mem_of_getElem? (i := 70) rfl))) (Or.inr (hw _ (List.mem_of_getElem? (i := 76) rfl))) (by decide) (t := (.object "java/lang/String")) (t' := (.object "java/util/List")) (by decide) (by decide))))
  have fs23 := (fs17.other W21 (Or.inr (slot_ne (Or.inr (hw _ (List.mem_of_getElem? (i := 72) rfl))) (Or.inr (hw _ (List.mem_of_getElem? (i := 76) rfl))) (by decide) (t := (.object "java/lang/String")) (t' := (.object "java/util/List")) (by decide) (by decide))))
  have fs24 := (Fw14.other W21 (Or.inr (slot_ne (Or.inr (hw _ (List.mem_of_getElem? (i := 74) rfl))) (Or.inr (hw _ (List.mem_of_getElem? (i := 76) rfl))) (by decide) (t := (.object "java/lang/String")) (t' := (.object "java/util/List")) (by decide) (by decide))))
  have fs25 := (fs19.other W21 (Or.inr (slot_ne (Or.inr (hw _ (List.mem_of_getElem? (i := 78) rfl))) (Or.inr (hw _ (List.mem_of_getElem? (i := 76) rfl))) (by decide) (t := .long) (t' := (.object "java/util/List")) (by decide) (by decide))))
  have zs26 := (Nat.le_trans zs20 (Keep.of_wr W21).1)
  show Gl _ _ _ _ _ _ _ _ (T21.setTop (mkF m 25 #[.val (.ref a1), .val (.ref a2), .val (.ref a3), .val (.ref a4), .val (.ref a5), .val (.long q6), .second] []))
  refine go (fun t k => XS.aloadN X21.here hx rfl (hb hby d10_25) rfl rfl k) ?_
  show Gl _ _ _ _ _ _ _ _ (T21.setTop (mkF m 26 #[.val (.ref a1), .val (.ref a2), .val (.ref a3), .val (.ref a4), .val (.ref a5), .val (.long q6), .second] [(.ref a1)]))
  refine go (fun t k => XS.lload X21.here hx rfl (hb hby d10_26) rfl  k) ?_
  show Gl _ _ _ _ _ _ _ _ (T21.setTop (mkF m 28 #[.val (.ref a1), .val (.ref a2), .val (.ref a3), .val (.ref a4), .val (.ref a5), .val (.long q6), .second] [(.long q6), (.ref a1)]))
  obtain ⟨T27, h27, X27, e27, W27, st27⟩ := putF X21 hx hZ hown (host := "") (Or.inl (hw _ (List.mem_of_getElem? (i := 77) rfl))) Via.refl e21 fs25 (fs15.wr W21) (Or.inr ⟨(hw _ (List.mem_of_getElem? (i := 78) rfl)), rfl, hnm⟩) (hw _ (List.mem_of_getElem? (i := 58) rfl)) (ty := .long) (by decide) rfl rfl (g := (mkF m 28 #[.val (.ref a1), .val (.ref a2), .val (.ref a3), .val (.ref a4), .val (.ref a5), .val (.long q6), .second] [(.long q6), (.ref a1)])) rfl rfl (hb hby d10_28)
  have Fw27 := fs25.same W27
  have K27 : Keep h0 h27 [a1] := K21.wr W27 (Or.inl (List.mem_of_getElem? (i := 0) rfl))
  have N27 := Fr.snoc X27 N21 g_a1
  refine go (fun t k => st27 _ k) ?_
  have fs28 := (fs22.other W27 (Or.inr (slot_ne (Or.inr (hw _ (List.mem_of_getElem? (i := 70) rfl))) (Or.inr (hw _ (List.mem_of_getElem? (i := 78) rfl))) (by decide) (t := (.object "java/lang/String")) (t' := .long) (by decide) (by decide))))
  have fs29 := (fs23.other W27 (Or.inr (slot_ne (Or.inr (hw _ (List.mem_of_getElem? (i := 72) rfl))) (Or.inr (hw _ (List.mem_of_getElem? (i := 78) rfl))) (by decide) (t := (.object "java/lang/String")) (t' := .long) (by decide) (by decide))))
  have fs30 := (fs24.other W27 (Or.inr (slot_ne (Or.inr (hw _ (List.mem_of_getElem? (i := 74) rfl))) (Or.inr (hw _ (List.mem_of_getElem? (i := 78) rfl))) (by decide) (t := (.object "java/lang/String")) (t' := .long) (by decide) (by decide))))
  have fs31 := (Fw21.other W27 (Or.inr (slot_ne (Or.inr (hw _ (List.mem_of_getElem? (i := 76) rfl))) (Or.inr (hw _ (List.mem_of_getElem? (i := 78) rfl))) (by decide) (t := (.object "java/util/List")) (t' := .long) (by decide) (by decide))))
  have zs32 := (Nat.le_trans zs26 (Keep.of_wr W27).1)
  show Gl _ _ _ _ _ _ _ _ (T27.setTop (mkF m 31 #[.val (.ref a1), .val (.ref a2), .val (.ref a3), .val (.ref a4), .val (.ref a5), .val (.long q6), .second] []))
  exact endV X27 hx Bd (hb hby d10_31) ⟨rfl, (by rw [e27]; exact ⟨K27, ((fs15.wr W21).wr W27), fs28, fs29, fs30, fs31, Fw27⟩)⟩ N27 (by decide) (by decide)
theorem pd_10 : parseMethodDescriptor "(Ljava/lang/String;Ljava/lang/String;Ljava/lang/String;Ljava/util/List;J)V" = some ⟨[(.object "java/lang/String"), (.object "java/lang/String"), (.object "java/lang/String"), (.object "java/util/List"), .long], none⟩ := by decide +kernel
theorem d12_0 : decode prog_150_method_3_code 0 = .ok (.new 8, 3) := by decide +kernel
theorem d12_3 : decode prog_150_method_3_code 3 = .ok (.dup, 1) := by decide +kernel
theorem d12_4 : decode prog_150_method_3_code 4 = .ok (.aload_n 0, 1) := by decide +kernel
theorem d12_5 : decode prog_150_method_3_code 5 = .ok (.getfield 7, 3) := by decide +kernel
theorem d12_8 : decode prog_150_method_3_code 8 = .ok (.aload_n 0, 1) := by decide +kernel
theorem d12_9 : decode prog_150_method_3_code 9 = .ok (.getfield 13, 3) := by decide +kernel
theorem d12_12 : decode prog_150_method_3_code 12 = .ok (.aload_n 0, 1) := by decide +kernel
theorem d12_13 : decode prog_150_method_3_code 13 = .ok (.getfield 16, 3) := by decide +kernel
theorem d12_16 : decode prog_150_method_3_code 16 = .ok (.aload_n 0, 1) := by decide +kernel
theorem d12_17 : decode prog_150_method_3_code 17 = .ok (.getfield 19, 3) := by decide +kernel
theorem d12_20 : decode prog_150_method_3_code 20 = .ok (.lload_n 1, 1) := by decide +kernel
theorem d12_21 : decode prog_150_method_3_code 21 = .ok (.invokespecial 56, 3) := by decide +kernel
theorem d12_24 : decode prog_150_method_3_code 24 = .ok (.areturn, 1) := by decide +kernel
theorem ef_12 (m : MethodId) (a1 : Addr) (q2 : Int64) : entryFrame m #[(.ref a1), (.long q2)] 3 = mkF m 0 #[.val (.ref a1), .val (.long q2), .second] [] := by first | (simp [entryFrame, mkF, argsToLocals, Value.category]; done) | rfl
set_option maxRecDepth 65536 in
set_option maxHeartbeats 40000000 in
theorem rm12 (l : Launch) (Z : State) (a0 : Array Value) (hw : ∀ d ∈ tables_1, d.before a0 Z = true) (ws : List Jvm.Cond) (a1 : Addr) (q2 : Int64) (w_watched_a1 : Addr) (w_id_a1 : Addr) (w_handback_a1 : Addr) (w_beside_a1 : Addr) (h0 : Heap) (n0 : Nat) (Z0 : n0 ≤ h0.size) (E_a1 : Exa Z h0 a1 "com/example/leasehold/server/Watches$Kept") (F_watched_a1 : Fld Z h0 a1 "com/example/leasehold/server/Watches$Kept" "watched" "Ljava/lang/String;" (.ref w_watched_a1)) (F_id_a1 : Fld Z h0 a1 "com/example/leasehold/server/Watches$Kept" "id" "Ljava/lang/String;" (.ref w_id_a1)) (F_handback_a1 : Fld Z h0 a1 "com/example/leasehold/server/Watches$Kept" "handback" "Ljava/lang/String;" (.ref w_handback_a1)) (F_beside_a1 : Fld Z h0 a1 "com/example/leasehold/server/Watches$Kept" "beside" "Ljava/util/List;" (.ref w_beside_a1)) :
    MetFree l (⟨"com/example/leasehold/server/Watches$Kept", "reserving", "(J)Lcom/example/leasehold/server/Watches$Kept;"⟩ : MethodName) (head1 (Jvm.Cond.code (⟨"com/example/leasehold/server/Watches$Kept", "reserving", "(J)Lcom/example/leasehold/server/Watches$Kept;"⟩ : MethodName) prog_150_method_3_code 3 (some (.object "com/example/leasehold/server/Watches$Kept")) :: ws) ({ frames := 3, cells := 1, slots := 5, locals := 43 } : Room)) (fun a U => a = #[(.ref a1), (.long q2)] ∧ Z.Warmed39 U.vm ∧ U.heap = h0) (fun _ _ _ _ _ => True) (fun _ U o U' => ∃ v L, o = .returned v ∧ QK n0 (fun v h => ∃ (x0 : Addr), v = some (.ref x0) ∧ Keep h0 h [] ∧ h0.size ≤ x0 ∧ Exa Z h x0 "com/example/leasehold/server/Watches$Kept" ∧ Fld Z h x0 "com/example/leasehold/server/Watches$Kept" "watched" "Ljava/lang/String;" (.ref w_watched_a1) ∧ Fld Z h x0 "com/example/leasehold/server/Watches$Kept" "id" "Ljava/lang/String;" (.ref w_id_a1) ∧ Fld Z h x0 "com/example/leasehold/server/Watches$Kept" "handback" "Ljava/lang/String;" (.ref w_handback_a1) ∧ Fld Z h x0 "com/example/leasehold/server/Watches$Kept" "beside" "Ljava/util/List;" (.ref w_beside_a1) ∧ Fld Z h x0 "com/example/leasehold/server/Watches$Kept" "reserved" "J" (.long q2)) v U'.heap L ∧ FrameEnd U o U' L ({ frames := 3, cells := 1, slots := 5, locals := 43 } : Room).cells ({ frames := 3, cells := 1, slots := 5, locals := 43 } : Room).slots) := by
  refine MetFree.of_bodySF (plainFor_of_name pn_8) hisR ?_
  intro p e s m args below meth c s₁ Bd hml0 hP hK
  obtain ⟨rfl, hZ, hh⟩ := hP
  have hx := Bd.exec
  have hby := Bd.bytes
  have hml : c.maxLocals = 3 := hml0
  have hown : s.vm.findClass "com/example/leasehold/server/Watches$Kept" = some m.cls := findClass_of_methodNamed Bd.named
  have hnm := (name_of_methodNamed Bd.named Bd.method).1
  have X0 : Stand p l e ({ frames := 3, cells := 1, slots := 5, locals := 43 } : Room) s m #[(.ref a1), (.long q2)] below meth c s₁ [] 0 0 := Stand.of_body Bd
  have e0 : s₁.heap = h0 := by rw [← hh, Bd.state]; rfl
  have N0 := Fr.nil n0
  refine gl_start (ef_12 m a1 q2) ?_
  show Gl p e below s n0 ({ frames := 3, cells := 1, slots := 5, locals := 43 } : Room).cells ({ frames := 3, cells := 1, slots := 5, locals := 43 } : Room).slots (fun v h => ∃ (x0 : Addr), v = some (.ref x0) ∧ Keep h0 h [] ∧ h0.size ≤ x0 ∧ Exa Z h x0 "com/example/leasehold/server/Watches$Kept" ∧ Fld Z h x0 "com/example/leasehold/server/Watches$Kept" "watched" "Ljava/lang/String;" (.ref w_watched_a1) ∧ Fld Z h x0 "com/example/leasehold/server/Watches$Kept" "id" "Ljava/lang/String;" (.ref w_id_a1) ∧ Fld Z h x0 "com/example/leasehold/server/Watches$Kept" "handback" "Ljava/lang/String;" (.ref w_handback_a1) ∧ Fld Z h x0 "com/example/leasehold/server/Watches$Kept" "beside" "Ljava/util/List;" (.ref w_beside_a1) ∧ Fld Z h x0 "com/example/leasehold/server/Watches$Kept" "reserved" "J" (.long q2)) (s₁.setTop (mkF m 0 #[.val (.ref a1), .val (.long q2), .second] []))
  obtain ⟨T1, h1, X1, e1, E1, A1, D1, -, st1⟩ := newO X0 hx hZ hown (hw _ (List.mem_of_getElem? (i := 84) rfl)) (hw _ (List.mem_of_getElem? (i := 58) rfl)) (hw _ (List.mem_of_getElem? (i := 59) rfl)) e0 (g := (mkF m 0 #[.val (.ref a1), .val (.long q2), .second] [])) rfl (hb hby d12_0) (by decide) (by decide)
  obtain ⟨o1, gq1⟩ : ∃ z, z = h0.size := ⟨_, rfl⟩
  rw [← gq1] at A1 D1 st1
  have g_o1 : n0 ≤ o1 := Nat.le_trans Z0 (Nat.le_of_eq gq1.symm)
  have ne_a1_o1 : a1 ≠ o1 := Nat.ne_of_lt (Nat.lt_of_lt_of_le E_a1.lt (Nat.le_of_eq gq1.symm))
  have F_watched_o1 : Fld Z h1 o1 "com/example/leasehold/server/Watches$Kept" "watched" "Ljava/lang/String;" .null := D1 (Or.inr (hw _ (List.mem_of_getElem? (i := 70) rfl))) (ty := (.object "java/lang/String")) (by decide)
  have F_id_o1 : Fld Z h1 o1 "com/example/leasehold/server/Watches$Kept" "id" "Ljava/lang/String;" .null := D1 (Or.inr (hw _ (List.mem_of_getElem? (i := 72) rfl))) (ty := (.object "java/lang/String")) (by decide)
  have F_handback_o1 : Fld Z h1 o1 "com/example/leasehold/server/Watches$Kept" "handback" "Ljava/lang/String;" .null := D1 (Or.inr (hw _ (List.mem_of_getElem? (i := 74) rfl))) (ty := (.object "java/lang/String")) (by decide)
  have F_beside_o1 : Fld Z h1 o1 "com/example/leasehold/server/Watches$Kept" "beside" "Ljava/util/List;" .null := D1 (Or.inr (hw _ (List.mem_of_getElem? (i := 76) rfl))) (ty := (.object "java/util/List")) (by decide)
  have F_reserved_o1 : Fld Z h1 o1 "com/example/leasehold/server/Watches$Kept" "reserved" "J" (.long (0 : Int64)) := D1 (Or.inr (hw _ (List.mem_of_getElem? (i := 78) rfl))) (ty := .long) (by decide)
  have K1 : Keep h0 h1 [] := (Keep.refl h0 []).ext E1
  have sz_o1 : h0.size ≤ o1 := Nat.le_trans (Keep.refl h0 []).1 (Nat.le_of_eq gq1.symm)
  refine go (fun t k => st1 _ k) ?_
  show Gl _ _ _ _ _ _ _ _ (T1.setTop (mkF m 3 #[.val (.ref a1), .val (.long q2), .second] [(.ref o1)]))
  refine go (fun t k => XS.dup X1.here hx rfl (hb hby d12_3) rfl rfl k) ?_
  show Gl _ _ _ _ _ _ _ _ (T1.setTop (mkF m 4 #[.val (.ref a1), .val (.long q2), .second] [(.ref o1), (.ref o1)]))
  refine go (fun t k => XS.aloadN X1.here hx rfl (hb hby d12_4) rfl rfl k) ?_
  show Gl _ _ _ _ _ _ _ _ (T1.setTop (mkF m 5 #[.val (.ref a1), .val (.long q2), .second] [(.ref a1), (.ref o1), (.ref o1)]))
  obtain ⟨T2, X2, e2, st2⟩ := getF X1 hx hZ hown (host := "") (Or.inl (hw _ (List.mem_of_getElem? (i := 69) rfl))) Via.refl e1 (F_watched_a1.ext E1) (g := (mkF m 5 #[.val (.ref a1), .val (.long q2), .second] [(.ref a1), (.ref o1), (.ref o1)])) rfl rfl (hb hby d12_5)
  refine go (fun t k => st2 _ k) ?_
  show Gl _ _ _ _ _ _ _ _ (T2.setTop (mkF m 8 #[.val (.ref a1), .val (.long q2), .second] [(.ref w_watched_a1), (.ref o1), (.ref o1)]))
  refine go (fun t k => XS.aloadN X2.here hx rfl (hb hby d12_8) rfl rfl k) ?_
  show Gl _ _ _ _ _ _ _ _ (T2.setTop (mkF m 9 #[.val (.ref a1), .val (.long q2), .second] [(.ref a1), (.ref w_watched_a1), (.ref o1), (.ref o1)]))
  obtain ⟨T3, X3, e3, st3⟩ := getF X2 hx hZ hown (host := "") (Or.inl (hw _ (List.mem_of_getElem? (i := 71) rfl))) Via.refl e2 (F_id_a1.ext E1) (g := (mkF m 9 #[.val (.ref a1), .val (.long q2), .second] [(.ref a1), (.ref w_watched_a1), (.ref o1), (.ref o1)])) rfl rfl (hb hby d12_9)
  refine go (fun t k => st3 _ k) ?_
  show Gl _ _ _ _ _ _ _ _ (T3.setTop (mkF m 12 #[.val (.ref a1), .val (.long q2), .second] [(.ref w_id_a1), (.ref w_watched_a1), (.ref o1), (.ref o1)]))
  refine go (fun t k => XS.aloadN X3.here hx rfl (hb hby d12_12) rfl rfl k) ?_
  show Gl _ _ _ _ _ _ _ _ (T3.setTop (mkF m 13 #[.val (.ref a1), .val (.long q2), .second] [(.ref a1), (.ref w_id_a1), (.ref w_watched_a1), (.ref o1), (.ref o1)]))
  obtain ⟨T4, X4, e4, st4⟩ := getF X3 hx hZ hown (host := "") (Or.inl (hw _ (List.mem_of_getElem? (i := 73) rfl))) Via.refl e3 (F_handback_a1.ext E1) (g := (mkF m 13 #[.val (.ref a1), .val (.long q2), .second] [(.ref a1), (.ref w_id_a1), (.ref w_watched_a1), (.ref o1), (.ref o1)])) rfl rfl (hb hby d12_13)
  refine go (fun t k => st4 _ k) ?_
  show Gl _ _ _ _ _ _ _ _ (T4.setTop (mkF m 16 #[.val (.ref a1), .val (.long q2), .second] [(.ref w_handback_a1), (.ref w_id_a1), (.ref w_watched_a1), (.ref o1), (.ref o1)]))
  refine go (fun t k => XS.aloadN X4.here hx rfl (hb hby d12_16) rfl rfl k) ?_
  show Gl _ _ _ _ _ _ _ _ (T4.setTop (mkF m 17 #[.val (.ref a1), .val (.long q2), .second] [(.ref a1), (.ref w_handback_a1), (.ref w_id_a1), (.ref w_watched_a1), (.ref o1), (.ref o1)]))
  obtain ⟨T5, X5, e5, st5⟩ := getF X4 hx hZ hown (host := "") (Or.inl (hw _ (List.mem_of_getElem? (i := 75) rfl))) Via.refl e4 (F_beside_a1.ext E1) (g := (mkF m 17 #[.val (.ref a1), .val (.long q2), .second] [(.ref a1), (.ref w_handback_a1), (.ref w_id_a1), (.ref w_watched_a1), (.ref o1), (.ref o1)])) rfl rfl (hb hby d12_17)
  refine go (fun t k => st5 _ k) ?_
  show Gl _ _ _ _ _ _ _ _ (T5.setTop (mkF m 20 #[.val (.ref a1), .val (.long q2), .second] [(.ref w_beside_a1), (.ref w_handback_a1), (.ref w_id_a1), (.ref w_watched_a1), (.ref o1), (.ref o1)]))
  refine go (fun t k => XS.lloadN X5.here hx rfl (hb hby d12_20) rfl  k) ?_
  show Gl _ _ _ _ _ _ _ _ (T5.setTop (mkF m 21 #[.val (.ref a1), .val (.long q2), .second] [(.long q2), (.ref w_beside_a1), (.ref w_handback_a1), (.ref w_id_a1), (.ref w_watched_a1), (.ref o1), (.ref o1)]))
  obtain ⟨_, _, ⟨T6, L6, k6, n6⟩, -, X6, ⟨Lc6, hQ6, l6, y6, z6⟩, st6⟩ := X5.specialBack hx (y := (⟨"com/example/leasehold/server/Watches$Kept", "<init>", "(Ljava/lang/String;Ljava/lang/String;Ljava/lang/String;Ljava/util/List;J)V"⟩ : MethodName)) rfl hown (mvT hZ (hw _ (List.mem_of_getElem? (i := 85) rfl))) (mvT hZ (hw _ (List.mem_of_getElem? (i := 61) rfl))) (mvT hZ (hw _ (List.mem_of_getElem? (i := 62) rfl))) (by decide) (backOf (W := 1) (rm10 l Z a0 hw [] o1 w_watched_a1 w_id_a1 w_handback_a1 w_beside_a1 q2 (.null) (.null) (.null) (.null) ((.long (0 : Int64))) h1 n0 (Nat.le_trans Z0 E1.1) A1 g_o1 F_watched_o1 F_id_o1 F_handback_o1 F_beside_o1 F_reserved_o1) hZ (hw _ (List.mem_of_getElem? (i := 62) rfl)) (hw _ (List.mem_of_getElem? (i := 59) rfl)) (by decide) (by decide)) (g := (mkF m 21 #[.val (.ref a1), .val (.long q2), .second] [(.long q2), (.ref w_beside_a1), (.ref w_handback_a1), (.ref w_id_a1), (.ref w_watched_a1), (.ref o1), (.ref o1)])) rfl (by rw [hml]; rfl) (Steps.refl _) (a := o1) (argsL := [(.ref w_watched_a1), (.ref w_id_a1), (.ref w_handback_a1), (.ref w_beside_a1), (.long q2)]) (rest := [(.ref o1)]) (lenOf pd_10 rfl) rfl (by show 2 * 0 + _ ≤ _; exact Nat.le_of_eq rfl) (hb hby d12_21) (fun _ _ => ⟨rfl, e5, (by decide : 1 + 0 ≤ _), (by decide : 5 + 0 ≤ _)⟩)
  dsimp only [Pt.U, Pt.locs, Pt.cells, Pt.slots] at X6 l6 y6 z6 st6 hQ6
  replace X6 : Stand p l e ({ frames := 3, cells := 1, slots := 5, locals := 43 } : Room) s m #[(.ref a1), (.long q2)] below meth c T6 _ 1 5 := own_mv X6 l6 y6 z6
  clear l6 y6 z6
  obtain ⟨⟨rfl, K6q, Ex6, Fq6_watched, Fq6_id, Fq6_handback, Fq6_beside, Fq6_reserved⟩, N6q⟩ := hQ6
  obtain ⟨h6, e6⟩ : ∃ z, T6.heap = z := ⟨_, rfl⟩
  rw [e6] at K6q Ex6 Fq6_watched Fq6_id Fq6_handback Fq6_beside Fq6_reserved
  have K6 : Keep h0 h6 [] := K1.trans K6q (allS (Or.inr sz_o1) all0)
  have N6 := Fr.app N0 N6q
  refine go (fun t k => st6.trans k) ?_
  have fs7 := ((F_watched_a1.ext E1).keep K6q (ninS ne_a1_o1 nin0))
  have fs8 := ((F_id_a1.ext E1).keep K6q (ninS ne_a1_o1 nin0))
  have fs9 := ((F_handback_a1.ext E1).keep K6q (ninS ne_a1_o1 nin0))
  have fs10 := ((F_beside_a1.ext E1).keep K6q (ninS ne_a1_o1 nin0))
  have zs11 := (Nat.le_trans (Nat.le_trans Z0 E1.1) K6q.1)
  show Gl _ _ _ _ _ _ _ _ (T6.setTop (mkF m 24 #[.val (.ref a1), .val (.long q2), .second] [(.ref o1)]))
  exact endR X6 hx Bd rfl (hb hby d12_24) ⟨o1, rfl, (by rw [e6]; exact ⟨K6, sz_o1, Ex6, Fq6_watched, Fq6_id, Fq6_handback, Fq6_beside, Fq6_reserved⟩)⟩ N6 (by decide) (by decide)
theorem d14_0 : decode prog_150_method_8_code 0 = .ok (.aload_n 0, 1) := by decide +kernel
theorem d14_1 : decode prog_150_method_8_code 1 = .ok (.getfield 7, 3) := by decide +kernel
theorem d14_4 : decode prog_150_method_8_code 4 = .ok (.areturn, 1) := by decide +kernel
theorem ef_14 (m : MethodId) (a1 : Addr) : entryFrame m #[(.ref a1)] 1 = mkF m 0 #[.val (.ref a1)] [] := by first | (simp [entryFrame, mkF, argsToLocals, Value.category]; done) | rfl
def b14_0 (w_watched_a1 : Addr) : Addr := w_watched_a1
set_option maxRecDepth 65536 in
set_option maxHeartbeats 40000000 in
theorem rm14 (l : Launch) (Z : State) (a0 : Array Value) (hw : ∀ d ∈ tables_1, d.before a0 Z = true) (ws : List Jvm.Cond) (a1 : Addr) (w_watched_a1 : Addr) (h0 : Heap) (n0 : Nat) (Z0 : n0 ≤ h0.size) (F_watched_a1 : Fld Z h0 a1 "com/example/leasehold/server/Watches$Kept" "watched" "Ljava/lang/String;" (.ref w_watched_a1)) :
    MetFree l (⟨"com/example/leasehold/server/Watches$Kept", "watched", "()Ljava/lang/String;"⟩ : MethodName) (head1 (Jvm.Cond.code (⟨"com/example/leasehold/server/Watches$Kept", "watched", "()Ljava/lang/String;"⟩ : MethodName) prog_150_method_8_code 1 (some (.object "java/lang/String")) :: ws) ({ frames := 0, cells := 0, slots := 0, locals := 0 } : Room)) (fun a U => a = #[(.ref a1)] ∧ Z.Warmed39 U.vm ∧ U.heap = h0) (fun _ _ _ _ _ => True) (fun _ U o U' => ∃ v L, o = .returned v ∧ QK n0 (Kv (some (.ref (b14_0 w_watched_a1))) (fun h => h = h0)) v U'.heap L ∧ FrameEnd U o U' L ({ frames := 0, cells := 0, slots := 0, locals := 0 } : Room).cells ({ frames := 0, cells := 0, slots := 0, locals := 0 } : Room).slots) := by
  refine MetFree.of_bodySF (plainFor_of_name pn_8) hisR ?_
  intro p e s m args below meth c s₁ Bd hml0 hP hK
  obtain ⟨rfl, hZ, hh⟩ := hP
  have hx := Bd.exec
  have hby := Bd.bytes
  have hml : c.maxLocals = 1 := hml0
  have hown : s.vm.findClass "com/example/leasehold/server/Watches$Kept" = some m.cls := findClass_of_methodNamed Bd.named
  have hnm := (name_of_methodNamed Bd.named Bd.method).1
  have X0 : Stand p l e ({ frames := 0, cells := 0, slots := 0, locals := 0 } : Room) s m #[(.ref a1)] below meth c s₁ [] 0 0 := Stand.of_body Bd
  have e0 : s₁.heap = h0 := by rw [← hh, Bd.state]; rfl
  have N0 := Fr.nil n0
  refine gl_start (ef_14 m a1) ?_
  show Gl p e below s n0 ({ frames := 0, cells := 0, slots := 0, locals := 0 } : Room).cells ({ frames := 0, cells := 0, slots := 0, locals := 0 } : Room).slots (Kv (some (.ref w_watched_a1)) (fun h => h = h0)) (s₁.setTop (mkF m 0 #[.val (.ref a1)] []))
  refine go (fun t k => XS.aloadN X0.here hx rfl (hb hby d14_0) rfl rfl k) ?_
  show Gl _ _ _ _ _ _ _ _ (s₁.setTop (mkF m 1 #[.val (.ref a1)] [(.ref a1)]))
  obtain ⟨T1, X1, e1, st1⟩ := getF X0 hx hZ hown (host := "") (Or.inl (hw _ (List.mem_of_getElem? (i := 69) rfl))) Via.refl e0 F_watched_a1 (g := (mkF m 1 #[.val (.ref a1)] [(.ref a1)])) rfl rfl (hb hby d14_1)
  refine go (fun t k => st1 _ k) ?_
  show Gl _ _ _ _ _ _ _ _ (T1.setTop (mkF m 4 #[.val (.ref a1)] [(.ref w_watched_a1)]))
  exact endR X1 hx Bd rfl (hb hby d14_4) ⟨rfl, e1⟩ N0 (by decide) (by decide)
theorem d16_0 : decode prog_150_method_9_code 0 = .ok (.aload_n 0, 1) := by decide +kernel
theorem d16_1 : decode prog_150_method_9_code 1 = .ok (.getfield 13, 3) := by decide +kernel
theorem d16_4 : decode prog_150_method_9_code 4 = .ok (.areturn, 1) := by decide +kernel
theorem ef_16 (m : MethodId) (a1 : Addr) : entryFrame m #[(.ref a1)] 1 = mkF m 0 #[.val (.ref a1)] [] := by first | (simp [entryFrame, mkF, argsToLocals, Value.category]; done) | rfl
def b16_0 (w_id_a1 : Addr) : Addr := w_id_a1
set_option maxRecDepth 65536 in
set_option maxHeartbeats 40000000 in
theorem rm16 (l : Launch) (Z : State) (a0 : Array Value) (hw : ∀ d ∈ tables_1, d.before a0 Z = true) (ws : List Jvm.Cond) (a1 : Addr) (w_id_a1 : Addr) (h0 : Heap) (n0 : Nat) (Z0 : n0 ≤ h0.size) (F_id_a1 : Fld Z h0 a1 "com/example/leasehold/server/Watches$Kept" "id" "Ljava/lang/String;" (.ref w_id_a1)) :
    MetFree l (⟨"com/example/leasehold/server/Watches$Kept", "id", "()Ljava/lang/String;"⟩ : MethodName) (head1 (Jvm.Cond.code (⟨"com/example/leasehold/server/Watches$Kept", "id", "()Ljava/lang/String;"⟩ : MethodName) prog_150_method_9_code 1 (some (.object "java/lang/String")) :: ws) ({ frames := 0, cells := 0, slots := 0, locals := 0 } : Room)) (fun a U => a = #[(.ref a1)] ∧ Z.Warmed39 U.vm ∧ U.heap = h0) (fun _ _ _ _ _ => True) (fun _ U o U' => ∃ v L, o = .returned v ∧ QK n0 (Kv (some (.ref (b16_0 w_id_a1))) (fun h => h = h0)) v U'.heap L ∧ FrameEnd U o U' L ({ frames := 0, cells := 0, slots := 0, locals := 0 } : Room).cells ({ frames := 0, cells := 0, slots := 0, locals := 0 } : Room).slots) := by
  refine MetFree.of_bodySF (plainFor_of_name pn_8) hisR ?_
  intro p e s m args below meth c s₁ Bd hml0 hP hK
  obtain ⟨rfl, hZ, hh⟩ := hP
  have hx := Bd.exec
  have hby := Bd.bytes
  have hml : c.maxLocals = 1 := hml0
  have hown : s.vm.findClass "com/example/leasehold/server/Watches$Kept" = some m.cls := findClass_of_methodNamed Bd.named
  have hnm := (name_of_methodNamed Bd.named Bd.method).1
  have X0 : Stand p l e ({ frames := 0, cells := 0, slots := 0, locals := 0 } : Room) s m #[(.ref a1)] below meth c s₁ [] 0 0 := Stand.of_body Bd
  have e0 : s₁.heap = h0 := by rw [← hh, Bd.state]; rfl
  have N0 := Fr.nil n0
  refine gl_start (ef_16 m a1) ?_
  show Gl p e below s n0 ({ frames := 0, cells := 0, slots := 0, locals := 0 } : Room).cells ({ frames := 0, cells := 0, slots := 0, locals := 0 } : Room).slots (Kv (some (.ref w_id_a1)) (fun h => h = h0)) (s₁.setTop (mkF m 0 #[.val (.ref a1)] []))
  refine go (fun t k => XS.aloadN X0.here hx rfl (hb hby d16_0) rfl rfl k) ?_
  show Gl _ _ _ _ _ _ _ _ (s₁.setTop (mkF m 1 #[.val (.ref a1)] [(.ref a1)]))
  obtain ⟨T1, X1, e1, st1⟩ := getF X0 hx hZ hown (host := "") (Or.inl (hw _ (List.mem_of_getElem? (i := 71) rfl))) Via.refl e0 F_id_a1 (g := (mkF m 1 #[.val (.ref a1)] [(.ref a1)])) rfl rfl (hb hby d16_1)
  refine go (fun t k => st1 _ k) ?_
  show Gl _ _ _ _ _ _ _ _ (T1.setTop (mkF m 4 #[.val (.ref a1)] [(.ref w_id_a1)]))
  exact endR X1 hx Bd rfl (hb hby d16_4) ⟨rfl, e1⟩ N0 (by decide) (by decide)
theorem d17_0 : decode prog_150_method_10_code 0 = .ok (.aload_n 0, 1) := by decide +kernel
theorem d17_1 : decode prog_150_method_10_code 1 = .ok (.getfield 16, 3) := by decide +kernel
theorem d17_4 : decode prog_150_method_10_code 4 = .ok (.areturn, 1) := by decide +kernel
theorem ef_17 (m : MethodId) (a1 : Addr) : entryFrame m #[(.ref a1)] 1 = mkF m 0 #[.val (.ref a1)] [] := by first | (simp [entryFrame, mkF, argsToLocals, Value.category]; done) | rfl
def b17_0 (w_handback_a1 : Addr) : Addr := w_handback_a1
set_option maxRecDepth 65536 in
set_option maxHeartbeats 40000000 in
theorem rm17 (l : Launch) (Z : State) (a0 : Array Value) (hw : ∀ d ∈ tables_1, d.before a0 Z = true) (ws : List Jvm.Cond) (a1 : Addr) (w_handback_a1 : Addr) (h0 : Heap) (n0 : Nat) (Z0 : n0 ≤ h0.size) (F_handback_a1 : Fld Z h0 a1 "com/example/leasehold/server/Watches$Kept" "handback" "Ljava/lang/String;" (.ref w_handback_a1)) :
    MetFree l (⟨"com/example/leasehold/server/Watches$Kept", "handback", "()Ljava/lang/String;"⟩ : MethodName) (head1 (Jvm.Cond.code (⟨"com/example/leasehold/server/Watches$Kept", "handback", "()Ljava/lang/String;"⟩ : MethodName) prog_150_method_10_code 1 (some (.object "java/lang/String")) :: ws) ({ frames := 0, cells := 0, slots := 0, locals := 0 } : Room)) (fun a U => a = #[(.ref a1)] ∧ Z.Warmed39 U.vm ∧ U.heap = h0) (fun _ _ _ _ _ => True) (fun _ U o U' => ∃ v L, o = .returned v ∧ QK n0 (Kv (some (.ref (b17_0 w_handback_a1))) (fun h => h = h0)) v U'.heap L ∧ FrameEnd U o U' L ({ frames := 0, cells := 0, slots := 0, locals := 0 } : Room).cells ({ frames := 0, cells := 0, slots := 0, locals := 0 } : Room).slots) := by
  refine MetFree.of_bodySF (plainFor_of_name pn_8) hisR ?_
  intro p e s m args below meth c s₁ Bd hml0 hP hK
  obtain ⟨rfl, hZ, hh⟩ := hP
  have hx := Bd.exec
  have hby := Bd.bytes
  have hml : c.maxLocals = 1 := hml0
  have hown : s.vm.findClass "com/example/leasehold/server/Watches$Kept" = some m.cls := findClass_of_methodNamed Bd.named
  have hnm := (name_of_methodNamed Bd.named Bd.method).1
  have X0 : Stand p l e ({ frames := 0, cells := 0, slots := 0, locals := 0 } : Room) s m #[(.ref a1)] below meth c s₁ [] 0 0 := Stand.of_body Bd
  have e0 : s₁.heap = h0 := by rw [← hh, Bd.state]; rfl
  have N0 := Fr.nil n0
  refine gl_start (ef_17 m a1) ?_
  show Gl p e below s n0 ({ frames := 0, cells := 0, slots := 0, locals := 0 } : Room).cells ({ frames := 0, cells := 0, slots := 0, locals := 0 } : Room).slots (Kv (some (.ref w_handback_a1)) (fun h => h = h0)) (s₁.setTop (mkF m 0 #[.val (.ref a1)] []))
  refine go (fun t k => XS.aloadN X0.here hx rfl (hb hby d17_0) rfl rfl k) ?_
  show Gl _ _ _ _ _ _ _ _ (s₁.setTop (mkF m 1 #[.val (.ref a1)] [(.ref a1)]))
  obtain ⟨T1, X1, e1, st1⟩ := getF X0 hx hZ hown (host := "") (Or.inl (hw _ (List.mem_of_getElem? (i := 73) rfl))) Via.refl e0 F_handback_a1 (g := (mkF m 1 #[.val (.ref a1)] [(.ref a1)])) rfl rfl (hb hby d17_1)
  refine go (fun t k => st1 _ k) ?_
  show Gl _ _ _ _ _ _ _ _ (T1.setTop (mkF m 4 #[.val (.ref a1)] [(.ref w_handback_a1)]))
  exact endR X1 hx Bd rfl (hb hby d17_4) ⟨rfl, e1⟩ N0 (by decide) (by decide)
theorem d18_0 : decode prog_150_method_11_code 0 = .ok (.aload_n 0, 1) := by decide +kernel
theorem d18_1 : decode prog_150_method_11_code 1 = .ok (.getfield 19, 3) := by decide +kernel
theorem d18_4 : decode prog_150_method_11_code 4 = .ok (.areturn, 1) := by decide +kernel
theorem ef_18 (m : MethodId) (a1 : Addr) : entryFrame m #[(.ref a1)] 1 = mkF m 0 #[.val (.ref a1)] [] := by first | (simp [entryFrame, mkF, argsToLocals, Value.category]; done) | rfl
def b18_0 (w_beside_a1 : Addr) : Addr := w_beside_a1
set_option maxRecDepth 65536 in
set_option maxHeartbeats 40000000 in
theorem rm18 (l : Launch) (Z : State) (a0 : Array Value) (hw : ∀ d ∈ tables_1, d.before a0 Z = true) (ws : List Jvm.Cond) (a1 : Addr) (w_beside_a1 : Addr) (h0 : Heap) (n0 : Nat) (Z0 : n0 ≤ h0.size) (F_beside_a1 : Fld Z h0 a1 "com/example/leasehold/server/Watches$Kept" "beside" "Ljava/util/List;" (.ref w_beside_a1)) :
    MetFree l (⟨"com/example/leasehold/server/Watches$Kept", "beside", "()Ljava/util/List;"⟩ : MethodName) (head1 (Jvm.Cond.code (⟨"com/example/leasehold/server/Watches$Kept", "beside", "()Ljava/util/List;"⟩ : MethodName) prog_150_method_11_code 1 (some (.object "java/util/List")) :: ws) ({ frames := 0, cells := 0, slots := 0, locals := 0 } : Room)) (fun a U => a = #[(.ref a1)] ∧ Z.Warmed39 U.vm ∧ U.heap = h0) (fun _ _ _ _ _ => True) (fun _ U o U' => ∃ v L, o = .returned v ∧ QK n0 (Kv (some (.ref (b18_0 w_beside_a1))) (fun h => h = h0)) v U'.heap L ∧ FrameEnd U o U' L ({ frames := 0, cells := 0, slots := 0, locals := 0 } : Room).cells ({ frames := 0, cells := 0, slots := 0, locals := 0 } : Room).slots) := by
  refine MetFree.of_bodySF (plainFor_of_name pn_8) hisR ?_
  intro p e s m args below meth c s₁ Bd hml0 hP hK
  obtain ⟨rfl, hZ, hh⟩ := hP
  have hx := Bd.exec
  have hby := Bd.bytes
  have hml : c.maxLocals = 1 := hml0
  have hown : s.vm.findClass "com/example/leasehold/server/Watches$Kept" = some m.cls := findClass_of_methodNamed Bd.named
  have hnm := (name_of_methodNamed Bd.named Bd.method).1
  have X0 : Stand p l e ({ frames := 0, cells := 0, slots := 0, locals := 0 } : Room) s m #[(.ref a1)] below meth c s₁ [] 0 0 := Stand.of_body Bd
  have e0 : s₁.heap = h0 := by rw [← hh, Bd.state]; rfl
  have N0 := Fr.nil n0
  refine gl_start (ef_18 m a1) ?_
  show Gl p e below s n0 ({ frames := 0, cells := 0, slots := 0, locals := 0 } : Room).cells ({ frames := 0, cells := 0, slots := 0, locals := 0 } : Room).slots (Kv (some (.ref w_beside_a1)) (fun h => h = h0)) (s₁.setTop (mkF m 0 #[.val (.ref a1)] []))
  refine go (fun t k => XS.aloadN X0.here hx rfl (hb hby d18_0) rfl rfl k) ?_
  show Gl _ _ _ _ _ _ _ _ (s₁.setTop (mkF m 1 #[.val (.ref a1)] [(.ref a1)]))
  obtain ⟨T1, X1, e1, st1⟩ := getF X0 hx hZ hown (host := "") (Or.inl (hw _ (List.mem_of_getElem? (i := 75) rfl))) Via.refl e0 F_beside_a1 (g := (mkF m 1 #[.val (.ref a1)] [(.ref a1)])) rfl rfl (hb hby d18_1)
  refine go (fun t k => st1 _ k) ?_
  show Gl _ _ _ _ _ _ _ _ (T1.setTop (mkF m 4 #[.val (.ref a1)] [(.ref w_beside_a1)]))
  exact endR X1 hx Bd rfl (hb hby d18_4) ⟨rfl, e1⟩ N0 (by decide) (by decide)
theorem d13_0 : decode prog_150_method_12_code 0 = .ok (.aload_n 0, 1) := by decide +kernel
theorem d13_1 : decode prog_150_method_12_code 1 = .ok (.getfield 23, 3) := by decide +kernel
theorem d13_4 : decode prog_150_method_12_code 4 = .ok (.lreturn, 1) := by decide +kernel
theorem ef_13 (m : MethodId) (a1 : Addr) : entryFrame m #[(.ref a1)] 1 = mkF m 0 #[.val (.ref a1)] [] := by first | (simp [entryFrame, mkF, argsToLocals, Value.category]; done) | rfl
def b13_0 (w_reserved_a1 : Int64) : Int64 := w_reserved_a1
set_option maxRecDepth 65536 in
set_option maxHeartbeats 40000000 in
theorem rm13 (l : Launch) (Z : State) (a0 : Array Value) (hw : ∀ d ∈ tables_1, d.before a0 Z = true) (ws : List Jvm.Cond) (a1 : Addr) (w_reserved_a1 : Int64) (h0 : Heap) (n0 : Nat) (Z0 : n0 ≤ h0.size) (F_reserved_a1 : Fld Z h0 a1 "com/example/leasehold/server/Watches$Kept" "reserved" "J" (.long w_reserved_a1)) :
    MetFree l (⟨"com/example/leasehold/server/Watches$Kept", "reserved", "()J"⟩ : MethodName) (head1 (Jvm.Cond.code (⟨"com/example/leasehold/server/Watches$Kept", "reserved", "()J"⟩ : MethodName) prog_150_method_12_code 1 (some .long) :: ws) ({ frames := 0, cells := 0, slots := 0, locals := 0 } : Room)) (fun a U => a = #[(.ref a1)] ∧ Z.Warmed39 U.vm ∧ U.heap = h0) (fun _ _ _ _ _ => True) (fun _ U o U' => ∃ v L, o = .returned v ∧ QK n0 (Kv (some (.long (b13_0 w_reserved_a1))) (fun h => h = h0)) v U'.heap L ∧ FrameEnd U o U' L ({ frames := 0, cells := 0, slots := 0, locals := 0 } : Room).cells ({ frames := 0, cells := 0, slots := 0, locals := 0 } : Room).slots) := by
  refine MetFree.of_bodySF (plainFor_of_name pn_8) hisR ?_
  intro p e s m args below meth c s₁ Bd hml0 hP hK
  obtain ⟨rfl, hZ, hh⟩ := hP
  have hx := Bd.exec
  have hby := Bd.bytes
  have hml : c.maxLocals = 1 := hml0
  have hown : s.vm.findClass "com/example/leasehold/server/Watches$Kept" = some m.cls := findClass_of_methodNamed Bd.named
  have hnm := (name_of_methodNamed Bd.named Bd.method).1
  have X0 : Stand p l e ({ frames := 0, cells := 0, slots := 0, locals := 0 } : Room) s m #[(.ref a1)] below meth c s₁ [] 0 0 := Stand.of_body Bd
  have e0 : s₁.heap = h0 := by rw [← hh, Bd.state]; rfl
  have N0 := Fr.nil n0
  refine gl_start (ef_13 m a1) ?_
  show Gl p e below s n0 ({ frames := 0, cells := 0, slots := 0, locals := 0 } : Room).cells ({ frames := 0, cells := 0, slots := 0, locals := 0 } : Room).slots (Kv (some (.long w_reserved_a1)) (fun h => h = h0)) (s₁.setTop (mkF m 0 #[.val (.ref a1)] []))
  refine go (fun t k => XS.aloadN X0.here hx rfl (hb hby d13_0) rfl rfl k) ?_
  show Gl _ _ _ _ _ _ _ _ (s₁.setTop (mkF m 1 #[.val (.ref a1)] [(.ref a1)]))
  obtain ⟨T1, X1, e1, st1⟩ := getF X0 hx hZ hown (host := "") (Or.inl (hw _ (List.mem_of_getElem? (i := 77) rfl))) Via.refl e0 F_reserved_a1 (g := (mkF m 1 #[.val (.ref a1)] [(.ref a1)])) rfl rfl (hb hby d13_1)
  refine go (fun t k => st1 _ k) ?_
  show Gl _ _ _ _ _ _ _ _ (T1.setTop (mkF m 4 #[.val (.ref a1)] [(.long w_reserved_a1)]))
  exact endJ X1 hx Bd (hb hby d13_4) ⟨rfl, e1⟩ N0 (by decide) (by decide)
theorem d15_0 : decode jdk_42_method_66_code 0 = .ok (.aload_n 0, 1) := by decide +kernel
theorem d15_1 : decode jdk_42_method_66_code 1 = .ok (.aload_n 1, 1) := by decide +kernel
theorem d15_2 : decode jdk_42_method_66_code 2 = .ok (.if_acmp .ne 5, 3) := by decide +kernel
theorem d15_5 : decode jdk_42_method_66_code 5 = .ok (.iconst 1, 1) := by decide +kernel
theorem d15_6 : decode jdk_42_method_66_code 6 = .ok (.ireturn, 1) := by decide +kernel
theorem ef_15 (m : MethodId) (a1 : Addr) : entryFrame m #[(.ref a1), (.ref a1)] 3 = mkF m 0 #[.val (.ref a1), .val (.ref a1), .unset] [] := by first | (simp [entryFrame, mkF, argsToLocals, Value.category]; done) | rfl
def b15_0  : Int32 := (nar .boolean (1 : Int32))
set_option maxRecDepth 65536 in
set_option maxHeartbeats 40000000 in
theorem rm15 (l : Launch) (Z : State) (a0 : Array Value) (hw : ∀ d ∈ tables_1, d.before a0 Z = true) (ws : List Jvm.Cond) (a1 : Addr) (h0 : Heap) (n0 : Nat) (Z0 : n0 ≤ h0.size) :
    MetFree l (⟨"java/lang/String", "equals", "(Ljava/lang/Object;)Z"⟩ : MethodName) (head1 (Jvm.Cond.code (⟨"java/lang/String", "equals", "(Ljava/lang/Object;)Z"⟩ : MethodName) jdk_42_method_66_code 3 (some .boolean) :: ws) ({ frames := 0, cells := 0, slots := 0, locals := 0 } : Room)) (fun a U => a = #[(.ref a1), (.ref a1)] ∧ Z.Warmed39 U.vm ∧ U.heap = h0) (fun _ _ _ _ _ => True) (fun _ U o U' => ∃ v L, o = .returned v ∧ QK n0 (Kv (some (.int b15_0)) (fun h => h = h0)) v U'.heap L ∧ FrameEnd U o U' L ({ frames := 0, cells := 0, slots := 0, locals := 0 } : Room).cells ({ frames := 0, cells := 0, slots := 0, locals := 0 } : Room).slots) := by
  refine MetFree.of_bodySF (plainFor_of_name pn_1) hisR ?_
  intro p e s m args below meth c s₁ Bd hml0 hP hK
  obtain ⟨rfl, hZ, hh⟩ := hP
  have hx := Bd.exec
  have hby := Bd.bytes
  have hml : c.maxLocals = 3 := hml0
  have hown : s.vm.findClass "java/lang/String" = some m.cls := findClass_of_methodNamed Bd.named
  have hnm := (name_of_methodNamed Bd.named Bd.method).1
  have X0 : Stand p l e ({ frames := 0, cells := 0, slots := 0, locals := 0 } : Room) s m #[(.ref a1), (.ref a1)] below meth c s₁ [] 0 0 := Stand.of_body Bd
  have e0 : s₁.heap = h0 := by rw [← hh, Bd.state]; rfl
  have N0 := Fr.nil n0
  refine gl_start (ef_15 m a1) ?_
  show Gl p e below s n0 ({ frames := 0, cells := 0, slots := 0, locals := 0 } : Room).cells ({ frames := 0, cells := 0, slots := 0, locals := 0 } : Room).slots (Kv (some (.int (nar .boolean (1 : Int32)))) (fun h => h = h0)) (s₁.setTop (mkF m 0 #[.val (.ref a1), .val (.ref a1), .unset] []))
  refine go (fun t k => XS.aloadN X0.here hx rfl (hb hby d15_0) rfl rfl k) ?_
  show Gl _ _ _ _ _ _ _ _ (s₁.setTop (mkF m 1 #[.val (.ref a1), .val (.ref a1), .unset] [(.ref a1)]))
  refine go (fun t k => XS.aloadN X0.here hx rfl (hb hby d15_1) rfl rfl k) ?_
  show Gl _ _ _ _ _ _ _ _ (s₁.setTop (mkF m 2 #[.val (.ref a1), .val (.ref a1), .unset] [(.ref a1), (.ref a1)]))
  refine go (fun t k => Jvm.RoadKit.acmp (g := (mkF m 2 #[.val (.ref a1), .val (.ref a1), .unset] [(.ref a1), (.ref a1)])) X0 hx rfl rfl rfl (pc0 := 2) (pc' := 5) (same := true) rfl (hb hby d15_2) rfl (decide_eq_true rfl) (by decide) (by decide) k) ?_
  show Gl _ _ _ _ _ _ _ _ (s₁.setTop (mkF m 5 #[.val (.ref a1), .val (.ref a1), .unset] []))
  refine go (fun t k => XS.iconst X0.here hx rfl (hb hby d15_5) k) ?_
  show Gl _ _ _ _ _ _ _ _ (s₁.setTop (mkF m 6 #[.val (.ref a1), .val (.ref a1), .unset] [(.int (1 : Int32))]))
  exact endN X0 hx Bd (t := .boolean) (by simp) (hb hby d15_6) ⟨rfl, e0⟩ N0 (by decide) (by decide)
theorem own_c255 (x : Int32) : ¬ ((255 : Int32) < ((x &&& (255 : Int32)).toUInt32.toUInt16.toUInt32.toInt32)) := by
  have h : ∀ u : UInt16, (u.toUInt32.toInt32).toInt = u.toNat := fun u => by
    have hu := u.toNat_lt
    have e : (u.toUInt32.toInt32).toInt = u.toUInt32.toBitVec.toInt := rfl
    rw [e, BitVec.toInt_eq_toNat_cond]
    have e2 : u.toUInt32.toBitVec.toNat = u.toNat := by simp
    rw [e2]; split <;> omega
  rw [Int32.lt_iff_toInt_lt, h]
  have e3 : ((x &&& (255 : Int32)).toUInt32.toUInt16).toNat = ((x &&& (255 : Int32)).toUInt32.toNat) % 2 ^ 16 := UInt32.toNat_toUInt16 _
  have e4 : (x &&& (255 : Int32)).toUInt32.toNat = x.toBitVec.toNat &&& 255 := rfl
  have e5 : x.toBitVec.toNat &&& 255 ≤ 255 := Nat.and_le_right
  rw [e3, e4]; simp only [Int32.reduceToInt]; omega
theorem own_enc (x : Int32) : ¬ (b2_0 ((x &&& (255 : Int32)).toUInt32.toUInt16.toUInt32.toInt32) = (0 : Int32)) := by
  unfold b2_0
  rw [if_neg (own_c255 x)]; decide
theorem own_lt {n : Int32} (h : n < (1 : Int32)) : n < (2 : Int32) := by
  rw [Int32.lt_iff_toInt_lt] at h ⊢
  simp only [Int32.reduceToInt] at h ⊢; omega
theorem pd_11 : parseMethodDescriptor "(C)Ljava/lang/String;" = some ⟨[.char], some (.object "java/lang/String")⟩ := by decide +kernel
theorem pd_12 : parseMethodDescriptor "()I" = some ⟨[], some .int⟩ := by decide +kernel
theorem pd_13 : parseMethodDescriptor "(J)Lcom/example/leasehold/server/Watches$Kept;" = some ⟨[.long], some (.object "com/example/leasehold/server/Watches$Kept")⟩ := by decide +kernel
theorem pd_14 : parseMethodDescriptor "()J" = some ⟨[], some .long⟩ := by decide +kernel
theorem pd_15 : parseMethodDescriptor "()Ljava/lang/String;" = some ⟨[], some (.object "java/lang/String")⟩ := by decide +kernel
theorem pd_16 : parseMethodDescriptor "(Ljava/lang/Object;)Z" = some ⟨[(.object "java/lang/Object")], some .boolean⟩ := by decide +kernel
theorem pd_17 : parseMethodDescriptor "()Ljava/util/List;" = some ⟨[], some (.object "java/util/List")⟩ := by decide +kernel
theorem pn_9 : plainName "com/example/leasehold/server/KeptReservingPinLaw" = true := by first | (simp [plainName, overriddenIn]; done) | decide +kernel
theorem ef_0 (m : MethodId) (q1 : Int64) (q2 : Int64) (p3 : Int32) (p4 : Int32) : entryFrame m #[(.long q1), (.long q2), (.int p3), (.int p4)] maxLocals = mkF m 0 #[.val (.long q1), .second, .val (.long q2), .second, .val (.int p3), .val (.int p4), .unset, .unset, .unset, .unset, .unset, .unset, .unset, .unset, .unset, .unset, .unset] [] := by first | (simp [entryFrame, mkF, argsToLocals, Value.category, maxLocals]; done) | rfl
def b0_0 (q1 : Int64) (q2 : Int64) (p4 : Int32) : Int32 := (if (((p4.toUInt32 >>> ((16 : Int32) &&& 31).toUInt32).toInt32) &&& (3 : Int32)) < (1 : Int32) then (if q2 = q2 then (if q1 = q1 then (nar .boolean (1 : Int32)) else (nar .boolean (0 : Int32))) else (nar .boolean (0 : Int32))) else (if (((p4.toUInt32 >>> ((16 : Int32) &&& 31).toUInt32).toInt32) &&& (3 : Int32)) < (2 : Int32) then (if q2 = q2 then (if q1 = q1 then (nar .boolean (1 : Int32)) else (nar .boolean (0 : Int32))) else (nar .boolean (0 : Int32))) else (if q2 = q2 then (if q1 = q1 then (nar .boolean (1 : Int32)) else (nar .boolean (0 : Int32))) else (nar .boolean (0 : Int32)))))
set_option maxRecDepth 65536 in
set_option maxHeartbeats 40000000 in
theorem rm0 (l : Launch) (Z : State) (a0 : Array Value) (hw : ∀ d ∈ tables_1, d.before a0 Z = true) (ws : List Jvm.Cond) (q1 : Int64) (q2 : Int64) (p3 : Int32) (p4 : Int32) (w_COMPACT_STRINGS : Int32) (w_DEFAULTCAPACITY_EMPTY_ELEMENTDATA : Addr) (kd : ClassId) (h0 : Heap) (n0 : Nat) (Z0 : n0 ≤ h0.size) (S_COMPACT_STRINGS : Sta Z h0 "java/lang/String" "COMPACT_STRINGS" "Z" (.int w_COMPACT_STRINGS)) (S_DEFAULTCAPACITY_EMPTY_ELEMENTDATA : Sta Z h0 "java/util/ArrayList" "DEFAULTCAPACITY_EMPTY_ELEMENTDATA" "[Ljava/lang/Object;" (.ref w_DEFAULTCAPACITY_EMPTY_ELEMENTDATA)) (V_d : Arv Z h0 w_DEFAULTCAPACITY_EMPTY_ELEMENTDATA kd (.object "java/lang/Object") (0 : Int32) [] .null) (hcs : ¬ (w_COMPACT_STRINGS = (0 : Int32))) :
    MetFree l x (head1 (Jvm.Cond.code x code maxLocals ret :: ws) room_1) (fun a U => a = #[(.long q1), (.long q2), (.int p3), (.int p4)] ∧ Z.Warmed39 U.vm ∧ U.heap = h0) (fun _ _ _ _ _ => True) (fun _ U o U' => ∃ v L, o = .returned v ∧ QK n0 (Kv (some (.int (b0_0 q1 q2 p4))) (fun _ => True)) v U'.heap L ∧ FrameEnd U o U' L room_1.cells room_1.slots) := by
  refine MetFree.of_bodySF (plainFor_of_name pn_9) hisR ?_
  intro p e s m args below meth c s₁ Bd hml0 hP hK
  obtain ⟨rfl, hZ, hh⟩ := hP
  have hx := Bd.exec
  have hby := Bd.bytes
  have hml : c.maxLocals = 17 := hml0
  have hown : s.vm.findClass "com/example/leasehold/server/KeptReservingPinLaw" = some m.cls := findClass_of_methodNamed Bd.named
  have hnm := (name_of_methodNamed Bd.named Bd.method).1
  have X0 : Stand p l e room_1 s m #[(.long q1), (.long q2), (.int p3), (.int p4)] below meth c s₁ [] 0 0 := Stand.of_body Bd
  have e0 : s₁.heap = h0 := by rw [← hh, Bd.state]; rfl
  have N0 := Fr.nil n0
  refine gl_start (ef_0 m q1 q2 p3 p4) ?_
  show Gl p e below s n0 room_1.cells room_1.slots (Kv (some (.int (if (((p4.toUInt32 >>> ((16 : Int32) &&& 31).toUInt32).toInt32) &&& (3 : Int32)) < (1 : Int32) then (if q2 = q2 then (if q1 = q1 then (nar .boolean (1 : Int32)) else (nar .boolean (0 : Int32))) else (nar .boolean (0 : Int32))) else (if (((p4.toUInt32 >>> ((16 : Int32) &&& 31).toUInt32).toInt32) &&& (3 : Int32)) < (2 : Int32) then (if q2 = q2 then (if q1 = q1 then (nar .boolean (1 : Int32)) else (nar .boolean (0 : Int32))) else (nar .boolean (0 : Int32))) else (if q2 = q2 then (if q1 = q1 then (nar .boolean (1 : Int32)) else (nar .boolean (0 : Int32))) else (nar .boolean (0 : Int32))))))) (fun _ => True)) (s₁.setTop (mkF m 0 #[.val (.long q1), .second, .val (.long q2), .second, .val (.int p3), .val (.int p4), .unset, .unset, .unset, .unset, .unset, .unset, .unset, .unset, .unset, .unset, .unset] []))
  refine go (fun t k => XS.iload X0.here hx rfl (hb hby at_0) rfl  k) ?_
  have fs1 := S_DEFAULTCAPACITY_EMPTY_ELEMENTDATA
  show Gl _ _ _ _ _ _ _ _ (s₁.setTop (mkF m 2 #[.val (.long q1), .second, .val (.long q2), .second, .val (.int p3), .val (.int p4), .unset, .unset, .unset, .unset, .unset, .unset, .unset, .unset, .unset, .unset, .unset] [(.int p3)]))
  refine go (fun t k => XS.sipush X0.here hx rfl (hb hby at_2) k) ?_
  show Gl _ _ _ _ _ _ _ _ (s₁.setTop (mkF m 5 #[.val (.long q1), .second, .val (.long q2), .second, .val (.int p3), .val (.int p4), .unset, .unset, .unset, .unset, .unset, .unset, .unset, .unset, .unset, .unset, .unset] [(.int (255 : Int32)), (.int p3)]))
  refine go (fun t k => XS.iand X0.here hx rfl (hb hby at_5) rfl k) ?_
  show Gl _ _ _ _ _ _ _ _ (s₁.setTop (mkF m 6 #[.val (.long q1), .second, .val (.long q2), .second, .val (.int p3), .val (.int p4), .unset, .unset, .unset, .unset, .unset, .unset, .unset, .unset, .unset, .unset, .unset] [(.int (p3 &&& (255 : Int32)))]))
  refine go (fun t k => XS.i2c X0.here hx rfl (hb hby at_6) rfl k) ?_
  show Gl _ _ _ _ _ _ _ _ (s₁.setTop (mkF m 7 #[.val (.long q1), .second, .val (.long q2), .second, .val (.int p3), .val (.int p4), .unset, .unset, .unset, .unset, .unset, .unset, .unset, .unset, .unset, .unset, .unset] [(.int ((p3 &&& (255 : Int32)).toUInt32.toUInt16.toUInt32.toInt32))]))
  obtain ⟨_, _, ⟨T2, L2, k2, n2⟩, -, X2, ⟨Lc2, hQ2, l2, y2, z2⟩, st2⟩ := Jvm.LawKit.callS X0 hx (y := (⟨"java/lang/String", "valueOf", "(C)Ljava/lang/String;"⟩ : MethodName)) hown (mvT hZ (hw _ (List.mem_of_getElem? (i := 0) rfl))) (mvT hZ (hw _ (List.mem_of_getElem? (i := 1) rfl))) (mvT hZ (hw _ (List.mem_of_getElem? (i := 2) rfl))) (mvT hZ (hw _ (List.mem_of_getElem? (i := 3) rfl))) (by decide) (backOf (W := 0) (rm1 l Z a0 hw [] ((p3 &&& (255 : Int32)).toUInt32.toUInt16.toUInt32.toInt32) w_COMPACT_STRINGS h0 n0 Z0 S_COMPACT_STRINGS hcs (own_enc _)) hZ (hw _ (List.mem_of_getElem? (i := 3) rfl)) (hw _ (List.mem_of_getElem? (i := 2) rfl)) (by decide) (by decide)) (g := (mkF m 7 #[.val (.long q1), .second, .val (.long q2), .second, .val (.int p3), .val (.int p4), .unset, .unset, .unset, .unset, .unset, .unset, .unset, .unset, .unset, .unset, .unset] [(.int ((p3 &&& (255 : Int32)).toUInt32.toUInt16.toUInt32.toInt32))])) rfl (by rw [hml]; rfl) (argsL := [(.int ((p3 &&& (255 : Int32)).toUInt32.toUInt16.toUInt32.toInt32))]) (rest := []) (lenOf pd_11 rfl) rfl (by show 2 * 0 + _ ≤ _; exact Nat.le_of_eq rfl) (hb hby at_7) (fun _ _ => ⟨rfl, e0, (by decide : 0 + 2 ≤ _), (by decide : 0 + 5 ≤ _)⟩)
  dsimp only [Pt.U, Pt.locs, Pt.cells, Pt.slots] at X2 l2 y2 z2 st2 hQ2
  replace X2 : Stand p l e room_1 s m #[(.long q1), (.long q2), (.int p3), (.int p4)] below meth c T2 _ 2 5 := own_mv X2 l2 y2 z2
  clear l2 y2 z2
  obtain ⟨⟨y2_x0, rfl, K2q, so2_0, Fo2_0⟩, N2q⟩ := hQ2
  obtain ⟨h2, e2⟩ : ∃ z, T2.heap = z := ⟨_, rfl⟩
  rw [e2] at K2q Fo2_0
  have K2 : Keep h0 h2 [] := (Keep.refl h0 []).trans K2q all0
  have g_y2_x0 : n0 ≤ y2_x0 := Nat.le_trans Z0 so2_0
  have sz_y2_x0 : h0.size ≤ y2_x0 := Nat.le_trans (Keep.refl h0 []).1 so2_0
  have ne_w_DEFAULTCAPACITY_EMPTY_ELEMENTDATA_y2_x0 : w_DEFAULTCAPACITY_EMPTY_ELEMENTDATA ≠ y2_x0 := Nat.ne_of_lt (Nat.lt_of_lt_of_le V_d.lt so2_0)
  have N2 := Fr.app N0 N2q
  refine go (fun t k => st2 _ k) ?_
  have fs3 := (sta_keepN S_COMPACT_STRINGS K2q ns0)
  show Gl _ _ _ _ _ _ _ _ (T2.setTop (mkF m 10 #[.val (.long q1), .second, .val (.long q2), .second, .val (.int p3), .val (.int p4), .unset, .unset, .unset, .unset, .unset, .unset, .unset, .unset, .unset, .unset, .unset] [(.ref y2_x0)]))
  refine go (fun t k => XS.astore X2.here hx rfl (hb hby at_10) rfl rfl (l' := #[.val (.long q1), .second, .val (.long q2), .second, .val (.int p3), .val (.int p4), .val (.ref y2_x0), .unset, .unset, .unset, .unset, .unset, .unset, .unset, .unset, .unset, .unset]) rfl k) ?_
  show Gl _ _ _ _ _ _ _ _ (T2.setTop (mkF m 12 #[.val (.long q1), .second, .val (.long q2), .second, .val (.int p3), .val (.int p4), .val (.ref y2_x0), .unset, .unset, .unset, .unset, .unset, .unset, .unset, .unset, .unset, .unset] []))
  refine go (fun t k => XS.iload X2.here hx rfl (hb hby at_12) rfl  k) ?_
  show Gl _ _ _ _ _ _ _ _ (T2.setTop (mkF m 14 #[.val (.long q1), .second, .val (.long q2), .second, .val (.int p3), .val (.int p4), .val (.ref y2_x0), .unset, .unset, .unset, .unset, .unset, .unset, .unset, .unset, .unset, .unset] [(.int p3)]))
  refine go (fun t k => XS.bipush X2.here hx rfl (hb hby at_14) k) ?_
  show Gl _ _ _ _ _ _ _ _ (T2.setTop (mkF m 16 #[.val (.long q1), .second, .val (.long q2), .second, .val (.int p3), .val (.int p4), .val (.ref y2_x0), .unset, .unset, .unset, .unset, .unset, .unset, .unset, .unset, .unset, .unset] [(.int (8 : Int32)), (.int p3)]))
  refine go (fun t k => XS.iushr X2.here hx rfl (hb hby at_16) rfl k) ?_
  show Gl _ _ _ _ _ _ _ _ (T2.setTop (mkF m 17 #[.val (.long q1), .second, .val (.long q2), .second, .val (.int p3), .val (.int p4), .val (.ref y2_x0), .unset, .unset, .unset, .unset, .unset, .unset, .unset, .unset, .unset, .unset] [(.int ((p3.toUInt32 >>> ((8 : Int32) &&& 31).toUInt32).toInt32))]))
  refine go (fun t k => XS.sipush X2.here hx rfl (hb hby at_17) k) ?_
  show Gl _ _ _ _ _ _ _ _ (T2.setTop (mkF m 20 #[.val (.long q1), .second, .val (.long q2), .second, .val (.int p3), .val (.int p4), .val (.ref y2_x0), .unset, .unset, .unset, .unset, .unset, .unset, .unset, .unset, .unset, .unset] [(.int (255 : Int32)), (.int ((p3.toUInt32 >>> ((8 : Int32) &&& 31).toUInt32).toInt32))]))
  refine go (fun t k => XS.iand X2.here hx rfl (hb hby at_20) rfl k) ?_
  show Gl _ _ _ _ _ _ _ _ (T2.setTop (mkF m 21 #[.val (.long q1), .second, .val (.long q2), .second, .val (.int p3), .val (.int p4), .val (.ref y2_x0), .unset, .unset, .unset, .unset, .unset, .unset, .unset, .unset, .unset, .unset] [(.int (((p3.toUInt32 >>> ((8 : Int32) &&& 31).toUInt32).toInt32) &&& (255 : Int32)))]))
  refine go (fun t k => XS.i2c X2.here hx rfl (hb hby at_21) rfl k) ?_
  show Gl _ _ _ _ _ _ _ _ (T2.setTop (mkF m 22 #[.val (.long q1), .second, .val (.long q2), .second, .val (.int p3), .val (.int p4), .val (.ref y2_x0), .unset, .unset, .unset, .unset, .unset, .unset, .unset, .unset, .unset, .unset] [(.int ((((p3.toUInt32 >>> ((8 : Int32) &&& 31).toUInt32).toInt32) &&& (255 : Int32)).toUInt32.toUInt16.toUInt32.toInt32))]))
  obtain ⟨_, _, ⟨T4, L4, k4, n4⟩, -, X4, ⟨Lc4, hQ4, l4, y4, z4⟩, st4⟩ := Jvm.LawKit.callS X2 hx (y := (⟨"java/lang/String", "valueOf", "(C)Ljava/lang/String;"⟩ : MethodName)) hown (mvT hZ (hw _ (List.mem_of_getElem? (i := 0) rfl))) (mvT hZ (hw _ (List.mem_of_getElem? (i := 1) rfl))) (mvT hZ (hw _ (List.mem_of_getElem? (i := 2) rfl))) (mvT hZ (hw _ (List.mem_of_getElem? (i := 3) rfl))) (by decide) (backOf (W := 0) (rm1 l Z a0 hw [] ((((p3.toUInt32 >>> ((8 : Int32) &&& 31).toUInt32).toInt32) &&& (255 : Int32)).toUInt32.toUInt16.toUInt32.toInt32) w_COMPACT_STRINGS h2 n0 (Nat.le_trans Z0 K2q.1) fs3 hcs (own_enc _)) hZ (hw _ (List.mem_of_getElem? (i := 3) rfl)) (hw _ (List.mem_of_getElem? (i := 2) rfl)) (by decide) (by decide)) (g := (mkF m 22 #[.val (.long q1), .second, .val (.long q2), .second, .val (.int p3), .val (.int p4), .val (.ref y2_x0), .unset, .unset, .unset, .unset, .unset, .unset, .unset, .unset, .unset, .unset] [(.int ((((p3.toUInt32 >>> ((8 : Int32) &&& 31).toUInt32).toInt32) &&& (255 : Int32)).toUInt32.toUInt16.toUInt32.toInt32))])) rfl (by rw [hml]; rfl) (argsL := [(.int ((((p3.toUInt32 >>> ((8 : Int32) &&& 31).toUInt32).toInt32) &&& (255 : Int32)).toUInt32.toUInt16.toUInt32.toInt32))]) (rest := []) (lenOf pd_11 rfl) rfl (by show 2 * 0 + _ ≤ _; exact Nat.le_of_eq rfl) (hb hby at_22) (fun _ _ => ⟨rfl, e2, (by decide : 2 + 2 ≤ _), (by decide : 5 + 5 ≤ _)⟩)
  dsimp only [Pt.U, Pt.locs, Pt.cells, Pt.slots] at X4 l4 y4 z4 st4 hQ4
  replace X4 : Stand p l e room_1 s m #[(.long q1), (.long q2), (.int p3), (.int p4)] below meth c T4 _ 4 10 := own_mv X4 l4 y4 z4
  clear l4 y4 z4
  obtain ⟨⟨y4_x0, rfl, K4q, so4_0, Fo4_0⟩, N4q⟩ := hQ4
  obtain ⟨h4, e4⟩ : ∃ z, T4.heap = z := ⟨_, rfl⟩
  rw [e4] at K4q Fo4_0
  have K4 : Keep h0 h4 [] := K2.trans K4q all0
  have g_y4_x0 : n0 ≤ y4_x0 := Nat.le_trans (Nat.le_trans Z0 K2q.1) so4_0
  have sz_y4_x0 : h0.size ≤ y4_x0 := Nat.le_trans K2.1 so4_0
  have ne_w_DEFAULTCAPACITY_EMPTY_ELEMENTDATA_y4_x0 : w_DEFAULTCAPACITY_EMPTY_ELEMENTDATA ≠ y4_x0 := Nat.ne_of_lt (Nat.lt_of_lt_of_le (V_d.keep K2q nin0).lt so4_0)
  have ne_y2_x0_y4_x0 : y2_x0 ≠ y4_x0 := Nat.ne_of_lt (Nat.lt_of_lt_of_le Fo2_0.lt so4_0)
  have N4 := Fr.app N2 N4q
  refine go (fun t k => st4 _ k) ?_
  have fs5 := (sta_keepN (sta_keepN fs1 K2q ns0) K4q ns0)
  have fs6 := ((V_d.keep K2q nin0).keep K4q nin0)
  have zs7 := (Nat.le_trans (Nat.le_trans Z0 K2q.1) K4q.1)
  show Gl _ _ _ _ _ _ _ _ (T4.setTop (mkF m 25 #[.val (.long q1), .second, .val (.long q2), .second, .val (.int p3), .val (.int p4), .val (.ref y2_x0), .unset, .unset, .unset, .unset, .unset, .unset, .unset, .unset, .unset, .unset] [(.ref y4_x0)]))
  refine go (fun t k => XS.astore X4.here hx rfl (hb hby at_25) rfl rfl (l' := #[.val (.long q1), .second, .val (.long q2), .second, .val (.int p3), .val (.int p4), .val (.ref y2_x0), .val (.ref y4_x0), .unset, .unset, .unset, .unset, .unset, .unset, .unset, .unset, .unset]) rfl k) ?_
  show Gl _ _ _ _ _ _ _ _ (T4.setTop (mkF m 27 #[.val (.long q1), .second, .val (.long q2), .second, .val (.int p3), .val (.int p4), .val (.ref y2_x0), .val (.ref y4_x0), .unset, .unset, .unset, .unset, .unset, .unset, .unset, .unset, .unset] []))
  refine go (fun t k => XS.iload X4.here hx rfl (hb hby at_27) rfl  k) ?_
  show Gl _ _ _ _ _ _ _ _ (T4.setTop (mkF m 29 #[.val (.long q1), .second, .val (.long q2), .second, .val (.int p3), .val (.int p4), .val (.ref y2_x0), .val (.ref y4_x0), .unset, .unset, .unset, .unset, .unset, .unset, .unset, .unset, .unset] [(.int p4)]))
  refine go (fun t k => XS.sipush X4.here hx rfl (hb hby at_29) k) ?_
  show Gl _ _ _ _ _ _ _ _ (T4.setTop (mkF m 32 #[.val (.long q1), .second, .val (.long q2), .second, .val (.int p3), .val (.int p4), .val (.ref y2_x0), .val (.ref y4_x0), .unset, .unset, .unset, .unset, .unset, .unset, .unset, .unset, .unset] [(.int (255 : Int32)), (.int p4)]))
  refine go (fun t k => XS.iand X4.here hx rfl (hb hby at_32) rfl k) ?_
  show Gl _ _ _ _ _ _ _ _ (T4.setTop (mkF m 33 #[.val (.long q1), .second, .val (.long q2), .second, .val (.int p3), .val (.int p4), .val (.ref y2_x0), .val (.ref y4_x0), .unset, .unset, .unset, .unset, .unset, .unset, .unset, .unset, .unset] [(.int (p4 &&& (255 : Int32)))]))
  refine go (fun t k => XS.i2c X4.here hx rfl (hb hby at_33) rfl k) ?_
  show Gl _ _ _ _ _ _ _ _ (T4.setTop (mkF m 34 #[.val (.long q1), .second, .val (.long q2), .second, .val (.int p3), .val (.int p4), .val (.ref y2_x0), .val (.ref y4_x0), .unset, .unset, .unset, .unset, .unset, .unset, .unset, .unset, .unset] [(.int ((p4 &&& (255 : Int32)).toUInt32.toUInt16.toUInt32.toInt32))]))
  obtain ⟨_, _, ⟨T8, L8, k8, n8⟩, -, X8, ⟨Lc8, hQ8, l8, y8, z8⟩, st8⟩ := Jvm.LawKit.callS X4 hx (y := (⟨"java/lang/String", "valueOf", "(C)Ljava/lang/String;"⟩ : MethodName)) hown (mvT hZ (hw _ (List.mem_of_getElem? (i := 0) rfl))) (mvT hZ (hw _ (List.mem_of_getElem? (i := 1) rfl))) (mvT hZ (hw _ (List.mem_of_getElem? (i := 2) rfl))) (mvT hZ (hw _ (List.mem_of_getElem? (i := 3) rfl))) (by decide) (backOf (W := 0) (rm1 l Z a0 hw [] ((p4 &&& (255 : Int32)).toUInt32.toUInt16.toUInt32.toInt32) w_COMPACT_STRINGS h4 n0 zs7 (sta_keepN fs3 K4q ns0) hcs (own_enc _)) hZ (hw _ (List.mem_of_getElem? (i := 3) rfl)) (hw _ (List.mem_of_getElem? (i := 2) rfl)) (by decide) (by decide)) (g := (mkF m 34 #[.val (.long q1), .second, .val (.long q2), .second, .val (.int p3), .val (.int p4), .val (.ref y2_x0), .val (.ref y4_x0), .unset, .unset, .unset, .unset, .unset, .unset, .unset, .unset, .unset] [(.int ((p4 &&& (255 : Int32)).toUInt32.toUInt16.toUInt32.toInt32))])) rfl (by rw [hml]; rfl) (argsL := [(.int ((p4 &&& (255 : Int32)).toUInt32.toUInt16.toUInt32.toInt32))]) (rest := []) (lenOf pd_11 rfl) rfl (by show 2 * 0 + _ ≤ _; exact Nat.le_of_eq rfl) (hb hby at_34) (fun _ _ => ⟨rfl, e4, (by decide : 4 + 2 ≤ _), (by decide : 10 + 5 ≤ _)⟩)
  dsimp only [Pt.U, Pt.locs, Pt.cells, Pt.slots] at X8 l8 y8 z8 st8 hQ8
  replace X8 : Stand p l e room_1 s m #[(.long q1), (.long q2), (.int p3), (.int p4)] below meth c T8 _ 6 15 := own_mv X8 l8 y8 z8
  clear l8 y8 z8
  obtain ⟨⟨y8_x0, rfl, K8q, so8_0, Fo8_0⟩, N8q⟩ := hQ8
  obtain ⟨h8, e8⟩ : ∃ z, T8.heap = z := ⟨_, rfl⟩
  rw [e8] at K8q Fo8_0
  have K8 : Keep h0 h8 [] := K4.trans K8q all0
  have g_y8_x0 : n0 ≤ y8_x0 := Nat.le_trans zs7 so8_0
  have sz_y8_x0 : h0.size ≤ y8_x0 := Nat.le_trans K4.1 so8_0
  have ne_w_DEFAULTCAPACITY_EMPTY_ELEMENTDATA_y8_x0 : w_DEFAULTCAPACITY_EMPTY_ELEMENTDATA ≠ y8_x0 := Nat.ne_of_lt (Nat.lt_of_lt_of_le fs6.lt so8_0)
  have ne_y2_x0_y8_x0 : y2_x0 ≠ y8_x0 := Nat.ne_of_lt (Nat.lt_of_lt_of_le (Fo2_0.keep K4q).lt so8_0)
  have ne_y4_x0_y8_x0 : y4_x0 ≠ y8_x0 := Nat.ne_of_lt (Nat.lt_of_lt_of_le Fo4_0.lt so8_0)
  have N8 := Fr.app N4 N8q
  refine go (fun t k => st8 _ k) ?_
  have fs9 := (sta_keepN (sta_keepN fs3 K4q ns0) K8q ns0)
  have fs10 := ((Fo2_0.keep K4q).keep K8q)
  show Gl _ _ _ _ _ _ _ _ (T8.setTop (mkF m 37 #[.val (.long q1), .second, .val (.long q2), .second, .val (.int p3), .val (.int p4), .val (.ref y2_x0), .val (.ref y4_x0), .unset, .unset, .unset, .unset, .unset, .unset, .unset, .unset, .unset] [(.ref y8_x0)]))
  refine go (fun t k => XS.astore X8.here hx rfl (hb hby at_37) rfl rfl (l' := #[.val (.long q1), .second, .val (.long q2), .second, .val (.int p3), .val (.int p4), .val (.ref y2_x0), .val (.ref y4_x0), .val (.ref y8_x0), .unset, .unset, .unset, .unset, .unset, .unset, .unset, .unset]) rfl k) ?_
  show Gl _ _ _ _ _ _ _ _ (T8.setTop (mkF m 39 #[.val (.long q1), .second, .val (.long q2), .second, .val (.int p3), .val (.int p4), .val (.ref y2_x0), .val (.ref y4_x0), .val (.ref y8_x0), .unset, .unset, .unset, .unset, .unset, .unset, .unset, .unset] []))
  refine go (fun t k => XS.iload X8.here hx rfl (hb hby at_39) rfl  k) ?_
  show Gl _ _ _ _ _ _ _ _ (T8.setTop (mkF m 41 #[.val (.long q1), .second, .val (.long q2), .second, .val (.int p3), .val (.int p4), .val (.ref y2_x0), .val (.ref y4_x0), .val (.ref y8_x0), .unset, .unset, .unset, .unset, .unset, .unset, .unset, .unset] [(.int p4)]))
  refine go (fun t k => XS.bipush X8.here hx rfl (hb hby at_41) k) ?_
  show Gl _ _ _ _ _ _ _ _ (T8.setTop (mkF m 43 #[.val (.long q1), .second, .val (.long q2), .second, .val (.int p3), .val (.int p4), .val (.ref y2_x0), .val (.ref y4_x0), .val (.ref y8_x0), .unset, .unset, .unset, .unset, .unset, .unset, .unset, .unset] [(.int (8 : Int32)), (.int p4)]))
  refine go (fun t k => XS.iushr X8.here hx rfl (hb hby at_43) rfl k) ?_
  show Gl _ _ _ _ _ _ _ _ (T8.setTop (mkF m 44 #[.val (.long q1), .second, .val (.long q2), .second, .val (.int p3), .val (.int p4), .val (.ref y2_x0), .val (.ref y4_x0), .val (.ref y8_x0), .unset, .unset, .unset, .unset, .unset, .unset, .unset, .unset] [(.int ((p4.toUInt32 >>> ((8 : Int32) &&& 31).toUInt32).toInt32))]))
  refine go (fun t k => XS.sipush X8.here hx rfl (hb hby at_44) k) ?_
  show Gl _ _ _ _ _ _ _ _ (T8.setTop (mkF m 47 #[.val (.long q1), .second, .val (.long q2), .second, .val (.int p3), .val (.int p4), .val (.ref y2_x0), .val (.ref y4_x0), .val (.ref y8_x0), .unset, .unset, .unset, .unset, .unset, .unset, .unset, .unset] [(.int (255 : Int32)), (.int ((p4.toUInt32 >>> ((8 : Int32) &&& 31).toUInt32).toInt32))]))
  refine go (fun t k => XS.iand X8.here hx rfl (hb hby at_47) rfl k) ?_
  show Gl _ _ _ _ _ _ _ _ (T8.setTop (mkF m 48 #[.val (.long q1), .second, .val (.long q2), .second, .val (.int p3), .val (.int p4), .val (.ref y2_x0), .val (.ref y4_x0), .val (.ref y8_x0), .unset, .unset, .unset, .unset, .unset, .unset, .unset, .unset] [(.int (((p4.toUInt32 >>> ((8 : Int32) &&& 31).toUInt32).toInt32) &&& (255 : Int32)))]))
  refine go (fun t k => XS.i2c X8.here hx rfl (hb hby at_48) rfl k) ?_
  show Gl _ _ _ _ _ _ _ _ (T8.setTop (mkF m 49 #[.val (.long q1), .second, .val (.long q2), .second, .val (.int p3), .val (.int p4), .val (.ref y2_x0), .val (.ref y4_x0), .val (.ref y8_x0), .unset, .unset, .unset, .unset, .unset, .unset, .unset, .unset] [(.int ((((p4.toUInt32 >>> ((8 : Int32) &&& 31).toUInt32).toInt32) &&& (255 : Int32)).toUInt32.toUInt16.toUInt32.toInt32))]))
  obtain ⟨_, _, ⟨T11, L11, k11, n11⟩, -, X11, ⟨Lc11, hQ11, l11, y11, z11⟩, st11⟩ := Jvm.LawKit.callS X8 hx (y := (⟨"java/lang/String", "valueOf", "(C)Ljava/lang/String;"⟩ : MethodName)) hown (mvT hZ (hw _ (List.mem_of_getElem? (i := 0) rfl))) (mvT hZ (hw _ (List.mem_of_getElem? (i := 1) rfl))) (mvT hZ (hw _ (List.mem_of_getElem? (i := 2) rfl))) (mvT hZ (hw _ (List.mem_of_getElem? (i := 3) rfl))) (by decide) (backOf (W := 0) (rm1 l Z a0 hw [] ((((p4.toUInt32 >>> ((8 : Int32) &&& 31).toUInt32).toInt32) &&& (255 : Int32)).toUInt32.toUInt16.toUInt32.toInt32) w_COMPACT_STRINGS h8 n0 (Nat.le_trans zs7 K8q.1) fs9 hcs (own_enc _)) hZ (hw _ (List.mem_of_getElem? (i := 3) rfl)) (hw _ (List.mem_of_getElem? (i := 2) rfl)) (by decide) (by decide)) (g := (mkF m 49 #[.val (.long q1), .second, .val (.long q2), .second, .val (.int p3), .val (.int p4), .val (.ref y2_x0), .val (.ref y4_x0), .val (.ref y8_x0), .unset, .unset, .unset, .unset, .unset, .unset, .unset, .unset] [(.int ((((p4.toUInt32 >>> ((8 : Int32) &&& 31).toUInt32).toInt32) &&& (255 : Int32)).toUInt32.toUInt16.toUInt32.toInt32))])) rfl (by rw [hml]; rfl) (argsL := [(.int ((((p4.toUInt32 >>> ((8 : Int32) &&& 31).toUInt32).toInt32) &&& (255 : Int32)).toUInt32.toUInt16.toUInt32.toInt32))]) (rest := []) (lenOf pd_11 rfl) rfl (by show 2 * 0 + _ ≤ _; exact Nat.le_of_eq rfl) (hb hby at_49) (fun _ _ => ⟨rfl, e8, (by decide : 6 + 2 ≤ _), (by decide : 15 + 5 ≤ _)⟩)
  dsimp only [Pt.U, Pt.locs, Pt.cells, Pt.slots] at X11 l11 y11 z11 st11 hQ11
  replace X11 : Stand p l e room_1 s m #[(.long q1), (.long q2), (.int p3), (.int p4)] below meth c T11 _ 8 20 := own_mv X11 l11 y11 z11
  clear l11 y11 z11
  obtain ⟨⟨y11_x0, rfl, K11q, so11_0, Fo11_0⟩, N11q⟩ := hQ11
  obtain ⟨h11, e11⟩ : ∃ z, T11.heap = z := ⟨_, rfl⟩
  rw [e11] at K11q Fo11_0
  have K11 : Keep h0 h11 [] := K8.trans K11q all0
  have g_y11_x0 : n0 ≤ y11_x0 := Nat.le_trans (Nat.le_trans zs7 K8q.1) so11_0
  have sz_y11_x0 : h0.size ≤ y11_x0 := Nat.le_trans K8.1 so11_0
  have ne_w_DEFAULTCAPACITY_EMPTY_ELEMENTDATA_y11_x0 : w_DEFAULTCAPACITY_EMPTY_ELEMENTDATA ≠ y11_x0 := Nat.ne_of_lt (Nat.lt_of_lt_of_le (fs6.keep K8q nin0).lt so11_0)
  have ne_y2_x0_y11_x0 : y2_x0 ≠ y11_x0 := Nat.ne_of_lt (Nat.lt_of_lt_of_le fs10.lt so11_0)
  have ne_y4_x0_y11_x0 : y4_x0 ≠ y11_x0 := Nat.ne_of_lt (Nat.lt_of_lt_of_le (Fo4_0.keep K8q).lt so11_0)
  have ne_y8_x0_y11_x0 : y8_x0 ≠ y11_x0 := Nat.ne_of_lt (Nat.lt_of_lt_of_le Fo8_0.lt so11_0)
  have N11 := Fr.app N8 N11q
  refine go (fun t k => st11 _ k) ?_
  have fs12 := (sta_keepN (sta_keepN fs5 K8q ns0) K11q ns0)
  have fs13 := ((fs6.keep K8q nin0).keep K11q nin0)
  have fs14 := ((Fo4_0.keep K8q).keep K11q)
  have zs15 := (Nat.le_trans (Nat.le_trans zs7 K8q.1) K11q.1)
  show Gl _ _ _ _ _ _ _ _ (T11.setTop (mkF m 52 #[.val (.long q1), .second, .val (.long q2), .second, .val (.int p3), .val (.int p4), .val (.ref y2_x0), .val (.ref y4_x0), .val (.ref y8_x0), .unset, .unset, .unset, .unset, .unset, .unset, .unset, .unset] [(.ref y11_x0)]))
  refine go (fun t k => XS.astore X11.here hx rfl (hb hby at_52) rfl rfl (l' := #[.val (.long q1), .second, .val (.long q2), .second, .val (.int p3), .val (.int p4), .val (.ref y2_x0), .val (.ref y4_x0), .val (.ref y8_x0), .val (.ref y11_x0), .unset, .unset, .unset, .unset, .unset, .unset, .unset]) rfl k) ?_
  show Gl _ _ _ _ _ _ _ _ (T11.setTop (mkF m 54 #[.val (.long q1), .second, .val (.long q2), .second, .val (.int p3), .val (.int p4), .val (.ref y2_x0), .val (.ref y4_x0), .val (.ref y8_x0), .val (.ref y11_x0), .unset, .unset, .unset, .unset, .unset, .unset, .unset] []))
  refine go (fun t k => XS.iload X11.here hx rfl (hb hby at_54) rfl  k) ?_
  show Gl _ _ _ _ _ _ _ _ (T11.setTop (mkF m 56 #[.val (.long q1), .second, .val (.long q2), .second, .val (.int p3), .val (.int p4), .val (.ref y2_x0), .val (.ref y4_x0), .val (.ref y8_x0), .val (.ref y11_x0), .unset, .unset, .unset, .unset, .unset, .unset, .unset] [(.int p3)]))
  refine go (fun t k => XS.bipush X11.here hx rfl (hb hby at_56) k) ?_
  show Gl _ _ _ _ _ _ _ _ (T11.setTop (mkF m 58 #[.val (.long q1), .second, .val (.long q2), .second, .val (.int p3), .val (.int p4), .val (.ref y2_x0), .val (.ref y4_x0), .val (.ref y8_x0), .val (.ref y11_x0), .unset, .unset, .unset, .unset, .unset, .unset, .unset] [(.int (16 : Int32)), (.int p3)]))
  refine go (fun t k => XS.iushr X11.here hx rfl (hb hby at_58) rfl k) ?_
  show Gl _ _ _ _ _ _ _ _ (T11.setTop (mkF m 59 #[.val (.long q1), .second, .val (.long q2), .second, .val (.int p3), .val (.int p4), .val (.ref y2_x0), .val (.ref y4_x0), .val (.ref y8_x0), .val (.ref y11_x0), .unset, .unset, .unset, .unset, .unset, .unset, .unset] [(.int ((p3.toUInt32 >>> ((16 : Int32) &&& 31).toUInt32).toInt32))]))
  refine go (fun t k => XS.sipush X11.here hx rfl (hb hby at_59) k) ?_
  show Gl _ _ _ _ _ _ _ _ (T11.setTop (mkF m 62 #[.val (.long q1), .second, .val (.long q2), .second, .val (.int p3), .val (.int p4), .val (.ref y2_x0), .val (.ref y4_x0), .val (.ref y8_x0), .val (.ref y11_x0), .unset, .unset, .unset, .unset, .unset, .unset, .unset] [(.int (255 : Int32)), (.int ((p3.toUInt32 >>> ((16 : Int32) &&& 31).toUInt32).toInt32))]))
  refine go (fun t k => XS.iand X11.here hx rfl (hb hby at_62) rfl k) ?_
  show Gl _ _ _ _ _ _ _ _ (T11.setTop (mkF m 63 #[.val (.long q1), .second, .val (.long q2), .second, .val (.int p3), .val (.int p4), .val (.ref y2_x0), .val (.ref y4_x0), .val (.ref y8_x0), .val (.ref y11_x0), .unset, .unset, .unset, .unset, .unset, .unset, .unset] [(.int (((p3.toUInt32 >>> ((16 : Int32) &&& 31).toUInt32).toInt32) &&& (255 : Int32)))]))
  refine go (fun t k => XS.i2c X11.here hx rfl (hb hby at_63) rfl k) ?_
  show Gl _ _ _ _ _ _ _ _ (T11.setTop (mkF m 64 #[.val (.long q1), .second, .val (.long q2), .second, .val (.int p3), .val (.int p4), .val (.ref y2_x0), .val (.ref y4_x0), .val (.ref y8_x0), .val (.ref y11_x0), .unset, .unset, .unset, .unset, .unset, .unset, .unset] [(.int ((((p3.toUInt32 >>> ((16 : Int32) &&& 31).toUInt32).toInt32) &&& (255 : Int32)).toUInt32.toUInt16.toUInt32.toInt32))]))
  obtain ⟨_, _, ⟨T16, L16, k16, n16⟩, -, X16, ⟨Lc16, hQ16, l16, y16, z16⟩, st16⟩ := Jvm.LawKit.callS X11 hx (y := (⟨"java/lang/String", "valueOf", "(C)Ljava/lang/String;"⟩ : MethodName)) hown (mvT hZ (hw _ (List.mem_of_getElem? (i := 0) rfl))) (mvT hZ (hw _ (List.mem_of_getElem? (i := 1) rfl))) (mvT hZ (hw _ (List.mem_of_getElem? (i := 2) rfl))) (mvT hZ (hw _ (List.mem_of_getElem? (i := 3) rfl))) (by decide) (backOf (W := 0) (rm1 l Z a0 hw [] ((((p3.toUInt32 >>> ((16 : Int32) &&& 31).toUInt32).toInt32) &&& (255 : Int32)).toUInt32.toUInt16.toUInt32.toInt32) w_COMPACT_STRINGS h11 n0 zs15 (sta_keepN fs9 K11q ns0) hcs (own_enc _)) hZ (hw _ (List.mem_of_getElem? (i := 3) rfl)) (hw _ (List.mem_of_getElem? (i := 2) rfl)) (by decide) (by decide)) (g := (mkF m 64 #[.val (.long q1), .second, .val (.long q2), .second, .val (.int p3), .val (.int p4), .val (.ref y2_x0), .val (.ref y4_x0), .val (.ref y8_x0), .val (.ref y11_x0), .unset, .unset, .unset, .unset, .unset, .unset, .unset] [(.int ((((p3.toUInt32 >>> ((16 : Int32) &&& 31).toUInt32).toInt32) &&& (255 : Int32)).toUInt32.toUInt16.toUInt32.toInt32))])) rfl (by rw [hml]; rfl) (argsL := [(.int ((((p3.toUInt32 >>> ((16 : Int32) &&& 31).toUInt32).toInt32) &&& (255 : Int32)).toUInt32.toUInt16.toUInt32.toInt32))]) (rest := []) (lenOf pd_11 rfl) rfl (by show 2 * 0 + _ ≤ _; exact Nat.le_of_eq rfl) (hb hby at_64) (fun _ _ => ⟨rfl, e11, (by decide : 8 + 2 ≤ _), (by decide : 20 + 5 ≤ _)⟩)
  dsimp only [Pt.U, Pt.locs, Pt.cells, Pt.slots] at X16 l16 y16 z16 st16 hQ16
  replace X16 : Stand p l e room_1 s m #[(.long q1), (.long q2), (.int p3), (.int p4)] below meth c T16 _ 10 25 := own_mv X16 l16 y16 z16
  clear l16 y16 z16
  obtain ⟨⟨y16_x0, rfl, K16q, so16_0, Fo16_0⟩, N16q⟩ := hQ16
  obtain ⟨h16, e16⟩ : ∃ z, T16.heap = z := ⟨_, rfl⟩
  rw [e16] at K16q Fo16_0
  have K16 : Keep h0 h16 [] := K11.trans K16q all0
  have g_y16_x0 : n0 ≤ y16_x0 := Nat.le_trans zs15 so16_0
  have sz_y16_x0 : h0.size ≤ y16_x0 := Nat.le_trans K11.1 so16_0
  have ne_w_DEFAULTCAPACITY_EMPTY_ELEMENTDATA_y16_x0 : w_DEFAULTCAPACITY_EMPTY_ELEMENTDATA ≠ y16_x0 := Nat.ne_of_lt (Nat.lt_of_lt_of_le fs13.lt so16_0)
  have ne_y2_x0_y16_x0 : y2_x0 ≠ y16_x0 := Nat.ne_of_lt (Nat.lt_of_lt_of_le (fs10.keep K11q).lt so16_0)
  have ne_y4_x0_y16_x0 : y4_x0 ≠ y16_x0 := Nat.ne_of_lt (Nat.lt_of_lt_of_le fs14.lt so16_0)
  have ne_y8_x0_y16_x0 : y8_x0 ≠ y16_x0 := Nat.ne_of_lt (Nat.lt_of_lt_of_le (Fo8_0.keep K11q).lt so16_0)
  have ne_y11_x0_y16_x0 : y11_x0 ≠ y16_x0 := Nat.ne_of_lt (Nat.lt_of_lt_of_le Fo11_0.lt so16_0)
  have N16 := Fr.app N11 N16q
  refine go (fun t k => st16 _ k) ?_
  have fs17 := (sta_keepN (sta_keepN fs9 K11q ns0) K16q ns0)
  have fs18 := (sta_keepN fs12 K16q ns0)
  have fs19 := ((fs10.keep K11q).keep K16q)
  have fs20 := ((Fo8_0.keep K11q).keep K16q)
  have zs21 := (Nat.le_trans zs15 K16q.1)
  show Gl _ _ _ _ _ _ _ _ (T16.setTop (mkF m 67 #[.val (.long q1), .second, .val (.long q2), .second, .val (.int p3), .val (.int p4), .val (.ref y2_x0), .val (.ref y4_x0), .val (.ref y8_x0), .val (.ref y11_x0), .unset, .unset, .unset, .unset, .unset, .unset, .unset] [(.ref y16_x0)]))
  refine go (fun t k => XS.astore X16.here hx rfl (hb hby at_67) rfl rfl (l' := #[.val (.long q1), .second, .val (.long q2), .second, .val (.int p3), .val (.int p4), .val (.ref y2_x0), .val (.ref y4_x0), .val (.ref y8_x0), .val (.ref y11_x0), .val (.ref y16_x0), .unset, .unset, .unset, .unset, .unset, .unset]) rfl k) ?_
  show Gl _ _ _ _ _ _ _ _ (T16.setTop (mkF m 69 #[.val (.long q1), .second, .val (.long q2), .second, .val (.int p3), .val (.int p4), .val (.ref y2_x0), .val (.ref y4_x0), .val (.ref y8_x0), .val (.ref y11_x0), .val (.ref y16_x0), .unset, .unset, .unset, .unset, .unset, .unset] []))
  refine go (fun t k => XS.iload X16.here hx rfl (hb hby at_69) rfl  k) ?_
  show Gl _ _ _ _ _ _ _ _ (T16.setTop (mkF m 71 #[.val (.long q1), .second, .val (.long q2), .second, .val (.int p3), .val (.int p4), .val (.ref y2_x0), .val (.ref y4_x0), .val (.ref y8_x0), .val (.ref y11_x0), .val (.ref y16_x0), .unset, .unset, .unset, .unset, .unset, .unset] [(.int p4)]))
  refine go (fun t k => XS.bipush X16.here hx rfl (hb hby at_71) k) ?_
  show Gl _ _ _ _ _ _ _ _ (T16.setTop (mkF m 73 #[.val (.long q1), .second, .val (.long q2), .second, .val (.int p3), .val (.int p4), .val (.ref y2_x0), .val (.ref y4_x0), .val (.ref y8_x0), .val (.ref y11_x0), .val (.ref y16_x0), .unset, .unset, .unset, .unset, .unset, .unset] [(.int (16 : Int32)), (.int p4)]))
  refine go (fun t k => XS.iushr X16.here hx rfl (hb hby at_73) rfl k) ?_
  show Gl _ _ _ _ _ _ _ _ (T16.setTop (mkF m 74 #[.val (.long q1), .second, .val (.long q2), .second, .val (.int p3), .val (.int p4), .val (.ref y2_x0), .val (.ref y4_x0), .val (.ref y8_x0), .val (.ref y11_x0), .val (.ref y16_x0), .unset, .unset, .unset, .unset, .unset, .unset] [(.int ((p4.toUInt32 >>> ((16 : Int32) &&& 31).toUInt32).toInt32))]))
  refine go (fun t k => XS.iconst X16.here hx rfl (hb hby at_74) k) ?_
  show Gl _ _ _ _ _ _ _ _ (T16.setTop (mkF m 75 #[.val (.long q1), .second, .val (.long q2), .second, .val (.int p3), .val (.int p4), .val (.ref y2_x0), .val (.ref y4_x0), .val (.ref y8_x0), .val (.ref y11_x0), .val (.ref y16_x0), .unset, .unset, .unset, .unset, .unset, .unset] [(.int (3 : Int32)), (.int ((p4.toUInt32 >>> ((16 : Int32) &&& 31).toUInt32).toInt32))]))
  refine go (fun t k => XS.iand X16.here hx rfl (hb hby at_75) rfl k) ?_
  show Gl _ _ _ _ _ _ _ _ (T16.setTop (mkF m 76 #[.val (.long q1), .second, .val (.long q2), .second, .val (.int p3), .val (.int p4), .val (.ref y2_x0), .val (.ref y4_x0), .val (.ref y8_x0), .val (.ref y11_x0), .val (.ref y16_x0), .unset, .unset, .unset, .unset, .unset, .unset] [(.int (((p4.toUInt32 >>> ((16 : Int32) &&& 31).toUInt32).toInt32) &&& (3 : Int32)))]))
  refine go (fun t k => XS.istore X16.here hx rfl (hb hby at_76) rfl (l' := #[.val (.long q1), .second, .val (.long q2), .second, .val (.int p3), .val (.int p4), .val (.ref y2_x0), .val (.ref y4_x0), .val (.ref y8_x0), .val (.ref y11_x0), .val (.ref y16_x0), .val (.int (((p4.toUInt32 >>> ((16 : Int32) &&& 31).toUInt32).toInt32) &&& (3 : Int32))), .unset, .unset, .unset, .unset, .unset]) rfl k) ?_
  show Gl _ _ _ _ _ _ _ _ (T16.setTop (mkF m 78 #[.val (.long q1), .second, .val (.long q2), .second, .val (.int p3), .val (.int p4), .val (.ref y2_x0), .val (.ref y4_x0), .val (.ref y8_x0), .val (.ref y11_x0), .val (.ref y16_x0), .val (.int (((p4.toUInt32 >>> ((16 : Int32) &&& 31).toUInt32).toInt32) &&& (3 : Int32))), .unset, .unset, .unset, .unset, .unset] []))
  obtain ⟨T22, h22, X22, e22, E22, A22, D22, -, st22⟩ := newO X16 hx hZ hown (hw _ (List.mem_of_getElem? (i := 26) rfl)) (hw _ (List.mem_of_getElem? (i := 27) rfl)) (hw _ (List.mem_of_getElem? (i := 28) rfl)) e16 (g := (mkF m 78 #[.val (.long q1), .second, .val (.long q2), .second, .val (.int p3), .val (.int p4), .val (.ref y2_x0), .val (.ref y4_x0), .val (.ref y8_x0), .val (.ref y11_x0), .val (.ref y16_x0), .val (.int (((p4.toUInt32 >>> ((16 : Int32) &&& 31).toUInt32).toInt32) &&& (3 : Int32))), .unset, .unset, .unset, .unset, .unset] [])) rfl (hb hby at_78) (by decide) (by decide)
  obtain ⟨o22, gq22⟩ : ∃ z, z = h16.size := ⟨_, rfl⟩
  rw [← gq22] at A22 D22 st22
  have g_o22 : n0 ≤ o22 := Nat.le_trans zs21 (Nat.le_of_eq gq22.symm)
  have ne_w_DEFAULTCAPACITY_EMPTY_ELEMENTDATA_o22 : w_DEFAULTCAPACITY_EMPTY_ELEMENTDATA ≠ o22 := Nat.ne_of_lt (Nat.lt_of_lt_of_le (fs13.keep K16q nin0).lt (Nat.le_of_eq gq22.symm))
  have ne_y2_x0_o22 : y2_x0 ≠ o22 := Nat.ne_of_lt (Nat.lt_of_lt_of_le fs19.lt (Nat.le_of_eq gq22.symm))
  have ne_y4_x0_o22 : y4_x0 ≠ o22 := Nat.ne_of_lt (Nat.lt_of_lt_of_le (fs14.keep K16q).lt (Nat.le_of_eq gq22.symm))
  have ne_y8_x0_o22 : y8_x0 ≠ o22 := Nat.ne_of_lt (Nat.lt_of_lt_of_le fs20.lt (Nat.le_of_eq gq22.symm))
  have ne_y11_x0_o22 : y11_x0 ≠ o22 := Nat.ne_of_lt (Nat.lt_of_lt_of_le (Fo11_0.keep K16q).lt (Nat.le_of_eq gq22.symm))
  have ne_y16_x0_o22 : y16_x0 ≠ o22 := Nat.ne_of_lt (Nat.lt_of_lt_of_le Fo16_0.lt (Nat.le_of_eq gq22.symm))
  have F_modCount_o22 : Fld Z h22 o22 "java/util/AbstractList" "modCount" "I" (.int (0 : Int32)) := D22 (Or.inl (hw _ (List.mem_of_getElem? (i := 46) rfl))) (ty := .int) (by decide)
  have F_elementData_o22 : Fld Z h22 o22 "java/util/ArrayList" "elementData" "[Ljava/lang/Object;" .null := D22 (Or.inl (hw _ (List.mem_of_getElem? (i := 49) rfl))) (ty := (.array (.object "java/lang/Object"))) (by decide)
  have F_size_o22 : Fld Z h22 o22 "java/util/ArrayList" "size" "I" (.int (0 : Int32)) := D22 (Or.inl (hw _ (List.mem_of_getElem? (i := 56) rfl))) (ty := .int) (by decide)
  have K22 : Keep h0 h22 [] := K16.ext E22
  have sz_o22 : h0.size ≤ o22 := Nat.le_trans K16.1 (Nat.le_of_eq gq22.symm)
  refine go (fun t k => st22 _ k) ?_
  have fs23 := ((fs13.keep K16q nin0).ext E22)
  have fs24 := ((fs14.keep K16q).ext E22)
  have fs25 := ((Fo11_0.keep K16q).ext E22)
  have zs26 := (Nat.le_trans zs21 E22.1)
  show Gl _ _ _ _ _ _ _ _ (T22.setTop (mkF m 81 #[.val (.long q1), .second, .val (.long q2), .second, .val (.int p3), .val (.int p4), .val (.ref y2_x0), .val (.ref y4_x0), .val (.ref y8_x0), .val (.ref y11_x0), .val (.ref y16_x0), .val (.int (((p4.toUInt32 >>> ((16 : Int32) &&& 31).toUInt32).toInt32) &&& (3 : Int32))), .unset, .unset, .unset, .unset, .unset] [(.ref o22)]))
  refine go (fun t k => XS.dup X22.here hx rfl (hb hby at_81) rfl rfl k) ?_
  show Gl _ _ _ _ _ _ _ _ (T22.setTop (mkF m 82 #[.val (.long q1), .second, .val (.long q2), .second, .val (.int p3), .val (.int p4), .val (.ref y2_x0), .val (.ref y4_x0), .val (.ref y8_x0), .val (.ref y11_x0), .val (.ref y16_x0), .val (.int (((p4.toUInt32 >>> ((16 : Int32) &&& 31).toUInt32).toInt32) &&& (3 : Int32))), .unset, .unset, .unset, .unset, .unset] [(.ref o22), (.ref o22)]))
  obtain ⟨_, _, ⟨T27, L27, k27, n27⟩, -, X27, ⟨Lc27, hQ27, l27, y27, z27⟩, st27⟩ := X22.specialBack hx (y := (⟨"java/util/ArrayList", "<init>", "()V"⟩ : MethodName)) rfl hown (mvT hZ (hw _ (List.mem_of_getElem? (i := 29) rfl))) (mvT hZ (hw _ (List.mem_of_getElem? (i := 30) rfl))) (mvT hZ (hw _ (List.mem_of_getElem? (i := 31) rfl))) (by decide) (backOf (W := 1) (rm6 l Z a0 hw [] o22 ((.int (0 : Int32))) ((.int (0 : Int32))) (.null) w_DEFAULTCAPACITY_EMPTY_ELEMENTDATA h22 n0 zs26 A22 g_o22 F_modCount_o22 F_size_o22 F_elementData_o22 (fs18.ext E22)) hZ (hw _ (List.mem_of_getElem? (i := 31) rfl)) (hw _ (List.mem_of_getElem? (i := 28) rfl)) (by decide) (by decide)) (g := (mkF m 82 #[.val (.long q1), .second, .val (.long q2), .second, .val (.int p3), .val (.int p4), .val (.ref y2_x0), .val (.ref y4_x0), .val (.ref y8_x0), .val (.ref y11_x0), .val (.ref y16_x0), .val (.int (((p4.toUInt32 >>> ((16 : Int32) &&& 31).toUInt32).toInt32) &&& (3 : Int32))), .unset, .unset, .unset, .unset, .unset] [(.ref o22), (.ref o22)])) rfl (by rw [hml]; rfl) (Steps.refl _) (a := o22) (argsL := []) (rest := [(.ref o22)]) (lenOf pd_3 rfl) rfl (by show 2 * 0 + _ ≤ _; exact Nat.le_of_eq rfl) (hb hby at_82) (fun _ _ => ⟨rfl, e22, (by decide : 11 + 0 ≤ _), (by decide : 28 + 0 ≤ _)⟩)
  dsimp only [Pt.U, Pt.locs, Pt.cells, Pt.slots] at X27 l27 y27 z27 st27 hQ27
  replace X27 : Stand p l e room_1 s m #[(.long q1), (.long q2), (.int p3), (.int p4)] below meth c T27 _ 11 28 := own_mv X27 l27 y27 z27
  clear l27 y27 z27
  obtain ⟨⟨rfl, K27q, Ex27, Fq27_size, Fq27_elementData, Fq27_modCount⟩, N27q⟩ := hQ27
  obtain ⟨h27, e27⟩ : ∃ z, T27.heap = z := ⟨_, rfl⟩
  rw [e27] at K27q Ex27 Fq27_size Fq27_elementData Fq27_modCount
  have K27 : Keep h0 h27 [] := K22.trans K27q (allS (Or.inr sz_o22) all0)
  have N27 := Fr.app N16 N27q
  refine go (fun t k => st27.trans k) ?_
  have fs28 := (sta_keep (fs17.ext E22) K27q A22)
  have fs29 := (sta_keep (fs18.ext E22) K27q A22)
  have fs30 := (fs23.keep K27q (ninS ne_w_DEFAULTCAPACITY_EMPTY_ELEMENTDATA_o22 nin0))
  have fs31 := ((fs19.ext E22).keep K27q)
  have fs32 := ((fs20.ext E22).keep K27q)
  have fs33 := ((Fo16_0.ext E22).keep K27q)
  have zs34 := (Nat.le_trans zs26 K27q.1)
  show Gl _ _ _ _ _ _ _ _ (T27.setTop (mkF m 85 #[.val (.long q1), .second, .val (.long q2), .second, .val (.int p3), .val (.int p4), .val (.ref y2_x0), .val (.ref y4_x0), .val (.ref y8_x0), .val (.ref y11_x0), .val (.ref y16_x0), .val (.int (((p4.toUInt32 >>> ((16 : Int32) &&& 31).toUInt32).toInt32) &&& (3 : Int32))), .unset, .unset, .unset, .unset, .unset] [(.ref o22)]))
  refine go (fun t k => XS.astore X27.here hx rfl (hb hby at_85) rfl rfl (l' := #[.val (.long q1), .second, .val (.long q2), .second, .val (.int p3), .val (.int p4), .val (.ref y2_x0), .val (.ref y4_x0), .val (.ref y8_x0), .val (.ref y11_x0), .val (.ref y16_x0), .val (.int (((p4.toUInt32 >>> ((16 : Int32) &&& 31).toUInt32).toInt32) &&& (3 : Int32))), .val (.ref o22), .unset, .unset, .unset, .unset]) rfl k) ?_
  show Gl _ _ _ _ _ _ _ _ (T27.setTop (mkF m 87 #[.val (.long q1), .second, .val (.long q2), .second, .val (.int p3), .val (.int p4), .val (.ref y2_x0), .val (.ref y4_x0), .val (.ref y8_x0), .val (.ref y11_x0), .val (.ref y16_x0), .val (.int (((p4.toUInt32 >>> ((16 : Int32) &&& 31).toUInt32).toInt32) &&& (3 : Int32))), .val (.ref o22), .unset, .unset, .unset, .unset] []))
  refine go (fun t k => XS.iload X27.here hx rfl (hb hby at_87) rfl  k) ?_
  show Gl _ _ _ _ _ _ _ _ (T27.setTop (mkF m 89 #[.val (.long q1), .second, .val (.long q2), .second, .val (.int p3), .val (.int p4), .val (.ref y2_x0), .val (.ref y4_x0), .val (.ref y8_x0), .val (.ref y11_x0), .val (.ref y16_x0), .val (.int (((p4.toUInt32 >>> ((16 : Int32) &&& 31).toUInt32).toInt32) &&& (3 : Int32))), .val (.ref o22), .unset, .unset, .unset, .unset] [(.int (((p4.toUInt32 >>> ((16 : Int32) &&& 31).toUInt32).toInt32) &&& (3 : Int32)))]))
  refine go (fun t k => XS.iconst X27.here hx rfl (hb hby at_89) k) ?_
  show Gl _ _ _ _ _ _ _ _ (T27.setTop (mkF m 90 #[.val (.long q1), .second, .val (.long q2), .second, .val (.int p3), .val (.int p4), .val (.ref y2_x0), .val (.ref y4_x0), .val (.ref y8_x0), .val (.ref y11_x0), .val (.ref y16_x0), .val (.int (((p4.toUInt32 >>> ((16 : Int32) &&& 31).toUInt32).toInt32) &&& (3 : Int32))), .val (.ref o22), .unset, .unset, .unset, .unset] [(.int (1 : Int32)), (.int (((p4.toUInt32 >>> ((16 : Int32) &&& 31).toUInt32).toInt32) &&& (3 : Int32)))]))
  refine gI (c := (((p4.toUInt32 >>> ((16 : Int32) &&& 31).toUInt32).toInt32) &&& (3 : Int32)) < (1 : Int32)) (fun hc90 => ?_) (fun hc90 => ?_)
  · refine go (fun t k => XS.icmpYes X27.here hx rfl (pc0 := 90) (pc' := 101) rfl (hb hby at_90) rfl (tlt hc90).1 (by decide) (by decide) k) ?_
    show Gl _ _ _ _ _ _ _ _ (T27.setTop (mkF m 101 #[.val (.long q1), .second, .val (.long q2), .second, .val (.int p3), .val (.int p4), .val (.ref y2_x0), .val (.ref y4_x0), .val (.ref y8_x0), .val (.ref y11_x0), .val (.ref y16_x0), .val (.int (((p4.toUInt32 >>> ((16 : Int32) &&& 31).toUInt32).toInt32) &&& (3 : Int32))), .val (.ref o22), .unset, .unset, .unset, .unset] []))
    refine go (fun t k => XS.iload X27.here hx rfl (hb hby at_101) rfl  k) ?_
    show Gl _ _ _ _ _ _ _ _ (T27.setTop (mkF m 103 #[.val (.long q1), .second, .val (.long q2), .second, .val (.int p3), .val (.int p4), .val (.ref y2_x0), .val (.ref y4_x0), .val (.ref y8_x0), .val (.ref y11_x0), .val (.ref y16_x0), .val (.int (((p4.toUInt32 >>> ((16 : Int32) &&& 31).toUInt32).toInt32) &&& (3 : Int32))), .val (.ref o22), .unset, .unset, .unset, .unset] [(.int (((p4.toUInt32 >>> ((16 : Int32) &&& 31).toUInt32).toInt32) &&& (3 : Int32)))]))
    refine go (fun t k => XS.iconst X27.here hx rfl (hb hby at_103) k) ?_
    show Gl _ _ _ _ _ _ _ _ (T27.setTop (mkF m 104 #[.val (.long q1), .second, .val (.long q2), .second, .val (.int p3), .val (.int p4), .val (.ref y2_x0), .val (.ref y4_x0), .val (.ref y8_x0), .val (.ref y11_x0), .val (.ref y16_x0), .val (.int (((p4.toUInt32 >>> ((16 : Int32) &&& 31).toUInt32).toInt32) &&& (3 : Int32))), .val (.ref o22), .unset, .unset, .unset, .unset] [(.int (2 : Int32)), (.int (((p4.toUInt32 >>> ((16 : Int32) &&& 31).toUInt32).toInt32) &&& (3 : Int32)))]))
    refine go (fun t k => XS.icmpYes X27.here hx rfl (pc0 := 104) (pc' := 115) rfl (hb hby at_104) rfl (tlt (own_lt hc90 : (((p4.toUInt32 >>> ((16 : Int32) &&& 31).toUInt32).toInt32) &&& (3 : Int32)) < (2 : Int32))).1 (by decide) (by decide) k) ?_
    show Gl _ _ _ _ _ _ _ _ (T27.setTop (mkF m 115 #[.val (.long q1), .second, .val (.long q2), .second, .val (.int p3), .val (.int p4), .val (.ref y2_x0), .val (.ref y4_x0), .val (.ref y8_x0), .val (.ref y11_x0), .val (.ref y16_x0), .val (.int (((p4.toUInt32 >>> ((16 : Int32) &&& 31).toUInt32).toInt32) &&& (3 : Int32))), .val (.ref o22), .unset, .unset, .unset, .unset] []))
    refine go (fun t k => XS.aload X27.here hx rfl (hb hby at_115) rfl rfl k) ?_
    show Gl _ _ _ _ _ _ _ _ (T27.setTop (mkF m 117 #[.val (.long q1), .second, .val (.long q2), .second, .val (.int p3), .val (.int p4), .val (.ref y2_x0), .val (.ref y4_x0), .val (.ref y8_x0), .val (.ref y11_x0), .val (.ref y16_x0), .val (.int (((p4.toUInt32 >>> ((16 : Int32) &&& 31).toUInt32).toInt32) &&& (3 : Int32))), .val (.ref o22), .unset, .unset, .unset, .unset] [(.ref o22)]))
    obtain ⟨cq35, kq35, q35a, q35b, q35c⟩ := isOf hZ e27 Ex27
    obtain ⟨_, _, ⟨T35, L35, k35, n35⟩, -, X35, ⟨Lc35, hQ35, l35, y35, z35⟩, st35⟩ := X27.virtualBack hx (y := (⟨"java/util/ArrayList", "size", "()I"⟩ : MethodName)) (z := (⟨"java/util/ArrayList", "size", "()I"⟩ : MethodName)) hown (mvT hZ (hw _ (List.mem_of_getElem? (i := 50) rfl))) (mvT hZ (hw _ (List.mem_of_getElem? (i := 51) rfl))) (notFace_of_selects (args := #[]) (mvT hZ (hw _ (List.mem_of_getElem? (i := 53) rfl)))) (mvT hZ (hw _ (List.mem_of_getElem? (i := 53) rfl))) (mvT hZ (hw _ (List.mem_of_getElem? (i := 52) rfl))) (by decide) (backOf (W := 0) (rm9 l Z a0 hw [] o22 (0 : Int32) h27 n0 zs34 Fq27_size) hZ (hw _ (List.mem_of_getElem? (i := 54) rfl)) (hw _ (List.mem_of_getElem? (i := 28) rfl)) (by decide) (by decide)) q35a q35c (g := (mkF m 117 #[.val (.long q1), .second, .val (.long q2), .second, .val (.int p3), .val (.int p4), .val (.ref y2_x0), .val (.ref y4_x0), .val (.ref y8_x0), .val (.ref y11_x0), .val (.ref y16_x0), .val (.int (((p4.toUInt32 >>> ((16 : Int32) &&& 31).toUInt32).toInt32) &&& (3 : Int32))), .val (.ref o22), .unset, .unset, .unset, .unset] [(.ref o22)])) rfl (by rw [hml]; rfl) (Steps.refl _) (argsL := []) (rest := []) (lenOf pd_12 rfl) rfl (by show 2 * 0 + _ ≤ _; exact Nat.le_of_eq rfl) (hb hby at_117) (fun _ _ => ⟨rfl, e27, (by decide : 11 + 0 ≤ _), (by decide : 28 + 0 ≤ _)⟩)
    dsimp only [Pt.U, Pt.locs, Pt.cells, Pt.slots] at X35 l35 y35 z35 st35 hQ35
    replace X35 : Stand p l e room_1 s m #[(.long q1), (.long q2), (.int p3), (.int p4)] below meth c T35 _ 11 28 := own_mv X35 l35 y35 z35
    clear l35 y35 z35
    obtain ⟨⟨rfl, e35'⟩, N35q⟩ := hQ35
    have e35 : T35.heap = h27 := e35'
    have N35 := Fr.app N27 N35q
    refine go (fun t k => st35.trans k) ?_
    show Gl _ _ _ _ _ _ _ _ (T35.setTop (mkF m 120 #[.val (.long q1), .second, .val (.long q2), .second, .val (.int p3), .val (.int p4), .val (.ref y2_x0), .val (.ref y4_x0), .val (.ref y8_x0), .val (.ref y11_x0), .val (.ref y16_x0), .val (.int (((p4.toUInt32 >>> ((16 : Int32) &&& 31).toUInt32).toInt32) &&& (3 : Int32))), .val (.ref o22), .unset, .unset, .unset, .unset] [(.int (0 : Int32))]))
    refine go (fun t k => XS.istore X35.here hx rfl (hb hby at_120) rfl (l' := #[.val (.long q1), .second, .val (.long q2), .second, .val (.int p3), .val (.int p4), .val (.ref y2_x0), .val (.ref y4_x0), .val (.ref y8_x0), .val (.ref y11_x0), .val (.ref y16_x0), .val (.int (((p4.toUInt32 >>> ((16 : Int32) &&& 31).toUInt32).toInt32) &&& (3 : Int32))), .val (.ref o22), .val (.int (0 : Int32)), .unset, .unset, .unset]) rfl k) ?_
    show Gl _ _ _ _ _ _ _ _ (T35.setTop (mkF m 122 #[.val (.long q1), .second, .val (.long q2), .second, .val (.int p3), .val (.int p4), .val (.ref y2_x0), .val (.ref y4_x0), .val (.ref y8_x0), .val (.ref y11_x0), .val (.ref y16_x0), .val (.int (((p4.toUInt32 >>> ((16 : Int32) &&& 31).toUInt32).toInt32) &&& (3 : Int32))), .val (.ref o22), .val (.int (0 : Int32)), .unset, .unset, .unset] []))
    obtain ⟨T36, h36, X36, e36, E36, A36, D36, -, st36⟩ := newO X35 hx hZ hown (hw _ (List.mem_of_getElem? (i := 57) rfl)) (hw _ (List.mem_of_getElem? (i := 58) rfl)) (hw _ (List.mem_of_getElem? (i := 59) rfl)) e35 (g := (mkF m 122 #[.val (.long q1), .second, .val (.long q2), .second, .val (.int p3), .val (.int p4), .val (.ref y2_x0), .val (.ref y4_x0), .val (.ref y8_x0), .val (.ref y11_x0), .val (.ref y16_x0), .val (.int (((p4.toUInt32 >>> ((16 : Int32) &&& 31).toUInt32).toInt32) &&& (3 : Int32))), .val (.ref o22), .val (.int (0 : Int32)), .unset, .unset, .unset] [])) rfl (hb hby at_122) (by decide) (by decide)
    obtain ⟨o36, gq36⟩ : ∃ z, z = h27.size := ⟨_, rfl⟩
    rw [← gq36] at A36 D36 st36
    have g_o36 : n0 ≤ o36 := Nat.le_trans zs34 (Nat.le_of_eq gq36.symm)
    have ne_w_DEFAULTCAPACITY_EMPTY_ELEMENTDATA_o36 : w_DEFAULTCAPACITY_EMPTY_ELEMENTDATA ≠ o36 := Nat.ne_of_lt (Nat.lt_of_lt_of_le fs30.lt (Nat.le_of_eq gq36.symm))
    have ne_y2_x0_o36 : y2_x0 ≠ o36 := Nat.ne_of_lt (Nat.lt_of_lt_of_le fs31.lt (Nat.le_of_eq gq36.symm))
    have ne_y4_x0_o36 : y4_x0 ≠ o36 := Nat.ne_of_lt (Nat.lt_of_lt_of_le (fs24.keep K27q).lt (Nat.le_of_eq gq36.symm))
    have ne_y8_x0_o36 : y8_x0 ≠ o36 := Nat.ne_of_lt (Nat.lt_of_lt_of_le fs32.lt (Nat.le_of_eq gq36.symm))
    have ne_y11_x0_o36 : y11_x0 ≠ o36 := Nat.ne_of_lt (Nat.lt_of_lt_of_le (fs25.keep K27q).lt (Nat.le_of_eq gq36.symm))
    have ne_y16_x0_o36 : y16_x0 ≠ o36 := Nat.ne_of_lt (Nat.lt_of_lt_of_le fs33.lt (Nat.le_of_eq gq36.symm))
    have ne_o22_o36 : o22 ≠ o36 := Nat.ne_of_lt (Nat.lt_of_lt_of_le Ex27.lt (Nat.le_of_eq gq36.symm))
    have F_watched_o36 : Fld Z h36 o36 "com/example/leasehold/server/Watches$Kept" "watched" "Ljava/lang/String;" .null := D36 (Or.inr (hw _ (List.mem_of_getElem? (i := 70) rfl))) (ty := (.object "java/lang/String")) (by decide)
    have F_id_o36 : Fld Z h36 o36 "com/example/leasehold/server/Watches$Kept" "id" "Ljava/lang/String;" .null := D36 (Or.inr (hw _ (List.mem_of_getElem? (i := 72) rfl))) (ty := (.object "java/lang/String")) (by decide)
    have F_handback_o36 : Fld Z h36 o36 "com/example/leasehold/server/Watches$Kept" "handback" "Ljava/lang/String;" .null := D36 (Or.inr (hw _ (List.mem_of_getElem? (i := 74) rfl))) (ty := (.object "java/lang/String")) (by decide)
    have F_beside_o36 : Fld Z h36 o36 "com/example/leasehold/server/Watches$Kept" "beside" "Ljava/util/List;" .null := D36 (Or.inr (hw _ (List.mem_of_getElem? (i := 76) rfl))) (ty := (.object "java/util/List")) (by decide)
    have F_reserved_o36 : Fld Z h36 o36 "com/example/leasehold/server/Watches$Kept" "reserved" "J" (.long (0 : Int64)) := D36 (Or.inr (hw _ (List.mem_of_getElem? (i := 78) rfl))) (ty := .long) (by decide)
    have K36 : Keep h0 h36 [] := K27.ext E36
    have sz_o36 : h0.size ≤ o36 := Nat.le_trans K27.1 (Nat.le_of_eq gq36.symm)
    refine go (fun t k => st36 _ k) ?_
    have fs37 := ((fs24.keep K27q).ext E36)
    have fs38 := ((fs25.keep K27q).ext E36)
    have fs39 := (Fq27_elementData.ext E36)
    have zs40 := (Nat.le_trans zs34 E36.1)
    show Gl _ _ _ _ _ _ _ _ (T36.setTop (mkF m 125 #[.val (.long q1), .second, .val (.long q2), .second, .val (.int p3), .val (.int p4), .val (.ref y2_x0), .val (.ref y4_x0), .val (.ref y8_x0), .val (.ref y11_x0), .val (.ref y16_x0), .val (.int (((p4.toUInt32 >>> ((16 : Int32) &&& 31).toUInt32).toInt32) &&& (3 : Int32))), .val (.ref o22), .val (.int (0 : Int32)), .unset, .unset, .unset] [(.ref o36)]))
    refine go (fun t k => XS.dup X36.here hx rfl (hb hby at_125) rfl rfl k) ?_
    show Gl _ _ _ _ _ _ _ _ (T36.setTop (mkF m 126 #[.val (.long q1), .second, .val (.long q2), .second, .val (.int p3), .val (.int p4), .val (.ref y2_x0), .val (.ref y4_x0), .val (.ref y8_x0), .val (.ref y11_x0), .val (.ref y16_x0), .val (.int (((p4.toUInt32 >>> ((16 : Int32) &&& 31).toUInt32).toInt32) &&& (3 : Int32))), .val (.ref o22), .val (.int (0 : Int32)), .unset, .unset, .unset] [(.ref o36), (.ref o36)]))
    refine go (fun t k => XS.aload X36.here hx rfl (hb hby at_126) rfl rfl k) ?_
    show Gl _ _ _ _ _ _ _ _ (T36.setTop (mkF m 128 #[.val (.long q1), .second, .val (.long q2), .second, .val (.int p3), .val (.int p4), .val (.ref y2_x0), .val (.ref y4_x0), .val (.ref y8_x0), .val (.ref y11_x0), .val (.ref y16_x0), .val (.int (((p4.toUInt32 >>> ((16 : Int32) &&& 31).toUInt32).toInt32) &&& (3 : Int32))), .val (.ref o22), .val (.int (0 : Int32)), .unset, .unset, .unset] [(.ref y2_x0), (.ref o36), (.ref o36)]))
    refine go (fun t k => XS.aload X36.here hx rfl (hb hby at_128) rfl rfl k) ?_
    show Gl _ _ _ _ _ _ _ _ (T36.setTop (mkF m 130 #[.val (.long q1), .second, .val (.long q2), .second, .val (.int p3), .val (.int p4), .val (.ref y2_x0), .val (.ref y4_x0), .val (.ref y8_x0), .val (.ref y11_x0), .val (.ref y16_x0), .val (.int (((p4.toUInt32 >>> ((16 : Int32) &&& 31).toUInt32).toInt32) &&& (3 : Int32))), .val (.ref o22), .val (.int (0 : Int32)), .unset, .unset, .unset] [(.ref y4_x0), (.ref y2_x0), (.ref o36), (.ref o36)]))
    refine go (fun t k => XS.aload X36.here hx rfl (hb hby at_130) rfl rfl k) ?_
    show Gl _ _ _ _ _ _ _ _ (T36.setTop (mkF m 132 #[.val (.long q1), .second, .val (.long q2), .second, .val (.int p3), .val (.int p4), .val (.ref y2_x0), .val (.ref y4_x0), .val (.ref y8_x0), .val (.ref y11_x0), .val (.ref y16_x0), .val (.int (((p4.toUInt32 >>> ((16 : Int32) &&& 31).toUInt32).toInt32) &&& (3 : Int32))), .val (.ref o22), .val (.int (0 : Int32)), .unset, .unset, .unset] [(.ref y8_x0), (.ref y4_x0), (.ref y2_x0), (.ref o36), (.ref o36)]))
    refine go (fun t k => XS.aload X36.here hx rfl (hb hby at_132) rfl rfl k) ?_
    show Gl _ _ _ _ _ _ _ _ (T36.setTop (mkF m 134 #[.val (.long q1), .second, .val (.long q2), .second, .val (.int p3), .val (.int p4), .val (.ref y2_x0), .val (.ref y4_x0), .val (.ref y8_x0), .val (.ref y11_x0), .val (.ref y16_x0), .val (.int (((p4.toUInt32 >>> ((16 : Int32) &&& 31).toUInt32).toInt32) &&& (3 : Int32))), .val (.ref o22), .val (.int (0 : Int32)), .unset, .unset, .unset] [(.ref o22), (.ref y8_x0), (.ref y4_x0), (.ref y2_x0), (.ref o36), (.ref o36)]))
    refine go (fun t k => XS.lloadN X36.here hx rfl (hb hby at_134) rfl  k) ?_
    show Gl _ _ _ _ _ _ _ _ (T36.setTop (mkF m 135 #[.val (.long q1), .second, .val (.long q2), .second, .val (.int p3), .val (.int p4), .val (.ref y2_x0), .val (.ref y4_x0), .val (.ref y8_x0), .val (.ref y11_x0), .val (.ref y16_x0), .val (.int (((p4.toUInt32 >>> ((16 : Int32) &&& 31).toUInt32).toInt32) &&& (3 : Int32))), .val (.ref o22), .val (.int (0 : Int32)), .unset, .unset, .unset] [(.long q1), (.ref o22), (.ref y8_x0), (.ref y4_x0), (.ref y2_x0), (.ref o36), (.ref o36)]))
    obtain ⟨_, _, ⟨T41, L41, k41, n41⟩, -, X41, ⟨Lc41, hQ41, l41, y41, z41⟩, st41⟩ := X36.specialBack hx (y := (⟨"com/example/leasehold/server/Watches$Kept", "<init>", "(Ljava/lang/String;Ljava/lang/String;Ljava/lang/String;Ljava/util/List;J)V"⟩ : MethodName)) rfl hown (mvT hZ (hw _ (List.mem_of_getElem? (i := 60) rfl))) (mvT hZ (hw _ (List.mem_of_getElem? (i := 61) rfl))) (mvT hZ (hw _ (List.mem_of_getElem? (i := 62) rfl))) (by decide) (backOf (W := 1) (rm10 l Z a0 hw [] o36 y2_x0 y4_x0 y8_x0 o22 q1 (.null) (.null) (.null) (.null) ((.long (0 : Int64))) h36 n0 zs40 A36 g_o36 F_watched_o36 F_id_o36 F_handback_o36 F_beside_o36 F_reserved_o36) hZ (hw _ (List.mem_of_getElem? (i := 62) rfl)) (hw _ (List.mem_of_getElem? (i := 59) rfl)) (by decide) (by decide)) (g := (mkF m 135 #[.val (.long q1), .second, .val (.long q2), .second, .val (.int p3), .val (.int p4), .val (.ref y2_x0), .val (.ref y4_x0), .val (.ref y8_x0), .val (.ref y11_x0), .val (.ref y16_x0), .val (.int (((p4.toUInt32 >>> ((16 : Int32) &&& 31).toUInt32).toInt32) &&& (3 : Int32))), .val (.ref o22), .val (.int (0 : Int32)), .unset, .unset, .unset] [(.long q1), (.ref o22), (.ref y8_x0), (.ref y4_x0), (.ref y2_x0), (.ref o36), (.ref o36)])) rfl (by rw [hml]; rfl) (Steps.refl _) (a := o36) (argsL := [(.ref y2_x0), (.ref y4_x0), (.ref y8_x0), (.ref o22), (.long q1)]) (rest := [(.ref o36)]) (lenOf pd_10 rfl) rfl (by show 2 * 0 + _ ≤ _; exact Nat.le_of_eq rfl) (hb hby at_135) (fun _ _ => ⟨rfl, e36, (by decide : 12 + 0 ≤ _), (by decide : 33 + 0 ≤ _)⟩)
    dsimp only [Pt.U, Pt.locs, Pt.cells, Pt.slots] at X41 l41 y41 z41 st41 hQ41
    replace X41 : Stand p l e room_1 s m #[(.long q1), (.long q2), (.int p3), (.int p4)] below meth c T41 _ 12 33 := own_mv X41 l41 y41 z41
    clear l41 y41 z41
    obtain ⟨⟨rfl, K41q, Ex41, Fq41_watched, Fq41_id, Fq41_handback, Fq41_beside, Fq41_reserved⟩, N41q⟩ := hQ41
    obtain ⟨h41, e41⟩ : ∃ z, T41.heap = z := ⟨_, rfl⟩
    rw [e41] at K41q Ex41 Fq41_watched Fq41_id Fq41_handback Fq41_beside Fq41_reserved
    have K41 : Keep h0 h41 [] := K36.trans K41q (allS (Or.inr sz_o36) all0)
    have N41 := Fr.app N35 N41q
    refine go (fun t k => st41.trans k) ?_
    have fs42 := (sta_keep (fs28.ext E36) K41q A36)
    have fs43 := (sta_keep (fs29.ext E36) K41q A36)
    have fs44 := ((fs30.ext E36).keep K41q (ninS ne_w_DEFAULTCAPACITY_EMPTY_ELEMENTDATA_o36 nin0))
    have fs45 := ((fs31.ext E36).keep K41q)
    have fs46 := ((fs32.ext E36).keep K41q)
    have fs47 := ((fs33.ext E36).keep K41q)
    have fs48 := ((Ex27.ext E36).keep K41q)
    have fs49 := ((Fq27_size.ext E36).keep K41q (ninS ne_o22_o36 nin0))
    have fs50 := (fs39.keep K41q (ninS ne_o22_o36 nin0))
    have fs51 := ((Fq27_modCount.ext E36).keep K41q (ninS ne_o22_o36 nin0))
    have zs52 := (Nat.le_trans zs40 K41q.1)
    show Gl _ _ _ _ _ _ _ _ (T41.setTop (mkF m 138 #[.val (.long q1), .second, .val (.long q2), .second, .val (.int p3), .val (.int p4), .val (.ref y2_x0), .val (.ref y4_x0), .val (.ref y8_x0), .val (.ref y11_x0), .val (.ref y16_x0), .val (.int (((p4.toUInt32 >>> ((16 : Int32) &&& 31).toUInt32).toInt32) &&& (3 : Int32))), .val (.ref o22), .val (.int (0 : Int32)), .unset, .unset, .unset] [(.ref o36)]))
    refine go (fun t k => XS.astore X41.here hx rfl (hb hby at_138) rfl rfl (l' := #[.val (.long q1), .second, .val (.long q2), .second, .val (.int p3), .val (.int p4), .val (.ref y2_x0), .val (.ref y4_x0), .val (.ref y8_x0), .val (.ref y11_x0), .val (.ref y16_x0), .val (.int (((p4.toUInt32 >>> ((16 : Int32) &&& 31).toUInt32).toInt32) &&& (3 : Int32))), .val (.ref o22), .val (.int (0 : Int32)), .val (.ref o36), .unset, .unset]) rfl k) ?_
    show Gl _ _ _ _ _ _ _ _ (T41.setTop (mkF m 140 #[.val (.long q1), .second, .val (.long q2), .second, .val (.int p3), .val (.int p4), .val (.ref y2_x0), .val (.ref y4_x0), .val (.ref y8_x0), .val (.ref y11_x0), .val (.ref y16_x0), .val (.int (((p4.toUInt32 >>> ((16 : Int32) &&& 31).toUInt32).toInt32) &&& (3 : Int32))), .val (.ref o22), .val (.int (0 : Int32)), .val (.ref o36), .unset, .unset] []))
    refine go (fun t k => XS.aload X41.here hx rfl (hb hby at_140) rfl rfl k) ?_
    show Gl _ _ _ _ _ _ _ _ (T41.setTop (mkF m 142 #[.val (.long q1), .second, .val (.long q2), .second, .val (.int p3), .val (.int p4), .val (.ref y2_x0), .val (.ref y4_x0), .val (.ref y8_x0), .val (.ref y11_x0), .val (.ref y16_x0), .val (.int (((p4.toUInt32 >>> ((16 : Int32) &&& 31).toUInt32).toInt32) &&& (3 : Int32))), .val (.ref o22), .val (.int (0 : Int32)), .val (.ref o36), .unset, .unset] [(.ref o36)]))
    refine go (fun t k => XS.lloadN X41.here hx rfl (hb hby at_142) rfl  k) ?_
    show Gl _ _ _ _ _ _ _ _ (T41.setTop (mkF m 143 #[.val (.long q1), .second, .val (.long q2), .second, .val (.int p3), .val (.int p4), .val (.ref y2_x0), .val (.ref y4_x0), .val (.ref y8_x0), .val (.ref y11_x0), .val (.ref y16_x0), .val (.int (((p4.toUInt32 >>> ((16 : Int32) &&& 31).toUInt32).toInt32) &&& (3 : Int32))), .val (.ref o22), .val (.int (0 : Int32)), .val (.ref o36), .unset, .unset] [(.long q2), (.ref o36)]))
    obtain ⟨cq53, kq53, q53a, q53b, q53c⟩ := isOf hZ e41 Ex41
    obtain ⟨_, _, ⟨T53, L53, k53, n53⟩, -, X53, ⟨Lc53, hQ53, l53, y53, z53⟩, st53⟩ := X41.virtualBack hx (y := (⟨"com/example/leasehold/server/Watches$Kept", "reserving", "(J)Lcom/example/leasehold/server/Watches$Kept;"⟩ : MethodName)) (z := (⟨"com/example/leasehold/server/Watches$Kept", "reserving", "(J)Lcom/example/leasehold/server/Watches$Kept;"⟩ : MethodName)) hown (mvT hZ (hw _ (List.mem_of_getElem? (i := 79) rfl))) (mvT hZ (hw _ (List.mem_of_getElem? (i := 80) rfl))) (notFace_of_selects (args := #[]) (mvT hZ (hw _ (List.mem_of_getElem? (i := 82) rfl)))) (mvT hZ (hw _ (List.mem_of_getElem? (i := 82) rfl))) (mvT hZ (hw _ (List.mem_of_getElem? (i := 81) rfl))) (by decide) (backOf (W := 0) (rm12 l Z a0 hw [] o36 q2 y2_x0 y4_x0 y8_x0 o22 h41 n0 zs52 Ex41 Fq41_watched Fq41_id Fq41_handback Fq41_beside) hZ (hw _ (List.mem_of_getElem? (i := 83) rfl)) (hw _ (List.mem_of_getElem? (i := 59) rfl)) (by decide) (by decide)) q53a q53c (g := (mkF m 143 #[.val (.long q1), .second, .val (.long q2), .second, .val (.int p3), .val (.int p4), .val (.ref y2_x0), .val (.ref y4_x0), .val (.ref y8_x0), .val (.ref y11_x0), .val (.ref y16_x0), .val (.int (((p4.toUInt32 >>> ((16 : Int32) &&& 31).toUInt32).toInt32) &&& (3 : Int32))), .val (.ref o22), .val (.int (0 : Int32)), .val (.ref o36), .unset, .unset] [(.long q2), (.ref o36)])) rfl (by rw [hml]; rfl) (Steps.refl _) (argsL := [(.long q2)]) (rest := []) (lenOf pd_13 rfl) rfl (by show 2 * 0 + _ ≤ _; exact Nat.le_of_eq rfl) (hb hby at_143) (fun _ _ => ⟨rfl, e41, (by decide : 12 + 1 ≤ _), (by decide : 33 + 5 ≤ _)⟩)
    dsimp only [Pt.U, Pt.locs, Pt.cells, Pt.slots] at X53 l53 y53 z53 st53 hQ53
    replace X53 : Stand p l e room_1 s m #[(.long q1), (.long q2), (.int p3), (.int p4)] below meth c T53 _ 13 38 := own_mv X53 l53 y53 z53
    clear l53 y53 z53
    obtain ⟨⟨y53_x0, rfl, K53q, so53_0, Fo53_0, Fo53_1, Fo53_2, Fo53_3, Fo53_4, Fo53_5⟩, N53q⟩ := hQ53
    obtain ⟨h53, e53⟩ : ∃ z, T53.heap = z := ⟨_, rfl⟩
    rw [e53] at K53q Fo53_0 Fo53_1 Fo53_2 Fo53_3 Fo53_4 Fo53_5
    have K53 : Keep h0 h53 [] := K41.trans K53q all0
    have g_y53_x0 : n0 ≤ y53_x0 := Nat.le_trans zs52 so53_0
    have sz_y53_x0 : h0.size ≤ y53_x0 := Nat.le_trans K41.1 so53_0
    have ne_w_DEFAULTCAPACITY_EMPTY_ELEMENTDATA_y53_x0 : w_DEFAULTCAPACITY_EMPTY_ELEMENTDATA ≠ y53_x0 := Nat.ne_of_lt (Nat.lt_of_lt_of_le fs44.lt so53_0)
    have ne_y2_x0_y53_x0 : y2_x0 ≠ y53_x0 := Nat.ne_of_lt (Nat.lt_of_lt_of_le fs45.lt so53_0)
    have ne_y4_x0_y53_x0 : y4_x0 ≠ y53_x0 := Nat.ne_of_lt (Nat.lt_of_lt_of_le (fs37.keep K41q).lt so53_0)
    have ne_y8_x0_y53_x0 : y8_x0 ≠ y53_x0 := Nat.ne_of_lt (Nat.lt_of_lt_of_le fs46.lt so53_0)
    have ne_y11_x0_y53_x0 : y11_x0 ≠ y53_x0 := Nat.ne_of_lt (Nat.lt_of_lt_of_le (fs38.keep K41q).lt so53_0)
    have ne_y16_x0_y53_x0 : y16_x0 ≠ y53_x0 := Nat.ne_of_lt (Nat.lt_of_lt_of_le fs47.lt so53_0)
    have ne_o22_y53_x0 : o22 ≠ y53_x0 := Nat.ne_of_lt (Nat.lt_of_lt_of_le fs48.lt so53_0)
    have ne_o36_y53_x0 : o36 ≠ y53_x0 := Nat.ne_of_lt (Nat.lt_of_lt_of_le Ex41.lt so53_0)
    have N53 := Fr.app N41 N53q
    refine go (fun t k => st53.trans k) ?_
    have fs54 := (sta_keepN fs42 K53q ns0)
    have fs55 := (sta_keepN fs43 K53q ns0)
    have fs56 := ((fs37.keep K41q).keep K53q)
    have fs57 := ((fs38.keep K41q).keep K53q)
    have fs58 := (Fq41_watched.keep K53q nin0)
    have fs59 := (Fq41_handback.keep K53q nin0)
    have fs60 := (Fq41_beside.keep K53q nin0)
    have fs61 := (Fq41_reserved.keep K53q nin0)
    have zs62 := (Nat.le_trans zs52 K53q.1)
    show Gl _ _ _ _ _ _ _ _ (T53.setTop (mkF m 146 #[.val (.long q1), .second, .val (.long q2), .second, .val (.int p3), .val (.int p4), .val (.ref y2_x0), .val (.ref y4_x0), .val (.ref y8_x0), .val (.ref y11_x0), .val (.ref y16_x0), .val (.int (((p4.toUInt32 >>> ((16 : Int32) &&& 31).toUInt32).toInt32) &&& (3 : Int32))), .val (.ref o22), .val (.int (0 : Int32)), .val (.ref o36), .unset, .unset] [(.ref y53_x0)]))
    refine go (fun t k => XS.astore X53.here hx rfl (hb hby at_146) rfl rfl (l' := #[.val (.long q1), .second, .val (.long q2), .second, .val (.int p3), .val (.int p4), .val (.ref y2_x0), .val (.ref y4_x0), .val (.ref y8_x0), .val (.ref y11_x0), .val (.ref y16_x0), .val (.int (((p4.toUInt32 >>> ((16 : Int32) &&& 31).toUInt32).toInt32) &&& (3 : Int32))), .val (.ref o22), .val (.int (0 : Int32)), .val (.ref o36), .val (.ref y53_x0), .unset]) rfl k) ?_
    show Gl _ _ _ _ _ _ _ _ (T53.setTop (mkF m 148 #[.val (.long q1), .second, .val (.long q2), .second, .val (.int p3), .val (.int p4), .val (.ref y2_x0), .val (.ref y4_x0), .val (.ref y8_x0), .val (.ref y11_x0), .val (.ref y16_x0), .val (.int (((p4.toUInt32 >>> ((16 : Int32) &&& 31).toUInt32).toInt32) &&& (3 : Int32))), .val (.ref o22), .val (.int (0 : Int32)), .val (.ref o36), .val (.ref y53_x0), .unset] []))
    refine go (fun t k => XS.aload X53.here hx rfl (hb hby at_148) rfl rfl k) ?_
    show Gl _ _ _ _ _ _ _ _ (T53.setTop (mkF m 150 #[.val (.long q1), .second, .val (.long q2), .second, .val (.int p3), .val (.int p4), .val (.ref y2_x0), .val (.ref y4_x0), .val (.ref y8_x0), .val (.ref y11_x0), .val (.ref y16_x0), .val (.int (((p4.toUInt32 >>> ((16 : Int32) &&& 31).toUInt32).toInt32) &&& (3 : Int32))), .val (.ref o22), .val (.int (0 : Int32)), .val (.ref o36), .val (.ref y53_x0), .unset] [(.ref y53_x0)]))
    obtain ⟨cq63, kq63, q63a, q63b, q63c⟩ := isOf hZ e53 Fo53_0
    obtain ⟨_, _, ⟨T63, L63, k63, n63⟩, -, X63, ⟨Lc63, hQ63, l63, y63, z63⟩, st63⟩ := X53.virtualBack hx (y := (⟨"com/example/leasehold/server/Watches$Kept", "reserved", "()J"⟩ : MethodName)) (z := (⟨"com/example/leasehold/server/Watches$Kept", "reserved", "()J"⟩ : MethodName)) hown (mvT hZ (hw _ (List.mem_of_getElem? (i := 86) rfl))) (mvT hZ (hw _ (List.mem_of_getElem? (i := 87) rfl))) (notFace_of_selects (args := #[]) (mvT hZ (hw _ (List.mem_of_getElem? (i := 89) rfl)))) (mvT hZ (hw _ (List.mem_of_getElem? (i := 89) rfl))) (mvT hZ (hw _ (List.mem_of_getElem? (i := 88) rfl))) (by decide) (backOf (W := 0) (rm13 l Z a0 hw [] y53_x0 q2 h53 n0 zs62 Fo53_5) hZ (hw _ (List.mem_of_getElem? (i := 90) rfl)) (hw _ (List.mem_of_getElem? (i := 59) rfl)) (by decide) (by decide)) q63a q63c (g := (mkF m 150 #[.val (.long q1), .second, .val (.long q2), .second, .val (.int p3), .val (.int p4), .val (.ref y2_x0), .val (.ref y4_x0), .val (.ref y8_x0), .val (.ref y11_x0), .val (.ref y16_x0), .val (.int (((p4.toUInt32 >>> ((16 : Int32) &&& 31).toUInt32).toInt32) &&& (3 : Int32))), .val (.ref o22), .val (.int (0 : Int32)), .val (.ref o36), .val (.ref y53_x0), .unset] [(.ref y53_x0)])) rfl (by rw [hml]; rfl) (Steps.refl _) (argsL := []) (rest := []) (lenOf pd_14 rfl) rfl (by show 2 * 0 + _ ≤ _; exact Nat.le_of_eq rfl) (hb hby at_150) (fun _ _ => ⟨rfl, e53, (by decide : 13 + 0 ≤ _), (by decide : 38 + 0 ≤ _)⟩)
    dsimp only [Pt.U, Pt.locs, Pt.cells, Pt.slots] at X63 l63 y63 z63 st63 hQ63
    replace X63 : Stand p l e room_1 s m #[(.long q1), (.long q2), (.int p3), (.int p4)] below meth c T63 _ 13 38 := own_mv X63 l63 y63 z63
    clear l63 y63 z63
    obtain ⟨⟨rfl, e63'⟩, N63q⟩ := hQ63
    have e63 : T63.heap = h53 := e63'
    have N63 := Fr.app N53 N63q
    refine go (fun t k => st63.trans k) ?_
    show Gl _ _ _ _ _ _ _ _ (T63.setTop (mkF m 153 #[.val (.long q1), .second, .val (.long q2), .second, .val (.int p3), .val (.int p4), .val (.ref y2_x0), .val (.ref y4_x0), .val (.ref y8_x0), .val (.ref y11_x0), .val (.ref y16_x0), .val (.int (((p4.toUInt32 >>> ((16 : Int32) &&& 31).toUInt32).toInt32) &&& (3 : Int32))), .val (.ref o22), .val (.int (0 : Int32)), .val (.ref o36), .val (.ref y53_x0), .unset] [(.long q2)]))
    refine go (fun t k => XS.lloadN X63.here hx rfl (hb hby at_153) rfl  k) ?_
    show Gl _ _ _ _ _ _ _ _ (T63.setTop (mkF m 154 #[.val (.long q1), .second, .val (.long q2), .second, .val (.int p3), .val (.int p4), .val (.ref y2_x0), .val (.ref y4_x0), .val (.ref y8_x0), .val (.ref y11_x0), .val (.ref y16_x0), .val (.int (((p4.toUInt32 >>> ((16 : Int32) &&& 31).toUInt32).toInt32) &&& (3 : Int32))), .val (.ref o22), .val (.int (0 : Int32)), .val (.ref o36), .val (.ref y53_x0), .unset] [(.long q2), (.long q2)]))
    refine go (fun t k => XS.lcmp X63.here hx rfl (hb hby at_154) rfl k) ?_
    show Gl _ _ _ _ _ _ _ _ (T63.setTop (mkF m 155 #[.val (.long q1), .second, .val (.long q2), .second, .val (.int p3), .val (.int p4), .val (.ref y2_x0), .val (.ref y4_x0), .val (.ref y8_x0), .val (.ref y11_x0), .val (.ref y16_x0), .val (.int (((p4.toUInt32 >>> ((16 : Int32) &&& 31).toUInt32).toInt32) &&& (3 : Int32))), .val (.ref o22), .val (.int (0 : Int32)), .val (.ref o36), .val (.ref y53_x0), .unset] [(.int (lcmpW q2 q2))]))
    refine gI (c := q2 = q2) (fun hc155 => ?_) (fun hc155 => ?_)
    · refine go (fun t k => XS.ifYes X63.here hx rfl (pc0 := 155) (pc' := 160) rfl (hb hby at_155) rfl ((if0 _ _).trans (teq ((lw_eq q2 q2).mpr hc155)).1) (by decide) (by decide) k) ?_
      show Gl _ _ _ _ _ _ _ _ (T63.setTop (mkF m 160 #[.val (.long q1), .second, .val (.long q2), .second, .val (.int p3), .val (.int p4), .val (.ref y2_x0), .val (.ref y4_x0), .val (.ref y8_x0), .val (.ref y11_x0), .val (.ref y16_x0), .val (.int (((p4.toUInt32 >>> ((16 : Int32) &&& 31).toUInt32).toInt32) &&& (3 : Int32))), .val (.ref o22), .val (.int (0 : Int32)), .val (.ref o36), .val (.ref y53_x0), .unset] []))
      refine go (fun t k => XS.aload X63.here hx rfl (hb hby at_160) rfl rfl k) ?_
      show Gl _ _ _ _ _ _ _ _ (T63.setTop (mkF m 162 #[.val (.long q1), .second, .val (.long q2), .second, .val (.int p3), .val (.int p4), .val (.ref y2_x0), .val (.ref y4_x0), .val (.ref y8_x0), .val (.ref y11_x0), .val (.ref y16_x0), .val (.int (((p4.toUInt32 >>> ((16 : Int32) &&& 31).toUInt32).toInt32) &&& (3 : Int32))), .val (.ref o22), .val (.int (0 : Int32)), .val (.ref o36), .val (.ref y53_x0), .unset] [(.ref o36)]))
      obtain ⟨cq64, kq64, q64a, q64b, q64c⟩ := isOf hZ e63 (Ex41.keep K53q)
      obtain ⟨_, _, ⟨T64, L64, k64, n64⟩, -, X64, ⟨Lc64, hQ64, l64, y64, z64⟩, st64⟩ := X63.virtualBack hx (y := (⟨"com/example/leasehold/server/Watches$Kept", "reserved", "()J"⟩ : MethodName)) (z := (⟨"com/example/leasehold/server/Watches$Kept", "reserved", "()J"⟩ : MethodName)) hown (mvT hZ (hw _ (List.mem_of_getElem? (i := 86) rfl))) (mvT hZ (hw _ (List.mem_of_getElem? (i := 87) rfl))) (notFace_of_selects (args := #[]) (mvT hZ (hw _ (List.mem_of_getElem? (i := 89) rfl)))) (mvT hZ (hw _ (List.mem_of_getElem? (i := 89) rfl))) (mvT hZ (hw _ (List.mem_of_getElem? (i := 88) rfl))) (by decide) (backOf (W := 0) (rm13 l Z a0 hw [] o36 q1 h53 n0 zs62 fs61) hZ (hw _ (List.mem_of_getElem? (i := 90) rfl)) (hw _ (List.mem_of_getElem? (i := 59) rfl)) (by decide) (by decide)) q64a q64c (g := (mkF m 162 #[.val (.long q1), .second, .val (.long q2), .second, .val (.int p3), .val (.int p4), .val (.ref y2_x0), .val (.ref y4_x0), .val (.ref y8_x0), .val (.ref y11_x0), .val (.ref y16_x0), .val (.int (((p4.toUInt32 >>> ((16 : Int32) &&& 31).toUInt32).toInt32) &&& (3 : Int32))), .val (.ref o22), .val (.int (0 : Int32)), .val (.ref o36), .val (.ref y53_x0), .unset] [(.ref o36)])) rfl (by rw [hml]; rfl) (Steps.refl _) (argsL := []) (rest := []) (lenOf pd_14 rfl) rfl (by show 2 * 0 + _ ≤ _; exact Nat.le_of_eq rfl) (hb hby at_162) (fun _ _ => ⟨rfl, e63, (by decide : 13 + 0 ≤ _), (by decide : 38 + 0 ≤ _)⟩)
      dsimp only [Pt.U, Pt.locs, Pt.cells, Pt.slots] at X64 l64 y64 z64 st64 hQ64
      replace X64 : Stand p l e room_1 s m #[(.long q1), (.long q2), (.int p3), (.int p4)] below meth c T64 _ 13 38 := own_mv X64 l64 y64 z64
      clear l64 y64 z64
      obtain ⟨⟨rfl, e64'⟩, N64q⟩ := hQ64
      have e64 : T64.heap = h53 := e64'
      have N64 := Fr.app N63 N64q
      refine go (fun t k => st64.trans k) ?_
      show Gl _ _ _ _ _ _ _ _ (T64.setTop (mkF m 165 #[.val (.long q1), .second, .val (.long q2), .second, .val (.int p3), .val (.int p4), .val (.ref y2_x0), .val (.ref y4_x0), .val (.ref y8_x0), .val (.ref y11_x0), .val (.ref y16_x0), .val (.int (((p4.toUInt32 >>> ((16 : Int32) &&& 31).toUInt32).toInt32) &&& (3 : Int32))), .val (.ref o22), .val (.int (0 : Int32)), .val (.ref o36), .val (.ref y53_x0), .unset] [(.long q1)]))
      refine go (fun t k => XS.lloadN X64.here hx rfl (hb hby at_165) rfl  k) ?_
      show Gl _ _ _ _ _ _ _ _ (T64.setTop (mkF m 166 #[.val (.long q1), .second, .val (.long q2), .second, .val (.int p3), .val (.int p4), .val (.ref y2_x0), .val (.ref y4_x0), .val (.ref y8_x0), .val (.ref y11_x0), .val (.ref y16_x0), .val (.int (((p4.toUInt32 >>> ((16 : Int32) &&& 31).toUInt32).toInt32) &&& (3 : Int32))), .val (.ref o22), .val (.int (0 : Int32)), .val (.ref o36), .val (.ref y53_x0), .unset] [(.long q1), (.long q1)]))
      refine go (fun t k => XS.lcmp X64.here hx rfl (hb hby at_166) rfl k) ?_
      show Gl _ _ _ _ _ _ _ _ (T64.setTop (mkF m 167 #[.val (.long q1), .second, .val (.long q2), .second, .val (.int p3), .val (.int p4), .val (.ref y2_x0), .val (.ref y4_x0), .val (.ref y8_x0), .val (.ref y11_x0), .val (.ref y16_x0), .val (.int (((p4.toUInt32 >>> ((16 : Int32) &&& 31).toUInt32).toInt32) &&& (3 : Int32))), .val (.ref o22), .val (.int (0 : Int32)), .val (.ref o36), .val (.ref y53_x0), .unset] [(.int (lcmpW q1 q1))]))
      refine gI (c := q1 = q1) (fun hc167 => ?_) (fun hc167 => ?_)
      · refine go (fun t k => XS.ifYes X64.here hx rfl (pc0 := 167) (pc' := 172) rfl (hb hby at_167) rfl ((if0 _ _).trans (teq ((lw_eq q1 q1).mpr hc167)).1) (by decide) (by decide) k) ?_
        show Gl _ _ _ _ _ _ _ _ (T64.setTop (mkF m 172 #[.val (.long q1), .second, .val (.long q2), .second, .val (.int p3), .val (.int p4), .val (.ref y2_x0), .val (.ref y4_x0), .val (.ref y8_x0), .val (.ref y11_x0), .val (.ref y16_x0), .val (.int (((p4.toUInt32 >>> ((16 : Int32) &&& 31).toUInt32).toInt32) &&& (3 : Int32))), .val (.ref o22), .val (.int (0 : Int32)), .val (.ref o36), .val (.ref y53_x0), .unset] []))
        refine go (fun t k => XS.aload X64.here hx rfl (hb hby at_172) rfl rfl k) ?_
        show Gl _ _ _ _ _ _ _ _ (T64.setTop (mkF m 174 #[.val (.long q1), .second, .val (.long q2), .second, .val (.int p3), .val (.int p4), .val (.ref y2_x0), .val (.ref y4_x0), .val (.ref y8_x0), .val (.ref y11_x0), .val (.ref y16_x0), .val (.int (((p4.toUInt32 >>> ((16 : Int32) &&& 31).toUInt32).toInt32) &&& (3 : Int32))), .val (.ref o22), .val (.int (0 : Int32)), .val (.ref o36), .val (.ref y53_x0), .unset] [(.ref y2_x0)]))
        refine go (fun t k => XS.aload X64.here hx rfl (hb hby at_174) rfl rfl k) ?_
        show Gl _ _ _ _ _ _ _ _ (T64.setTop (mkF m 176 #[.val (.long q1), .second, .val (.long q2), .second, .val (.int p3), .val (.int p4), .val (.ref y2_x0), .val (.ref y4_x0), .val (.ref y8_x0), .val (.ref y11_x0), .val (.ref y16_x0), .val (.int (((p4.toUInt32 >>> ((16 : Int32) &&& 31).toUInt32).toInt32) &&& (3 : Int32))), .val (.ref o22), .val (.int (0 : Int32)), .val (.ref o36), .val (.ref y53_x0), .unset] [(.ref y53_x0), (.ref y2_x0)]))
        obtain ⟨cq65, kq65, q65a, q65b, q65c⟩ := isOf hZ e64 Fo53_0
        obtain ⟨_, _, ⟨T65, L65, k65, n65⟩, -, X65, ⟨Lc65, hQ65, l65, y65, z65⟩, st65⟩ := X64.virtualBack hx (y := (⟨"com/example/leasehold/server/Watches$Kept", "watched", "()Ljava/lang/String;"⟩ : MethodName)) (z := (⟨"com/example/leasehold/server/Watches$Kept", "watched", "()Ljava/lang/String;"⟩ : MethodName)) hown (mvT hZ (hw _ (List.mem_of_getElem? (i := 91) rfl))) (mvT hZ (hw _ (List.mem_of_getElem? (i := 92) rfl))) (notFace_of_selects (args := #[]) (mvT hZ (hw _ (List.mem_of_getElem? (i := 94) rfl)))) (mvT hZ (hw _ (List.mem_of_getElem? (i := 94) rfl))) (mvT hZ (hw _ (List.mem_of_getElem? (i := 93) rfl))) (by decide) (backOf (W := 1) (rm14 l Z a0 hw [] y53_x0 y2_x0 h53 n0 zs62 Fo53_1) hZ (hw _ (List.mem_of_getElem? (i := 95) rfl)) (hw _ (List.mem_of_getElem? (i := 59) rfl)) (by decide) (by decide)) q65a q65c (g := (mkF m 176 #[.val (.long q1), .second, .val (.long q2), .second, .val (.int p3), .val (.int p4), .val (.ref y2_x0), .val (.ref y4_x0), .val (.ref y8_x0), .val (.ref y11_x0), .val (.ref y16_x0), .val (.int (((p4.toUInt32 >>> ((16 : Int32) &&& 31).toUInt32).toInt32) &&& (3 : Int32))), .val (.ref o22), .val (.int (0 : Int32)), .val (.ref o36), .val (.ref y53_x0), .unset] [(.ref y53_x0), (.ref y2_x0)])) rfl (by rw [hml]; rfl) (Steps.refl _) (argsL := []) (rest := [(.ref y2_x0)]) (lenOf pd_15 rfl) rfl (by show 2 * 0 + _ ≤ _; exact Nat.le_of_eq rfl) (hb hby at_176) (fun _ _ => ⟨rfl, e64, (by decide : 13 + 0 ≤ _), (by decide : 38 + 0 ≤ _)⟩)
        dsimp only [Pt.U, Pt.locs, Pt.cells, Pt.slots] at X65 l65 y65 z65 st65 hQ65
        replace X65 : Stand p l e room_1 s m #[(.long q1), (.long q2), (.int p3), (.int p4)] below meth c T65 _ 13 38 := own_mv X65 l65 y65 z65
        clear l65 y65 z65
        obtain ⟨⟨rfl, e65'⟩, N65q⟩ := hQ65
        have e65 : T65.heap = h53 := e65'
        have N65 := Fr.app N64 N65q
        refine go (fun t k => st65.trans k) ?_
        show Gl _ _ _ _ _ _ _ _ (T65.setTop (mkF m 179 #[.val (.long q1), .second, .val (.long q2), .second, .val (.int p3), .val (.int p4), .val (.ref y2_x0), .val (.ref y4_x0), .val (.ref y8_x0), .val (.ref y11_x0), .val (.ref y16_x0), .val (.int (((p4.toUInt32 >>> ((16 : Int32) &&& 31).toUInt32).toInt32) &&& (3 : Int32))), .val (.ref o22), .val (.int (0 : Int32)), .val (.ref o36), .val (.ref y53_x0), .unset] [(.ref y2_x0), (.ref y2_x0)]))
        obtain ⟨cq66, kq66, q66a, q66b, q66c⟩ := isOf hZ e65 (fs45.keep K53q)
        obtain ⟨_, _, ⟨T66, L66, k66, n66⟩, -, X66, ⟨Lc66, hQ66, l66, y66, z66⟩, st66⟩ := X65.virtualBack hx (y := (⟨"java/lang/String", "equals", "(Ljava/lang/Object;)Z"⟩ : MethodName)) (z := (⟨"java/lang/String", "equals", "(Ljava/lang/Object;)Z"⟩ : MethodName)) hown (mvT hZ (hw _ (List.mem_of_getElem? (i := 96) rfl))) (mvT hZ (hw _ (List.mem_of_getElem? (i := 97) rfl))) (notFace_of_selects (args := #[]) (mvT hZ (hw _ (List.mem_of_getElem? (i := 99) rfl)))) (mvT hZ (hw _ (List.mem_of_getElem? (i := 99) rfl))) (mvT hZ (hw _ (List.mem_of_getElem? (i := 98) rfl))) (by decide) (backOf (W := 0) (rm15 l Z a0 hw [] y2_x0 h53 n0 zs62 ) hZ (hw _ (List.mem_of_getElem? (i := 100) rfl)) (hw _ (List.mem_of_getElem? (i := 2) rfl)) (by decide) (by decide)) q66a q66c (g := (mkF m 179 #[.val (.long q1), .second, .val (.long q2), .second, .val (.int p3), .val (.int p4), .val (.ref y2_x0), .val (.ref y4_x0), .val (.ref y8_x0), .val (.ref y11_x0), .val (.ref y16_x0), .val (.int (((p4.toUInt32 >>> ((16 : Int32) &&& 31).toUInt32).toInt32) &&& (3 : Int32))), .val (.ref o22), .val (.int (0 : Int32)), .val (.ref o36), .val (.ref y53_x0), .unset] [(.ref y2_x0), (.ref y2_x0)])) rfl (by rw [hml]; rfl) (Steps.refl _) (argsL := [(.ref y2_x0)]) (rest := []) (lenOf pd_16 rfl) rfl (by show 2 * 0 + _ ≤ _; exact Nat.le_of_eq rfl) (hb hby at_179) (fun _ _ => ⟨rfl, e65, (by decide : 13 + 0 ≤ _), (by decide : 38 + 0 ≤ _)⟩)
        dsimp only [Pt.U, Pt.locs, Pt.cells, Pt.slots] at X66 l66 y66 z66 st66 hQ66
        replace X66 : Stand p l e room_1 s m #[(.long q1), (.long q2), (.int p3), (.int p4)] below meth c T66 _ 13 38 := own_mv X66 l66 y66 z66
        clear l66 y66 z66
        obtain ⟨⟨rfl, e66'⟩, N66q⟩ := hQ66
        have e66 : T66.heap = h53 := e66'
        have N66 := Fr.app N65 N66q
        refine go (fun t k => st66.trans k) ?_
        show Gl _ _ _ _ _ _ _ _ (T66.setTop (mkF m 182 #[.val (.long q1), .second, .val (.long q2), .second, .val (.int p3), .val (.int p4), .val (.ref y2_x0), .val (.ref y4_x0), .val (.ref y8_x0), .val (.ref y11_x0), .val (.ref y16_x0), .val (.int (((p4.toUInt32 >>> ((16 : Int32) &&& 31).toUInt32).toInt32) &&& (3 : Int32))), .val (.ref o22), .val (.int (0 : Int32)), .val (.ref o36), .val (.ref y53_x0), .unset] [(.int (1 : Int32))]))
        refine go (fun t k => XS.ifYes X66.here hx rfl (pc0 := 182) (pc' := 187) rfl (hb hby at_182) rfl ((if0 _ _).trans (feq (by decide : ¬ ((1 : Int32) = (0 : Int32)))).2) (by decide) (by decide) k) ?_
        show Gl _ _ _ _ _ _ _ _ (T66.setTop (mkF m 187 #[.val (.long q1), .second, .val (.long q2), .second, .val (.int p3), .val (.int p4), .val (.ref y2_x0), .val (.ref y4_x0), .val (.ref y8_x0), .val (.ref y11_x0), .val (.ref y16_x0), .val (.int (((p4.toUInt32 >>> ((16 : Int32) &&& 31).toUInt32).toInt32) &&& (3 : Int32))), .val (.ref o22), .val (.int (0 : Int32)), .val (.ref o36), .val (.ref y53_x0), .unset] []))
        refine go (fun t k => XS.aload X66.here hx rfl (hb hby at_187) rfl rfl k) ?_
        show Gl _ _ _ _ _ _ _ _ (T66.setTop (mkF m 189 #[.val (.long q1), .second, .val (.long q2), .second, .val (.int p3), .val (.int p4), .val (.ref y2_x0), .val (.ref y4_x0), .val (.ref y8_x0), .val (.ref y11_x0), .val (.ref y16_x0), .val (.int (((p4.toUInt32 >>> ((16 : Int32) &&& 31).toUInt32).toInt32) &&& (3 : Int32))), .val (.ref o22), .val (.int (0 : Int32)), .val (.ref o36), .val (.ref y53_x0), .unset] [(.ref y4_x0)]))
        refine go (fun t k => XS.aload X66.here hx rfl (hb hby at_189) rfl rfl k) ?_
        show Gl _ _ _ _ _ _ _ _ (T66.setTop (mkF m 191 #[.val (.long q1), .second, .val (.long q2), .second, .val (.int p3), .val (.int p4), .val (.ref y2_x0), .val (.ref y4_x0), .val (.ref y8_x0), .val (.ref y11_x0), .val (.ref y16_x0), .val (.int (((p4.toUInt32 >>> ((16 : Int32) &&& 31).toUInt32).toInt32) &&& (3 : Int32))), .val (.ref o22), .val (.int (0 : Int32)), .val (.ref o36), .val (.ref y53_x0), .unset] [(.ref y53_x0), (.ref y4_x0)]))
        obtain ⟨cq67, kq67, q67a, q67b, q67c⟩ := isOf hZ e66 Fo53_0
        obtain ⟨_, _, ⟨T67, L67, k67, n67⟩, -, X67, ⟨Lc67, hQ67, l67, y67, z67⟩, st67⟩ := X66.virtualBack hx (y := (⟨"com/example/leasehold/server/Watches$Kept", "id", "()Ljava/lang/String;"⟩ : MethodName)) (z := (⟨"com/example/leasehold/server/Watches$Kept", "id", "()Ljava/lang/String;"⟩ : MethodName)) hown (mvT hZ (hw _ (List.mem_of_getElem? (i := 101) rfl))) (mvT hZ (hw _ (List.mem_of_getElem? (i := 102) rfl))) (notFace_of_selects (args := #[]) (mvT hZ (hw _ (List.mem_of_getElem? (i := 104) rfl)))) (mvT hZ (hw _ (List.mem_of_getElem? (i := 104) rfl))) (mvT hZ (hw _ (List.mem_of_getElem? (i := 103) rfl))) (by decide) (backOf (W := 1) (rm16 l Z a0 hw [] y53_x0 y4_x0 h53 n0 zs62 Fo53_2) hZ (hw _ (List.mem_of_getElem? (i := 105) rfl)) (hw _ (List.mem_of_getElem? (i := 59) rfl)) (by decide) (by decide)) q67a q67c (g := (mkF m 191 #[.val (.long q1), .second, .val (.long q2), .second, .val (.int p3), .val (.int p4), .val (.ref y2_x0), .val (.ref y4_x0), .val (.ref y8_x0), .val (.ref y11_x0), .val (.ref y16_x0), .val (.int (((p4.toUInt32 >>> ((16 : Int32) &&& 31).toUInt32).toInt32) &&& (3 : Int32))), .val (.ref o22), .val (.int (0 : Int32)), .val (.ref o36), .val (.ref y53_x0), .unset] [(.ref y53_x0), (.ref y4_x0)])) rfl (by rw [hml]; rfl) (Steps.refl _) (argsL := []) (rest := [(.ref y4_x0)]) (lenOf pd_15 rfl) rfl (by show 2 * 0 + _ ≤ _; exact Nat.le_of_eq rfl) (hb hby at_191) (fun _ _ => ⟨rfl, e66, (by decide : 13 + 0 ≤ _), (by decide : 38 + 0 ≤ _)⟩)
        dsimp only [Pt.U, Pt.locs, Pt.cells, Pt.slots] at X67 l67 y67 z67 st67 hQ67
        replace X67 : Stand p l e room_1 s m #[(.long q1), (.long q2), (.int p3), (.int p4)] below meth c T67 _ 13 38 := own_mv X67 l67 y67 z67
        clear l67 y67 z67
        obtain ⟨⟨rfl, e67'⟩, N67q⟩ := hQ67
        have e67 : T67.heap = h53 := e67'
        have N67 := Fr.app N66 N67q
        refine go (fun t k => st67.trans k) ?_
        show Gl _ _ _ _ _ _ _ _ (T67.setTop (mkF m 194 #[.val (.long q1), .second, .val (.long q2), .second, .val (.int p3), .val (.int p4), .val (.ref y2_x0), .val (.ref y4_x0), .val (.ref y8_x0), .val (.ref y11_x0), .val (.ref y16_x0), .val (.int (((p4.toUInt32 >>> ((16 : Int32) &&& 31).toUInt32).toInt32) &&& (3 : Int32))), .val (.ref o22), .val (.int (0 : Int32)), .val (.ref o36), .val (.ref y53_x0), .unset] [(.ref y4_x0), (.ref y4_x0)]))
        obtain ⟨cq68, kq68, q68a, q68b, q68c⟩ := isOf hZ e67 fs56
        obtain ⟨_, _, ⟨T68, L68, k68, n68⟩, -, X68, ⟨Lc68, hQ68, l68, y68, z68⟩, st68⟩ := X67.virtualBack hx (y := (⟨"java/lang/String", "equals", "(Ljava/lang/Object;)Z"⟩ : MethodName)) (z := (⟨"java/lang/String", "equals", "(Ljava/lang/Object;)Z"⟩ : MethodName)) hown (mvT hZ (hw _ (List.mem_of_getElem? (i := 96) rfl))) (mvT hZ (hw _ (List.mem_of_getElem? (i := 97) rfl))) (notFace_of_selects (args := #[]) (mvT hZ (hw _ (List.mem_of_getElem? (i := 99) rfl)))) (mvT hZ (hw _ (List.mem_of_getElem? (i := 99) rfl))) (mvT hZ (hw _ (List.mem_of_getElem? (i := 98) rfl))) (by decide) (backOf (W := 0) (rm15 l Z a0 hw [] y4_x0 h53 n0 zs62 ) hZ (hw _ (List.mem_of_getElem? (i := 100) rfl)) (hw _ (List.mem_of_getElem? (i := 2) rfl)) (by decide) (by decide)) q68a q68c (g := (mkF m 194 #[.val (.long q1), .second, .val (.long q2), .second, .val (.int p3), .val (.int p4), .val (.ref y2_x0), .val (.ref y4_x0), .val (.ref y8_x0), .val (.ref y11_x0), .val (.ref y16_x0), .val (.int (((p4.toUInt32 >>> ((16 : Int32) &&& 31).toUInt32).toInt32) &&& (3 : Int32))), .val (.ref o22), .val (.int (0 : Int32)), .val (.ref o36), .val (.ref y53_x0), .unset] [(.ref y4_x0), (.ref y4_x0)])) rfl (by rw [hml]; rfl) (Steps.refl _) (argsL := [(.ref y4_x0)]) (rest := []) (lenOf pd_16 rfl) rfl (by show 2 * 0 + _ ≤ _; exact Nat.le_of_eq rfl) (hb hby at_194) (fun _ _ => ⟨rfl, e67, (by decide : 13 + 0 ≤ _), (by decide : 38 + 0 ≤ _)⟩)
        dsimp only [Pt.U, Pt.locs, Pt.cells, Pt.slots] at X68 l68 y68 z68 st68 hQ68
        replace X68 : Stand p l e room_1 s m #[(.long q1), (.long q2), (.int p3), (.int p4)] below meth c T68 _ 13 38 := own_mv X68 l68 y68 z68
        clear l68 y68 z68
        obtain ⟨⟨rfl, e68'⟩, N68q⟩ := hQ68
        have e68 : T68.heap = h53 := e68'
        have N68 := Fr.app N67 N68q
        refine go (fun t k => st68.trans k) ?_
        show Gl _ _ _ _ _ _ _ _ (T68.setTop (mkF m 197 #[.val (.long q1), .second, .val (.long q2), .second, .val (.int p3), .val (.int p4), .val (.ref y2_x0), .val (.ref y4_x0), .val (.ref y8_x0), .val (.ref y11_x0), .val (.ref y16_x0), .val (.int (((p4.toUInt32 >>> ((16 : Int32) &&& 31).toUInt32).toInt32) &&& (3 : Int32))), .val (.ref o22), .val (.int (0 : Int32)), .val (.ref o36), .val (.ref y53_x0), .unset] [(.int (1 : Int32))]))
        refine go (fun t k => XS.ifYes X68.here hx rfl (pc0 := 197) (pc' := 202) rfl (hb hby at_197) rfl ((if0 _ _).trans (feq (by decide : ¬ ((1 : Int32) = (0 : Int32)))).2) (by decide) (by decide) k) ?_
        show Gl _ _ _ _ _ _ _ _ (T68.setTop (mkF m 202 #[.val (.long q1), .second, .val (.long q2), .second, .val (.int p3), .val (.int p4), .val (.ref y2_x0), .val (.ref y4_x0), .val (.ref y8_x0), .val (.ref y11_x0), .val (.ref y16_x0), .val (.int (((p4.toUInt32 >>> ((16 : Int32) &&& 31).toUInt32).toInt32) &&& (3 : Int32))), .val (.ref o22), .val (.int (0 : Int32)), .val (.ref o36), .val (.ref y53_x0), .unset] []))
        refine go (fun t k => XS.aload X68.here hx rfl (hb hby at_202) rfl rfl k) ?_
        show Gl _ _ _ _ _ _ _ _ (T68.setTop (mkF m 204 #[.val (.long q1), .second, .val (.long q2), .second, .val (.int p3), .val (.int p4), .val (.ref y2_x0), .val (.ref y4_x0), .val (.ref y8_x0), .val (.ref y11_x0), .val (.ref y16_x0), .val (.int (((p4.toUInt32 >>> ((16 : Int32) &&& 31).toUInt32).toInt32) &&& (3 : Int32))), .val (.ref o22), .val (.int (0 : Int32)), .val (.ref o36), .val (.ref y53_x0), .unset] [(.ref y8_x0)]))
        refine go (fun t k => XS.aload X68.here hx rfl (hb hby at_204) rfl rfl k) ?_
        show Gl _ _ _ _ _ _ _ _ (T68.setTop (mkF m 206 #[.val (.long q1), .second, .val (.long q2), .second, .val (.int p3), .val (.int p4), .val (.ref y2_x0), .val (.ref y4_x0), .val (.ref y8_x0), .val (.ref y11_x0), .val (.ref y16_x0), .val (.int (((p4.toUInt32 >>> ((16 : Int32) &&& 31).toUInt32).toInt32) &&& (3 : Int32))), .val (.ref o22), .val (.int (0 : Int32)), .val (.ref o36), .val (.ref y53_x0), .unset] [(.ref y53_x0), (.ref y8_x0)]))
        obtain ⟨cq69, kq69, q69a, q69b, q69c⟩ := isOf hZ e68 Fo53_0
        obtain ⟨_, _, ⟨T69, L69, k69, n69⟩, -, X69, ⟨Lc69, hQ69, l69, y69, z69⟩, st69⟩ := X68.virtualBack hx (y := (⟨"com/example/leasehold/server/Watches$Kept", "handback", "()Ljava/lang/String;"⟩ : MethodName)) (z := (⟨"com/example/leasehold/server/Watches$Kept", "handback", "()Ljava/lang/String;"⟩ : MethodName)) hown (mvT hZ (hw _ (List.mem_of_getElem? (i := 106) rfl))) (mvT hZ (hw _ (List.mem_of_getElem? (i := 107) rfl))) (notFace_of_selects (args := #[]) (mvT hZ (hw _ (List.mem_of_getElem? (i := 109) rfl)))) (mvT hZ (hw _ (List.mem_of_getElem? (i := 109) rfl))) (mvT hZ (hw _ (List.mem_of_getElem? (i := 108) rfl))) (by decide) (backOf (W := 1) (rm17 l Z a0 hw [] y53_x0 y8_x0 h53 n0 zs62 Fo53_3) hZ (hw _ (List.mem_of_getElem? (i := 110) rfl)) (hw _ (List.mem_of_getElem? (i := 59) rfl)) (by decide) (by decide)) q69a q69c (g := (mkF m 206 #[.val (.long q1), .second, .val (.long q2), .second, .val (.int p3), .val (.int p4), .val (.ref y2_x0), .val (.ref y4_x0), .val (.ref y8_x0), .val (.ref y11_x0), .val (.ref y16_x0), .val (.int (((p4.toUInt32 >>> ((16 : Int32) &&& 31).toUInt32).toInt32) &&& (3 : Int32))), .val (.ref o22), .val (.int (0 : Int32)), .val (.ref o36), .val (.ref y53_x0), .unset] [(.ref y53_x0), (.ref y8_x0)])) rfl (by rw [hml]; rfl) (Steps.refl _) (argsL := []) (rest := [(.ref y8_x0)]) (lenOf pd_15 rfl) rfl (by show 2 * 0 + _ ≤ _; exact Nat.le_of_eq rfl) (hb hby at_206) (fun _ _ => ⟨rfl, e68, (by decide : 13 + 0 ≤ _), (by decide : 38 + 0 ≤ _)⟩)
        dsimp only [Pt.U, Pt.locs, Pt.cells, Pt.slots] at X69 l69 y69 z69 st69 hQ69
        replace X69 : Stand p l e room_1 s m #[(.long q1), (.long q2), (.int p3), (.int p4)] below meth c T69 _ 13 38 := own_mv X69 l69 y69 z69
        clear l69 y69 z69
        obtain ⟨⟨rfl, e69'⟩, N69q⟩ := hQ69
        have e69 : T69.heap = h53 := e69'
        have N69 := Fr.app N68 N69q
        refine go (fun t k => st69.trans k) ?_
        show Gl _ _ _ _ _ _ _ _ (T69.setTop (mkF m 209 #[.val (.long q1), .second, .val (.long q2), .second, .val (.int p3), .val (.int p4), .val (.ref y2_x0), .val (.ref y4_x0), .val (.ref y8_x0), .val (.ref y11_x0), .val (.ref y16_x0), .val (.int (((p4.toUInt32 >>> ((16 : Int32) &&& 31).toUInt32).toInt32) &&& (3 : Int32))), .val (.ref o22), .val (.int (0 : Int32)), .val (.ref o36), .val (.ref y53_x0), .unset] [(.ref y8_x0), (.ref y8_x0)]))
        obtain ⟨cq70, kq70, q70a, q70b, q70c⟩ := isOf hZ e69 (fs46.keep K53q)
        obtain ⟨_, _, ⟨T70, L70, k70, n70⟩, -, X70, ⟨Lc70, hQ70, l70, y70, z70⟩, st70⟩ := X69.virtualBack hx (y := (⟨"java/lang/String", "equals", "(Ljava/lang/Object;)Z"⟩ : MethodName)) (z := (⟨"java/lang/String", "equals", "(Ljava/lang/Object;)Z"⟩ : MethodName)) hown (mvT hZ (hw _ (List.mem_of_getElem? (i := 96) rfl))) (mvT hZ (hw _ (List.mem_of_getElem? (i := 97) rfl))) (notFace_of_selects (args := #[]) (mvT hZ (hw _ (List.mem_of_getElem? (i := 99) rfl)))) (mvT hZ (hw _ (List.mem_of_getElem? (i := 99) rfl))) (mvT hZ (hw _ (List.mem_of_getElem? (i := 98) rfl))) (by decide) (backOf (W := 0) (rm15 l Z a0 hw [] y8_x0 h53 n0 zs62 ) hZ (hw _ (List.mem_of_getElem? (i := 100) rfl)) (hw _ (List.mem_of_getElem? (i := 2) rfl)) (by decide) (by decide)) q70a q70c (g := (mkF m 209 #[.val (.long q1), .second, .val (.long q2), .second, .val (.int p3), .val (.int p4), .val (.ref y2_x0), .val (.ref y4_x0), .val (.ref y8_x0), .val (.ref y11_x0), .val (.ref y16_x0), .val (.int (((p4.toUInt32 >>> ((16 : Int32) &&& 31).toUInt32).toInt32) &&& (3 : Int32))), .val (.ref o22), .val (.int (0 : Int32)), .val (.ref o36), .val (.ref y53_x0), .unset] [(.ref y8_x0), (.ref y8_x0)])) rfl (by rw [hml]; rfl) (Steps.refl _) (argsL := [(.ref y8_x0)]) (rest := []) (lenOf pd_16 rfl) rfl (by show 2 * 0 + _ ≤ _; exact Nat.le_of_eq rfl) (hb hby at_209) (fun _ _ => ⟨rfl, e69, (by decide : 13 + 0 ≤ _), (by decide : 38 + 0 ≤ _)⟩)
        dsimp only [Pt.U, Pt.locs, Pt.cells, Pt.slots] at X70 l70 y70 z70 st70 hQ70
        replace X70 : Stand p l e room_1 s m #[(.long q1), (.long q2), (.int p3), (.int p4)] below meth c T70 _ 13 38 := own_mv X70 l70 y70 z70
        clear l70 y70 z70
        obtain ⟨⟨rfl, e70'⟩, N70q⟩ := hQ70
        have e70 : T70.heap = h53 := e70'
        have N70 := Fr.app N69 N70q
        refine go (fun t k => st70.trans k) ?_
        show Gl _ _ _ _ _ _ _ _ (T70.setTop (mkF m 212 #[.val (.long q1), .second, .val (.long q2), .second, .val (.int p3), .val (.int p4), .val (.ref y2_x0), .val (.ref y4_x0), .val (.ref y8_x0), .val (.ref y11_x0), .val (.ref y16_x0), .val (.int (((p4.toUInt32 >>> ((16 : Int32) &&& 31).toUInt32).toInt32) &&& (3 : Int32))), .val (.ref o22), .val (.int (0 : Int32)), .val (.ref o36), .val (.ref y53_x0), .unset] [(.int (1 : Int32))]))
        refine go (fun t k => XS.ifYes X70.here hx rfl (pc0 := 212) (pc' := 217) rfl (hb hby at_212) rfl ((if0 _ _).trans (feq (by decide : ¬ ((1 : Int32) = (0 : Int32)))).2) (by decide) (by decide) k) ?_
        show Gl _ _ _ _ _ _ _ _ (T70.setTop (mkF m 217 #[.val (.long q1), .second, .val (.long q2), .second, .val (.int p3), .val (.int p4), .val (.ref y2_x0), .val (.ref y4_x0), .val (.ref y8_x0), .val (.ref y11_x0), .val (.ref y16_x0), .val (.int (((p4.toUInt32 >>> ((16 : Int32) &&& 31).toUInt32).toInt32) &&& (3 : Int32))), .val (.ref o22), .val (.int (0 : Int32)), .val (.ref o36), .val (.ref y53_x0), .unset] []))
        refine go (fun t k => XS.aload X70.here hx rfl (hb hby at_217) rfl rfl k) ?_
        show Gl _ _ _ _ _ _ _ _ (T70.setTop (mkF m 219 #[.val (.long q1), .second, .val (.long q2), .second, .val (.int p3), .val (.int p4), .val (.ref y2_x0), .val (.ref y4_x0), .val (.ref y8_x0), .val (.ref y11_x0), .val (.ref y16_x0), .val (.int (((p4.toUInt32 >>> ((16 : Int32) &&& 31).toUInt32).toInt32) &&& (3 : Int32))), .val (.ref o22), .val (.int (0 : Int32)), .val (.ref o36), .val (.ref y53_x0), .unset] [(.ref y53_x0)]))
        obtain ⟨cq71, kq71, q71a, q71b, q71c⟩ := isOf hZ e70 Fo53_0
        obtain ⟨_, _, ⟨T71, L71, k71, n71⟩, -, X71, ⟨Lc71, hQ71, l71, y71, z71⟩, st71⟩ := X70.virtualBack hx (y := (⟨"com/example/leasehold/server/Watches$Kept", "beside", "()Ljava/util/List;"⟩ : MethodName)) (z := (⟨"com/example/leasehold/server/Watches$Kept", "beside", "()Ljava/util/List;"⟩ : MethodName)) hown (mvT hZ (hw _ (List.mem_of_getElem? (i := 111) rfl))) (mvT hZ (hw _ (List.mem_of_getElem? (i := 112) rfl))) (notFace_of_selects (args := #[]) (mvT hZ (hw _ (List.mem_of_getElem? (i := 114) rfl)))) (mvT hZ (hw _ (List.mem_of_getElem? (i := 114) rfl))) (mvT hZ (hw _ (List.mem_of_getElem? (i := 113) rfl))) (by decide) (backOf (W := 0) (rm18 l Z a0 hw [] y53_x0 o22 h53 n0 zs62 Fo53_4) hZ (hw _ (List.mem_of_getElem? (i := 115) rfl)) (hw _ (List.mem_of_getElem? (i := 59) rfl)) (by decide) (by decide)) q71a q71c (g := (mkF m 219 #[.val (.long q1), .second, .val (.long q2), .second, .val (.int p3), .val (.int p4), .val (.ref y2_x0), .val (.ref y4_x0), .val (.ref y8_x0), .val (.ref y11_x0), .val (.ref y16_x0), .val (.int (((p4.toUInt32 >>> ((16 : Int32) &&& 31).toUInt32).toInt32) &&& (3 : Int32))), .val (.ref o22), .val (.int (0 : Int32)), .val (.ref o36), .val (.ref y53_x0), .unset] [(.ref y53_x0)])) rfl (by rw [hml]; rfl) (Steps.refl _) (argsL := []) (rest := []) (lenOf pd_17 rfl) rfl (by show 2 * 0 + _ ≤ _; exact Nat.le_of_eq rfl) (hb hby at_219) (fun _ _ => ⟨rfl, e70, (by decide : 13 + 0 ≤ _), (by decide : 38 + 0 ≤ _)⟩)
        dsimp only [Pt.U, Pt.locs, Pt.cells, Pt.slots] at X71 l71 y71 z71 st71 hQ71
        replace X71 : Stand p l e room_1 s m #[(.long q1), (.long q2), (.int p3), (.int p4)] below meth c T71 _ 13 38 := own_mv X71 l71 y71 z71
        clear l71 y71 z71
        obtain ⟨⟨rfl, e71'⟩, N71q⟩ := hQ71
        have e71 : T71.heap = h53 := e71'
        have N71 := Fr.app N70 N71q
        refine go (fun t k => st71.trans k) ?_
        show Gl _ _ _ _ _ _ _ _ (T71.setTop (mkF m 222 #[.val (.long q1), .second, .val (.long q2), .second, .val (.int p3), .val (.int p4), .val (.ref y2_x0), .val (.ref y4_x0), .val (.ref y8_x0), .val (.ref y11_x0), .val (.ref y16_x0), .val (.int (((p4.toUInt32 >>> ((16 : Int32) &&& 31).toUInt32).toInt32) &&& (3 : Int32))), .val (.ref o22), .val (.int (0 : Int32)), .val (.ref o36), .val (.ref y53_x0), .unset] [(.ref o22)]))
        refine go (fun t k => XS.astore X71.here hx rfl (hb hby at_222) rfl rfl (l' := #[.val (.long q1), .second, .val (.long q2), .second, .val (.int p3), .val (.int p4), .val (.ref y2_x0), .val (.ref y4_x0), .val (.ref y8_x0), .val (.ref y11_x0), .val (.ref y16_x0), .val (.int (((p4.toUInt32 >>> ((16 : Int32) &&& 31).toUInt32).toInt32) &&& (3 : Int32))), .val (.ref o22), .val (.int (0 : Int32)), .val (.ref o36), .val (.ref y53_x0), .val (.ref o22)]) rfl k) ?_
        show Gl _ _ _ _ _ _ _ _ (T71.setTop (mkF m 224 #[.val (.long q1), .second, .val (.long q2), .second, .val (.int p3), .val (.int p4), .val (.ref y2_x0), .val (.ref y4_x0), .val (.ref y8_x0), .val (.ref y11_x0), .val (.ref y16_x0), .val (.int (((p4.toUInt32 >>> ((16 : Int32) &&& 31).toUInt32).toInt32) &&& (3 : Int32))), .val (.ref o22), .val (.int (0 : Int32)), .val (.ref o36), .val (.ref y53_x0), .val (.ref o22)] []))
        refine go (fun t k => XS.aload X71.here hx rfl (hb hby at_224) rfl rfl k) ?_
        show Gl _ _ _ _ _ _ _ _ (T71.setTop (mkF m 226 #[.val (.long q1), .second, .val (.long q2), .second, .val (.int p3), .val (.int p4), .val (.ref y2_x0), .val (.ref y4_x0), .val (.ref y8_x0), .val (.ref y11_x0), .val (.ref y16_x0), .val (.int (((p4.toUInt32 >>> ((16 : Int32) &&& 31).toUInt32).toInt32) &&& (3 : Int32))), .val (.ref o22), .val (.int (0 : Int32)), .val (.ref o36), .val (.ref y53_x0), .val (.ref o22)] [(.ref o22)]))
        obtain ⟨cq72, kq72, q72a, q72b, q72c⟩ := isOf hZ e71 (fs48.keep K53q)
        obtain ⟨_, _, ⟨T72, L72, k72, n72⟩, -, X72, ⟨Lc72, hQ72, l72, y72, z72⟩, st72⟩ := X71.interfaceBack hx (xi := (⟨"java/util/List", "size", "()I"⟩ : MethodName)) (y := (⟨"java/util/ArrayList", "size", "()I"⟩ : MethodName)) hown (mvT hZ (hw _ (List.mem_of_getElem? (i := 116) rfl))) (mvT hZ (hw _ (List.mem_of_getElem? (i := 117) rfl))) (mvT hZ (hw _ (List.mem_of_getElem? (i := 118) rfl))) (mvT hZ (hw _ (List.mem_of_getElem? (i := 119) rfl))) (mvT hZ (hw _ (List.mem_of_getElem? (i := 52) rfl))) (mvT hZ (hw _ (List.mem_of_getElem? (i := 120) rfl))) (mvT hZ (hw _ (List.mem_of_getElem? (i := 121) rfl))) (mvT hZ (hw _ (List.mem_of_getElem? (i := 122) rfl))) (by decide) (backOf (W := 0) (rm9 l Z a0 hw [] o22 (0 : Int32) h53 n0 zs62 (fs49.keep K53q nin0)) hZ (hw _ (List.mem_of_getElem? (i := 54) rfl)) (hw _ (List.mem_of_getElem? (i := 28) rfl)) (by decide) (by decide)) q72a q72b q72c (g := (mkF m 226 #[.val (.long q1), .second, .val (.long q2), .second, .val (.int p3), .val (.int p4), .val (.ref y2_x0), .val (.ref y4_x0), .val (.ref y8_x0), .val (.ref y11_x0), .val (.ref y16_x0), .val (.int (((p4.toUInt32 >>> ((16 : Int32) &&& 31).toUInt32).toInt32) &&& (3 : Int32))), .val (.ref o22), .val (.int (0 : Int32)), .val (.ref o36), .val (.ref y53_x0), .val (.ref o22)] [(.ref o22)])) rfl (by rw [hml]; rfl) (Steps.refl _) (argsL := []) (rest := []) (lenOf pd_12 rfl) rfl (by show 2 * 0 + _ ≤ _; exact Nat.le_of_eq rfl) (hb hby at_226) (fun _ _ => ⟨rfl, e71, (by decide : 13 + 0 ≤ _), (by decide : 38 + 0 ≤ _)⟩)
        dsimp only [Pt.U, Pt.locs, Pt.cells, Pt.slots] at X72 l72 y72 z72 st72 hQ72
        replace X72 : Stand p l e room_1 s m #[(.long q1), (.long q2), (.int p3), (.int p4)] below meth c T72 _ 13 38 := own_mv X72 l72 y72 z72
        clear l72 y72 z72
        obtain ⟨⟨rfl, e72'⟩, N72q⟩ := hQ72
        have e72 : T72.heap = h53 := e72'
        have N72 := Fr.app N71 N72q
        refine go (fun t k => st72.trans k) ?_
        show Gl _ _ _ _ _ _ _ _ (T72.setTop (mkF m 231 #[.val (.long q1), .second, .val (.long q2), .second, .val (.int p3), .val (.int p4), .val (.ref y2_x0), .val (.ref y4_x0), .val (.ref y8_x0), .val (.ref y11_x0), .val (.ref y16_x0), .val (.int (((p4.toUInt32 >>> ((16 : Int32) &&& 31).toUInt32).toInt32) &&& (3 : Int32))), .val (.ref o22), .val (.int (0 : Int32)), .val (.ref o36), .val (.ref y53_x0), .val (.ref o22)] [(.int (0 : Int32))]))
        refine go (fun t k => XS.iload X72.here hx rfl (hb hby at_231) rfl  k) ?_
        show Gl _ _ _ _ _ _ _ _ (T72.setTop (mkF m 233 #[.val (.long q1), .second, .val (.long q2), .second, .val (.int p3), .val (.int p4), .val (.ref y2_x0), .val (.ref y4_x0), .val (.ref y8_x0), .val (.ref y11_x0), .val (.ref y16_x0), .val (.int (((p4.toUInt32 >>> ((16 : Int32) &&& 31).toUInt32).toInt32) &&& (3 : Int32))), .val (.ref o22), .val (.int (0 : Int32)), .val (.ref o36), .val (.ref y53_x0), .val (.ref o22)] [(.int (0 : Int32)), (.int (0 : Int32))]))
        refine go (fun t k => XS.icmpYes X72.here hx rfl (pc0 := 233) (pc' := 238) rfl (hb hby at_233) rfl (teq (by decide : (0 : Int32) = (0 : Int32))).1 (by decide) (by decide) k) ?_
        show Gl _ _ _ _ _ _ _ _ (T72.setTop (mkF m 238 #[.val (.long q1), .second, .val (.long q2), .second, .val (.int p3), .val (.int p4), .val (.ref y2_x0), .val (.ref y4_x0), .val (.ref y8_x0), .val (.ref y11_x0), .val (.ref y16_x0), .val (.int (((p4.toUInt32 >>> ((16 : Int32) &&& 31).toUInt32).toInt32) &&& (3 : Int32))), .val (.ref o22), .val (.int (0 : Int32)), .val (.ref o36), .val (.ref y53_x0), .val (.ref o22)] []))
        refine go (fun t k => XS.iload X72.here hx rfl (hb hby at_238) rfl  k) ?_
        show Gl _ _ _ _ _ _ _ _ (T72.setTop (mkF m 240 #[.val (.long q1), .second, .val (.long q2), .second, .val (.int p3), .val (.int p4), .val (.ref y2_x0), .val (.ref y4_x0), .val (.ref y8_x0), .val (.ref y11_x0), .val (.ref y16_x0), .val (.int (((p4.toUInt32 >>> ((16 : Int32) &&& 31).toUInt32).toInt32) &&& (3 : Int32))), .val (.ref o22), .val (.int (0 : Int32)), .val (.ref o36), .val (.ref y53_x0), .val (.ref o22)] [(.int (0 : Int32))]))
        refine go (fun t k => XS.iconst X72.here hx rfl (hb hby at_240) k) ?_
        show Gl _ _ _ _ _ _ _ _ (T72.setTop (mkF m 241 #[.val (.long q1), .second, .val (.long q2), .second, .val (.int p3), .val (.int p4), .val (.ref y2_x0), .val (.ref y4_x0), .val (.ref y8_x0), .val (.ref y11_x0), .val (.ref y16_x0), .val (.int (((p4.toUInt32 >>> ((16 : Int32) &&& 31).toUInt32).toInt32) &&& (3 : Int32))), .val (.ref o22), .val (.int (0 : Int32)), .val (.ref o36), .val (.ref y53_x0), .val (.ref o22)] [(.int (1 : Int32)), (.int (0 : Int32))]))
        refine go (fun t k => XS.icmpYes X72.here hx rfl (pc0 := 241) (pc' := 262) rfl (hb hby at_241) rfl (tlt (by decide : (0 : Int32) < (1 : Int32))).1 (by decide) (by decide) k) ?_
        show Gl _ _ _ _ _ _ _ _ (T72.setTop (mkF m 262 #[.val (.long q1), .second, .val (.long q2), .second, .val (.int p3), .val (.int p4), .val (.ref y2_x0), .val (.ref y4_x0), .val (.ref y8_x0), .val (.ref y11_x0), .val (.ref y16_x0), .val (.int (((p4.toUInt32 >>> ((16 : Int32) &&& 31).toUInt32).toInt32) &&& (3 : Int32))), .val (.ref o22), .val (.int (0 : Int32)), .val (.ref o36), .val (.ref y53_x0), .val (.ref o22)] []))
        refine go (fun t k => XS.iload X72.here hx rfl (hb hby at_262) rfl  k) ?_
        show Gl _ _ _ _ _ _ _ _ (T72.setTop (mkF m 264 #[.val (.long q1), .second, .val (.long q2), .second, .val (.int p3), .val (.int p4), .val (.ref y2_x0), .val (.ref y4_x0), .val (.ref y8_x0), .val (.ref y11_x0), .val (.ref y16_x0), .val (.int (((p4.toUInt32 >>> ((16 : Int32) &&& 31).toUInt32).toInt32) &&& (3 : Int32))), .val (.ref o22), .val (.int (0 : Int32)), .val (.ref o36), .val (.ref y53_x0), .val (.ref o22)] [(.int (0 : Int32))]))
        refine go (fun t k => XS.iconst X72.here hx rfl (hb hby at_264) k) ?_
        show Gl _ _ _ _ _ _ _ _ (T72.setTop (mkF m 265 #[.val (.long q1), .second, .val (.long q2), .second, .val (.int p3), .val (.int p4), .val (.ref y2_x0), .val (.ref y4_x0), .val (.ref y8_x0), .val (.ref y11_x0), .val (.ref y16_x0), .val (.int (((p4.toUInt32 >>> ((16 : Int32) &&& 31).toUInt32).toInt32) &&& (3 : Int32))), .val (.ref o22), .val (.int (0 : Int32)), .val (.ref o36), .val (.ref y53_x0), .val (.ref o22)] [(.int (2 : Int32)), (.int (0 : Int32))]))
        refine go (fun t k => XS.icmpYes X72.here hx rfl (pc0 := 265) (pc' := 286) rfl (hb hby at_265) rfl (tlt (by decide : (0 : Int32) < (2 : Int32))).1 (by decide) (by decide) k) ?_
        show Gl _ _ _ _ _ _ _ _ (T72.setTop (mkF m 286 #[.val (.long q1), .second, .val (.long q2), .second, .val (.int p3), .val (.int p4), .val (.ref y2_x0), .val (.ref y4_x0), .val (.ref y8_x0), .val (.ref y11_x0), .val (.ref y16_x0), .val (.int (((p4.toUInt32 >>> ((16 : Int32) &&& 31).toUInt32).toInt32) &&& (3 : Int32))), .val (.ref o22), .val (.int (0 : Int32)), .val (.ref o36), .val (.ref y53_x0), .val (.ref o22)] []))
        refine go (fun t k => XS.iconst X72.here hx rfl (hb hby at_286) k) ?_
        show Gl _ _ _ _ _ _ _ _ (T72.setTop (mkF m 287 #[.val (.long q1), .second, .val (.long q2), .second, .val (.int p3), .val (.int p4), .val (.ref y2_x0), .val (.ref y4_x0), .val (.ref y8_x0), .val (.ref y11_x0), .val (.ref y16_x0), .val (.int (((p4.toUInt32 >>> ((16 : Int32) &&& 31).toUInt32).toInt32) &&& (3 : Int32))), .val (.ref o22), .val (.int (0 : Int32)), .val (.ref o36), .val (.ref y53_x0), .val (.ref o22)] [(.int (1 : Int32))]))
        exact endN X72 hx Bd (t := .boolean) (by simp) (hb hby at_287) ⟨rfl, trivial⟩ N72 (by decide) (by decide)
      · refine go (fun t k => XS.ifNo X64.here hx rfl (hb hby at_167) rfl ((if0 _ _).trans (feq (mt (lw_eq q1 q1).mp hc167)).1) k) ?_
        show Gl _ _ _ _ _ _ _ _ (T64.setTop (mkF m 170 #[.val (.long q1), .second, .val (.long q2), .second, .val (.int p3), .val (.int p4), .val (.ref y2_x0), .val (.ref y4_x0), .val (.ref y8_x0), .val (.ref y11_x0), .val (.ref y16_x0), .val (.int (((p4.toUInt32 >>> ((16 : Int32) &&& 31).toUInt32).toInt32) &&& (3 : Int32))), .val (.ref o22), .val (.int (0 : Int32)), .val (.ref o36), .val (.ref y53_x0), .unset] []))
        refine go (fun t k => XS.iconst X64.here hx rfl (hb hby at_170) k) ?_
        show Gl _ _ _ _ _ _ _ _ (T64.setTop (mkF m 171 #[.val (.long q1), .second, .val (.long q2), .second, .val (.int p3), .val (.int p4), .val (.ref y2_x0), .val (.ref y4_x0), .val (.ref y8_x0), .val (.ref y11_x0), .val (.ref y16_x0), .val (.int (((p4.toUInt32 >>> ((16 : Int32) &&& 31).toUInt32).toInt32) &&& (3 : Int32))), .val (.ref o22), .val (.int (0 : Int32)), .val (.ref o36), .val (.ref y53_x0), .unset] [(.int (0 : Int32))]))
        exact endN X64 hx Bd (t := .boolean) (by simp) (hb hby at_171) ⟨rfl, trivial⟩ N64 (by decide) (by decide)
    · refine go (fun t k => XS.ifNo X63.here hx rfl (hb hby at_155) rfl ((if0 _ _).trans (feq (mt (lw_eq q2 q2).mp hc155)).1) k) ?_
      show Gl _ _ _ _ _ _ _ _ (T63.setTop (mkF m 158 #[.val (.long q1), .second, .val (.long q2), .second, .val (.int p3), .val (.int p4), .val (.ref y2_x0), .val (.ref y4_x0), .val (.ref y8_x0), .val (.ref y11_x0), .val (.ref y16_x0), .val (.int (((p4.toUInt32 >>> ((16 : Int32) &&& 31).toUInt32).toInt32) &&& (3 : Int32))), .val (.ref o22), .val (.int (0 : Int32)), .val (.ref o36), .val (.ref y53_x0), .unset] []))
      refine go (fun t k => XS.iconst X63.here hx rfl (hb hby at_158) k) ?_
      show Gl _ _ _ _ _ _ _ _ (T63.setTop (mkF m 159 #[.val (.long q1), .second, .val (.long q2), .second, .val (.int p3), .val (.int p4), .val (.ref y2_x0), .val (.ref y4_x0), .val (.ref y8_x0), .val (.ref y11_x0), .val (.ref y16_x0), .val (.int (((p4.toUInt32 >>> ((16 : Int32) &&& 31).toUInt32).toInt32) &&& (3 : Int32))), .val (.ref o22), .val (.int (0 : Int32)), .val (.ref o36), .val (.ref y53_x0), .unset] [(.int (0 : Int32))]))
      exact endN X63 hx Bd (t := .boolean) (by simp) (hb hby at_159) ⟨rfl, trivial⟩ N63 (by decide) (by decide)
  · refine go (fun t k => XS.icmpNo X27.here hx rfl (hb hby at_90) rfl (flt hc90).1 k) ?_
    show Gl _ _ _ _ _ _ _ _ (T27.setTop (mkF m 93 #[.val (.long q1), .second, .val (.long q2), .second, .val (.int p3), .val (.int p4), .val (.ref y2_x0), .val (.ref y4_x0), .val (.ref y8_x0), .val (.ref y11_x0), .val (.ref y16_x0), .val (.int (((p4.toUInt32 >>> ((16 : Int32) &&& 31).toUInt32).toInt32) &&& (3 : Int32))), .val (.ref o22), .unset, .unset, .unset, .unset] []))
    refine go (fun t k => XS.aload X27.here hx rfl (hb hby at_93) rfl rfl k) ?_
    show Gl _ _ _ _ _ _ _ _ (T27.setTop (mkF m 95 #[.val (.long q1), .second, .val (.long q2), .second, .val (.int p3), .val (.int p4), .val (.ref y2_x0), .val (.ref y4_x0), .val (.ref y8_x0), .val (.ref y11_x0), .val (.ref y16_x0), .val (.int (((p4.toUInt32 >>> ((16 : Int32) &&& 31).toUInt32).toInt32) &&& (3 : Int32))), .val (.ref o22), .unset, .unset, .unset, .unset] [(.ref o22)]))
    refine go (fun t k => XS.aload X27.here hx rfl (hb hby at_95) rfl rfl k) ?_
    show Gl _ _ _ _ _ _ _ _ (T27.setTop (mkF m 97 #[.val (.long q1), .second, .val (.long q2), .second, .val (.int p3), .val (.int p4), .val (.ref y2_x0), .val (.ref y4_x0), .val (.ref y8_x0), .val (.ref y11_x0), .val (.ref y16_x0), .val (.int (((p4.toUInt32 >>> ((16 : Int32) &&& 31).toUInt32).toInt32) &&& (3 : Int32))), .val (.ref o22), .unset, .unset, .unset, .unset] [(.ref y11_x0), (.ref o22)]))
    obtain ⟨cq73, kq73, q73a, q73b, q73c⟩ := isOf hZ e27 Ex27
    obtain ⟨_, _, ⟨T73, L73, k73, n73⟩, -, X73, ⟨Lc73, hQ73, l73, y73, z73⟩, st73⟩ := X27.virtualBack hx (y := (⟨"java/util/ArrayList", "add", "(Ljava/lang/Object;)Z"⟩ : MethodName)) (z := (⟨"java/util/ArrayList", "add", "(Ljava/lang/Object;)Z"⟩ : MethodName)) hown (mvT hZ (hw _ (List.mem_of_getElem? (i := 123) rfl))) (mvT hZ (hw _ (List.mem_of_getElem? (i := 124) rfl))) (notFace_of_selects (args := #[]) (mvT hZ (hw _ (List.mem_of_getElem? (i := 126) rfl)))) (mvT hZ (hw _ (List.mem_of_getElem? (i := 126) rfl))) (mvT hZ (hw _ (List.mem_of_getElem? (i := 125) rfl))) (by decide) (backOf (W := 0) (rm19tg l Z a0 hw [] o22 y11_x0 w_DEFAULTCAPACITY_EMPTY_ELEMENTDATA (0 : Int32) kd h27 n0 zs34 fs29 Ex27 Fq27_modCount Fq27_size Fq27_elementData g_o22 fs30 (fs25.keep K27q)) hZ (hw _ (List.mem_of_getElem? (i := 127) rfl)) (hw _ (List.mem_of_getElem? (i := 28) rfl)) (by decide) (by decide)) q73a q73c (g := (mkF m 97 #[.val (.long q1), .second, .val (.long q2), .second, .val (.int p3), .val (.int p4), .val (.ref y2_x0), .val (.ref y4_x0), .val (.ref y8_x0), .val (.ref y11_x0), .val (.ref y16_x0), .val (.int (((p4.toUInt32 >>> ((16 : Int32) &&& 31).toUInt32).toInt32) &&& (3 : Int32))), .val (.ref o22), .unset, .unset, .unset, .unset] [(.ref y11_x0), (.ref o22)])) rfl (by rw [hml]; rfl) (Steps.refl _) (argsL := [(.ref y11_x0)]) (rest := []) (lenOf pd_16 rfl) rfl (by show 2 * 0 + _ ≤ _; exact Nat.le_of_eq rfl) (hb hby at_97) (fun _ _ => ⟨rfl, e27, (by decide : 11 + 1 ≤ _), (by decide : 28 + 10 ≤ _)⟩)
    dsimp only [Pt.U, Pt.locs, Pt.cells, Pt.slots] at X73 l73 y73 z73 st73 hQ73
    replace X73 : Stand p l e room_1 s m #[(.long q1), (.long q2), (.int p3), (.int p4)] below meth c T73 _ 12 38 := own_mv X73 l73 y73 z73
    clear l73 y73 z73
    obtain ⟨⟨y73_x0, c73_k0, rfl, K73q, so73_0, Fo73_0, Fo73_1, Fo73_2, Fo73_3, Fo73_4, Fo73_5⟩, N73q⟩ := hQ73
    obtain ⟨h73, e73⟩ : ∃ z, T73.heap = z := ⟨_, rfl⟩
    rw [e73] at K73q Fo73_0 Fo73_1 Fo73_2 Fo73_3 Fo73_4
    have K73 : Keep h0 h73 [] := K27.trans K73q (allS (Or.inr sz_o22) all0)
    have g_y73_x0 : n0 ≤ y73_x0 := Nat.le_trans zs34 so73_0
    have sz_y73_x0 : h0.size ≤ y73_x0 := Nat.le_trans K27.1 so73_0
    have ne_w_DEFAULTCAPACITY_EMPTY_ELEMENTDATA_y73_x0 : w_DEFAULTCAPACITY_EMPTY_ELEMENTDATA ≠ y73_x0 := Nat.ne_of_lt (Nat.lt_of_lt_of_le fs30.lt so73_0)
    have ne_y2_x0_y73_x0 : y2_x0 ≠ y73_x0 := Nat.ne_of_lt (Nat.lt_of_lt_of_le fs31.lt so73_0)
    have ne_y4_x0_y73_x0 : y4_x0 ≠ y73_x0 := Nat.ne_of_lt (Nat.lt_of_lt_of_le (fs24.keep K27q).lt so73_0)
    have ne_y8_x0_y73_x0 : y8_x0 ≠ y73_x0 := Nat.ne_of_lt (Nat.lt_of_lt_of_le fs32.lt so73_0)
    have ne_y11_x0_y73_x0 : y11_x0 ≠ y73_x0 := Nat.ne_of_lt (Nat.lt_of_lt_of_le (fs25.keep K27q).lt so73_0)
    have ne_y16_x0_y73_x0 : y16_x0 ≠ y73_x0 := Nat.ne_of_lt (Nat.lt_of_lt_of_le fs33.lt so73_0)
    have ne_o22_y73_x0 : o22 ≠ y73_x0 := Nat.ne_of_lt (Nat.lt_of_lt_of_le Ex27.lt so73_0)
    have N73 := Fr.app N27 N73q
    refine go (fun t k => st73.trans k) ?_
    have fs74 := (sta_keepN fs28 K73q (nsS (Exa.nostat Ex27) ns0))
    have fs75 := (sta_keepN fs29 K73q (nsS (Exa.nostat Ex27) ns0))
    have fs76 := (fs30.keep K73q (ninS ne_w_DEFAULTCAPACITY_EMPTY_ELEMENTDATA_o22 nin0))
    have fs77 := ((fs24.keep K27q).keep K73q)
    have fs78 := ((fs25.keep K27q).keep K73q)
    have zs79 := (Nat.le_trans zs34 K73q.1)
    show Gl _ _ _ _ _ _ _ _ (T73.setTop (mkF m 100 #[.val (.long q1), .second, .val (.long q2), .second, .val (.int p3), .val (.int p4), .val (.ref y2_x0), .val (.ref y4_x0), .val (.ref y8_x0), .val (.ref y11_x0), .val (.ref y16_x0), .val (.int (((p4.toUInt32 >>> ((16 : Int32) &&& 31).toUInt32).toInt32) &&& (3 : Int32))), .val (.ref o22), .unset, .unset, .unset, .unset] [(.int (nar .boolean (1 : Int32)))]))
    refine go (fun t k => XS.pop X73.here hx rfl (hb hby at_100) rfl rfl k) ?_
    show Gl _ _ _ _ _ _ _ _ (T73.setTop (mkF m 101 #[.val (.long q1), .second, .val (.long q2), .second, .val (.int p3), .val (.int p4), .val (.ref y2_x0), .val (.ref y4_x0), .val (.ref y8_x0), .val (.ref y11_x0), .val (.ref y16_x0), .val (.int (((p4.toUInt32 >>> ((16 : Int32) &&& 31).toUInt32).toInt32) &&& (3 : Int32))), .val (.ref o22), .unset, .unset, .unset, .unset] []))
    refine go (fun t k => XS.iload X73.here hx rfl (hb hby at_101) rfl  k) ?_
    show Gl _ _ _ _ _ _ _ _ (T73.setTop (mkF m 103 #[.val (.long q1), .second, .val (.long q2), .second, .val (.int p3), .val (.int p4), .val (.ref y2_x0), .val (.ref y4_x0), .val (.ref y8_x0), .val (.ref y11_x0), .val (.ref y16_x0), .val (.int (((p4.toUInt32 >>> ((16 : Int32) &&& 31).toUInt32).toInt32) &&& (3 : Int32))), .val (.ref o22), .unset, .unset, .unset, .unset] [(.int (((p4.toUInt32 >>> ((16 : Int32) &&& 31).toUInt32).toInt32) &&& (3 : Int32)))]))
    refine go (fun t k => XS.iconst X73.here hx rfl (hb hby at_103) k) ?_
    show Gl _ _ _ _ _ _ _ _ (T73.setTop (mkF m 104 #[.val (.long q1), .second, .val (.long q2), .second, .val (.int p3), .val (.int p4), .val (.ref y2_x0), .val (.ref y4_x0), .val (.ref y8_x0), .val (.ref y11_x0), .val (.ref y16_x0), .val (.int (((p4.toUInt32 >>> ((16 : Int32) &&& 31).toUInt32).toInt32) &&& (3 : Int32))), .val (.ref o22), .unset, .unset, .unset, .unset] [(.int (2 : Int32)), (.int (((p4.toUInt32 >>> ((16 : Int32) &&& 31).toUInt32).toInt32) &&& (3 : Int32)))]))
    refine gI (c := (((p4.toUInt32 >>> ((16 : Int32) &&& 31).toUInt32).toInt32) &&& (3 : Int32)) < (2 : Int32)) (fun hc104 => ?_) (fun hc104 => ?_)
    · refine go (fun t k => XS.icmpYes X73.here hx rfl (pc0 := 104) (pc' := 115) rfl (hb hby at_104) rfl (tlt hc104).1 (by decide) (by decide) k) ?_
      show Gl _ _ _ _ _ _ _ _ (T73.setTop (mkF m 115 #[.val (.long q1), .second, .val (.long q2), .second, .val (.int p3), .val (.int p4), .val (.ref y2_x0), .val (.ref y4_x0), .val (.ref y8_x0), .val (.ref y11_x0), .val (.ref y16_x0), .val (.int (((p4.toUInt32 >>> ((16 : Int32) &&& 31).toUInt32).toInt32) &&& (3 : Int32))), .val (.ref o22), .unset, .unset, .unset, .unset] []))
      refine go (fun t k => XS.aload X73.here hx rfl (hb hby at_115) rfl rfl k) ?_
      show Gl _ _ _ _ _ _ _ _ (T73.setTop (mkF m 117 #[.val (.long q1), .second, .val (.long q2), .second, .val (.int p3), .val (.int p4), .val (.ref y2_x0), .val (.ref y4_x0), .val (.ref y8_x0), .val (.ref y11_x0), .val (.ref y16_x0), .val (.int (((p4.toUInt32 >>> ((16 : Int32) &&& 31).toUInt32).toInt32) &&& (3 : Int32))), .val (.ref o22), .unset, .unset, .unset, .unset] [(.ref o22)]))
      obtain ⟨cq80, kq80, q80a, q80b, q80c⟩ := isOf hZ e73 Fo73_0
      obtain ⟨_, _, ⟨T80, L80, k80, n80⟩, -, X80, ⟨Lc80, hQ80, l80, y80, z80⟩, st80⟩ := X73.virtualBack hx (y := (⟨"java/util/ArrayList", "size", "()I"⟩ : MethodName)) (z := (⟨"java/util/ArrayList", "size", "()I"⟩ : MethodName)) hown (mvT hZ (hw _ (List.mem_of_getElem? (i := 50) rfl))) (mvT hZ (hw _ (List.mem_of_getElem? (i := 51) rfl))) (notFace_of_selects (args := #[]) (mvT hZ (hw _ (List.mem_of_getElem? (i := 53) rfl)))) (mvT hZ (hw _ (List.mem_of_getElem? (i := 53) rfl))) (mvT hZ (hw _ (List.mem_of_getElem? (i := 52) rfl))) (by decide) (backOf (W := 0) (rm9 l Z a0 hw [] o22 (1 : Int32) h73 n0 zs79 Fo73_2) hZ (hw _ (List.mem_of_getElem? (i := 54) rfl)) (hw _ (List.mem_of_getElem? (i := 28) rfl)) (by decide) (by decide)) q80a q80c (g := (mkF m 117 #[.val (.long q1), .second, .val (.long q2), .second, .val (.int p3), .val (.int p4), .val (.ref y2_x0), .val (.ref y4_x0), .val (.ref y8_x0), .val (.ref y11_x0), .val (.ref y16_x0), .val (.int (((p4.toUInt32 >>> ((16 : Int32) &&& 31).toUInt32).toInt32) &&& (3 : Int32))), .val (.ref o22), .unset, .unset, .unset, .unset] [(.ref o22)])) rfl (by rw [hml]; rfl) (Steps.refl _) (argsL := []) (rest := []) (lenOf pd_12 rfl) rfl (by show 2 * 0 + _ ≤ _; exact Nat.le_of_eq rfl) (hb hby at_117) (fun _ _ => ⟨rfl, e73, (by decide : 12 + 0 ≤ _), (by decide : 38 + 0 ≤ _)⟩)
      dsimp only [Pt.U, Pt.locs, Pt.cells, Pt.slots] at X80 l80 y80 z80 st80 hQ80
      replace X80 : Stand p l e room_1 s m #[(.long q1), (.long q2), (.int p3), (.int p4)] below meth c T80 _ 12 38 := own_mv X80 l80 y80 z80
      clear l80 y80 z80
      obtain ⟨⟨rfl, e80'⟩, N80q⟩ := hQ80
      have e80 : T80.heap = h73 := e80'
      have N80 := Fr.app N73 N80q
      refine go (fun t k => st80.trans k) ?_
      show Gl _ _ _ _ _ _ _ _ (T80.setTop (mkF m 120 #[.val (.long q1), .second, .val (.long q2), .second, .val (.int p3), .val (.int p4), .val (.ref y2_x0), .val (.ref y4_x0), .val (.ref y8_x0), .val (.ref y11_x0), .val (.ref y16_x0), .val (.int (((p4.toUInt32 >>> ((16 : Int32) &&& 31).toUInt32).toInt32) &&& (3 : Int32))), .val (.ref o22), .unset, .unset, .unset, .unset] [(.int (1 : Int32))]))
      refine go (fun t k => XS.istore X80.here hx rfl (hb hby at_120) rfl (l' := #[.val (.long q1), .second, .val (.long q2), .second, .val (.int p3), .val (.int p4), .val (.ref y2_x0), .val (.ref y4_x0), .val (.ref y8_x0), .val (.ref y11_x0), .val (.ref y16_x0), .val (.int (((p4.toUInt32 >>> ((16 : Int32) &&& 31).toUInt32).toInt32) &&& (3 : Int32))), .val (.ref o22), .val (.int (1 : Int32)), .unset, .unset, .unset]) rfl k) ?_
      show Gl _ _ _ _ _ _ _ _ (T80.setTop (mkF m 122 #[.val (.long q1), .second, .val (.long q2), .second, .val (.int p3), .val (.int p4), .val (.ref y2_x0), .val (.ref y4_x0), .val (.ref y8_x0), .val (.ref y11_x0), .val (.ref y16_x0), .val (.int (((p4.toUInt32 >>> ((16 : Int32) &&& 31).toUInt32).toInt32) &&& (3 : Int32))), .val (.ref o22), .val (.int (1 : Int32)), .unset, .unset, .unset] []))
      obtain ⟨T81, h81, X81, e81, E81, A81, D81, -, st81⟩ := newO X80 hx hZ hown (hw _ (List.mem_of_getElem? (i := 57) rfl)) (hw _ (List.mem_of_getElem? (i := 58) rfl)) (hw _ (List.mem_of_getElem? (i := 59) rfl)) e80 (g := (mkF m 122 #[.val (.long q1), .second, .val (.long q2), .second, .val (.int p3), .val (.int p4), .val (.ref y2_x0), .val (.ref y4_x0), .val (.ref y8_x0), .val (.ref y11_x0), .val (.ref y16_x0), .val (.int (((p4.toUInt32 >>> ((16 : Int32) &&& 31).toUInt32).toInt32) &&& (3 : Int32))), .val (.ref o22), .val (.int (1 : Int32)), .unset, .unset, .unset] [])) rfl (hb hby at_122) (by decide) (by decide)
      obtain ⟨o81, gq81⟩ : ∃ z, z = h73.size := ⟨_, rfl⟩
      rw [← gq81] at A81 D81 st81
      have g_o81 : n0 ≤ o81 := Nat.le_trans zs79 (Nat.le_of_eq gq81.symm)
      have ne_w_DEFAULTCAPACITY_EMPTY_ELEMENTDATA_o81 : w_DEFAULTCAPACITY_EMPTY_ELEMENTDATA ≠ o81 := Nat.ne_of_lt (Nat.lt_of_lt_of_le fs76.lt (Nat.le_of_eq gq81.symm))
      have ne_y2_x0_o81 : y2_x0 ≠ o81 := Nat.ne_of_lt (Nat.lt_of_lt_of_le (fs31.keep K73q).lt (Nat.le_of_eq gq81.symm))
      have ne_y4_x0_o81 : y4_x0 ≠ o81 := Nat.ne_of_lt (Nat.lt_of_lt_of_le fs77.lt (Nat.le_of_eq gq81.symm))
      have ne_y8_x0_o81 : y8_x0 ≠ o81 := Nat.ne_of_lt (Nat.lt_of_lt_of_le (fs32.keep K73q).lt (Nat.le_of_eq gq81.symm))
      have ne_y11_x0_o81 : y11_x0 ≠ o81 := Nat.ne_of_lt (Nat.lt_of_lt_of_le fs78.lt (Nat.le_of_eq gq81.symm))
      have ne_y16_x0_o81 : y16_x0 ≠ o81 := Nat.ne_of_lt (Nat.lt_of_lt_of_le (fs33.keep K73q).lt (Nat.le_of_eq gq81.symm))
      have ne_o22_o81 : o22 ≠ o81 := Nat.ne_of_lt (Nat.lt_of_lt_of_le Fo73_0.lt (Nat.le_of_eq gq81.symm))
      have ne_y73_x0_o81 : y73_x0 ≠ o81 := Nat.ne_of_lt (Nat.lt_of_lt_of_le Fo73_4.lt (Nat.le_of_eq gq81.symm))
      have F_watched_o81 : Fld Z h81 o81 "com/example/leasehold/server/Watches$Kept" "watched" "Ljava/lang/String;" .null := D81 (Or.inr (hw _ (List.mem_of_getElem? (i := 70) rfl))) (ty := (.object "java/lang/String")) (by decide)
      have F_id_o81 : Fld Z h81 o81 "com/example/leasehold/server/Watches$Kept" "id" "Ljava/lang/String;" .null := D81 (Or.inr (hw _ (List.mem_of_getElem? (i := 72) rfl))) (ty := (.object "java/lang/String")) (by decide)
      have F_handback_o81 : Fld Z h81 o81 "com/example/leasehold/server/Watches$Kept" "handback" "Ljava/lang/String;" .null := D81 (Or.inr (hw _ (List.mem_of_getElem? (i := 74) rfl))) (ty := (.object "java/lang/String")) (by decide)
      have F_beside_o81 : Fld Z h81 o81 "com/example/leasehold/server/Watches$Kept" "beside" "Ljava/util/List;" .null := D81 (Or.inr (hw _ (List.mem_of_getElem? (i := 76) rfl))) (ty := (.object "java/util/List")) (by decide)
      have F_reserved_o81 : Fld Z h81 o81 "com/example/leasehold/server/Watches$Kept" "reserved" "J" (.long (0 : Int64)) := D81 (Or.inr (hw _ (List.mem_of_getElem? (i := 78) rfl))) (ty := .long) (by decide)
      have K81 : Keep h0 h81 [] := K73.ext E81
      have sz_o81 : h0.size ≤ o81 := Nat.le_trans K73.1 (Nat.le_of_eq gq81.symm)
      refine go (fun t k => st81 _ k) ?_
      have fs82 := ((fs31.keep K73q).ext E81)
      have fs83 := ((fs32.keep K73q).ext E81)
      have fs84 := ((fs33.keep K73q).ext E81)
      have zs85 := (Nat.le_trans zs79 E81.1)
      show Gl _ _ _ _ _ _ _ _ (T81.setTop (mkF m 125 #[.val (.long q1), .second, .val (.long q2), .second, .val (.int p3), .val (.int p4), .val (.ref y2_x0), .val (.ref y4_x0), .val (.ref y8_x0), .val (.ref y11_x0), .val (.ref y16_x0), .val (.int (((p4.toUInt32 >>> ((16 : Int32) &&& 31).toUInt32).toInt32) &&& (3 : Int32))), .val (.ref o22), .val (.int (1 : Int32)), .unset, .unset, .unset] [(.ref o81)]))
      refine go (fun t k => XS.dup X81.here hx rfl (hb hby at_125) rfl rfl k) ?_
      show Gl _ _ _ _ _ _ _ _ (T81.setTop (mkF m 126 #[.val (.long q1), .second, .val (.long q2), .second, .val (.int p3), .val (.int p4), .val (.ref y2_x0), .val (.ref y4_x0), .val (.ref y8_x0), .val (.ref y11_x0), .val (.ref y16_x0), .val (.int (((p4.toUInt32 >>> ((16 : Int32) &&& 31).toUInt32).toInt32) &&& (3 : Int32))), .val (.ref o22), .val (.int (1 : Int32)), .unset, .unset, .unset] [(.ref o81), (.ref o81)]))
      refine go (fun t k => XS.aload X81.here hx rfl (hb hby at_126) rfl rfl k) ?_
      show Gl _ _ _ _ _ _ _ _ (T81.setTop (mkF m 128 #[.val (.long q1), .second, .val (.long q2), .second, .val (.int p3), .val (.int p4), .val (.ref y2_x0), .val (.ref y4_x0), .val (.ref y8_x0), .val (.ref y11_x0), .val (.ref y16_x0), .val (.int (((p4.toUInt32 >>> ((16 : Int32) &&& 31).toUInt32).toInt32) &&& (3 : Int32))), .val (.ref o22), .val (.int (1 : Int32)), .unset, .unset, .unset] [(.ref y2_x0), (.ref o81), (.ref o81)]))
      refine go (fun t k => XS.aload X81.here hx rfl (hb hby at_128) rfl rfl k) ?_
      show Gl _ _ _ _ _ _ _ _ (T81.setTop (mkF m 130 #[.val (.long q1), .second, .val (.long q2), .second, .val (.int p3), .val (.int p4), .val (.ref y2_x0), .val (.ref y4_x0), .val (.ref y8_x0), .val (.ref y11_x0), .val (.ref y16_x0), .val (.int (((p4.toUInt32 >>> ((16 : Int32) &&& 31).toUInt32).toInt32) &&& (3 : Int32))), .val (.ref o22), .val (.int (1 : Int32)), .unset, .unset, .unset] [(.ref y4_x0), (.ref y2_x0), (.ref o81), (.ref o81)]))
      refine go (fun t k => XS.aload X81.here hx rfl (hb hby at_130) rfl rfl k) ?_
      show Gl _ _ _ _ _ _ _ _ (T81.setTop (mkF m 132 #[.val (.long q1), .second, .val (.long q2), .second, .val (.int p3), .val (.int p4), .val (.ref y2_x0), .val (.ref y4_x0), .val (.ref y8_x0), .val (.ref y11_x0), .val (.ref y16_x0), .val (.int (((p4.toUInt32 >>> ((16 : Int32) &&& 31).toUInt32).toInt32) &&& (3 : Int32))), .val (.ref o22), .val (.int (1 : Int32)), .unset, .unset, .unset] [(.ref y8_x0), (.ref y4_x0), (.ref y2_x0), (.ref o81), (.ref o81)]))
      refine go (fun t k => XS.aload X81.here hx rfl (hb hby at_132) rfl rfl k) ?_
      show Gl _ _ _ _ _ _ _ _ (T81.setTop (mkF m 134 #[.val (.long q1), .second, .val (.long q2), .second, .val (.int p3), .val (.int p4), .val (.ref y2_x0), .val (.ref y4_x0), .val (.ref y8_x0), .val (.ref y11_x0), .val (.ref y16_x0), .val (.int (((p4.toUInt32 >>> ((16 : Int32) &&& 31).toUInt32).toInt32) &&& (3 : Int32))), .val (.ref o22), .val (.int (1 : Int32)), .unset, .unset, .unset] [(.ref o22), (.ref y8_x0), (.ref y4_x0), (.ref y2_x0), (.ref o81), (.ref o81)]))
      refine go (fun t k => XS.lloadN X81.here hx rfl (hb hby at_134) rfl  k) ?_
      show Gl _ _ _ _ _ _ _ _ (T81.setTop (mkF m 135 #[.val (.long q1), .second, .val (.long q2), .second, .val (.int p3), .val (.int p4), .val (.ref y2_x0), .val (.ref y4_x0), .val (.ref y8_x0), .val (.ref y11_x0), .val (.ref y16_x0), .val (.int (((p4.toUInt32 >>> ((16 : Int32) &&& 31).toUInt32).toInt32) &&& (3 : Int32))), .val (.ref o22), .val (.int (1 : Int32)), .unset, .unset, .unset] [(.long q1), (.ref o22), (.ref y8_x0), (.ref y4_x0), (.ref y2_x0), (.ref o81), (.ref o81)]))
      obtain ⟨_, _, ⟨T86, L86, k86, n86⟩, -, X86, ⟨Lc86, hQ86, l86, y86, z86⟩, st86⟩ := X81.specialBack hx (y := (⟨"com/example/leasehold/server/Watches$Kept", "<init>", "(Ljava/lang/String;Ljava/lang/String;Ljava/lang/String;Ljava/util/List;J)V"⟩ : MethodName)) rfl hown (mvT hZ (hw _ (List.mem_of_getElem? (i := 60) rfl))) (mvT hZ (hw _ (List.mem_of_getElem? (i := 61) rfl))) (mvT hZ (hw _ (List.mem_of_getElem? (i := 62) rfl))) (by decide) (backOf (W := 1) (rm10 l Z a0 hw [] o81 y2_x0 y4_x0 y8_x0 o22 q1 (.null) (.null) (.null) (.null) ((.long (0 : Int64))) h81 n0 zs85 A81 g_o81 F_watched_o81 F_id_o81 F_handback_o81 F_beside_o81 F_reserved_o81) hZ (hw _ (List.mem_of_getElem? (i := 62) rfl)) (hw _ (List.mem_of_getElem? (i := 59) rfl)) (by decide) (by decide)) (g := (mkF m 135 #[.val (.long q1), .second, .val (.long q2), .second, .val (.int p3), .val (.int p4), .val (.ref y2_x0), .val (.ref y4_x0), .val (.ref y8_x0), .val (.ref y11_x0), .val (.ref y16_x0), .val (.int (((p4.toUInt32 >>> ((16 : Int32) &&& 31).toUInt32).toInt32) &&& (3 : Int32))), .val (.ref o22), .val (.int (1 : Int32)), .unset, .unset, .unset] [(.long q1), (.ref o22), (.ref y8_x0), (.ref y4_x0), (.ref y2_x0), (.ref o81), (.ref o81)])) rfl (by rw [hml]; rfl) (Steps.refl _) (a := o81) (argsL := [(.ref y2_x0), (.ref y4_x0), (.ref y8_x0), (.ref o22), (.long q1)]) (rest := [(.ref o81)]) (lenOf pd_10 rfl) rfl (by show 2 * 0 + _ ≤ _; exact Nat.le_of_eq rfl) (hb hby at_135) (fun _ _ => ⟨rfl, e81, (by decide : 13 + 0 ≤ _), (by decide : 43 + 0 ≤ _)⟩)
      dsimp only [Pt.U, Pt.locs, Pt.cells, Pt.slots] at X86 l86 y86 z86 st86 hQ86
      replace X86 : Stand p l e room_1 s m #[(.long q1), (.long q2), (.int p3), (.int p4)] below meth c T86 _ 13 43 := own_mv X86 l86 y86 z86
      clear l86 y86 z86
      obtain ⟨⟨rfl, K86q, Ex86, Fq86_watched, Fq86_id, Fq86_handback, Fq86_beside, Fq86_reserved⟩, N86q⟩ := hQ86
      obtain ⟨h86, e86⟩ : ∃ z, T86.heap = z := ⟨_, rfl⟩
      rw [e86] at K86q Ex86 Fq86_watched Fq86_id Fq86_handback Fq86_beside Fq86_reserved
      have K86 : Keep h0 h86 [] := K81.trans K86q (allS (Or.inr sz_o81) all0)
      have N86 := Fr.app N80 N86q
      refine go (fun t k => st86.trans k) ?_
      have fs87 := (sta_keep (fs74.ext E81) K86q A81)
      have fs88 := (sta_keep (fs75.ext E81) K86q A81)
      have fs89 := ((fs76.ext E81).keep K86q (ninS ne_w_DEFAULTCAPACITY_EMPTY_ELEMENTDATA_o81 nin0))
      have fs90 := ((fs77.ext E81).keep K86q)
      have fs91 := ((fs78.ext E81).keep K86q)
      have fs92 := ((Fo73_0.ext E81).keep K86q)
      have fs93 := ((Fo73_1.ext E81).keep K86q (ninS ne_o22_o81 nin0))
      have fs94 := ((Fo73_2.ext E81).keep K86q (ninS ne_o22_o81 nin0))
      have fs95 := ((Fo73_3.ext E81).keep K86q (ninS ne_o22_o81 nin0))
      have fs96 := ((Fo73_4.ext E81).keep K86q (ninS ne_y73_x0_o81 nin0))
      have zs97 := (Nat.le_trans zs85 K86q.1)
      show Gl _ _ _ _ _ _ _ _ (T86.setTop (mkF m 138 #[.val (.long q1), .second, .val (.long q2), .second, .val (.int p3), .val (.int p4), .val (.ref y2_x0), .val (.ref y4_x0), .val (.ref y8_x0), .val (.ref y11_x0), .val (.ref y16_x0), .val (.int (((p4.toUInt32 >>> ((16 : Int32) &&& 31).toUInt32).toInt32) &&& (3 : Int32))), .val (.ref o22), .val (.int (1 : Int32)), .unset, .unset, .unset] [(.ref o81)]))
      refine go (fun t k => XS.astore X86.here hx rfl (hb hby at_138) rfl rfl (l' := #[.val (.long q1), .second, .val (.long q2), .second, .val (.int p3), .val (.int p4), .val (.ref y2_x0), .val (.ref y4_x0), .val (.ref y8_x0), .val (.ref y11_x0), .val (.ref y16_x0), .val (.int (((p4.toUInt32 >>> ((16 : Int32) &&& 31).toUInt32).toInt32) &&& (3 : Int32))), .val (.ref o22), .val (.int (1 : Int32)), .val (.ref o81), .unset, .unset]) rfl k) ?_
      show Gl _ _ _ _ _ _ _ _ (T86.setTop (mkF m 140 #[.val (.long q1), .second, .val (.long q2), .second, .val (.int p3), .val (.int p4), .val (.ref y2_x0), .val (.ref y4_x0), .val (.ref y8_x0), .val (.ref y11_x0), .val (.ref y16_x0), .val (.int (((p4.toUInt32 >>> ((16 : Int32) &&& 31).toUInt32).toInt32) &&& (3 : Int32))), .val (.ref o22), .val (.int (1 : Int32)), .val (.ref o81), .unset, .unset] []))
      refine go (fun t k => XS.aload X86.here hx rfl (hb hby at_140) rfl rfl k) ?_
      show Gl _ _ _ _ _ _ _ _ (T86.setTop (mkF m 142 #[.val (.long q1), .second, .val (.long q2), .second, .val (.int p3), .val (.int p4), .val (.ref y2_x0), .val (.ref y4_x0), .val (.ref y8_x0), .val (.ref y11_x0), .val (.ref y16_x0), .val (.int (((p4.toUInt32 >>> ((16 : Int32) &&& 31).toUInt32).toInt32) &&& (3 : Int32))), .val (.ref o22), .val (.int (1 : Int32)), .val (.ref o81), .unset, .unset] [(.ref o81)]))
      refine go (fun t k => XS.lloadN X86.here hx rfl (hb hby at_142) rfl  k) ?_
      show Gl _ _ _ _ _ _ _ _ (T86.setTop (mkF m 143 #[.val (.long q1), .second, .val (.long q2), .second, .val (.int p3), .val (.int p4), .val (.ref y2_x0), .val (.ref y4_x0), .val (.ref y8_x0), .val (.ref y11_x0), .val (.ref y16_x0), .val (.int (((p4.toUInt32 >>> ((16 : Int32) &&& 31).toUInt32).toInt32) &&& (3 : Int32))), .val (.ref o22), .val (.int (1 : Int32)), .val (.ref o81), .unset, .unset] [(.long q2), (.ref o81)]))
      obtain ⟨cq98, kq98, q98a, q98b, q98c⟩ := isOf hZ e86 Ex86
      obtain ⟨_, _, ⟨T98, L98, k98, n98⟩, -, X98, ⟨Lc98, hQ98, l98, y98, z98⟩, st98⟩ := X86.virtualBack hx (y := (⟨"com/example/leasehold/server/Watches$Kept", "reserving", "(J)Lcom/example/leasehold/server/Watches$Kept;"⟩ : MethodName)) (z := (⟨"com/example/leasehold/server/Watches$Kept", "reserving", "(J)Lcom/example/leasehold/server/Watches$Kept;"⟩ : MethodName)) hown (mvT hZ (hw _ (List.mem_of_getElem? (i := 79) rfl))) (mvT hZ (hw _ (List.mem_of_getElem? (i := 80) rfl))) (notFace_of_selects (args := #[]) (mvT hZ (hw _ (List.mem_of_getElem? (i := 82) rfl)))) (mvT hZ (hw _ (List.mem_of_getElem? (i := 82) rfl))) (mvT hZ (hw _ (List.mem_of_getElem? (i := 81) rfl))) (by decide) (backOf (W := 0) (rm12 l Z a0 hw [] o81 q2 y2_x0 y4_x0 y8_x0 o22 h86 n0 zs97 Ex86 Fq86_watched Fq86_id Fq86_handback Fq86_beside) hZ (hw _ (List.mem_of_getElem? (i := 83) rfl)) (hw _ (List.mem_of_getElem? (i := 59) rfl)) (by decide) (by decide)) q98a q98c (g := (mkF m 143 #[.val (.long q1), .second, .val (.long q2), .second, .val (.int p3), .val (.int p4), .val (.ref y2_x0), .val (.ref y4_x0), .val (.ref y8_x0), .val (.ref y11_x0), .val (.ref y16_x0), .val (.int (((p4.toUInt32 >>> ((16 : Int32) &&& 31).toUInt32).toInt32) &&& (3 : Int32))), .val (.ref o22), .val (.int (1 : Int32)), .val (.ref o81), .unset, .unset] [(.long q2), (.ref o81)])) rfl (by rw [hml]; rfl) (Steps.refl _) (argsL := [(.long q2)]) (rest := []) (lenOf pd_13 rfl) rfl (by show 2 * 0 + _ ≤ _; exact Nat.le_of_eq rfl) (hb hby at_143) (fun _ _ => ⟨rfl, e86, (by decide : 13 + 1 ≤ _), (by decide : 43 + 5 ≤ _)⟩)
      dsimp only [Pt.U, Pt.locs, Pt.cells, Pt.slots] at X98 l98 y98 z98 st98 hQ98
      replace X98 : Stand p l e room_1 s m #[(.long q1), (.long q2), (.int p3), (.int p4)] below meth c T98 _ 14 48 := own_mv X98 l98 y98 z98
      clear l98 y98 z98
      obtain ⟨⟨y98_x0, rfl, K98q, so98_0, Fo98_0, Fo98_1, Fo98_2, Fo98_3, Fo98_4, Fo98_5⟩, N98q⟩ := hQ98
      obtain ⟨h98, e98⟩ : ∃ z, T98.heap = z := ⟨_, rfl⟩
      rw [e98] at K98q Fo98_0 Fo98_1 Fo98_2 Fo98_3 Fo98_4 Fo98_5
      have K98 : Keep h0 h98 [] := K86.trans K98q all0
      have g_y98_x0 : n0 ≤ y98_x0 := Nat.le_trans zs97 so98_0
      have sz_y98_x0 : h0.size ≤ y98_x0 := Nat.le_trans K86.1 so98_0
      have ne_w_DEFAULTCAPACITY_EMPTY_ELEMENTDATA_y98_x0 : w_DEFAULTCAPACITY_EMPTY_ELEMENTDATA ≠ y98_x0 := Nat.ne_of_lt (Nat.lt_of_lt_of_le fs89.lt so98_0)
      have ne_y2_x0_y98_x0 : y2_x0 ≠ y98_x0 := Nat.ne_of_lt (Nat.lt_of_lt_of_le (fs82.keep K86q).lt so98_0)
      have ne_y4_x0_y98_x0 : y4_x0 ≠ y98_x0 := Nat.ne_of_lt (Nat.lt_of_lt_of_le fs90.lt so98_0)
      have ne_y8_x0_y98_x0 : y8_x0 ≠ y98_x0 := Nat.ne_of_lt (Nat.lt_of_lt_of_le (fs83.keep K86q).lt so98_0)
      have ne_y11_x0_y98_x0 : y11_x0 ≠ y98_x0 := Nat.ne_of_lt (Nat.lt_of_lt_of_le fs91.lt so98_0)
      have ne_y16_x0_y98_x0 : y16_x0 ≠ y98_x0 := Nat.ne_of_lt (Nat.lt_of_lt_of_le (fs84.keep K86q).lt so98_0)
      have ne_o22_y98_x0 : o22 ≠ y98_x0 := Nat.ne_of_lt (Nat.lt_of_lt_of_le fs92.lt so98_0)
      have ne_y73_x0_y98_x0 : y73_x0 ≠ y98_x0 := Nat.ne_of_lt (Nat.lt_of_lt_of_le fs96.lt so98_0)
      have ne_o81_y98_x0 : o81 ≠ y98_x0 := Nat.ne_of_lt (Nat.lt_of_lt_of_le Ex86.lt so98_0)
      have N98 := Fr.app N86 N98q
      refine go (fun t k => st98.trans k) ?_
      have fs99 := (sta_keepN fs87 K98q ns0)
      have fs100 := (sta_keepN fs88 K98q ns0)
      have fs101 := ((fs82.keep K86q).keep K98q)
      have fs102 := ((fs83.keep K86q).keep K98q)
      have fs103 := ((fs84.keep K86q).keep K98q)
      have fs104 := (Fq86_watched.keep K98q nin0)
      have fs105 := (Fq86_handback.keep K98q nin0)
      have fs106 := (Fq86_beside.keep K98q nin0)
      have fs107 := (Fq86_reserved.keep K98q nin0)
      have zs108 := (Nat.le_trans zs97 K98q.1)
      show Gl _ _ _ _ _ _ _ _ (T98.setTop (mkF m 146 #[.val (.long q1), .second, .val (.long q2), .second, .val (.int p3), .val (.int p4), .val (.ref y2_x0), .val (.ref y4_x0), .val (.ref y8_x0), .val (.ref y11_x0), .val (.ref y16_x0), .val (.int (((p4.toUInt32 >>> ((16 : Int32) &&& 31).toUInt32).toInt32) &&& (3 : Int32))), .val (.ref o22), .val (.int (1 : Int32)), .val (.ref o81), .unset, .unset] [(.ref y98_x0)]))
      refine go (fun t k => XS.astore X98.here hx rfl (hb hby at_146) rfl rfl (l' := #[.val (.long q1), .second, .val (.long q2), .second, .val (.int p3), .val (.int p4), .val (.ref y2_x0), .val (.ref y4_x0), .val (.ref y8_x0), .val (.ref y11_x0), .val (.ref y16_x0), .val (.int (((p4.toUInt32 >>> ((16 : Int32) &&& 31).toUInt32).toInt32) &&& (3 : Int32))), .val (.ref o22), .val (.int (1 : Int32)), .val (.ref o81), .val (.ref y98_x0), .unset]) rfl k) ?_
      show Gl _ _ _ _ _ _ _ _ (T98.setTop (mkF m 148 #[.val (.long q1), .second, .val (.long q2), .second, .val (.int p3), .val (.int p4), .val (.ref y2_x0), .val (.ref y4_x0), .val (.ref y8_x0), .val (.ref y11_x0), .val (.ref y16_x0), .val (.int (((p4.toUInt32 >>> ((16 : Int32) &&& 31).toUInt32).toInt32) &&& (3 : Int32))), .val (.ref o22), .val (.int (1 : Int32)), .val (.ref o81), .val (.ref y98_x0), .unset] []))
      refine go (fun t k => XS.aload X98.here hx rfl (hb hby at_148) rfl rfl k) ?_
      show Gl _ _ _ _ _ _ _ _ (T98.setTop (mkF m 150 #[.val (.long q1), .second, .val (.long q2), .second, .val (.int p3), .val (.int p4), .val (.ref y2_x0), .val (.ref y4_x0), .val (.ref y8_x0), .val (.ref y11_x0), .val (.ref y16_x0), .val (.int (((p4.toUInt32 >>> ((16 : Int32) &&& 31).toUInt32).toInt32) &&& (3 : Int32))), .val (.ref o22), .val (.int (1 : Int32)), .val (.ref o81), .val (.ref y98_x0), .unset] [(.ref y98_x0)]))
      obtain ⟨cq109, kq109, q109a, q109b, q109c⟩ := isOf hZ e98 Fo98_0
      obtain ⟨_, _, ⟨T109, L109, k109, n109⟩, -, X109, ⟨Lc109, hQ109, l109, y109, z109⟩, st109⟩ := X98.virtualBack hx (y := (⟨"com/example/leasehold/server/Watches$Kept", "reserved", "()J"⟩ : MethodName)) (z := (⟨"com/example/leasehold/server/Watches$Kept", "reserved", "()J"⟩ : MethodName)) hown (mvT hZ (hw _ (List.mem_of_getElem? (i := 86) rfl))) (mvT hZ (hw _ (List.mem_of_getElem? (i := 87) rfl))) (notFace_of_selects (args := #[]) (mvT hZ (hw _ (List.mem_of_getElem? (i := 89) rfl)))) (mvT hZ (hw _ (List.mem_of_getElem? (i := 89) rfl))) (mvT hZ (hw _ (List.mem_of_getElem? (i := 88) rfl))) (by decide) (backOf (W := 0) (rm13 l Z a0 hw [] y98_x0 q2 h98 n0 zs108 Fo98_5) hZ (hw _ (List.mem_of_getElem? (i := 90) rfl)) (hw _ (List.mem_of_getElem? (i := 59) rfl)) (by decide) (by decide)) q109a q109c (g := (mkF m 150 #[.val (.long q1), .second, .val (.long q2), .second, .val (.int p3), .val (.int p4), .val (.ref y2_x0), .val (.ref y4_x0), .val (.ref y8_x0), .val (.ref y11_x0), .val (.ref y16_x0), .val (.int (((p4.toUInt32 >>> ((16 : Int32) &&& 31).toUInt32).toInt32) &&& (3 : Int32))), .val (.ref o22), .val (.int (1 : Int32)), .val (.ref o81), .val (.ref y98_x0), .unset] [(.ref y98_x0)])) rfl (by rw [hml]; rfl) (Steps.refl _) (argsL := []) (rest := []) (lenOf pd_14 rfl) rfl (by show 2 * 0 + _ ≤ _; exact Nat.le_of_eq rfl) (hb hby at_150) (fun _ _ => ⟨rfl, e98, (by decide : 14 + 0 ≤ _), (by decide : 48 + 0 ≤ _)⟩)
      dsimp only [Pt.U, Pt.locs, Pt.cells, Pt.slots] at X109 l109 y109 z109 st109 hQ109
      replace X109 : Stand p l e room_1 s m #[(.long q1), (.long q2), (.int p3), (.int p4)] below meth c T109 _ 14 48 := own_mv X109 l109 y109 z109
      clear l109 y109 z109
      obtain ⟨⟨rfl, e109'⟩, N109q⟩ := hQ109
      have e109 : T109.heap = h98 := e109'
      have N109 := Fr.app N98 N109q
      refine go (fun t k => st109.trans k) ?_
      show Gl _ _ _ _ _ _ _ _ (T109.setTop (mkF m 153 #[.val (.long q1), .second, .val (.long q2), .second, .val (.int p3), .val (.int p4), .val (.ref y2_x0), .val (.ref y4_x0), .val (.ref y8_x0), .val (.ref y11_x0), .val (.ref y16_x0), .val (.int (((p4.toUInt32 >>> ((16 : Int32) &&& 31).toUInt32).toInt32) &&& (3 : Int32))), .val (.ref o22), .val (.int (1 : Int32)), .val (.ref o81), .val (.ref y98_x0), .unset] [(.long q2)]))
      refine go (fun t k => XS.lloadN X109.here hx rfl (hb hby at_153) rfl  k) ?_
      show Gl _ _ _ _ _ _ _ _ (T109.setTop (mkF m 154 #[.val (.long q1), .second, .val (.long q2), .second, .val (.int p3), .val (.int p4), .val (.ref y2_x0), .val (.ref y4_x0), .val (.ref y8_x0), .val (.ref y11_x0), .val (.ref y16_x0), .val (.int (((p4.toUInt32 >>> ((16 : Int32) &&& 31).toUInt32).toInt32) &&& (3 : Int32))), .val (.ref o22), .val (.int (1 : Int32)), .val (.ref o81), .val (.ref y98_x0), .unset] [(.long q2), (.long q2)]))
      refine go (fun t k => XS.lcmp X109.here hx rfl (hb hby at_154) rfl k) ?_
      show Gl _ _ _ _ _ _ _ _ (T109.setTop (mkF m 155 #[.val (.long q1), .second, .val (.long q2), .second, .val (.int p3), .val (.int p4), .val (.ref y2_x0), .val (.ref y4_x0), .val (.ref y8_x0), .val (.ref y11_x0), .val (.ref y16_x0), .val (.int (((p4.toUInt32 >>> ((16 : Int32) &&& 31).toUInt32).toInt32) &&& (3 : Int32))), .val (.ref o22), .val (.int (1 : Int32)), .val (.ref o81), .val (.ref y98_x0), .unset] [(.int (lcmpW q2 q2))]))
      refine gI (c := q2 = q2) (fun hc155 => ?_) (fun hc155 => ?_)
      · refine go (fun t k => XS.ifYes X109.here hx rfl (pc0 := 155) (pc' := 160) rfl (hb hby at_155) rfl ((if0 _ _).trans (teq ((lw_eq q2 q2).mpr hc155)).1) (by decide) (by decide) k) ?_
        show Gl _ _ _ _ _ _ _ _ (T109.setTop (mkF m 160 #[.val (.long q1), .second, .val (.long q2), .second, .val (.int p3), .val (.int p4), .val (.ref y2_x0), .val (.ref y4_x0), .val (.ref y8_x0), .val (.ref y11_x0), .val (.ref y16_x0), .val (.int (((p4.toUInt32 >>> ((16 : Int32) &&& 31).toUInt32).toInt32) &&& (3 : Int32))), .val (.ref o22), .val (.int (1 : Int32)), .val (.ref o81), .val (.ref y98_x0), .unset] []))
        refine go (fun t k => XS.aload X109.here hx rfl (hb hby at_160) rfl rfl k) ?_
        show Gl _ _ _ _ _ _ _ _ (T109.setTop (mkF m 162 #[.val (.long q1), .second, .val (.long q2), .second, .val (.int p3), .val (.int p4), .val (.ref y2_x0), .val (.ref y4_x0), .val (.ref y8_x0), .val (.ref y11_x0), .val (.ref y16_x0), .val (.int (((p4.toUInt32 >>> ((16 : Int32) &&& 31).toUInt32).toInt32) &&& (3 : Int32))), .val (.ref o22), .val (.int (1 : Int32)), .val (.ref o81), .val (.ref y98_x0), .unset] [(.ref o81)]))
        obtain ⟨cq110, kq110, q110a, q110b, q110c⟩ := isOf hZ e109 (Ex86.keep K98q)
        obtain ⟨_, _, ⟨T110, L110, k110, n110⟩, -, X110, ⟨Lc110, hQ110, l110, y110, z110⟩, st110⟩ := X109.virtualBack hx (y := (⟨"com/example/leasehold/server/Watches$Kept", "reserved", "()J"⟩ : MethodName)) (z := (⟨"com/example/leasehold/server/Watches$Kept", "reserved", "()J"⟩ : MethodName)) hown (mvT hZ (hw _ (List.mem_of_getElem? (i := 86) rfl))) (mvT hZ (hw _ (List.mem_of_getElem? (i := 87) rfl))) (notFace_of_selects (args := #[]) (mvT hZ (hw _ (List.mem_of_getElem? (i := 89) rfl)))) (mvT hZ (hw _ (List.mem_of_getElem? (i := 89) rfl))) (mvT hZ (hw _ (List.mem_of_getElem? (i := 88) rfl))) (by decide) (backOf (W := 0) (rm13 l Z a0 hw [] o81 q1 h98 n0 zs108 fs107) hZ (hw _ (List.mem_of_getElem? (i := 90) rfl)) (hw _ (List.mem_of_getElem? (i := 59) rfl)) (by decide) (by decide)) q110a q110c (g := (mkF m 162 #[.val (.long q1), .second, .val (.long q2), .second, .val (.int p3), .val (.int p4), .val (.ref y2_x0), .val (.ref y4_x0), .val (.ref y8_x0), .val (.ref y11_x0), .val (.ref y16_x0), .val (.int (((p4.toUInt32 >>> ((16 : Int32) &&& 31).toUInt32).toInt32) &&& (3 : Int32))), .val (.ref o22), .val (.int (1 : Int32)), .val (.ref o81), .val (.ref y98_x0), .unset] [(.ref o81)])) rfl (by rw [hml]; rfl) (Steps.refl _) (argsL := []) (rest := []) (lenOf pd_14 rfl) rfl (by show 2 * 0 + _ ≤ _; exact Nat.le_of_eq rfl) (hb hby at_162) (fun _ _ => ⟨rfl, e109, (by decide : 14 + 0 ≤ _), (by decide : 48 + 0 ≤ _)⟩)
        dsimp only [Pt.U, Pt.locs, Pt.cells, Pt.slots] at X110 l110 y110 z110 st110 hQ110
        replace X110 : Stand p l e room_1 s m #[(.long q1), (.long q2), (.int p3), (.int p4)] below meth c T110 _ 14 48 := own_mv X110 l110 y110 z110
        clear l110 y110 z110
        obtain ⟨⟨rfl, e110'⟩, N110q⟩ := hQ110
        have e110 : T110.heap = h98 := e110'
        have N110 := Fr.app N109 N110q
        refine go (fun t k => st110.trans k) ?_
        show Gl _ _ _ _ _ _ _ _ (T110.setTop (mkF m 165 #[.val (.long q1), .second, .val (.long q2), .second, .val (.int p3), .val (.int p4), .val (.ref y2_x0), .val (.ref y4_x0), .val (.ref y8_x0), .val (.ref y11_x0), .val (.ref y16_x0), .val (.int (((p4.toUInt32 >>> ((16 : Int32) &&& 31).toUInt32).toInt32) &&& (3 : Int32))), .val (.ref o22), .val (.int (1 : Int32)), .val (.ref o81), .val (.ref y98_x0), .unset] [(.long q1)]))
        refine go (fun t k => XS.lloadN X110.here hx rfl (hb hby at_165) rfl  k) ?_
        show Gl _ _ _ _ _ _ _ _ (T110.setTop (mkF m 166 #[.val (.long q1), .second, .val (.long q2), .second, .val (.int p3), .val (.int p4), .val (.ref y2_x0), .val (.ref y4_x0), .val (.ref y8_x0), .val (.ref y11_x0), .val (.ref y16_x0), .val (.int (((p4.toUInt32 >>> ((16 : Int32) &&& 31).toUInt32).toInt32) &&& (3 : Int32))), .val (.ref o22), .val (.int (1 : Int32)), .val (.ref o81), .val (.ref y98_x0), .unset] [(.long q1), (.long q1)]))
        refine go (fun t k => XS.lcmp X110.here hx rfl (hb hby at_166) rfl k) ?_
        show Gl _ _ _ _ _ _ _ _ (T110.setTop (mkF m 167 #[.val (.long q1), .second, .val (.long q2), .second, .val (.int p3), .val (.int p4), .val (.ref y2_x0), .val (.ref y4_x0), .val (.ref y8_x0), .val (.ref y11_x0), .val (.ref y16_x0), .val (.int (((p4.toUInt32 >>> ((16 : Int32) &&& 31).toUInt32).toInt32) &&& (3 : Int32))), .val (.ref o22), .val (.int (1 : Int32)), .val (.ref o81), .val (.ref y98_x0), .unset] [(.int (lcmpW q1 q1))]))
        refine gI (c := q1 = q1) (fun hc167 => ?_) (fun hc167 => ?_)
        · refine go (fun t k => XS.ifYes X110.here hx rfl (pc0 := 167) (pc' := 172) rfl (hb hby at_167) rfl ((if0 _ _).trans (teq ((lw_eq q1 q1).mpr hc167)).1) (by decide) (by decide) k) ?_
          show Gl _ _ _ _ _ _ _ _ (T110.setTop (mkF m 172 #[.val (.long q1), .second, .val (.long q2), .second, .val (.int p3), .val (.int p4), .val (.ref y2_x0), .val (.ref y4_x0), .val (.ref y8_x0), .val (.ref y11_x0), .val (.ref y16_x0), .val (.int (((p4.toUInt32 >>> ((16 : Int32) &&& 31).toUInt32).toInt32) &&& (3 : Int32))), .val (.ref o22), .val (.int (1 : Int32)), .val (.ref o81), .val (.ref y98_x0), .unset] []))
          refine go (fun t k => XS.aload X110.here hx rfl (hb hby at_172) rfl rfl k) ?_
          show Gl _ _ _ _ _ _ _ _ (T110.setTop (mkF m 174 #[.val (.long q1), .second, .val (.long q2), .second, .val (.int p3), .val (.int p4), .val (.ref y2_x0), .val (.ref y4_x0), .val (.ref y8_x0), .val (.ref y11_x0), .val (.ref y16_x0), .val (.int (((p4.toUInt32 >>> ((16 : Int32) &&& 31).toUInt32).toInt32) &&& (3 : Int32))), .val (.ref o22), .val (.int (1 : Int32)), .val (.ref o81), .val (.ref y98_x0), .unset] [(.ref y2_x0)]))
          refine go (fun t k => XS.aload X110.here hx rfl (hb hby at_174) rfl rfl k) ?_
          show Gl _ _ _ _ _ _ _ _ (T110.setTop (mkF m 176 #[.val (.long q1), .second, .val (.long q2), .second, .val (.int p3), .val (.int p4), .val (.ref y2_x0), .val (.ref y4_x0), .val (.ref y8_x0), .val (.ref y11_x0), .val (.ref y16_x0), .val (.int (((p4.toUInt32 >>> ((16 : Int32) &&& 31).toUInt32).toInt32) &&& (3 : Int32))), .val (.ref o22), .val (.int (1 : Int32)), .val (.ref o81), .val (.ref y98_x0), .unset] [(.ref y98_x0), (.ref y2_x0)]))
          obtain ⟨cq111, kq111, q111a, q111b, q111c⟩ := isOf hZ e110 Fo98_0
          obtain ⟨_, _, ⟨T111, L111, k111, n111⟩, -, X111, ⟨Lc111, hQ111, l111, y111, z111⟩, st111⟩ := X110.virtualBack hx (y := (⟨"com/example/leasehold/server/Watches$Kept", "watched", "()Ljava/lang/String;"⟩ : MethodName)) (z := (⟨"com/example/leasehold/server/Watches$Kept", "watched", "()Ljava/lang/String;"⟩ : MethodName)) hown (mvT hZ (hw _ (List.mem_of_getElem? (i := 91) rfl))) (mvT hZ (hw _ (List.mem_of_getElem? (i := 92) rfl))) (notFace_of_selects (args := #[]) (mvT hZ (hw _ (List.mem_of_getElem? (i := 94) rfl)))) (mvT hZ (hw _ (List.mem_of_getElem? (i := 94) rfl))) (mvT hZ (hw _ (List.mem_of_getElem? (i := 93) rfl))) (by decide) (backOf (W := 1) (rm14 l Z a0 hw [] y98_x0 y2_x0 h98 n0 zs108 Fo98_1) hZ (hw _ (List.mem_of_getElem? (i := 95) rfl)) (hw _ (List.mem_of_getElem? (i := 59) rfl)) (by decide) (by decide)) q111a q111c (g := (mkF m 176 #[.val (.long q1), .second, .val (.long q2), .second, .val (.int p3), .val (.int p4), .val (.ref y2_x0), .val (.ref y4_x0), .val (.ref y8_x0), .val (.ref y11_x0), .val (.ref y16_x0), .val (.int (((p4.toUInt32 >>> ((16 : Int32) &&& 31).toUInt32).toInt32) &&& (3 : Int32))), .val (.ref o22), .val (.int (1 : Int32)), .val (.ref o81), .val (.ref y98_x0), .unset] [(.ref y98_x0), (.ref y2_x0)])) rfl (by rw [hml]; rfl) (Steps.refl _) (argsL := []) (rest := [(.ref y2_x0)]) (lenOf pd_15 rfl) rfl (by show 2 * 0 + _ ≤ _; exact Nat.le_of_eq rfl) (hb hby at_176) (fun _ _ => ⟨rfl, e110, (by decide : 14 + 0 ≤ _), (by decide : 48 + 0 ≤ _)⟩)
          dsimp only [Pt.U, Pt.locs, Pt.cells, Pt.slots] at X111 l111 y111 z111 st111 hQ111
          replace X111 : Stand p l e room_1 s m #[(.long q1), (.long q2), (.int p3), (.int p4)] below meth c T111 _ 14 48 := own_mv X111 l111 y111 z111
          clear l111 y111 z111
          obtain ⟨⟨rfl, e111'⟩, N111q⟩ := hQ111
          have e111 : T111.heap = h98 := e111'
          have N111 := Fr.app N110 N111q
          refine go (fun t k => st111.trans k) ?_
          show Gl _ _ _ _ _ _ _ _ (T111.setTop (mkF m 179 #[.val (.long q1), .second, .val (.long q2), .second, .val (.int p3), .val (.int p4), .val (.ref y2_x0), .val (.ref y4_x0), .val (.ref y8_x0), .val (.ref y11_x0), .val (.ref y16_x0), .val (.int (((p4.toUInt32 >>> ((16 : Int32) &&& 31).toUInt32).toInt32) &&& (3 : Int32))), .val (.ref o22), .val (.int (1 : Int32)), .val (.ref o81), .val (.ref y98_x0), .unset] [(.ref y2_x0), (.ref y2_x0)]))
          obtain ⟨cq112, kq112, q112a, q112b, q112c⟩ := isOf hZ e111 fs101
          obtain ⟨_, _, ⟨T112, L112, k112, n112⟩, -, X112, ⟨Lc112, hQ112, l112, y112, z112⟩, st112⟩ := X111.virtualBack hx (y := (⟨"java/lang/String", "equals", "(Ljava/lang/Object;)Z"⟩ : MethodName)) (z := (⟨"java/lang/String", "equals", "(Ljava/lang/Object;)Z"⟩ : MethodName)) hown (mvT hZ (hw _ (List.mem_of_getElem? (i := 96) rfl))) (mvT hZ (hw _ (List.mem_of_getElem? (i := 97) rfl))) (notFace_of_selects (args := #[]) (mvT hZ (hw _ (List.mem_of_getElem? (i := 99) rfl)))) (mvT hZ (hw _ (List.mem_of_getElem? (i := 99) rfl))) (mvT hZ (hw _ (List.mem_of_getElem? (i := 98) rfl))) (by decide) (backOf (W := 0) (rm15 l Z a0 hw [] y2_x0 h98 n0 zs108 ) hZ (hw _ (List.mem_of_getElem? (i := 100) rfl)) (hw _ (List.mem_of_getElem? (i := 2) rfl)) (by decide) (by decide)) q112a q112c (g := (mkF m 179 #[.val (.long q1), .second, .val (.long q2), .second, .val (.int p3), .val (.int p4), .val (.ref y2_x0), .val (.ref y4_x0), .val (.ref y8_x0), .val (.ref y11_x0), .val (.ref y16_x0), .val (.int (((p4.toUInt32 >>> ((16 : Int32) &&& 31).toUInt32).toInt32) &&& (3 : Int32))), .val (.ref o22), .val (.int (1 : Int32)), .val (.ref o81), .val (.ref y98_x0), .unset] [(.ref y2_x0), (.ref y2_x0)])) rfl (by rw [hml]; rfl) (Steps.refl _) (argsL := [(.ref y2_x0)]) (rest := []) (lenOf pd_16 rfl) rfl (by show 2 * 0 + _ ≤ _; exact Nat.le_of_eq rfl) (hb hby at_179) (fun _ _ => ⟨rfl, e111, (by decide : 14 + 0 ≤ _), (by decide : 48 + 0 ≤ _)⟩)
          dsimp only [Pt.U, Pt.locs, Pt.cells, Pt.slots] at X112 l112 y112 z112 st112 hQ112
          replace X112 : Stand p l e room_1 s m #[(.long q1), (.long q2), (.int p3), (.int p4)] below meth c T112 _ 14 48 := own_mv X112 l112 y112 z112
          clear l112 y112 z112
          obtain ⟨⟨rfl, e112'⟩, N112q⟩ := hQ112
          have e112 : T112.heap = h98 := e112'
          have N112 := Fr.app N111 N112q
          refine go (fun t k => st112.trans k) ?_
          show Gl _ _ _ _ _ _ _ _ (T112.setTop (mkF m 182 #[.val (.long q1), .second, .val (.long q2), .second, .val (.int p3), .val (.int p4), .val (.ref y2_x0), .val (.ref y4_x0), .val (.ref y8_x0), .val (.ref y11_x0), .val (.ref y16_x0), .val (.int (((p4.toUInt32 >>> ((16 : Int32) &&& 31).toUInt32).toInt32) &&& (3 : Int32))), .val (.ref o22), .val (.int (1 : Int32)), .val (.ref o81), .val (.ref y98_x0), .unset] [(.int (1 : Int32))]))
          refine go (fun t k => XS.ifYes X112.here hx rfl (pc0 := 182) (pc' := 187) rfl (hb hby at_182) rfl ((if0 _ _).trans (feq (by decide : ¬ ((1 : Int32) = (0 : Int32)))).2) (by decide) (by decide) k) ?_
          show Gl _ _ _ _ _ _ _ _ (T112.setTop (mkF m 187 #[.val (.long q1), .second, .val (.long q2), .second, .val (.int p3), .val (.int p4), .val (.ref y2_x0), .val (.ref y4_x0), .val (.ref y8_x0), .val (.ref y11_x0), .val (.ref y16_x0), .val (.int (((p4.toUInt32 >>> ((16 : Int32) &&& 31).toUInt32).toInt32) &&& (3 : Int32))), .val (.ref o22), .val (.int (1 : Int32)), .val (.ref o81), .val (.ref y98_x0), .unset] []))
          refine go (fun t k => XS.aload X112.here hx rfl (hb hby at_187) rfl rfl k) ?_
          show Gl _ _ _ _ _ _ _ _ (T112.setTop (mkF m 189 #[.val (.long q1), .second, .val (.long q2), .second, .val (.int p3), .val (.int p4), .val (.ref y2_x0), .val (.ref y4_x0), .val (.ref y8_x0), .val (.ref y11_x0), .val (.ref y16_x0), .val (.int (((p4.toUInt32 >>> ((16 : Int32) &&& 31).toUInt32).toInt32) &&& (3 : Int32))), .val (.ref o22), .val (.int (1 : Int32)), .val (.ref o81), .val (.ref y98_x0), .unset] [(.ref y4_x0)]))
          refine go (fun t k => XS.aload X112.here hx rfl (hb hby at_189) rfl rfl k) ?_
          show Gl _ _ _ _ _ _ _ _ (T112.setTop (mkF m 191 #[.val (.long q1), .second, .val (.long q2), .second, .val (.int p3), .val (.int p4), .val (.ref y2_x0), .val (.ref y4_x0), .val (.ref y8_x0), .val (.ref y11_x0), .val (.ref y16_x0), .val (.int (((p4.toUInt32 >>> ((16 : Int32) &&& 31).toUInt32).toInt32) &&& (3 : Int32))), .val (.ref o22), .val (.int (1 : Int32)), .val (.ref o81), .val (.ref y98_x0), .unset] [(.ref y98_x0), (.ref y4_x0)]))
          obtain ⟨cq113, kq113, q113a, q113b, q113c⟩ := isOf hZ e112 Fo98_0
          obtain ⟨_, _, ⟨T113, L113, k113, n113⟩, -, X113, ⟨Lc113, hQ113, l113, y113, z113⟩, st113⟩ := X112.virtualBack hx (y := (⟨"com/example/leasehold/server/Watches$Kept", "id", "()Ljava/lang/String;"⟩ : MethodName)) (z := (⟨"com/example/leasehold/server/Watches$Kept", "id", "()Ljava/lang/String;"⟩ : MethodName)) hown (mvT hZ (hw _ (List.mem_of_getElem? (i := 101) rfl))) (mvT hZ (hw _ (List.mem_of_getElem? (i := 102) rfl))) (notFace_of_selects (args := #[]) (mvT hZ (hw _ (List.mem_of_getElem? (i := 104) rfl)))) (mvT hZ (hw _ (List.mem_of_getElem? (i := 104) rfl))) (mvT hZ (hw _ (List.mem_of_getElem? (i := 103) rfl))) (by decide) (backOf (W := 1) (rm16 l Z a0 hw [] y98_x0 y4_x0 h98 n0 zs108 Fo98_2) hZ (hw _ (List.mem_of_getElem? (i := 105) rfl)) (hw _ (List.mem_of_getElem? (i := 59) rfl)) (by decide) (by decide)) q113a q113c (g := (mkF m 191 #[.val (.long q1), .second, .val (.long q2), .second, .val (.int p3), .val (.int p4), .val (.ref y2_x0), .val (.ref y4_x0), .val (.ref y8_x0), .val (.ref y11_x0), .val (.ref y16_x0), .val (.int (((p4.toUInt32 >>> ((16 : Int32) &&& 31).toUInt32).toInt32) &&& (3 : Int32))), .val (.ref o22), .val (.int (1 : Int32)), .val (.ref o81), .val (.ref y98_x0), .unset] [(.ref y98_x0), (.ref y4_x0)])) rfl (by rw [hml]; rfl) (Steps.refl _) (argsL := []) (rest := [(.ref y4_x0)]) (lenOf pd_15 rfl) rfl (by show 2 * 0 + _ ≤ _; exact Nat.le_of_eq rfl) (hb hby at_191) (fun _ _ => ⟨rfl, e112, (by decide : 14 + 0 ≤ _), (by decide : 48 + 0 ≤ _)⟩)
          dsimp only [Pt.U, Pt.locs, Pt.cells, Pt.slots] at X113 l113 y113 z113 st113 hQ113
          replace X113 : Stand p l e room_1 s m #[(.long q1), (.long q2), (.int p3), (.int p4)] below meth c T113 _ 14 48 := own_mv X113 l113 y113 z113
          clear l113 y113 z113
          obtain ⟨⟨rfl, e113'⟩, N113q⟩ := hQ113
          have e113 : T113.heap = h98 := e113'
          have N113 := Fr.app N112 N113q
          refine go (fun t k => st113.trans k) ?_
          show Gl _ _ _ _ _ _ _ _ (T113.setTop (mkF m 194 #[.val (.long q1), .second, .val (.long q2), .second, .val (.int p3), .val (.int p4), .val (.ref y2_x0), .val (.ref y4_x0), .val (.ref y8_x0), .val (.ref y11_x0), .val (.ref y16_x0), .val (.int (((p4.toUInt32 >>> ((16 : Int32) &&& 31).toUInt32).toInt32) &&& (3 : Int32))), .val (.ref o22), .val (.int (1 : Int32)), .val (.ref o81), .val (.ref y98_x0), .unset] [(.ref y4_x0), (.ref y4_x0)]))
          obtain ⟨cq114, kq114, q114a, q114b, q114c⟩ := isOf hZ e113 (fs90.keep K98q)
          obtain ⟨_, _, ⟨T114, L114, k114, n114⟩, -, X114, ⟨Lc114, hQ114, l114, y114, z114⟩, st114⟩ := X113.virtualBack hx (y := (⟨"java/lang/String", "equals", "(Ljava/lang/Object;)Z"⟩ : MethodName)) (z := (⟨"java/lang/String", "equals", "(Ljava/lang/Object;)Z"⟩ : MethodName)) hown (mvT hZ (hw _ (List.mem_of_getElem? (i := 96) rfl))) (mvT hZ (hw _ (List.mem_of_getElem? (i := 97) rfl))) (notFace_of_selects (args := #[]) (mvT hZ (hw _ (List.mem_of_getElem? (i := 99) rfl)))) (mvT hZ (hw _ (List.mem_of_getElem? (i := 99) rfl))) (mvT hZ (hw _ (List.mem_of_getElem? (i := 98) rfl))) (by decide) (backOf (W := 0) (rm15 l Z a0 hw [] y4_x0 h98 n0 zs108 ) hZ (hw _ (List.mem_of_getElem? (i := 100) rfl)) (hw _ (List.mem_of_getElem? (i := 2) rfl)) (by decide) (by decide)) q114a q114c (g := (mkF m 194 #[.val (.long q1), .second, .val (.long q2), .second, .val (.int p3), .val (.int p4), .val (.ref y2_x0), .val (.ref y4_x0), .val (.ref y8_x0), .val (.ref y11_x0), .val (.ref y16_x0), .val (.int (((p4.toUInt32 >>> ((16 : Int32) &&& 31).toUInt32).toInt32) &&& (3 : Int32))), .val (.ref o22), .val (.int (1 : Int32)), .val (.ref o81), .val (.ref y98_x0), .unset] [(.ref y4_x0), (.ref y4_x0)])) rfl (by rw [hml]; rfl) (Steps.refl _) (argsL := [(.ref y4_x0)]) (rest := []) (lenOf pd_16 rfl) rfl (by show 2 * 0 + _ ≤ _; exact Nat.le_of_eq rfl) (hb hby at_194) (fun _ _ => ⟨rfl, e113, (by decide : 14 + 0 ≤ _), (by decide : 48 + 0 ≤ _)⟩)
          dsimp only [Pt.U, Pt.locs, Pt.cells, Pt.slots] at X114 l114 y114 z114 st114 hQ114
          replace X114 : Stand p l e room_1 s m #[(.long q1), (.long q2), (.int p3), (.int p4)] below meth c T114 _ 14 48 := own_mv X114 l114 y114 z114
          clear l114 y114 z114
          obtain ⟨⟨rfl, e114'⟩, N114q⟩ := hQ114
          have e114 : T114.heap = h98 := e114'
          have N114 := Fr.app N113 N114q
          refine go (fun t k => st114.trans k) ?_
          show Gl _ _ _ _ _ _ _ _ (T114.setTop (mkF m 197 #[.val (.long q1), .second, .val (.long q2), .second, .val (.int p3), .val (.int p4), .val (.ref y2_x0), .val (.ref y4_x0), .val (.ref y8_x0), .val (.ref y11_x0), .val (.ref y16_x0), .val (.int (((p4.toUInt32 >>> ((16 : Int32) &&& 31).toUInt32).toInt32) &&& (3 : Int32))), .val (.ref o22), .val (.int (1 : Int32)), .val (.ref o81), .val (.ref y98_x0), .unset] [(.int (1 : Int32))]))
          refine go (fun t k => XS.ifYes X114.here hx rfl (pc0 := 197) (pc' := 202) rfl (hb hby at_197) rfl ((if0 _ _).trans (feq (by decide : ¬ ((1 : Int32) = (0 : Int32)))).2) (by decide) (by decide) k) ?_
          show Gl _ _ _ _ _ _ _ _ (T114.setTop (mkF m 202 #[.val (.long q1), .second, .val (.long q2), .second, .val (.int p3), .val (.int p4), .val (.ref y2_x0), .val (.ref y4_x0), .val (.ref y8_x0), .val (.ref y11_x0), .val (.ref y16_x0), .val (.int (((p4.toUInt32 >>> ((16 : Int32) &&& 31).toUInt32).toInt32) &&& (3 : Int32))), .val (.ref o22), .val (.int (1 : Int32)), .val (.ref o81), .val (.ref y98_x0), .unset] []))
          refine go (fun t k => XS.aload X114.here hx rfl (hb hby at_202) rfl rfl k) ?_
          show Gl _ _ _ _ _ _ _ _ (T114.setTop (mkF m 204 #[.val (.long q1), .second, .val (.long q2), .second, .val (.int p3), .val (.int p4), .val (.ref y2_x0), .val (.ref y4_x0), .val (.ref y8_x0), .val (.ref y11_x0), .val (.ref y16_x0), .val (.int (((p4.toUInt32 >>> ((16 : Int32) &&& 31).toUInt32).toInt32) &&& (3 : Int32))), .val (.ref o22), .val (.int (1 : Int32)), .val (.ref o81), .val (.ref y98_x0), .unset] [(.ref y8_x0)]))
          refine go (fun t k => XS.aload X114.here hx rfl (hb hby at_204) rfl rfl k) ?_
          show Gl _ _ _ _ _ _ _ _ (T114.setTop (mkF m 206 #[.val (.long q1), .second, .val (.long q2), .second, .val (.int p3), .val (.int p4), .val (.ref y2_x0), .val (.ref y4_x0), .val (.ref y8_x0), .val (.ref y11_x0), .val (.ref y16_x0), .val (.int (((p4.toUInt32 >>> ((16 : Int32) &&& 31).toUInt32).toInt32) &&& (3 : Int32))), .val (.ref o22), .val (.int (1 : Int32)), .val (.ref o81), .val (.ref y98_x0), .unset] [(.ref y98_x0), (.ref y8_x0)]))
          obtain ⟨cq115, kq115, q115a, q115b, q115c⟩ := isOf hZ e114 Fo98_0
          obtain ⟨_, _, ⟨T115, L115, k115, n115⟩, -, X115, ⟨Lc115, hQ115, l115, y115, z115⟩, st115⟩ := X114.virtualBack hx (y := (⟨"com/example/leasehold/server/Watches$Kept", "handback", "()Ljava/lang/String;"⟩ : MethodName)) (z := (⟨"com/example/leasehold/server/Watches$Kept", "handback", "()Ljava/lang/String;"⟩ : MethodName)) hown (mvT hZ (hw _ (List.mem_of_getElem? (i := 106) rfl))) (mvT hZ (hw _ (List.mem_of_getElem? (i := 107) rfl))) (notFace_of_selects (args := #[]) (mvT hZ (hw _ (List.mem_of_getElem? (i := 109) rfl)))) (mvT hZ (hw _ (List.mem_of_getElem? (i := 109) rfl))) (mvT hZ (hw _ (List.mem_of_getElem? (i := 108) rfl))) (by decide) (backOf (W := 1) (rm17 l Z a0 hw [] y98_x0 y8_x0 h98 n0 zs108 Fo98_3) hZ (hw _ (List.mem_of_getElem? (i := 110) rfl)) (hw _ (List.mem_of_getElem? (i := 59) rfl)) (by decide) (by decide)) q115a q115c (g := (mkF m 206 #[.val (.long q1), .second, .val (.long q2), .second, .val (.int p3), .val (.int p4), .val (.ref y2_x0), .val (.ref y4_x0), .val (.ref y8_x0), .val (.ref y11_x0), .val (.ref y16_x0), .val (.int (((p4.toUInt32 >>> ((16 : Int32) &&& 31).toUInt32).toInt32) &&& (3 : Int32))), .val (.ref o22), .val (.int (1 : Int32)), .val (.ref o81), .val (.ref y98_x0), .unset] [(.ref y98_x0), (.ref y8_x0)])) rfl (by rw [hml]; rfl) (Steps.refl _) (argsL := []) (rest := [(.ref y8_x0)]) (lenOf pd_15 rfl) rfl (by show 2 * 0 + _ ≤ _; exact Nat.le_of_eq rfl) (hb hby at_206) (fun _ _ => ⟨rfl, e114, (by decide : 14 + 0 ≤ _), (by decide : 48 + 0 ≤ _)⟩)
          dsimp only [Pt.U, Pt.locs, Pt.cells, Pt.slots] at X115 l115 y115 z115 st115 hQ115
          replace X115 : Stand p l e room_1 s m #[(.long q1), (.long q2), (.int p3), (.int p4)] below meth c T115 _ 14 48 := own_mv X115 l115 y115 z115
          clear l115 y115 z115
          obtain ⟨⟨rfl, e115'⟩, N115q⟩ := hQ115
          have e115 : T115.heap = h98 := e115'
          have N115 := Fr.app N114 N115q
          refine go (fun t k => st115.trans k) ?_
          show Gl _ _ _ _ _ _ _ _ (T115.setTop (mkF m 209 #[.val (.long q1), .second, .val (.long q2), .second, .val (.int p3), .val (.int p4), .val (.ref y2_x0), .val (.ref y4_x0), .val (.ref y8_x0), .val (.ref y11_x0), .val (.ref y16_x0), .val (.int (((p4.toUInt32 >>> ((16 : Int32) &&& 31).toUInt32).toInt32) &&& (3 : Int32))), .val (.ref o22), .val (.int (1 : Int32)), .val (.ref o81), .val (.ref y98_x0), .unset] [(.ref y8_x0), (.ref y8_x0)]))
          obtain ⟨cq116, kq116, q116a, q116b, q116c⟩ := isOf hZ e115 fs102
          obtain ⟨_, _, ⟨T116, L116, k116, n116⟩, -, X116, ⟨Lc116, hQ116, l116, y116, z116⟩, st116⟩ := X115.virtualBack hx (y := (⟨"java/lang/String", "equals", "(Ljava/lang/Object;)Z"⟩ : MethodName)) (z := (⟨"java/lang/String", "equals", "(Ljava/lang/Object;)Z"⟩ : MethodName)) hown (mvT hZ (hw _ (List.mem_of_getElem? (i := 96) rfl))) (mvT hZ (hw _ (List.mem_of_getElem? (i := 97) rfl))) (notFace_of_selects (args := #[]) (mvT hZ (hw _ (List.mem_of_getElem? (i := 99) rfl)))) (mvT hZ (hw _ (List.mem_of_getElem? (i := 99) rfl))) (mvT hZ (hw _ (List.mem_of_getElem? (i := 98) rfl))) (by decide) (backOf (W := 0) (rm15 l Z a0 hw [] y8_x0 h98 n0 zs108 ) hZ (hw _ (List.mem_of_getElem? (i := 100) rfl)) (hw _ (List.mem_of_getElem? (i := 2) rfl)) (by decide) (by decide)) q116a q116c (g := (mkF m 209 #[.val (.long q1), .second, .val (.long q2), .second, .val (.int p3), .val (.int p4), .val (.ref y2_x0), .val (.ref y4_x0), .val (.ref y8_x0), .val (.ref y11_x0), .val (.ref y16_x0), .val (.int (((p4.toUInt32 >>> ((16 : Int32) &&& 31).toUInt32).toInt32) &&& (3 : Int32))), .val (.ref o22), .val (.int (1 : Int32)), .val (.ref o81), .val (.ref y98_x0), .unset] [(.ref y8_x0), (.ref y8_x0)])) rfl (by rw [hml]; rfl) (Steps.refl _) (argsL := [(.ref y8_x0)]) (rest := []) (lenOf pd_16 rfl) rfl (by show 2 * 0 + _ ≤ _; exact Nat.le_of_eq rfl) (hb hby at_209) (fun _ _ => ⟨rfl, e115, (by decide : 14 + 0 ≤ _), (by decide : 48 + 0 ≤ _)⟩)
          dsimp only [Pt.U, Pt.locs, Pt.cells, Pt.slots] at X116 l116 y116 z116 st116 hQ116
          replace X116 : Stand p l e room_1 s m #[(.long q1), (.long q2), (.int p3), (.int p4)] below meth c T116 _ 14 48 := own_mv X116 l116 y116 z116
          clear l116 y116 z116
          obtain ⟨⟨rfl, e116'⟩, N116q⟩ := hQ116
          have e116 : T116.heap = h98 := e116'
          have N116 := Fr.app N115 N116q
          refine go (fun t k => st116.trans k) ?_
          show Gl _ _ _ _ _ _ _ _ (T116.setTop (mkF m 212 #[.val (.long q1), .second, .val (.long q2), .second, .val (.int p3), .val (.int p4), .val (.ref y2_x0), .val (.ref y4_x0), .val (.ref y8_x0), .val (.ref y11_x0), .val (.ref y16_x0), .val (.int (((p4.toUInt32 >>> ((16 : Int32) &&& 31).toUInt32).toInt32) &&& (3 : Int32))), .val (.ref o22), .val (.int (1 : Int32)), .val (.ref o81), .val (.ref y98_x0), .unset] [(.int (1 : Int32))]))
          refine go (fun t k => XS.ifYes X116.here hx rfl (pc0 := 212) (pc' := 217) rfl (hb hby at_212) rfl ((if0 _ _).trans (feq (by decide : ¬ ((1 : Int32) = (0 : Int32)))).2) (by decide) (by decide) k) ?_
          show Gl _ _ _ _ _ _ _ _ (T116.setTop (mkF m 217 #[.val (.long q1), .second, .val (.long q2), .second, .val (.int p3), .val (.int p4), .val (.ref y2_x0), .val (.ref y4_x0), .val (.ref y8_x0), .val (.ref y11_x0), .val (.ref y16_x0), .val (.int (((p4.toUInt32 >>> ((16 : Int32) &&& 31).toUInt32).toInt32) &&& (3 : Int32))), .val (.ref o22), .val (.int (1 : Int32)), .val (.ref o81), .val (.ref y98_x0), .unset] []))
          refine go (fun t k => XS.aload X116.here hx rfl (hb hby at_217) rfl rfl k) ?_
          show Gl _ _ _ _ _ _ _ _ (T116.setTop (mkF m 219 #[.val (.long q1), .second, .val (.long q2), .second, .val (.int p3), .val (.int p4), .val (.ref y2_x0), .val (.ref y4_x0), .val (.ref y8_x0), .val (.ref y11_x0), .val (.ref y16_x0), .val (.int (((p4.toUInt32 >>> ((16 : Int32) &&& 31).toUInt32).toInt32) &&& (3 : Int32))), .val (.ref o22), .val (.int (1 : Int32)), .val (.ref o81), .val (.ref y98_x0), .unset] [(.ref y98_x0)]))
          obtain ⟨cq117, kq117, q117a, q117b, q117c⟩ := isOf hZ e116 Fo98_0
          obtain ⟨_, _, ⟨T117, L117, k117, n117⟩, -, X117, ⟨Lc117, hQ117, l117, y117, z117⟩, st117⟩ := X116.virtualBack hx (y := (⟨"com/example/leasehold/server/Watches$Kept", "beside", "()Ljava/util/List;"⟩ : MethodName)) (z := (⟨"com/example/leasehold/server/Watches$Kept", "beside", "()Ljava/util/List;"⟩ : MethodName)) hown (mvT hZ (hw _ (List.mem_of_getElem? (i := 111) rfl))) (mvT hZ (hw _ (List.mem_of_getElem? (i := 112) rfl))) (notFace_of_selects (args := #[]) (mvT hZ (hw _ (List.mem_of_getElem? (i := 114) rfl)))) (mvT hZ (hw _ (List.mem_of_getElem? (i := 114) rfl))) (mvT hZ (hw _ (List.mem_of_getElem? (i := 113) rfl))) (by decide) (backOf (W := 0) (rm18 l Z a0 hw [] y98_x0 o22 h98 n0 zs108 Fo98_4) hZ (hw _ (List.mem_of_getElem? (i := 115) rfl)) (hw _ (List.mem_of_getElem? (i := 59) rfl)) (by decide) (by decide)) q117a q117c (g := (mkF m 219 #[.val (.long q1), .second, .val (.long q2), .second, .val (.int p3), .val (.int p4), .val (.ref y2_x0), .val (.ref y4_x0), .val (.ref y8_x0), .val (.ref y11_x0), .val (.ref y16_x0), .val (.int (((p4.toUInt32 >>> ((16 : Int32) &&& 31).toUInt32).toInt32) &&& (3 : Int32))), .val (.ref o22), .val (.int (1 : Int32)), .val (.ref o81), .val (.ref y98_x0), .unset] [(.ref y98_x0)])) rfl (by rw [hml]; rfl) (Steps.refl _) (argsL := []) (rest := []) (lenOf pd_17 rfl) rfl (by show 2 * 0 + _ ≤ _; exact Nat.le_of_eq rfl) (hb hby at_219) (fun _ _ => ⟨rfl, e116, (by decide : 14 + 0 ≤ _), (by decide : 48 + 0 ≤ _)⟩)
          dsimp only [Pt.U, Pt.locs, Pt.cells, Pt.slots] at X117 l117 y117 z117 st117 hQ117
          replace X117 : Stand p l e room_1 s m #[(.long q1), (.long q2), (.int p3), (.int p4)] below meth c T117 _ 14 48 := own_mv X117 l117 y117 z117
          clear l117 y117 z117
          obtain ⟨⟨rfl, e117'⟩, N117q⟩ := hQ117
          have e117 : T117.heap = h98 := e117'
          have N117 := Fr.app N116 N117q
          refine go (fun t k => st117.trans k) ?_
          show Gl _ _ _ _ _ _ _ _ (T117.setTop (mkF m 222 #[.val (.long q1), .second, .val (.long q2), .second, .val (.int p3), .val (.int p4), .val (.ref y2_x0), .val (.ref y4_x0), .val (.ref y8_x0), .val (.ref y11_x0), .val (.ref y16_x0), .val (.int (((p4.toUInt32 >>> ((16 : Int32) &&& 31).toUInt32).toInt32) &&& (3 : Int32))), .val (.ref o22), .val (.int (1 : Int32)), .val (.ref o81), .val (.ref y98_x0), .unset] [(.ref o22)]))
          refine go (fun t k => XS.astore X117.here hx rfl (hb hby at_222) rfl rfl (l' := #[.val (.long q1), .second, .val (.long q2), .second, .val (.int p3), .val (.int p4), .val (.ref y2_x0), .val (.ref y4_x0), .val (.ref y8_x0), .val (.ref y11_x0), .val (.ref y16_x0), .val (.int (((p4.toUInt32 >>> ((16 : Int32) &&& 31).toUInt32).toInt32) &&& (3 : Int32))), .val (.ref o22), .val (.int (1 : Int32)), .val (.ref o81), .val (.ref y98_x0), .val (.ref o22)]) rfl k) ?_
          show Gl _ _ _ _ _ _ _ _ (T117.setTop (mkF m 224 #[.val (.long q1), .second, .val (.long q2), .second, .val (.int p3), .val (.int p4), .val (.ref y2_x0), .val (.ref y4_x0), .val (.ref y8_x0), .val (.ref y11_x0), .val (.ref y16_x0), .val (.int (((p4.toUInt32 >>> ((16 : Int32) &&& 31).toUInt32).toInt32) &&& (3 : Int32))), .val (.ref o22), .val (.int (1 : Int32)), .val (.ref o81), .val (.ref y98_x0), .val (.ref o22)] []))
          refine go (fun t k => XS.aload X117.here hx rfl (hb hby at_224) rfl rfl k) ?_
          show Gl _ _ _ _ _ _ _ _ (T117.setTop (mkF m 226 #[.val (.long q1), .second, .val (.long q2), .second, .val (.int p3), .val (.int p4), .val (.ref y2_x0), .val (.ref y4_x0), .val (.ref y8_x0), .val (.ref y11_x0), .val (.ref y16_x0), .val (.int (((p4.toUInt32 >>> ((16 : Int32) &&& 31).toUInt32).toInt32) &&& (3 : Int32))), .val (.ref o22), .val (.int (1 : Int32)), .val (.ref o81), .val (.ref y98_x0), .val (.ref o22)] [(.ref o22)]))
          obtain ⟨cq118, kq118, q118a, q118b, q118c⟩ := isOf hZ e117 (fs92.keep K98q)
          obtain ⟨_, _, ⟨T118, L118, k118, n118⟩, -, X118, ⟨Lc118, hQ118, l118, y118, z118⟩, st118⟩ := X117.interfaceBack hx (xi := (⟨"java/util/List", "size", "()I"⟩ : MethodName)) (y := (⟨"java/util/ArrayList", "size", "()I"⟩ : MethodName)) hown (mvT hZ (hw _ (List.mem_of_getElem? (i := 116) rfl))) (mvT hZ (hw _ (List.mem_of_getElem? (i := 117) rfl))) (mvT hZ (hw _ (List.mem_of_getElem? (i := 118) rfl))) (mvT hZ (hw _ (List.mem_of_getElem? (i := 119) rfl))) (mvT hZ (hw _ (List.mem_of_getElem? (i := 52) rfl))) (mvT hZ (hw _ (List.mem_of_getElem? (i := 120) rfl))) (mvT hZ (hw _ (List.mem_of_getElem? (i := 121) rfl))) (mvT hZ (hw _ (List.mem_of_getElem? (i := 122) rfl))) (by decide) (backOf (W := 0) (rm9 l Z a0 hw [] o22 (1 : Int32) h98 n0 zs108 (fs94.keep K98q nin0)) hZ (hw _ (List.mem_of_getElem? (i := 54) rfl)) (hw _ (List.mem_of_getElem? (i := 28) rfl)) (by decide) (by decide)) q118a q118b q118c (g := (mkF m 226 #[.val (.long q1), .second, .val (.long q2), .second, .val (.int p3), .val (.int p4), .val (.ref y2_x0), .val (.ref y4_x0), .val (.ref y8_x0), .val (.ref y11_x0), .val (.ref y16_x0), .val (.int (((p4.toUInt32 >>> ((16 : Int32) &&& 31).toUInt32).toInt32) &&& (3 : Int32))), .val (.ref o22), .val (.int (1 : Int32)), .val (.ref o81), .val (.ref y98_x0), .val (.ref o22)] [(.ref o22)])) rfl (by rw [hml]; rfl) (Steps.refl _) (argsL := []) (rest := []) (lenOf pd_12 rfl) rfl (by show 2 * 0 + _ ≤ _; exact Nat.le_of_eq rfl) (hb hby at_226) (fun _ _ => ⟨rfl, e117, (by decide : 14 + 0 ≤ _), (by decide : 48 + 0 ≤ _)⟩)
          dsimp only [Pt.U, Pt.locs, Pt.cells, Pt.slots] at X118 l118 y118 z118 st118 hQ118
          replace X118 : Stand p l e room_1 s m #[(.long q1), (.long q2), (.int p3), (.int p4)] below meth c T118 _ 14 48 := own_mv X118 l118 y118 z118
          clear l118 y118 z118
          obtain ⟨⟨rfl, e118'⟩, N118q⟩ := hQ118
          have e118 : T118.heap = h98 := e118'
          have N118 := Fr.app N117 N118q
          refine go (fun t k => st118.trans k) ?_
          show Gl _ _ _ _ _ _ _ _ (T118.setTop (mkF m 231 #[.val (.long q1), .second, .val (.long q2), .second, .val (.int p3), .val (.int p4), .val (.ref y2_x0), .val (.ref y4_x0), .val (.ref y8_x0), .val (.ref y11_x0), .val (.ref y16_x0), .val (.int (((p4.toUInt32 >>> ((16 : Int32) &&& 31).toUInt32).toInt32) &&& (3 : Int32))), .val (.ref o22), .val (.int (1 : Int32)), .val (.ref o81), .val (.ref y98_x0), .val (.ref o22)] [(.int (1 : Int32))]))
          refine go (fun t k => XS.iload X118.here hx rfl (hb hby at_231) rfl  k) ?_
          show Gl _ _ _ _ _ _ _ _ (T118.setTop (mkF m 233 #[.val (.long q1), .second, .val (.long q2), .second, .val (.int p3), .val (.int p4), .val (.ref y2_x0), .val (.ref y4_x0), .val (.ref y8_x0), .val (.ref y11_x0), .val (.ref y16_x0), .val (.int (((p4.toUInt32 >>> ((16 : Int32) &&& 31).toUInt32).toInt32) &&& (3 : Int32))), .val (.ref o22), .val (.int (1 : Int32)), .val (.ref o81), .val (.ref y98_x0), .val (.ref o22)] [(.int (1 : Int32)), (.int (1 : Int32))]))
          refine go (fun t k => XS.icmpYes X118.here hx rfl (pc0 := 233) (pc' := 238) rfl (hb hby at_233) rfl (teq (by decide : (1 : Int32) = (1 : Int32))).1 (by decide) (by decide) k) ?_
          show Gl _ _ _ _ _ _ _ _ (T118.setTop (mkF m 238 #[.val (.long q1), .second, .val (.long q2), .second, .val (.int p3), .val (.int p4), .val (.ref y2_x0), .val (.ref y4_x0), .val (.ref y8_x0), .val (.ref y11_x0), .val (.ref y16_x0), .val (.int (((p4.toUInt32 >>> ((16 : Int32) &&& 31).toUInt32).toInt32) &&& (3 : Int32))), .val (.ref o22), .val (.int (1 : Int32)), .val (.ref o81), .val (.ref y98_x0), .val (.ref o22)] []))
          refine go (fun t k => XS.iload X118.here hx rfl (hb hby at_238) rfl  k) ?_
          show Gl _ _ _ _ _ _ _ _ (T118.setTop (mkF m 240 #[.val (.long q1), .second, .val (.long q2), .second, .val (.int p3), .val (.int p4), .val (.ref y2_x0), .val (.ref y4_x0), .val (.ref y8_x0), .val (.ref y11_x0), .val (.ref y16_x0), .val (.int (((p4.toUInt32 >>> ((16 : Int32) &&& 31).toUInt32).toInt32) &&& (3 : Int32))), .val (.ref o22), .val (.int (1 : Int32)), .val (.ref o81), .val (.ref y98_x0), .val (.ref o22)] [(.int (1 : Int32))]))
          refine go (fun t k => XS.iconst X118.here hx rfl (hb hby at_240) k) ?_
          show Gl _ _ _ _ _ _ _ _ (T118.setTop (mkF m 241 #[.val (.long q1), .second, .val (.long q2), .second, .val (.int p3), .val (.int p4), .val (.ref y2_x0), .val (.ref y4_x0), .val (.ref y8_x0), .val (.ref y11_x0), .val (.ref y16_x0), .val (.int (((p4.toUInt32 >>> ((16 : Int32) &&& 31).toUInt32).toInt32) &&& (3 : Int32))), .val (.ref o22), .val (.int (1 : Int32)), .val (.ref o81), .val (.ref y98_x0), .val (.ref o22)] [(.int (1 : Int32)), (.int (1 : Int32))]))
          refine go (fun t k => XS.icmpNo X118.here hx rfl (hb hby at_241) rfl (flt (by decide : ¬ ((1 : Int32) < (1 : Int32)))).1 k) ?_
          show Gl _ _ _ _ _ _ _ _ (T118.setTop (mkF m 244 #[.val (.long q1), .second, .val (.long q2), .second, .val (.int p3), .val (.int p4), .val (.ref y2_x0), .val (.ref y4_x0), .val (.ref y8_x0), .val (.ref y11_x0), .val (.ref y16_x0), .val (.int (((p4.toUInt32 >>> ((16 : Int32) &&& 31).toUInt32).toInt32) &&& (3 : Int32))), .val (.ref o22), .val (.int (1 : Int32)), .val (.ref o81), .val (.ref y98_x0), .val (.ref o22)] []))
          refine go (fun t k => XS.aload X118.here hx rfl (hb hby at_244) rfl rfl k) ?_
          show Gl _ _ _ _ _ _ _ _ (T118.setTop (mkF m 246 #[.val (.long q1), .second, .val (.long q2), .second, .val (.int p3), .val (.int p4), .val (.ref y2_x0), .val (.ref y4_x0), .val (.ref y8_x0), .val (.ref y11_x0), .val (.ref y16_x0), .val (.int (((p4.toUInt32 >>> ((16 : Int32) &&& 31).toUInt32).toInt32) &&& (3 : Int32))), .val (.ref o22), .val (.int (1 : Int32)), .val (.ref o81), .val (.ref y98_x0), .val (.ref o22)] [(.ref y11_x0)]))
          refine go (fun t k => XS.aload X118.here hx rfl (hb hby at_246) rfl rfl k) ?_
          show Gl _ _ _ _ _ _ _ _ (T118.setTop (mkF m 248 #[.val (.long q1), .second, .val (.long q2), .second, .val (.int p3), .val (.int p4), .val (.ref y2_x0), .val (.ref y4_x0), .val (.ref y8_x0), .val (.ref y11_x0), .val (.ref y16_x0), .val (.int (((p4.toUInt32 >>> ((16 : Int32) &&& 31).toUInt32).toInt32) &&& (3 : Int32))), .val (.ref o22), .val (.int (1 : Int32)), .val (.ref o81), .val (.ref y98_x0), .val (.ref o22)] [(.ref o22), (.ref y11_x0)]))
          refine go (fun t k => XS.iconst X118.here hx rfl (hb hby at_248) k) ?_
          show Gl _ _ _ _ _ _ _ _ (T118.setTop (mkF m 249 #[.val (.long q1), .second, .val (.long q2), .second, .val (.int p3), .val (.int p4), .val (.ref y2_x0), .val (.ref y4_x0), .val (.ref y8_x0), .val (.ref y11_x0), .val (.ref y16_x0), .val (.int (((p4.toUInt32 >>> ((16 : Int32) &&& 31).toUInt32).toInt32) &&& (3 : Int32))), .val (.ref o22), .val (.int (1 : Int32)), .val (.ref o81), .val (.ref y98_x0), .val (.ref o22)] [(.int (0 : Int32)), (.ref o22), (.ref y11_x0)]))
          obtain ⟨cq119, kq119, q119a, q119b, q119c⟩ := isOf hZ e118 (fs92.keep K98q)
          obtain ⟨_, _, ⟨T119, L119, k119, n119⟩, -, X119, ⟨Lc119, hQ119, l119, y119, z119⟩, st119⟩ := X118.interfaceBack hx (xi := (⟨"java/util/List", "get", "(I)Ljava/lang/Object;"⟩ : MethodName)) (y := (⟨"java/util/ArrayList", "get", "(I)Ljava/lang/Object;"⟩ : MethodName)) hown (mvT hZ (hw _ (List.mem_of_getElem? (i := 152) rfl))) (mvT hZ (hw _ (List.mem_of_getElem? (i := 153) rfl))) (mvT hZ (hw _ (List.mem_of_getElem? (i := 154) rfl))) (mvT hZ (hw _ (List.mem_of_getElem? (i := 155) rfl))) (mvT hZ (hw _ (List.mem_of_getElem? (i := 156) rfl))) (mvT hZ (hw _ (List.mem_of_getElem? (i := 157) rfl))) (mvT hZ (hw _ (List.mem_of_getElem? (i := 158) rfl))) (mvT hZ (hw _ (List.mem_of_getElem? (i := 122) rfl))) (by decide) (backOf (W := 1) (rm24t0_1 l Z a0 hw [] o22 y73_x0 c73_k0 y11_x0 h98 n0 zs108 (fs92.keep K98q) (fs94.keep K98q nin0) (fs95.keep K98q nin0) (fs96.keep K98q nin0)) hZ (hw _ (List.mem_of_getElem? (i := 159) rfl)) (hw _ (List.mem_of_getElem? (i := 28) rfl)) (by decide) (by decide)) q119a q119b q119c (g := (mkF m 249 #[.val (.long q1), .second, .val (.long q2), .second, .val (.int p3), .val (.int p4), .val (.ref y2_x0), .val (.ref y4_x0), .val (.ref y8_x0), .val (.ref y11_x0), .val (.ref y16_x0), .val (.int (((p4.toUInt32 >>> ((16 : Int32) &&& 31).toUInt32).toInt32) &&& (3 : Int32))), .val (.ref o22), .val (.int (1 : Int32)), .val (.ref o81), .val (.ref y98_x0), .val (.ref o22)] [(.int (0 : Int32)), (.ref o22), (.ref y11_x0)])) rfl (by rw [hml]; rfl) (Steps.refl _) (argsL := [(.int (0 : Int32))]) (rest := [(.ref y11_x0)]) (lenOf pd_9 rfl) rfl (by show 2 * 0 + _ ≤ _; exact Nat.le_of_eq rfl) (hb hby at_249) (fun _ _ => ⟨rfl, e118, (by decide : 14 + 0 ≤ _), (by decide : 48 + 0 ≤ _)⟩)
          dsimp only [Pt.U, Pt.locs, Pt.cells, Pt.slots] at X119 l119 y119 z119 st119 hQ119
          replace X119 : Stand p l e room_1 s m #[(.long q1), (.long q2), (.int p3), (.int p4)] below meth c T119 _ 14 48 := own_mv X119 l119 y119 z119
          clear l119 y119 z119
          obtain ⟨⟨rfl, e119'⟩, N119q⟩ := hQ119
          have e119 : T119.heap = h98 := e119'
          have N119 := Fr.app N118 N119q
          refine go (fun t k => st119.trans k) ?_
          show Gl _ _ _ _ _ _ _ _ (T119.setTop (mkF m 254 #[.val (.long q1), .second, .val (.long q2), .second, .val (.int p3), .val (.int p4), .val (.ref y2_x0), .val (.ref y4_x0), .val (.ref y8_x0), .val (.ref y11_x0), .val (.ref y16_x0), .val (.int (((p4.toUInt32 >>> ((16 : Int32) &&& 31).toUInt32).toInt32) &&& (3 : Int32))), .val (.ref o22), .val (.int (1 : Int32)), .val (.ref o81), .val (.ref y98_x0), .val (.ref o22)] [(.ref y11_x0), (.ref y11_x0)]))
          obtain ⟨cq120, kq120, q120a, q120b, q120c⟩ := isOf hZ e119 (fs91.keep K98q)
          obtain ⟨_, _, ⟨T120, L120, k120, n120⟩, -, X120, ⟨Lc120, hQ120, l120, y120, z120⟩, st120⟩ := X119.virtualBack hx (y := (⟨"java/lang/String", "equals", "(Ljava/lang/Object;)Z"⟩ : MethodName)) (z := (⟨"java/lang/String", "equals", "(Ljava/lang/Object;)Z"⟩ : MethodName)) hown (mvT hZ (hw _ (List.mem_of_getElem? (i := 96) rfl))) (mvT hZ (hw _ (List.mem_of_getElem? (i := 97) rfl))) (notFace_of_selects (args := #[]) (mvT hZ (hw _ (List.mem_of_getElem? (i := 99) rfl)))) (mvT hZ (hw _ (List.mem_of_getElem? (i := 99) rfl))) (mvT hZ (hw _ (List.mem_of_getElem? (i := 98) rfl))) (by decide) (backOf (W := 0) (rm15 l Z a0 hw [] y11_x0 h98 n0 zs108 ) hZ (hw _ (List.mem_of_getElem? (i := 100) rfl)) (hw _ (List.mem_of_getElem? (i := 2) rfl)) (by decide) (by decide)) q120a q120c (g := (mkF m 254 #[.val (.long q1), .second, .val (.long q2), .second, .val (.int p3), .val (.int p4), .val (.ref y2_x0), .val (.ref y4_x0), .val (.ref y8_x0), .val (.ref y11_x0), .val (.ref y16_x0), .val (.int (((p4.toUInt32 >>> ((16 : Int32) &&& 31).toUInt32).toInt32) &&& (3 : Int32))), .val (.ref o22), .val (.int (1 : Int32)), .val (.ref o81), .val (.ref y98_x0), .val (.ref o22)] [(.ref y11_x0), (.ref y11_x0)])) rfl (by rw [hml]; rfl) (Steps.refl _) (argsL := [(.ref y11_x0)]) (rest := []) (lenOf pd_16 rfl) rfl (by show 2 * 0 + _ ≤ _; exact Nat.le_of_eq rfl) (hb hby at_254) (fun _ _ => ⟨rfl, e119, (by decide : 14 + 0 ≤ _), (by decide : 48 + 0 ≤ _)⟩)
          dsimp only [Pt.U, Pt.locs, Pt.cells, Pt.slots] at X120 l120 y120 z120 st120 hQ120
          replace X120 : Stand p l e room_1 s m #[(.long q1), (.long q2), (.int p3), (.int p4)] below meth c T120 _ 14 48 := own_mv X120 l120 y120 z120
          clear l120 y120 z120
          obtain ⟨⟨rfl, e120'⟩, N120q⟩ := hQ120
          have e120 : T120.heap = h98 := e120'
          have N120 := Fr.app N119 N120q
          refine go (fun t k => st120.trans k) ?_
          show Gl _ _ _ _ _ _ _ _ (T120.setTop (mkF m 257 #[.val (.long q1), .second, .val (.long q2), .second, .val (.int p3), .val (.int p4), .val (.ref y2_x0), .val (.ref y4_x0), .val (.ref y8_x0), .val (.ref y11_x0), .val (.ref y16_x0), .val (.int (((p4.toUInt32 >>> ((16 : Int32) &&& 31).toUInt32).toInt32) &&& (3 : Int32))), .val (.ref o22), .val (.int (1 : Int32)), .val (.ref o81), .val (.ref y98_x0), .val (.ref o22)] [(.int (1 : Int32))]))
          refine go (fun t k => XS.ifYes X120.here hx rfl (pc0 := 257) (pc' := 262) rfl (hb hby at_257) rfl ((if0 _ _).trans (feq (by decide : ¬ ((1 : Int32) = (0 : Int32)))).2) (by decide) (by decide) k) ?_
          show Gl _ _ _ _ _ _ _ _ (T120.setTop (mkF m 262 #[.val (.long q1), .second, .val (.long q2), .second, .val (.int p3), .val (.int p4), .val (.ref y2_x0), .val (.ref y4_x0), .val (.ref y8_x0), .val (.ref y11_x0), .val (.ref y16_x0), .val (.int (((p4.toUInt32 >>> ((16 : Int32) &&& 31).toUInt32).toInt32) &&& (3 : Int32))), .val (.ref o22), .val (.int (1 : Int32)), .val (.ref o81), .val (.ref y98_x0), .val (.ref o22)] []))
          refine go (fun t k => XS.iload X120.here hx rfl (hb hby at_262) rfl  k) ?_
          show Gl _ _ _ _ _ _ _ _ (T120.setTop (mkF m 264 #[.val (.long q1), .second, .val (.long q2), .second, .val (.int p3), .val (.int p4), .val (.ref y2_x0), .val (.ref y4_x0), .val (.ref y8_x0), .val (.ref y11_x0), .val (.ref y16_x0), .val (.int (((p4.toUInt32 >>> ((16 : Int32) &&& 31).toUInt32).toInt32) &&& (3 : Int32))), .val (.ref o22), .val (.int (1 : Int32)), .val (.ref o81), .val (.ref y98_x0), .val (.ref o22)] [(.int (1 : Int32))]))
          refine go (fun t k => XS.iconst X120.here hx rfl (hb hby at_264) k) ?_
          show Gl _ _ _ _ _ _ _ _ (T120.setTop (mkF m 265 #[.val (.long q1), .second, .val (.long q2), .second, .val (.int p3), .val (.int p4), .val (.ref y2_x0), .val (.ref y4_x0), .val (.ref y8_x0), .val (.ref y11_x0), .val (.ref y16_x0), .val (.int (((p4.toUInt32 >>> ((16 : Int32) &&& 31).toUInt32).toInt32) &&& (3 : Int32))), .val (.ref o22), .val (.int (1 : Int32)), .val (.ref o81), .val (.ref y98_x0), .val (.ref o22)] [(.int (2 : Int32)), (.int (1 : Int32))]))
          refine go (fun t k => XS.icmpYes X120.here hx rfl (pc0 := 265) (pc' := 286) rfl (hb hby at_265) rfl (tlt (by decide : (1 : Int32) < (2 : Int32))).1 (by decide) (by decide) k) ?_
          show Gl _ _ _ _ _ _ _ _ (T120.setTop (mkF m 286 #[.val (.long q1), .second, .val (.long q2), .second, .val (.int p3), .val (.int p4), .val (.ref y2_x0), .val (.ref y4_x0), .val (.ref y8_x0), .val (.ref y11_x0), .val (.ref y16_x0), .val (.int (((p4.toUInt32 >>> ((16 : Int32) &&& 31).toUInt32).toInt32) &&& (3 : Int32))), .val (.ref o22), .val (.int (1 : Int32)), .val (.ref o81), .val (.ref y98_x0), .val (.ref o22)] []))
          refine go (fun t k => XS.iconst X120.here hx rfl (hb hby at_286) k) ?_
          show Gl _ _ _ _ _ _ _ _ (T120.setTop (mkF m 287 #[.val (.long q1), .second, .val (.long q2), .second, .val (.int p3), .val (.int p4), .val (.ref y2_x0), .val (.ref y4_x0), .val (.ref y8_x0), .val (.ref y11_x0), .val (.ref y16_x0), .val (.int (((p4.toUInt32 >>> ((16 : Int32) &&& 31).toUInt32).toInt32) &&& (3 : Int32))), .val (.ref o22), .val (.int (1 : Int32)), .val (.ref o81), .val (.ref y98_x0), .val (.ref o22)] [(.int (1 : Int32))]))
          exact endN X120 hx Bd (t := .boolean) (by simp) (hb hby at_287) ⟨rfl, trivial⟩ N120 (by decide) (by decide)
        · refine go (fun t k => XS.ifNo X110.here hx rfl (hb hby at_167) rfl ((if0 _ _).trans (feq (mt (lw_eq q1 q1).mp hc167)).1) k) ?_
          show Gl _ _ _ _ _ _ _ _ (T110.setTop (mkF m 170 #[.val (.long q1), .second, .val (.long q2), .second, .val (.int p3), .val (.int p4), .val (.ref y2_x0), .val (.ref y4_x0), .val (.ref y8_x0), .val (.ref y11_x0), .val (.ref y16_x0), .val (.int (((p4.toUInt32 >>> ((16 : Int32) &&& 31).toUInt32).toInt32) &&& (3 : Int32))), .val (.ref o22), .val (.int (1 : Int32)), .val (.ref o81), .val (.ref y98_x0), .unset] []))
          refine go (fun t k => XS.iconst X110.here hx rfl (hb hby at_170) k) ?_
          show Gl _ _ _ _ _ _ _ _ (T110.setTop (mkF m 171 #[.val (.long q1), .second, .val (.long q2), .second, .val (.int p3), .val (.int p4), .val (.ref y2_x0), .val (.ref y4_x0), .val (.ref y8_x0), .val (.ref y11_x0), .val (.ref y16_x0), .val (.int (((p4.toUInt32 >>> ((16 : Int32) &&& 31).toUInt32).toInt32) &&& (3 : Int32))), .val (.ref o22), .val (.int (1 : Int32)), .val (.ref o81), .val (.ref y98_x0), .unset] [(.int (0 : Int32))]))
          exact endN X110 hx Bd (t := .boolean) (by simp) (hb hby at_171) ⟨rfl, trivial⟩ N110 (by decide) (by decide)
      · refine go (fun t k => XS.ifNo X109.here hx rfl (hb hby at_155) rfl ((if0 _ _).trans (feq (mt (lw_eq q2 q2).mp hc155)).1) k) ?_
        show Gl _ _ _ _ _ _ _ _ (T109.setTop (mkF m 158 #[.val (.long q1), .second, .val (.long q2), .second, .val (.int p3), .val (.int p4), .val (.ref y2_x0), .val (.ref y4_x0), .val (.ref y8_x0), .val (.ref y11_x0), .val (.ref y16_x0), .val (.int (((p4.toUInt32 >>> ((16 : Int32) &&& 31).toUInt32).toInt32) &&& (3 : Int32))), .val (.ref o22), .val (.int (1 : Int32)), .val (.ref o81), .val (.ref y98_x0), .unset] []))
        refine go (fun t k => XS.iconst X109.here hx rfl (hb hby at_158) k) ?_
        show Gl _ _ _ _ _ _ _ _ (T109.setTop (mkF m 159 #[.val (.long q1), .second, .val (.long q2), .second, .val (.int p3), .val (.int p4), .val (.ref y2_x0), .val (.ref y4_x0), .val (.ref y8_x0), .val (.ref y11_x0), .val (.ref y16_x0), .val (.int (((p4.toUInt32 >>> ((16 : Int32) &&& 31).toUInt32).toInt32) &&& (3 : Int32))), .val (.ref o22), .val (.int (1 : Int32)), .val (.ref o81), .val (.ref y98_x0), .unset] [(.int (0 : Int32))]))
        exact endN X109 hx Bd (t := .boolean) (by simp) (hb hby at_159) ⟨rfl, trivial⟩ N109 (by decide) (by decide)
    · refine go (fun t k => XS.icmpNo X73.here hx rfl (hb hby at_104) rfl (flt hc104).1 k) ?_
      show Gl _ _ _ _ _ _ _ _ (T73.setTop (mkF m 107 #[.val (.long q1), .second, .val (.long q2), .second, .val (.int p3), .val (.int p4), .val (.ref y2_x0), .val (.ref y4_x0), .val (.ref y8_x0), .val (.ref y11_x0), .val (.ref y16_x0), .val (.int (((p4.toUInt32 >>> ((16 : Int32) &&& 31).toUInt32).toInt32) &&& (3 : Int32))), .val (.ref o22), .unset, .unset, .unset, .unset] []))
      refine go (fun t k => XS.aload X73.here hx rfl (hb hby at_107) rfl rfl k) ?_
      show Gl _ _ _ _ _ _ _ _ (T73.setTop (mkF m 109 #[.val (.long q1), .second, .val (.long q2), .second, .val (.int p3), .val (.int p4), .val (.ref y2_x0), .val (.ref y4_x0), .val (.ref y8_x0), .val (.ref y11_x0), .val (.ref y16_x0), .val (.int (((p4.toUInt32 >>> ((16 : Int32) &&& 31).toUInt32).toInt32) &&& (3 : Int32))), .val (.ref o22), .unset, .unset, .unset, .unset] [(.ref o22)]))
      refine go (fun t k => XS.aload X73.here hx rfl (hb hby at_109) rfl rfl k) ?_
      show Gl _ _ _ _ _ _ _ _ (T73.setTop (mkF m 111 #[.val (.long q1), .second, .val (.long q2), .second, .val (.int p3), .val (.int p4), .val (.ref y2_x0), .val (.ref y4_x0), .val (.ref y8_x0), .val (.ref y11_x0), .val (.ref y16_x0), .val (.int (((p4.toUInt32 >>> ((16 : Int32) &&& 31).toUInt32).toInt32) &&& (3 : Int32))), .val (.ref o22), .unset, .unset, .unset, .unset] [(.ref y16_x0), (.ref o22)]))
      obtain ⟨cq121, kq121, q121a, q121b, q121c⟩ := isOf hZ e73 Fo73_0
      obtain ⟨_, _, ⟨T121, L121, k121, n121⟩, -, X121, ⟨Lc121, hQ121, l121, y121, z121⟩, st121⟩ := X73.virtualBack hx (y := (⟨"java/util/ArrayList", "add", "(Ljava/lang/Object;)Z"⟩ : MethodName)) (z := (⟨"java/util/ArrayList", "add", "(Ljava/lang/Object;)Z"⟩ : MethodName)) hown (mvT hZ (hw _ (List.mem_of_getElem? (i := 123) rfl))) (mvT hZ (hw _ (List.mem_of_getElem? (i := 124) rfl))) (notFace_of_selects (args := #[]) (mvT hZ (hw _ (List.mem_of_getElem? (i := 126) rfl)))) (mvT hZ (hw _ (List.mem_of_getElem? (i := 126) rfl))) (mvT hZ (hw _ (List.mem_of_getElem? (i := 125) rfl))) (by decide) (backOf (W := 0) (rm19tn l Z a0 hw [] o22 y16_x0 ((0 : Int32) + (1 : Int32)) y73_x0 c73_k0 y11_x0 h73 n0 zs79 Fo73_0 Fo73_1 Fo73_2 Fo73_3 g_o22 g_y73_x0 (fs33.keep K73q) Fo73_4 Fo73_5) hZ (hw _ (List.mem_of_getElem? (i := 127) rfl)) (hw _ (List.mem_of_getElem? (i := 28) rfl)) (by decide) (by decide)) q121a q121c (g := (mkF m 111 #[.val (.long q1), .second, .val (.long q2), .second, .val (.int p3), .val (.int p4), .val (.ref y2_x0), .val (.ref y4_x0), .val (.ref y8_x0), .val (.ref y11_x0), .val (.ref y16_x0), .val (.int (((p4.toUInt32 >>> ((16 : Int32) &&& 31).toUInt32).toInt32) &&& (3 : Int32))), .val (.ref o22), .unset, .unset, .unset, .unset] [(.ref y16_x0), (.ref o22)])) rfl (by rw [hml]; rfl) (Steps.refl _) (argsL := [(.ref y16_x0)]) (rest := []) (lenOf pd_16 rfl) rfl (by show 2 * 0 + _ ≤ _; exact Nat.le_of_eq rfl) (hb hby at_111) (fun _ _ => ⟨rfl, e73, (by decide : 12 + 0 ≤ _), (by decide : 38 + 0 ≤ _)⟩)
      dsimp only [Pt.U, Pt.locs, Pt.cells, Pt.slots] at X121 l121 y121 z121 st121 hQ121
      replace X121 : Stand p l e room_1 s m #[(.long q1), (.long q2), (.int p3), (.int p4)] below meth c T121 _ 12 38 := own_mv X121 l121 y121 z121
      clear l121 y121 z121
      obtain ⟨⟨rfl, K121q, Fo121_0, Fo121_1, Fo121_2, Fo121_3, Fo121_4⟩, N121q⟩ := hQ121
      obtain ⟨h121, e121⟩ : ∃ z, T121.heap = z := ⟨_, rfl⟩
      rw [e121] at K121q Fo121_0 Fo121_1 Fo121_2 Fo121_3 Fo121_4
      have K121 : Keep h0 h121 [] := K73.trans K121q (allS (Or.inr sz_o22) (allS (Or.inr sz_y73_x0) all0))
      have N121 := Fr.app N73 N121q
      refine go (fun t k => st121.trans k) ?_
      have fs122 := (sta_keepN fs74 K121q (nsS (Exa.nostat Fo73_0) (nsS (Arv.nostat Fo73_4) ns0)))
      have fs123 := (sta_keepN fs75 K121q (nsS (Exa.nostat Fo73_0) (nsS (Arv.nostat Fo73_4) ns0)))
      have fs124 := (fs76.keep K121q (ninS ne_w_DEFAULTCAPACITY_EMPTY_ELEMENTDATA_o22 (ninS ne_w_DEFAULTCAPACITY_EMPTY_ELEMENTDATA_y73_x0 nin0)))
      have fs125 := ((fs31.keep K73q).keep K121q)
      have fs126 := ((fs32.keep K73q).keep K121q)
      have fs127 := ((fs33.keep K73q).keep K121q)
      have zs128 := (Nat.le_trans zs79 K121q.1)
      show Gl _ _ _ _ _ _ _ _ (T121.setTop (mkF m 114 #[.val (.long q1), .second, .val (.long q2), .second, .val (.int p3), .val (.int p4), .val (.ref y2_x0), .val (.ref y4_x0), .val (.ref y8_x0), .val (.ref y11_x0), .val (.ref y16_x0), .val (.int (((p4.toUInt32 >>> ((16 : Int32) &&& 31).toUInt32).toInt32) &&& (3 : Int32))), .val (.ref o22), .unset, .unset, .unset, .unset] [(.int (nar .boolean (1 : Int32)))]))
      refine go (fun t k => XS.pop X121.here hx rfl (hb hby at_114) rfl rfl k) ?_
      show Gl _ _ _ _ _ _ _ _ (T121.setTop (mkF m 115 #[.val (.long q1), .second, .val (.long q2), .second, .val (.int p3), .val (.int p4), .val (.ref y2_x0), .val (.ref y4_x0), .val (.ref y8_x0), .val (.ref y11_x0), .val (.ref y16_x0), .val (.int (((p4.toUInt32 >>> ((16 : Int32) &&& 31).toUInt32).toInt32) &&& (3 : Int32))), .val (.ref o22), .unset, .unset, .unset, .unset] []))
      refine go (fun t k => XS.aload X121.here hx rfl (hb hby at_115) rfl rfl k) ?_
      show Gl _ _ _ _ _ _ _ _ (T121.setTop (mkF m 117 #[.val (.long q1), .second, .val (.long q2), .second, .val (.int p3), .val (.int p4), .val (.ref y2_x0), .val (.ref y4_x0), .val (.ref y8_x0), .val (.ref y11_x0), .val (.ref y16_x0), .val (.int (((p4.toUInt32 >>> ((16 : Int32) &&& 31).toUInt32).toInt32) &&& (3 : Int32))), .val (.ref o22), .unset, .unset, .unset, .unset] [(.ref o22)]))
      obtain ⟨cq129, kq129, q129a, q129b, q129c⟩ := isOf hZ e121 Fo121_0
      obtain ⟨_, _, ⟨T129, L129, k129, n129⟩, -, X129, ⟨Lc129, hQ129, l129, y129, z129⟩, st129⟩ := X121.virtualBack hx (y := (⟨"java/util/ArrayList", "size", "()I"⟩ : MethodName)) (z := (⟨"java/util/ArrayList", "size", "()I"⟩ : MethodName)) hown (mvT hZ (hw _ (List.mem_of_getElem? (i := 50) rfl))) (mvT hZ (hw _ (List.mem_of_getElem? (i := 51) rfl))) (notFace_of_selects (args := #[]) (mvT hZ (hw _ (List.mem_of_getElem? (i := 53) rfl)))) (mvT hZ (hw _ (List.mem_of_getElem? (i := 53) rfl))) (mvT hZ (hw _ (List.mem_of_getElem? (i := 52) rfl))) (by decide) (backOf (W := 0) (rm9 l Z a0 hw [] o22 (2 : Int32) h121 n0 zs128 Fo121_2) hZ (hw _ (List.mem_of_getElem? (i := 54) rfl)) (hw _ (List.mem_of_getElem? (i := 28) rfl)) (by decide) (by decide)) q129a q129c (g := (mkF m 117 #[.val (.long q1), .second, .val (.long q2), .second, .val (.int p3), .val (.int p4), .val (.ref y2_x0), .val (.ref y4_x0), .val (.ref y8_x0), .val (.ref y11_x0), .val (.ref y16_x0), .val (.int (((p4.toUInt32 >>> ((16 : Int32) &&& 31).toUInt32).toInt32) &&& (3 : Int32))), .val (.ref o22), .unset, .unset, .unset, .unset] [(.ref o22)])) rfl (by rw [hml]; rfl) (Steps.refl _) (argsL := []) (rest := []) (lenOf pd_12 rfl) rfl (by show 2 * 0 + _ ≤ _; exact Nat.le_of_eq rfl) (hb hby at_117) (fun _ _ => ⟨rfl, e121, (by decide : 12 + 0 ≤ _), (by decide : 38 + 0 ≤ _)⟩)
      dsimp only [Pt.U, Pt.locs, Pt.cells, Pt.slots] at X129 l129 y129 z129 st129 hQ129
      replace X129 : Stand p l e room_1 s m #[(.long q1), (.long q2), (.int p3), (.int p4)] below meth c T129 _ 12 38 := own_mv X129 l129 y129 z129
      clear l129 y129 z129
      obtain ⟨⟨rfl, e129'⟩, N129q⟩ := hQ129
      have e129 : T129.heap = h121 := e129'
      have N129 := Fr.app N121 N129q
      refine go (fun t k => st129.trans k) ?_
      show Gl _ _ _ _ _ _ _ _ (T129.setTop (mkF m 120 #[.val (.long q1), .second, .val (.long q2), .second, .val (.int p3), .val (.int p4), .val (.ref y2_x0), .val (.ref y4_x0), .val (.ref y8_x0), .val (.ref y11_x0), .val (.ref y16_x0), .val (.int (((p4.toUInt32 >>> ((16 : Int32) &&& 31).toUInt32).toInt32) &&& (3 : Int32))), .val (.ref o22), .unset, .unset, .unset, .unset] [(.int (2 : Int32))]))
      refine go (fun t k => XS.istore X129.here hx rfl (hb hby at_120) rfl (l' := #[.val (.long q1), .second, .val (.long q2), .second, .val (.int p3), .val (.int p4), .val (.ref y2_x0), .val (.ref y4_x0), .val (.ref y8_x0), .val (.ref y11_x0), .val (.ref y16_x0), .val (.int (((p4.toUInt32 >>> ((16 : Int32) &&& 31).toUInt32).toInt32) &&& (3 : Int32))), .val (.ref o22), .val (.int (2 : Int32)), .unset, .unset, .unset]) rfl k) ?_
      show Gl _ _ _ _ _ _ _ _ (T129.setTop (mkF m 122 #[.val (.long q1), .second, .val (.long q2), .second, .val (.int p3), .val (.int p4), .val (.ref y2_x0), .val (.ref y4_x0), .val (.ref y8_x0), .val (.ref y11_x0), .val (.ref y16_x0), .val (.int (((p4.toUInt32 >>> ((16 : Int32) &&& 31).toUInt32).toInt32) &&& (3 : Int32))), .val (.ref o22), .val (.int (2 : Int32)), .unset, .unset, .unset] []))
      obtain ⟨T130, h130, X130, e130, E130, A130, D130, -, st130⟩ := newO X129 hx hZ hown (hw _ (List.mem_of_getElem? (i := 57) rfl)) (hw _ (List.mem_of_getElem? (i := 58) rfl)) (hw _ (List.mem_of_getElem? (i := 59) rfl)) e129 (g := (mkF m 122 #[.val (.long q1), .second, .val (.long q2), .second, .val (.int p3), .val (.int p4), .val (.ref y2_x0), .val (.ref y4_x0), .val (.ref y8_x0), .val (.ref y11_x0), .val (.ref y16_x0), .val (.int (((p4.toUInt32 >>> ((16 : Int32) &&& 31).toUInt32).toInt32) &&& (3 : Int32))), .val (.ref o22), .val (.int (2 : Int32)), .unset, .unset, .unset] [])) rfl (hb hby at_122) (by decide) (by decide)
      obtain ⟨o130, gq130⟩ : ∃ z, z = h121.size := ⟨_, rfl⟩
      rw [← gq130] at A130 D130 st130
      have g_o130 : n0 ≤ o130 := Nat.le_trans zs128 (Nat.le_of_eq gq130.symm)
      have ne_w_DEFAULTCAPACITY_EMPTY_ELEMENTDATA_o130 : w_DEFAULTCAPACITY_EMPTY_ELEMENTDATA ≠ o130 := Nat.ne_of_lt (Nat.lt_of_lt_of_le fs124.lt (Nat.le_of_eq gq130.symm))
      have ne_y2_x0_o130 : y2_x0 ≠ o130 := Nat.ne_of_lt (Nat.lt_of_lt_of_le fs125.lt (Nat.le_of_eq gq130.symm))
      have ne_y4_x0_o130 : y4_x0 ≠ o130 := Nat.ne_of_lt (Nat.lt_of_lt_of_le (fs77.keep K121q).lt (Nat.le_of_eq gq130.symm))
      have ne_y8_x0_o130 : y8_x0 ≠ o130 := Nat.ne_of_lt (Nat.lt_of_lt_of_le fs126.lt (Nat.le_of_eq gq130.symm))
      have ne_y11_x0_o130 : y11_x0 ≠ o130 := Nat.ne_of_lt (Nat.lt_of_lt_of_le (fs78.keep K121q).lt (Nat.le_of_eq gq130.symm))
      have ne_y16_x0_o130 : y16_x0 ≠ o130 := Nat.ne_of_lt (Nat.lt_of_lt_of_le fs127.lt (Nat.le_of_eq gq130.symm))
      have ne_o22_o130 : o22 ≠ o130 := Nat.ne_of_lt (Nat.lt_of_lt_of_le Fo121_0.lt (Nat.le_of_eq gq130.symm))
      have ne_y73_x0_o130 : y73_x0 ≠ o130 := Nat.ne_of_lt (Nat.lt_of_lt_of_le Fo121_4.lt (Nat.le_of_eq gq130.symm))
      have F_watched_o130 : Fld Z h130 o130 "com/example/leasehold/server/Watches$Kept" "watched" "Ljava/lang/String;" .null := D130 (Or.inr (hw _ (List.mem_of_getElem? (i := 70) rfl))) (ty := (.object "java/lang/String")) (by decide)
      have F_id_o130 : Fld Z h130 o130 "com/example/leasehold/server/Watches$Kept" "id" "Ljava/lang/String;" .null := D130 (Or.inr (hw _ (List.mem_of_getElem? (i := 72) rfl))) (ty := (.object "java/lang/String")) (by decide)
      have F_handback_o130 : Fld Z h130 o130 "com/example/leasehold/server/Watches$Kept" "handback" "Ljava/lang/String;" .null := D130 (Or.inr (hw _ (List.mem_of_getElem? (i := 74) rfl))) (ty := (.object "java/lang/String")) (by decide)
      have F_beside_o130 : Fld Z h130 o130 "com/example/leasehold/server/Watches$Kept" "beside" "Ljava/util/List;" .null := D130 (Or.inr (hw _ (List.mem_of_getElem? (i := 76) rfl))) (ty := (.object "java/util/List")) (by decide)
      have F_reserved_o130 : Fld Z h130 o130 "com/example/leasehold/server/Watches$Kept" "reserved" "J" (.long (0 : Int64)) := D130 (Or.inr (hw _ (List.mem_of_getElem? (i := 78) rfl))) (ty := .long) (by decide)
      have K130 : Keep h0 h130 [] := K121.ext E130
      have sz_o130 : h0.size ≤ o130 := Nat.le_trans K121.1 (Nat.le_of_eq gq130.symm)
      refine go (fun t k => st130 _ k) ?_
      have fs131 := ((fs77.keep K121q).ext E130)
      have fs132 := ((fs78.keep K121q).ext E130)
      have zs133 := (Nat.le_trans zs128 E130.1)
      show Gl _ _ _ _ _ _ _ _ (T130.setTop (mkF m 125 #[.val (.long q1), .second, .val (.long q2), .second, .val (.int p3), .val (.int p4), .val (.ref y2_x0), .val (.ref y4_x0), .val (.ref y8_x0), .val (.ref y11_x0), .val (.ref y16_x0), .val (.int (((p4.toUInt32 >>> ((16 : Int32) &&& 31).toUInt32).toInt32) &&& (3 : Int32))), .val (.ref o22), .val (.int (2 : Int32)), .unset, .unset, .unset] [(.ref o130)]))
      refine go (fun t k => XS.dup X130.here hx rfl (hb hby at_125) rfl rfl k) ?_
      show Gl _ _ _ _ _ _ _ _ (T130.setTop (mkF m 126 #[.val (.long q1), .second, .val (.long q2), .second, .val (.int p3), .val (.int p4), .val (.ref y2_x0), .val (.ref y4_x0), .val (.ref y8_x0), .val (.ref y11_x0), .val (.ref y16_x0), .val (.int (((p4.toUInt32 >>> ((16 : Int32) &&& 31).toUInt32).toInt32) &&& (3 : Int32))), .val (.ref o22), .val (.int (2 : Int32)), .unset, .unset, .unset] [(.ref o130), (.ref o130)]))
      refine go (fun t k => XS.aload X130.here hx rfl (hb hby at_126) rfl rfl k) ?_
      show Gl _ _ _ _ _ _ _ _ (T130.setTop (mkF m 128 #[.val (.long q1), .second, .val (.long q2), .second, .val (.int p3), .val (.int p4), .val (.ref y2_x0), .val (.ref y4_x0), .val (.ref y8_x0), .val (.ref y11_x0), .val (.ref y16_x0), .val (.int (((p4.toUInt32 >>> ((16 : Int32) &&& 31).toUInt32).toInt32) &&& (3 : Int32))), .val (.ref o22), .val (.int (2 : Int32)), .unset, .unset, .unset] [(.ref y2_x0), (.ref o130), (.ref o130)]))
      refine go (fun t k => XS.aload X130.here hx rfl (hb hby at_128) rfl rfl k) ?_
      show Gl _ _ _ _ _ _ _ _ (T130.setTop (mkF m 130 #[.val (.long q1), .second, .val (.long q2), .second, .val (.int p3), .val (.int p4), .val (.ref y2_x0), .val (.ref y4_x0), .val (.ref y8_x0), .val (.ref y11_x0), .val (.ref y16_x0), .val (.int (((p4.toUInt32 >>> ((16 : Int32) &&& 31).toUInt32).toInt32) &&& (3 : Int32))), .val (.ref o22), .val (.int (2 : Int32)), .unset, .unset, .unset] [(.ref y4_x0), (.ref y2_x0), (.ref o130), (.ref o130)]))
      refine go (fun t k => XS.aload X130.here hx rfl (hb hby at_130) rfl rfl k) ?_
      show Gl _ _ _ _ _ _ _ _ (T130.setTop (mkF m 132 #[.val (.long q1), .second, .val (.long q2), .second, .val (.int p3), .val (.int p4), .val (.ref y2_x0), .val (.ref y4_x0), .val (.ref y8_x0), .val (.ref y11_x0), .val (.ref y16_x0), .val (.int (((p4.toUInt32 >>> ((16 : Int32) &&& 31).toUInt32).toInt32) &&& (3 : Int32))), .val (.ref o22), .val (.int (2 : Int32)), .unset, .unset, .unset] [(.ref y8_x0), (.ref y4_x0), (.ref y2_x0), (.ref o130), (.ref o130)]))
      refine go (fun t k => XS.aload X130.here hx rfl (hb hby at_132) rfl rfl k) ?_
      show Gl _ _ _ _ _ _ _ _ (T130.setTop (mkF m 134 #[.val (.long q1), .second, .val (.long q2), .second, .val (.int p3), .val (.int p4), .val (.ref y2_x0), .val (.ref y4_x0), .val (.ref y8_x0), .val (.ref y11_x0), .val (.ref y16_x0), .val (.int (((p4.toUInt32 >>> ((16 : Int32) &&& 31).toUInt32).toInt32) &&& (3 : Int32))), .val (.ref o22), .val (.int (2 : Int32)), .unset, .unset, .unset] [(.ref o22), (.ref y8_x0), (.ref y4_x0), (.ref y2_x0), (.ref o130), (.ref o130)]))
      refine go (fun t k => XS.lloadN X130.here hx rfl (hb hby at_134) rfl  k) ?_
      show Gl _ _ _ _ _ _ _ _ (T130.setTop (mkF m 135 #[.val (.long q1), .second, .val (.long q2), .second, .val (.int p3), .val (.int p4), .val (.ref y2_x0), .val (.ref y4_x0), .val (.ref y8_x0), .val (.ref y11_x0), .val (.ref y16_x0), .val (.int (((p4.toUInt32 >>> ((16 : Int32) &&& 31).toUInt32).toInt32) &&& (3 : Int32))), .val (.ref o22), .val (.int (2 : Int32)), .unset, .unset, .unset] [(.long q1), (.ref o22), (.ref y8_x0), (.ref y4_x0), (.ref y2_x0), (.ref o130), (.ref o130)]))
      obtain ⟨_, _, ⟨T134, L134, k134, n134⟩, -, X134, ⟨Lc134, hQ134, l134, y134, z134⟩, st134⟩ := X130.specialBack hx (y := (⟨"com/example/leasehold/server/Watches$Kept", "<init>", "(Ljava/lang/String;Ljava/lang/String;Ljava/lang/String;Ljava/util/List;J)V"⟩ : MethodName)) rfl hown (mvT hZ (hw _ (List.mem_of_getElem? (i := 60) rfl))) (mvT hZ (hw _ (List.mem_of_getElem? (i := 61) rfl))) (mvT hZ (hw _ (List.mem_of_getElem? (i := 62) rfl))) (by decide) (backOf (W := 1) (rm10 l Z a0 hw [] o130 y2_x0 y4_x0 y8_x0 o22 q1 (.null) (.null) (.null) (.null) ((.long (0 : Int64))) h130 n0 zs133 A130 g_o130 F_watched_o130 F_id_o130 F_handback_o130 F_beside_o130 F_reserved_o130) hZ (hw _ (List.mem_of_getElem? (i := 62) rfl)) (hw _ (List.mem_of_getElem? (i := 59) rfl)) (by decide) (by decide)) (g := (mkF m 135 #[.val (.long q1), .second, .val (.long q2), .second, .val (.int p3), .val (.int p4), .val (.ref y2_x0), .val (.ref y4_x0), .val (.ref y8_x0), .val (.ref y11_x0), .val (.ref y16_x0), .val (.int (((p4.toUInt32 >>> ((16 : Int32) &&& 31).toUInt32).toInt32) &&& (3 : Int32))), .val (.ref o22), .val (.int (2 : Int32)), .unset, .unset, .unset] [(.long q1), (.ref o22), (.ref y8_x0), (.ref y4_x0), (.ref y2_x0), (.ref o130), (.ref o130)])) rfl (by rw [hml]; rfl) (Steps.refl _) (a := o130) (argsL := [(.ref y2_x0), (.ref y4_x0), (.ref y8_x0), (.ref o22), (.long q1)]) (rest := [(.ref o130)]) (lenOf pd_10 rfl) rfl (by show 2 * 0 + _ ≤ _; exact Nat.le_of_eq rfl) (hb hby at_135) (fun _ _ => ⟨rfl, e130, (by decide : 13 + 0 ≤ _), (by decide : 43 + 0 ≤ _)⟩)
      dsimp only [Pt.U, Pt.locs, Pt.cells, Pt.slots] at X134 l134 y134 z134 st134 hQ134
      replace X134 : Stand p l e room_1 s m #[(.long q1), (.long q2), (.int p3), (.int p4)] below meth c T134 _ 13 43 := own_mv X134 l134 y134 z134
      clear l134 y134 z134
      obtain ⟨⟨rfl, K134q, Ex134, Fq134_watched, Fq134_id, Fq134_handback, Fq134_beside, Fq134_reserved⟩, N134q⟩ := hQ134
      obtain ⟨h134, e134⟩ : ∃ z, T134.heap = z := ⟨_, rfl⟩
      rw [e134] at K134q Ex134 Fq134_watched Fq134_id Fq134_handback Fq134_beside Fq134_reserved
      have K134 : Keep h0 h134 [] := K130.trans K134q (allS (Or.inr sz_o130) all0)
      have N134 := Fr.app N129 N134q
      refine go (fun t k => st134.trans k) ?_
      have fs135 := (sta_keep (fs122.ext E130) K134q A130)
      have fs136 := (sta_keep (fs123.ext E130) K134q A130)
      have fs137 := ((fs124.ext E130).keep K134q (ninS ne_w_DEFAULTCAPACITY_EMPTY_ELEMENTDATA_o130 nin0))
      have fs138 := ((fs125.ext E130).keep K134q)
      have fs139 := ((fs126.ext E130).keep K134q)
      have fs140 := ((fs127.ext E130).keep K134q)
      have fs141 := ((Fo121_0.ext E130).keep K134q)
      have fs142 := ((Fo121_1.ext E130).keep K134q (ninS ne_o22_o130 nin0))
      have fs143 := ((Fo121_2.ext E130).keep K134q (ninS ne_o22_o130 nin0))
      have fs144 := ((Fo121_3.ext E130).keep K134q (ninS ne_o22_o130 nin0))
      have fs145 := ((Fo121_4.ext E130).keep K134q (ninS ne_y73_x0_o130 nin0))
      have zs146 := (Nat.le_trans zs133 K134q.1)
      show Gl _ _ _ _ _ _ _ _ (T134.setTop (mkF m 138 #[.val (.long q1), .second, .val (.long q2), .second, .val (.int p3), .val (.int p4), .val (.ref y2_x0), .val (.ref y4_x0), .val (.ref y8_x0), .val (.ref y11_x0), .val (.ref y16_x0), .val (.int (((p4.toUInt32 >>> ((16 : Int32) &&& 31).toUInt32).toInt32) &&& (3 : Int32))), .val (.ref o22), .val (.int (2 : Int32)), .unset, .unset, .unset] [(.ref o130)]))
      refine go (fun t k => XS.astore X134.here hx rfl (hb hby at_138) rfl rfl (l' := #[.val (.long q1), .second, .val (.long q2), .second, .val (.int p3), .val (.int p4), .val (.ref y2_x0), .val (.ref y4_x0), .val (.ref y8_x0), .val (.ref y11_x0), .val (.ref y16_x0), .val (.int (((p4.toUInt32 >>> ((16 : Int32) &&& 31).toUInt32).toInt32) &&& (3 : Int32))), .val (.ref o22), .val (.int (2 : Int32)), .val (.ref o130), .unset, .unset]) rfl k) ?_
      show Gl _ _ _ _ _ _ _ _ (T134.setTop (mkF m 140 #[.val (.long q1), .second, .val (.long q2), .second, .val (.int p3), .val (.int p4), .val (.ref y2_x0), .val (.ref y4_x0), .val (.ref y8_x0), .val (.ref y11_x0), .val (.ref y16_x0), .val (.int (((p4.toUInt32 >>> ((16 : Int32) &&& 31).toUInt32).toInt32) &&& (3 : Int32))), .val (.ref o22), .val (.int (2 : Int32)), .val (.ref o130), .unset, .unset] []))
      refine go (fun t k => XS.aload X134.here hx rfl (hb hby at_140) rfl rfl k) ?_
      show Gl _ _ _ _ _ _ _ _ (T134.setTop (mkF m 142 #[.val (.long q1), .second, .val (.long q2), .second, .val (.int p3), .val (.int p4), .val (.ref y2_x0), .val (.ref y4_x0), .val (.ref y8_x0), .val (.ref y11_x0), .val (.ref y16_x0), .val (.int (((p4.toUInt32 >>> ((16 : Int32) &&& 31).toUInt32).toInt32) &&& (3 : Int32))), .val (.ref o22), .val (.int (2 : Int32)), .val (.ref o130), .unset, .unset] [(.ref o130)]))
      refine go (fun t k => XS.lloadN X134.here hx rfl (hb hby at_142) rfl  k) ?_
      show Gl _ _ _ _ _ _ _ _ (T134.setTop (mkF m 143 #[.val (.long q1), .second, .val (.long q2), .second, .val (.int p3), .val (.int p4), .val (.ref y2_x0), .val (.ref y4_x0), .val (.ref y8_x0), .val (.ref y11_x0), .val (.ref y16_x0), .val (.int (((p4.toUInt32 >>> ((16 : Int32) &&& 31).toUInt32).toInt32) &&& (3 : Int32))), .val (.ref o22), .val (.int (2 : Int32)), .val (.ref o130), .unset, .unset] [(.long q2), (.ref o130)]))
      obtain ⟨cq147, kq147, q147a, q147b, q147c⟩ := isOf hZ e134 Ex134
      obtain ⟨_, _, ⟨T147, L147, k147, n147⟩, -, X147, ⟨Lc147, hQ147, l147, y147, z147⟩, st147⟩ := X134.virtualBack hx (y := (⟨"com/example/leasehold/server/Watches$Kept", "reserving", "(J)Lcom/example/leasehold/server/Watches$Kept;"⟩ : MethodName)) (z := (⟨"com/example/leasehold/server/Watches$Kept", "reserving", "(J)Lcom/example/leasehold/server/Watches$Kept;"⟩ : MethodName)) hown (mvT hZ (hw _ (List.mem_of_getElem? (i := 79) rfl))) (mvT hZ (hw _ (List.mem_of_getElem? (i := 80) rfl))) (notFace_of_selects (args := #[]) (mvT hZ (hw _ (List.mem_of_getElem? (i := 82) rfl)))) (mvT hZ (hw _ (List.mem_of_getElem? (i := 82) rfl))) (mvT hZ (hw _ (List.mem_of_getElem? (i := 81) rfl))) (by decide) (backOf (W := 0) (rm12 l Z a0 hw [] o130 q2 y2_x0 y4_x0 y8_x0 o22 h134 n0 zs146 Ex134 Fq134_watched Fq134_id Fq134_handback Fq134_beside) hZ (hw _ (List.mem_of_getElem? (i := 83) rfl)) (hw _ (List.mem_of_getElem? (i := 59) rfl)) (by decide) (by decide)) q147a q147c (g := (mkF m 143 #[.val (.long q1), .second, .val (.long q2), .second, .val (.int p3), .val (.int p4), .val (.ref y2_x0), .val (.ref y4_x0), .val (.ref y8_x0), .val (.ref y11_x0), .val (.ref y16_x0), .val (.int (((p4.toUInt32 >>> ((16 : Int32) &&& 31).toUInt32).toInt32) &&& (3 : Int32))), .val (.ref o22), .val (.int (2 : Int32)), .val (.ref o130), .unset, .unset] [(.long q2), (.ref o130)])) rfl (by rw [hml]; rfl) (Steps.refl _) (argsL := [(.long q2)]) (rest := []) (lenOf pd_13 rfl) rfl (by show 2 * 0 + _ ≤ _; exact Nat.le_of_eq rfl) (hb hby at_143) (fun _ _ => ⟨rfl, e134, (by decide : 13 + 1 ≤ _), (by decide : 43 + 5 ≤ _)⟩)
      dsimp only [Pt.U, Pt.locs, Pt.cells, Pt.slots] at X147 l147 y147 z147 st147 hQ147
      replace X147 : Stand p l e room_1 s m #[(.long q1), (.long q2), (.int p3), (.int p4)] below meth c T147 _ 14 48 := own_mv X147 l147 y147 z147
      clear l147 y147 z147
      obtain ⟨⟨y147_x0, rfl, K147q, so147_0, Fo147_0, Fo147_1, Fo147_2, Fo147_3, Fo147_4, Fo147_5⟩, N147q⟩ := hQ147
      obtain ⟨h147, e147⟩ : ∃ z, T147.heap = z := ⟨_, rfl⟩
      rw [e147] at K147q Fo147_0 Fo147_1 Fo147_2 Fo147_3 Fo147_4 Fo147_5
      have K147 : Keep h0 h147 [] := K134.trans K147q all0
      have g_y147_x0 : n0 ≤ y147_x0 := Nat.le_trans zs146 so147_0
      have sz_y147_x0 : h0.size ≤ y147_x0 := Nat.le_trans K134.1 so147_0
      have ne_w_DEFAULTCAPACITY_EMPTY_ELEMENTDATA_y147_x0 : w_DEFAULTCAPACITY_EMPTY_ELEMENTDATA ≠ y147_x0 := Nat.ne_of_lt (Nat.lt_of_lt_of_le fs137.lt so147_0)
      have ne_y2_x0_y147_x0 : y2_x0 ≠ y147_x0 := Nat.ne_of_lt (Nat.lt_of_lt_of_le fs138.lt so147_0)
      have ne_y4_x0_y147_x0 : y4_x0 ≠ y147_x0 := Nat.ne_of_lt (Nat.lt_of_lt_of_le (fs131.keep K134q).lt so147_0)
      have ne_y8_x0_y147_x0 : y8_x0 ≠ y147_x0 := Nat.ne_of_lt (Nat.lt_of_lt_of_le fs139.lt so147_0)
      have ne_y11_x0_y147_x0 : y11_x0 ≠ y147_x0 := Nat.ne_of_lt (Nat.lt_of_lt_of_le (fs132.keep K134q).lt so147_0)
      have ne_y16_x0_y147_x0 : y16_x0 ≠ y147_x0 := Nat.ne_of_lt (Nat.lt_of_lt_of_le fs140.lt so147_0)
      have ne_o22_y147_x0 : o22 ≠ y147_x0 := Nat.ne_of_lt (Nat.lt_of_lt_of_le fs141.lt so147_0)
      have ne_y73_x0_y147_x0 : y73_x0 ≠ y147_x0 := Nat.ne_of_lt (Nat.lt_of_lt_of_le fs145.lt so147_0)
      have ne_o130_y147_x0 : o130 ≠ y147_x0 := Nat.ne_of_lt (Nat.lt_of_lt_of_le Ex134.lt so147_0)
      have N147 := Fr.app N134 N147q
      refine go (fun t k => st147.trans k) ?_
      have fs148 := (sta_keepN fs135 K147q ns0)
      have fs149 := (sta_keepN fs136 K147q ns0)
      have fs150 := ((fs131.keep K134q).keep K147q)
      have fs151 := ((fs132.keep K134q).keep K147q)
      have fs152 := (Fq134_watched.keep K147q nin0)
      have fs153 := (Fq134_id.keep K147q nin0)
      have fs154 := (Fq134_handback.keep K147q nin0)
      have fs155 := (Fq134_beside.keep K147q nin0)
      have fs156 := (Fq134_reserved.keep K147q nin0)
      have zs157 := (Nat.le_trans zs146 K147q.1)
      show Gl _ _ _ _ _ _ _ _ (T147.setTop (mkF m 146 #[.val (.long q1), .second, .val (.long q2), .second, .val (.int p3), .val (.int p4), .val (.ref y2_x0), .val (.ref y4_x0), .val (.ref y8_x0), .val (.ref y11_x0), .val (.ref y16_x0), .val (.int (((p4.toUInt32 >>> ((16 : Int32) &&& 31).toUInt32).toInt32) &&& (3 : Int32))), .val (.ref o22), .val (.int (2 : Int32)), .val (.ref o130), .unset, .unset] [(.ref y147_x0)]))
      refine go (fun t k => XS.astore X147.here hx rfl (hb hby at_146) rfl rfl (l' := #[.val (.long q1), .second, .val (.long q2), .second, .val (.int p3), .val (.int p4), .val (.ref y2_x0), .val (.ref y4_x0), .val (.ref y8_x0), .val (.ref y11_x0), .val (.ref y16_x0), .val (.int (((p4.toUInt32 >>> ((16 : Int32) &&& 31).toUInt32).toInt32) &&& (3 : Int32))), .val (.ref o22), .val (.int (2 : Int32)), .val (.ref o130), .val (.ref y147_x0), .unset]) rfl k) ?_
      show Gl _ _ _ _ _ _ _ _ (T147.setTop (mkF m 148 #[.val (.long q1), .second, .val (.long q2), .second, .val (.int p3), .val (.int p4), .val (.ref y2_x0), .val (.ref y4_x0), .val (.ref y8_x0), .val (.ref y11_x0), .val (.ref y16_x0), .val (.int (((p4.toUInt32 >>> ((16 : Int32) &&& 31).toUInt32).toInt32) &&& (3 : Int32))), .val (.ref o22), .val (.int (2 : Int32)), .val (.ref o130), .val (.ref y147_x0), .unset] []))
      refine go (fun t k => XS.aload X147.here hx rfl (hb hby at_148) rfl rfl k) ?_
      show Gl _ _ _ _ _ _ _ _ (T147.setTop (mkF m 150 #[.val (.long q1), .second, .val (.long q2), .second, .val (.int p3), .val (.int p4), .val (.ref y2_x0), .val (.ref y4_x0), .val (.ref y8_x0), .val (.ref y11_x0), .val (.ref y16_x0), .val (.int (((p4.toUInt32 >>> ((16 : Int32) &&& 31).toUInt32).toInt32) &&& (3 : Int32))), .val (.ref o22), .val (.int (2 : Int32)), .val (.ref o130), .val (.ref y147_x0), .unset] [(.ref y147_x0)]))
      obtain ⟨cq158, kq158, q158a, q158b, q158c⟩ := isOf hZ e147 Fo147_0
      obtain ⟨_, _, ⟨T158, L158, k158, n158⟩, -, X158, ⟨Lc158, hQ158, l158, y158, z158⟩, st158⟩ := X147.virtualBack hx (y := (⟨"com/example/leasehold/server/Watches$Kept", "reserved", "()J"⟩ : MethodName)) (z := (⟨"com/example/leasehold/server/Watches$Kept", "reserved", "()J"⟩ : MethodName)) hown (mvT hZ (hw _ (List.mem_of_getElem? (i := 86) rfl))) (mvT hZ (hw _ (List.mem_of_getElem? (i := 87) rfl))) (notFace_of_selects (args := #[]) (mvT hZ (hw _ (List.mem_of_getElem? (i := 89) rfl)))) (mvT hZ (hw _ (List.mem_of_getElem? (i := 89) rfl))) (mvT hZ (hw _ (List.mem_of_getElem? (i := 88) rfl))) (by decide) (backOf (W := 0) (rm13 l Z a0 hw [] y147_x0 q2 h147 n0 zs157 Fo147_5) hZ (hw _ (List.mem_of_getElem? (i := 90) rfl)) (hw _ (List.mem_of_getElem? (i := 59) rfl)) (by decide) (by decide)) q158a q158c (g := (mkF m 150 #[.val (.long q1), .second, .val (.long q2), .second, .val (.int p3), .val (.int p4), .val (.ref y2_x0), .val (.ref y4_x0), .val (.ref y8_x0), .val (.ref y11_x0), .val (.ref y16_x0), .val (.int (((p4.toUInt32 >>> ((16 : Int32) &&& 31).toUInt32).toInt32) &&& (3 : Int32))), .val (.ref o22), .val (.int (2 : Int32)), .val (.ref o130), .val (.ref y147_x0), .unset] [(.ref y147_x0)])) rfl (by rw [hml]; rfl) (Steps.refl _) (argsL := []) (rest := []) (lenOf pd_14 rfl) rfl (by show 2 * 0 + _ ≤ _; exact Nat.le_of_eq rfl) (hb hby at_150) (fun _ _ => ⟨rfl, e147, (by decide : 14 + 0 ≤ _), (by decide : 48 + 0 ≤ _)⟩)
      dsimp only [Pt.U, Pt.locs, Pt.cells, Pt.slots] at X158 l158 y158 z158 st158 hQ158
      replace X158 : Stand p l e room_1 s m #[(.long q1), (.long q2), (.int p3), (.int p4)] below meth c T158 _ 14 48 := own_mv X158 l158 y158 z158
      clear l158 y158 z158
      obtain ⟨⟨rfl, e158'⟩, N158q⟩ := hQ158
      have e158 : T158.heap = h147 := e158'
      have N158 := Fr.app N147 N158q
      refine go (fun t k => st158.trans k) ?_
      show Gl _ _ _ _ _ _ _ _ (T158.setTop (mkF m 153 #[.val (.long q1), .second, .val (.long q2), .second, .val (.int p3), .val (.int p4), .val (.ref y2_x0), .val (.ref y4_x0), .val (.ref y8_x0), .val (.ref y11_x0), .val (.ref y16_x0), .val (.int (((p4.toUInt32 >>> ((16 : Int32) &&& 31).toUInt32).toInt32) &&& (3 : Int32))), .val (.ref o22), .val (.int (2 : Int32)), .val (.ref o130), .val (.ref y147_x0), .unset] [(.long q2)]))
      refine go (fun t k => XS.lloadN X158.here hx rfl (hb hby at_153) rfl  k) ?_
      show Gl _ _ _ _ _ _ _ _ (T158.setTop (mkF m 154 #[.val (.long q1), .second, .val (.long q2), .second, .val (.int p3), .val (.int p4), .val (.ref y2_x0), .val (.ref y4_x0), .val (.ref y8_x0), .val (.ref y11_x0), .val (.ref y16_x0), .val (.int (((p4.toUInt32 >>> ((16 : Int32) &&& 31).toUInt32).toInt32) &&& (3 : Int32))), .val (.ref o22), .val (.int (2 : Int32)), .val (.ref o130), .val (.ref y147_x0), .unset] [(.long q2), (.long q2)]))
      refine go (fun t k => XS.lcmp X158.here hx rfl (hb hby at_154) rfl k) ?_
      show Gl _ _ _ _ _ _ _ _ (T158.setTop (mkF m 155 #[.val (.long q1), .second, .val (.long q2), .second, .val (.int p3), .val (.int p4), .val (.ref y2_x0), .val (.ref y4_x0), .val (.ref y8_x0), .val (.ref y11_x0), .val (.ref y16_x0), .val (.int (((p4.toUInt32 >>> ((16 : Int32) &&& 31).toUInt32).toInt32) &&& (3 : Int32))), .val (.ref o22), .val (.int (2 : Int32)), .val (.ref o130), .val (.ref y147_x0), .unset] [(.int (lcmpW q2 q2))]))
      refine gI (c := q2 = q2) (fun hc155 => ?_) (fun hc155 => ?_)
      · refine go (fun t k => XS.ifYes X158.here hx rfl (pc0 := 155) (pc' := 160) rfl (hb hby at_155) rfl ((if0 _ _).trans (teq ((lw_eq q2 q2).mpr hc155)).1) (by decide) (by decide) k) ?_
        show Gl _ _ _ _ _ _ _ _ (T158.setTop (mkF m 160 #[.val (.long q1), .second, .val (.long q2), .second, .val (.int p3), .val (.int p4), .val (.ref y2_x0), .val (.ref y4_x0), .val (.ref y8_x0), .val (.ref y11_x0), .val (.ref y16_x0), .val (.int (((p4.toUInt32 >>> ((16 : Int32) &&& 31).toUInt32).toInt32) &&& (3 : Int32))), .val (.ref o22), .val (.int (2 : Int32)), .val (.ref o130), .val (.ref y147_x0), .unset] []))
        refine go (fun t k => XS.aload X158.here hx rfl (hb hby at_160) rfl rfl k) ?_
        show Gl _ _ _ _ _ _ _ _ (T158.setTop (mkF m 162 #[.val (.long q1), .second, .val (.long q2), .second, .val (.int p3), .val (.int p4), .val (.ref y2_x0), .val (.ref y4_x0), .val (.ref y8_x0), .val (.ref y11_x0), .val (.ref y16_x0), .val (.int (((p4.toUInt32 >>> ((16 : Int32) &&& 31).toUInt32).toInt32) &&& (3 : Int32))), .val (.ref o22), .val (.int (2 : Int32)), .val (.ref o130), .val (.ref y147_x0), .unset] [(.ref o130)]))
        obtain ⟨cq159, kq159, q159a, q159b, q159c⟩ := isOf hZ e158 (Ex134.keep K147q)
        obtain ⟨_, _, ⟨T159, L159, k159, n159⟩, -, X159, ⟨Lc159, hQ159, l159, y159, z159⟩, st159⟩ := X158.virtualBack hx (y := (⟨"com/example/leasehold/server/Watches$Kept", "reserved", "()J"⟩ : MethodName)) (z := (⟨"com/example/leasehold/server/Watches$Kept", "reserved", "()J"⟩ : MethodName)) hown (mvT hZ (hw _ (List.mem_of_getElem? (i := 86) rfl))) (mvT hZ (hw _ (List.mem_of_getElem? (i := 87) rfl))) (notFace_of_selects (args := #[]) (mvT hZ (hw _ (List.mem_of_getElem? (i := 89) rfl)))) (mvT hZ (hw _ (List.mem_of_getElem? (i := 89) rfl))) (mvT hZ (hw _ (List.mem_of_getElem? (i := 88) rfl))) (by decide) (backOf (W := 0) (rm13 l Z a0 hw [] o130 q1 h147 n0 zs157 fs156) hZ (hw _ (List.mem_of_getElem? (i := 90) rfl)) (hw _ (List.mem_of_getElem? (i := 59) rfl)) (by decide) (by decide)) q159a q159c (g := (mkF m 162 #[.val (.long q1), .second, .val (.long q2), .second, .val (.int p3), .val (.int p4), .val (.ref y2_x0), .val (.ref y4_x0), .val (.ref y8_x0), .val (.ref y11_x0), .val (.ref y16_x0), .val (.int (((p4.toUInt32 >>> ((16 : Int32) &&& 31).toUInt32).toInt32) &&& (3 : Int32))), .val (.ref o22), .val (.int (2 : Int32)), .val (.ref o130), .val (.ref y147_x0), .unset] [(.ref o130)])) rfl (by rw [hml]; rfl) (Steps.refl _) (argsL := []) (rest := []) (lenOf pd_14 rfl) rfl (by show 2 * 0 + _ ≤ _; exact Nat.le_of_eq rfl) (hb hby at_162) (fun _ _ => ⟨rfl, e158, (by decide : 14 + 0 ≤ _), (by decide : 48 + 0 ≤ _)⟩)
        dsimp only [Pt.U, Pt.locs, Pt.cells, Pt.slots] at X159 l159 y159 z159 st159 hQ159
        replace X159 : Stand p l e room_1 s m #[(.long q1), (.long q2), (.int p3), (.int p4)] below meth c T159 _ 14 48 := own_mv X159 l159 y159 z159
        clear l159 y159 z159
        obtain ⟨⟨rfl, e159'⟩, N159q⟩ := hQ159
        have e159 : T159.heap = h147 := e159'
        have N159 := Fr.app N158 N159q
        refine go (fun t k => st159.trans k) ?_
        show Gl _ _ _ _ _ _ _ _ (T159.setTop (mkF m 165 #[.val (.long q1), .second, .val (.long q2), .second, .val (.int p3), .val (.int p4), .val (.ref y2_x0), .val (.ref y4_x0), .val (.ref y8_x0), .val (.ref y11_x0), .val (.ref y16_x0), .val (.int (((p4.toUInt32 >>> ((16 : Int32) &&& 31).toUInt32).toInt32) &&& (3 : Int32))), .val (.ref o22), .val (.int (2 : Int32)), .val (.ref o130), .val (.ref y147_x0), .unset] [(.long q1)]))
        refine go (fun t k => XS.lloadN X159.here hx rfl (hb hby at_165) rfl  k) ?_
        show Gl _ _ _ _ _ _ _ _ (T159.setTop (mkF m 166 #[.val (.long q1), .second, .val (.long q2), .second, .val (.int p3), .val (.int p4), .val (.ref y2_x0), .val (.ref y4_x0), .val (.ref y8_x0), .val (.ref y11_x0), .val (.ref y16_x0), .val (.int (((p4.toUInt32 >>> ((16 : Int32) &&& 31).toUInt32).toInt32) &&& (3 : Int32))), .val (.ref o22), .val (.int (2 : Int32)), .val (.ref o130), .val (.ref y147_x0), .unset] [(.long q1), (.long q1)]))
        refine go (fun t k => XS.lcmp X159.here hx rfl (hb hby at_166) rfl k) ?_
        show Gl _ _ _ _ _ _ _ _ (T159.setTop (mkF m 167 #[.val (.long q1), .second, .val (.long q2), .second, .val (.int p3), .val (.int p4), .val (.ref y2_x0), .val (.ref y4_x0), .val (.ref y8_x0), .val (.ref y11_x0), .val (.ref y16_x0), .val (.int (((p4.toUInt32 >>> ((16 : Int32) &&& 31).toUInt32).toInt32) &&& (3 : Int32))), .val (.ref o22), .val (.int (2 : Int32)), .val (.ref o130), .val (.ref y147_x0), .unset] [(.int (lcmpW q1 q1))]))
        refine gI (c := q1 = q1) (fun hc167 => ?_) (fun hc167 => ?_)
        · refine go (fun t k => XS.ifYes X159.here hx rfl (pc0 := 167) (pc' := 172) rfl (hb hby at_167) rfl ((if0 _ _).trans (teq ((lw_eq q1 q1).mpr hc167)).1) (by decide) (by decide) k) ?_
          show Gl _ _ _ _ _ _ _ _ (T159.setTop (mkF m 172 #[.val (.long q1), .second, .val (.long q2), .second, .val (.int p3), .val (.int p4), .val (.ref y2_x0), .val (.ref y4_x0), .val (.ref y8_x0), .val (.ref y11_x0), .val (.ref y16_x0), .val (.int (((p4.toUInt32 >>> ((16 : Int32) &&& 31).toUInt32).toInt32) &&& (3 : Int32))), .val (.ref o22), .val (.int (2 : Int32)), .val (.ref o130), .val (.ref y147_x0), .unset] []))
          refine go (fun t k => XS.aload X159.here hx rfl (hb hby at_172) rfl rfl k) ?_
          show Gl _ _ _ _ _ _ _ _ (T159.setTop (mkF m 174 #[.val (.long q1), .second, .val (.long q2), .second, .val (.int p3), .val (.int p4), .val (.ref y2_x0), .val (.ref y4_x0), .val (.ref y8_x0), .val (.ref y11_x0), .val (.ref y16_x0), .val (.int (((p4.toUInt32 >>> ((16 : Int32) &&& 31).toUInt32).toInt32) &&& (3 : Int32))), .val (.ref o22), .val (.int (2 : Int32)), .val (.ref o130), .val (.ref y147_x0), .unset] [(.ref y2_x0)]))
          refine go (fun t k => XS.aload X159.here hx rfl (hb hby at_174) rfl rfl k) ?_
          show Gl _ _ _ _ _ _ _ _ (T159.setTop (mkF m 176 #[.val (.long q1), .second, .val (.long q2), .second, .val (.int p3), .val (.int p4), .val (.ref y2_x0), .val (.ref y4_x0), .val (.ref y8_x0), .val (.ref y11_x0), .val (.ref y16_x0), .val (.int (((p4.toUInt32 >>> ((16 : Int32) &&& 31).toUInt32).toInt32) &&& (3 : Int32))), .val (.ref o22), .val (.int (2 : Int32)), .val (.ref o130), .val (.ref y147_x0), .unset] [(.ref y147_x0), (.ref y2_x0)]))
          obtain ⟨cq160, kq160, q160a, q160b, q160c⟩ := isOf hZ e159 Fo147_0
          obtain ⟨_, _, ⟨T160, L160, k160, n160⟩, -, X160, ⟨Lc160, hQ160, l160, y160, z160⟩, st160⟩ := X159.virtualBack hx (y := (⟨"com/example/leasehold/server/Watches$Kept", "watched", "()Ljava/lang/String;"⟩ : MethodName)) (z := (⟨"com/example/leasehold/server/Watches$Kept", "watched", "()Ljava/lang/String;"⟩ : MethodName)) hown (mvT hZ (hw _ (List.mem_of_getElem? (i := 91) rfl))) (mvT hZ (hw _ (List.mem_of_getElem? (i := 92) rfl))) (notFace_of_selects (args := #[]) (mvT hZ (hw _ (List.mem_of_getElem? (i := 94) rfl)))) (mvT hZ (hw _ (List.mem_of_getElem? (i := 94) rfl))) (mvT hZ (hw _ (List.mem_of_getElem? (i := 93) rfl))) (by decide) (backOf (W := 1) (rm14 l Z a0 hw [] y147_x0 y2_x0 h147 n0 zs157 Fo147_1) hZ (hw _ (List.mem_of_getElem? (i := 95) rfl)) (hw _ (List.mem_of_getElem? (i := 59) rfl)) (by decide) (by decide)) q160a q160c (g := (mkF m 176 #[.val (.long q1), .second, .val (.long q2), .second, .val (.int p3), .val (.int p4), .val (.ref y2_x0), .val (.ref y4_x0), .val (.ref y8_x0), .val (.ref y11_x0), .val (.ref y16_x0), .val (.int (((p4.toUInt32 >>> ((16 : Int32) &&& 31).toUInt32).toInt32) &&& (3 : Int32))), .val (.ref o22), .val (.int (2 : Int32)), .val (.ref o130), .val (.ref y147_x0), .unset] [(.ref y147_x0), (.ref y2_x0)])) rfl (by rw [hml]; rfl) (Steps.refl _) (argsL := []) (rest := [(.ref y2_x0)]) (lenOf pd_15 rfl) rfl (by show 2 * 0 + _ ≤ _; exact Nat.le_of_eq rfl) (hb hby at_176) (fun _ _ => ⟨rfl, e159, (by decide : 14 + 0 ≤ _), (by decide : 48 + 0 ≤ _)⟩)
          dsimp only [Pt.U, Pt.locs, Pt.cells, Pt.slots] at X160 l160 y160 z160 st160 hQ160
          replace X160 : Stand p l e room_1 s m #[(.long q1), (.long q2), (.int p3), (.int p4)] below meth c T160 _ 14 48 := own_mv X160 l160 y160 z160
          clear l160 y160 z160
          obtain ⟨⟨rfl, e160'⟩, N160q⟩ := hQ160
          have e160 : T160.heap = h147 := e160'
          have N160 := Fr.app N159 N160q
          refine go (fun t k => st160.trans k) ?_
          show Gl _ _ _ _ _ _ _ _ (T160.setTop (mkF m 179 #[.val (.long q1), .second, .val (.long q2), .second, .val (.int p3), .val (.int p4), .val (.ref y2_x0), .val (.ref y4_x0), .val (.ref y8_x0), .val (.ref y11_x0), .val (.ref y16_x0), .val (.int (((p4.toUInt32 >>> ((16 : Int32) &&& 31).toUInt32).toInt32) &&& (3 : Int32))), .val (.ref o22), .val (.int (2 : Int32)), .val (.ref o130), .val (.ref y147_x0), .unset] [(.ref y2_x0), (.ref y2_x0)]))
          obtain ⟨cq161, kq161, q161a, q161b, q161c⟩ := isOf hZ e160 (fs138.keep K147q)
          obtain ⟨_, _, ⟨T161, L161, k161, n161⟩, -, X161, ⟨Lc161, hQ161, l161, y161, z161⟩, st161⟩ := X160.virtualBack hx (y := (⟨"java/lang/String", "equals", "(Ljava/lang/Object;)Z"⟩ : MethodName)) (z := (⟨"java/lang/String", "equals", "(Ljava/lang/Object;)Z"⟩ : MethodName)) hown (mvT hZ (hw _ (List.mem_of_getElem? (i := 96) rfl))) (mvT hZ (hw _ (List.mem_of_getElem? (i := 97) rfl))) (notFace_of_selects (args := #[]) (mvT hZ (hw _ (List.mem_of_getElem? (i := 99) rfl)))) (mvT hZ (hw _ (List.mem_of_getElem? (i := 99) rfl))) (mvT hZ (hw _ (List.mem_of_getElem? (i := 98) rfl))) (by decide) (backOf (W := 0) (rm15 l Z a0 hw [] y2_x0 h147 n0 zs157 ) hZ (hw _ (List.mem_of_getElem? (i := 100) rfl)) (hw _ (List.mem_of_getElem? (i := 2) rfl)) (by decide) (by decide)) q161a q161c (g := (mkF m 179 #[.val (.long q1), .second, .val (.long q2), .second, .val (.int p3), .val (.int p4), .val (.ref y2_x0), .val (.ref y4_x0), .val (.ref y8_x0), .val (.ref y11_x0), .val (.ref y16_x0), .val (.int (((p4.toUInt32 >>> ((16 : Int32) &&& 31).toUInt32).toInt32) &&& (3 : Int32))), .val (.ref o22), .val (.int (2 : Int32)), .val (.ref o130), .val (.ref y147_x0), .unset] [(.ref y2_x0), (.ref y2_x0)])) rfl (by rw [hml]; rfl) (Steps.refl _) (argsL := [(.ref y2_x0)]) (rest := []) (lenOf pd_16 rfl) rfl (by show 2 * 0 + _ ≤ _; exact Nat.le_of_eq rfl) (hb hby at_179) (fun _ _ => ⟨rfl, e160, (by decide : 14 + 0 ≤ _), (by decide : 48 + 0 ≤ _)⟩)
          dsimp only [Pt.U, Pt.locs, Pt.cells, Pt.slots] at X161 l161 y161 z161 st161 hQ161
          replace X161 : Stand p l e room_1 s m #[(.long q1), (.long q2), (.int p3), (.int p4)] below meth c T161 _ 14 48 := own_mv X161 l161 y161 z161
          clear l161 y161 z161
          obtain ⟨⟨rfl, e161'⟩, N161q⟩ := hQ161
          have e161 : T161.heap = h147 := e161'
          have N161 := Fr.app N160 N161q
          refine go (fun t k => st161.trans k) ?_
          show Gl _ _ _ _ _ _ _ _ (T161.setTop (mkF m 182 #[.val (.long q1), .second, .val (.long q2), .second, .val (.int p3), .val (.int p4), .val (.ref y2_x0), .val (.ref y4_x0), .val (.ref y8_x0), .val (.ref y11_x0), .val (.ref y16_x0), .val (.int (((p4.toUInt32 >>> ((16 : Int32) &&& 31).toUInt32).toInt32) &&& (3 : Int32))), .val (.ref o22), .val (.int (2 : Int32)), .val (.ref o130), .val (.ref y147_x0), .unset] [(.int (1 : Int32))]))
          refine go (fun t k => XS.ifYes X161.here hx rfl (pc0 := 182) (pc' := 187) rfl (hb hby at_182) rfl ((if0 _ _).trans (feq (by decide : ¬ ((1 : Int32) = (0 : Int32)))).2) (by decide) (by decide) k) ?_
          show Gl _ _ _ _ _ _ _ _ (T161.setTop (mkF m 187 #[.val (.long q1), .second, .val (.long q2), .second, .val (.int p3), .val (.int p4), .val (.ref y2_x0), .val (.ref y4_x0), .val (.ref y8_x0), .val (.ref y11_x0), .val (.ref y16_x0), .val (.int (((p4.toUInt32 >>> ((16 : Int32) &&& 31).toUInt32).toInt32) &&& (3 : Int32))), .val (.ref o22), .val (.int (2 : Int32)), .val (.ref o130), .val (.ref y147_x0), .unset] []))
          refine go (fun t k => XS.aload X161.here hx rfl (hb hby at_187) rfl rfl k) ?_
          show Gl _ _ _ _ _ _ _ _ (T161.setTop (mkF m 189 #[.val (.long q1), .second, .val (.long q2), .second, .val (.int p3), .val (.int p4), .val (.ref y2_x0), .val (.ref y4_x0), .val (.ref y8_x0), .val (.ref y11_x0), .val (.ref y16_x0), .val (.int (((p4.toUInt32 >>> ((16 : Int32) &&& 31).toUInt32).toInt32) &&& (3 : Int32))), .val (.ref o22), .val (.int (2 : Int32)), .val (.ref o130), .val (.ref y147_x0), .unset] [(.ref y4_x0)]))
          refine go (fun t k => XS.aload X161.here hx rfl (hb hby at_189) rfl rfl k) ?_
          show Gl _ _ _ _ _ _ _ _ (T161.setTop (mkF m 191 #[.val (.long q1), .second, .val (.long q2), .second, .val (.int p3), .val (.int p4), .val (.ref y2_x0), .val (.ref y4_x0), .val (.ref y8_x0), .val (.ref y11_x0), .val (.ref y16_x0), .val (.int (((p4.toUInt32 >>> ((16 : Int32) &&& 31).toUInt32).toInt32) &&& (3 : Int32))), .val (.ref o22), .val (.int (2 : Int32)), .val (.ref o130), .val (.ref y147_x0), .unset] [(.ref y147_x0), (.ref y4_x0)]))
          obtain ⟨cq162, kq162, q162a, q162b, q162c⟩ := isOf hZ e161 Fo147_0
          obtain ⟨_, _, ⟨T162, L162, k162, n162⟩, -, X162, ⟨Lc162, hQ162, l162, y162, z162⟩, st162⟩ := X161.virtualBack hx (y := (⟨"com/example/leasehold/server/Watches$Kept", "id", "()Ljava/lang/String;"⟩ : MethodName)) (z := (⟨"com/example/leasehold/server/Watches$Kept", "id", "()Ljava/lang/String;"⟩ : MethodName)) hown (mvT hZ (hw _ (List.mem_of_getElem? (i := 101) rfl))) (mvT hZ (hw _ (List.mem_of_getElem? (i := 102) rfl))) (notFace_of_selects (args := #[]) (mvT hZ (hw _ (List.mem_of_getElem? (i := 104) rfl)))) (mvT hZ (hw _ (List.mem_of_getElem? (i := 104) rfl))) (mvT hZ (hw _ (List.mem_of_getElem? (i := 103) rfl))) (by decide) (backOf (W := 1) (rm16 l Z a0 hw [] y147_x0 y4_x0 h147 n0 zs157 Fo147_2) hZ (hw _ (List.mem_of_getElem? (i := 105) rfl)) (hw _ (List.mem_of_getElem? (i := 59) rfl)) (by decide) (by decide)) q162a q162c (g := (mkF m 191 #[.val (.long q1), .second, .val (.long q2), .second, .val (.int p3), .val (.int p4), .val (.ref y2_x0), .val (.ref y4_x0), .val (.ref y8_x0), .val (.ref y11_x0), .val (.ref y16_x0), .val (.int (((p4.toUInt32 >>> ((16 : Int32) &&& 31).toUInt32).toInt32) &&& (3 : Int32))), .val (.ref o22), .val (.int (2 : Int32)), .val (.ref o130), .val (.ref y147_x0), .unset] [(.ref y147_x0), (.ref y4_x0)])) rfl (by rw [hml]; rfl) (Steps.refl _) (argsL := []) (rest := [(.ref y4_x0)]) (lenOf pd_15 rfl) rfl (by show 2 * 0 + _ ≤ _; exact Nat.le_of_eq rfl) (hb hby at_191) (fun _ _ => ⟨rfl, e161, (by decide : 14 + 0 ≤ _), (by decide : 48 + 0 ≤ _)⟩)
          dsimp only [Pt.U, Pt.locs, Pt.cells, Pt.slots] at X162 l162 y162 z162 st162 hQ162
          replace X162 : Stand p l e room_1 s m #[(.long q1), (.long q2), (.int p3), (.int p4)] below meth c T162 _ 14 48 := own_mv X162 l162 y162 z162
          clear l162 y162 z162
          obtain ⟨⟨rfl, e162'⟩, N162q⟩ := hQ162
          have e162 : T162.heap = h147 := e162'
          have N162 := Fr.app N161 N162q
          refine go (fun t k => st162.trans k) ?_
          show Gl _ _ _ _ _ _ _ _ (T162.setTop (mkF m 194 #[.val (.long q1), .second, .val (.long q2), .second, .val (.int p3), .val (.int p4), .val (.ref y2_x0), .val (.ref y4_x0), .val (.ref y8_x0), .val (.ref y11_x0), .val (.ref y16_x0), .val (.int (((p4.toUInt32 >>> ((16 : Int32) &&& 31).toUInt32).toInt32) &&& (3 : Int32))), .val (.ref o22), .val (.int (2 : Int32)), .val (.ref o130), .val (.ref y147_x0), .unset] [(.ref y4_x0), (.ref y4_x0)]))
          obtain ⟨cq163, kq163, q163a, q163b, q163c⟩ := isOf hZ e162 fs150
          obtain ⟨_, _, ⟨T163, L163, k163, n163⟩, -, X163, ⟨Lc163, hQ163, l163, y163, z163⟩, st163⟩ := X162.virtualBack hx (y := (⟨"java/lang/String", "equals", "(Ljava/lang/Object;)Z"⟩ : MethodName)) (z := (⟨"java/lang/String", "equals", "(Ljava/lang/Object;)Z"⟩ : MethodName)) hown (mvT hZ (hw _ (List.mem_of_getElem? (i := 96) rfl))) (mvT hZ (hw _ (List.mem_of_getElem? (i := 97) rfl))) (notFace_of_selects (args := #[]) (mvT hZ (hw _ (List.mem_of_getElem? (i := 99) rfl)))) (mvT hZ (hw _ (List.mem_of_getElem? (i := 99) rfl))) (mvT hZ (hw _ (List.mem_of_getElem? (i := 98) rfl))) (by decide) (backOf (W := 0) (rm15 l Z a0 hw [] y4_x0 h147 n0 zs157 ) hZ (hw _ (List.mem_of_getElem? (i := 100) rfl)) (hw _ (List.mem_of_getElem? (i := 2) rfl)) (by decide) (by decide)) q163a q163c (g := (mkF m 194 #[.val (.long q1), .second, .val (.long q2), .second, .val (.int p3), .val (.int p4), .val (.ref y2_x0), .val (.ref y4_x0), .val (.ref y8_x0), .val (.ref y11_x0), .val (.ref y16_x0), .val (.int (((p4.toUInt32 >>> ((16 : Int32) &&& 31).toUInt32).toInt32) &&& (3 : Int32))), .val (.ref o22), .val (.int (2 : Int32)), .val (.ref o130), .val (.ref y147_x0), .unset] [(.ref y4_x0), (.ref y4_x0)])) rfl (by rw [hml]; rfl) (Steps.refl _) (argsL := [(.ref y4_x0)]) (rest := []) (lenOf pd_16 rfl) rfl (by show 2 * 0 + _ ≤ _; exact Nat.le_of_eq rfl) (hb hby at_194) (fun _ _ => ⟨rfl, e162, (by decide : 14 + 0 ≤ _), (by decide : 48 + 0 ≤ _)⟩)
          dsimp only [Pt.U, Pt.locs, Pt.cells, Pt.slots] at X163 l163 y163 z163 st163 hQ163
          replace X163 : Stand p l e room_1 s m #[(.long q1), (.long q2), (.int p3), (.int p4)] below meth c T163 _ 14 48 := own_mv X163 l163 y163 z163
          clear l163 y163 z163
          obtain ⟨⟨rfl, e163'⟩, N163q⟩ := hQ163
          have e163 : T163.heap = h147 := e163'
          have N163 := Fr.app N162 N163q
          refine go (fun t k => st163.trans k) ?_
          show Gl _ _ _ _ _ _ _ _ (T163.setTop (mkF m 197 #[.val (.long q1), .second, .val (.long q2), .second, .val (.int p3), .val (.int p4), .val (.ref y2_x0), .val (.ref y4_x0), .val (.ref y8_x0), .val (.ref y11_x0), .val (.ref y16_x0), .val (.int (((p4.toUInt32 >>> ((16 : Int32) &&& 31).toUInt32).toInt32) &&& (3 : Int32))), .val (.ref o22), .val (.int (2 : Int32)), .val (.ref o130), .val (.ref y147_x0), .unset] [(.int (1 : Int32))]))
          refine go (fun t k => XS.ifYes X163.here hx rfl (pc0 := 197) (pc' := 202) rfl (hb hby at_197) rfl ((if0 _ _).trans (feq (by decide : ¬ ((1 : Int32) = (0 : Int32)))).2) (by decide) (by decide) k) ?_
          show Gl _ _ _ _ _ _ _ _ (T163.setTop (mkF m 202 #[.val (.long q1), .second, .val (.long q2), .second, .val (.int p3), .val (.int p4), .val (.ref y2_x0), .val (.ref y4_x0), .val (.ref y8_x0), .val (.ref y11_x0), .val (.ref y16_x0), .val (.int (((p4.toUInt32 >>> ((16 : Int32) &&& 31).toUInt32).toInt32) &&& (3 : Int32))), .val (.ref o22), .val (.int (2 : Int32)), .val (.ref o130), .val (.ref y147_x0), .unset] []))
          refine go (fun t k => XS.aload X163.here hx rfl (hb hby at_202) rfl rfl k) ?_
          show Gl _ _ _ _ _ _ _ _ (T163.setTop (mkF m 204 #[.val (.long q1), .second, .val (.long q2), .second, .val (.int p3), .val (.int p4), .val (.ref y2_x0), .val (.ref y4_x0), .val (.ref y8_x0), .val (.ref y11_x0), .val (.ref y16_x0), .val (.int (((p4.toUInt32 >>> ((16 : Int32) &&& 31).toUInt32).toInt32) &&& (3 : Int32))), .val (.ref o22), .val (.int (2 : Int32)), .val (.ref o130), .val (.ref y147_x0), .unset] [(.ref y8_x0)]))
          refine go (fun t k => XS.aload X163.here hx rfl (hb hby at_204) rfl rfl k) ?_
          show Gl _ _ _ _ _ _ _ _ (T163.setTop (mkF m 206 #[.val (.long q1), .second, .val (.long q2), .second, .val (.int p3), .val (.int p4), .val (.ref y2_x0), .val (.ref y4_x0), .val (.ref y8_x0), .val (.ref y11_x0), .val (.ref y16_x0), .val (.int (((p4.toUInt32 >>> ((16 : Int32) &&& 31).toUInt32).toInt32) &&& (3 : Int32))), .val (.ref o22), .val (.int (2 : Int32)), .val (.ref o130), .val (.ref y147_x0), .unset] [(.ref y147_x0), (.ref y8_x0)]))
          obtain ⟨cq164, kq164, q164a, q164b, q164c⟩ := isOf hZ e163 Fo147_0
          obtain ⟨_, _, ⟨T164, L164, k164, n164⟩, -, X164, ⟨Lc164, hQ164, l164, y164, z164⟩, st164⟩ := X163.virtualBack hx (y := (⟨"com/example/leasehold/server/Watches$Kept", "handback", "()Ljava/lang/String;"⟩ : MethodName)) (z := (⟨"com/example/leasehold/server/Watches$Kept", "handback", "()Ljava/lang/String;"⟩ : MethodName)) hown (mvT hZ (hw _ (List.mem_of_getElem? (i := 106) rfl))) (mvT hZ (hw _ (List.mem_of_getElem? (i := 107) rfl))) (notFace_of_selects (args := #[]) (mvT hZ (hw _ (List.mem_of_getElem? (i := 109) rfl)))) (mvT hZ (hw _ (List.mem_of_getElem? (i := 109) rfl))) (mvT hZ (hw _ (List.mem_of_getElem? (i := 108) rfl))) (by decide) (backOf (W := 1) (rm17 l Z a0 hw [] y147_x0 y8_x0 h147 n0 zs157 Fo147_3) hZ (hw _ (List.mem_of_getElem? (i := 110) rfl)) (hw _ (List.mem_of_getElem? (i := 59) rfl)) (by decide) (by decide)) q164a q164c (g := (mkF m 206 #[.val (.long q1), .second, .val (.long q2), .second, .val (.int p3), .val (.int p4), .val (.ref y2_x0), .val (.ref y4_x0), .val (.ref y8_x0), .val (.ref y11_x0), .val (.ref y16_x0), .val (.int (((p4.toUInt32 >>> ((16 : Int32) &&& 31).toUInt32).toInt32) &&& (3 : Int32))), .val (.ref o22), .val (.int (2 : Int32)), .val (.ref o130), .val (.ref y147_x0), .unset] [(.ref y147_x0), (.ref y8_x0)])) rfl (by rw [hml]; rfl) (Steps.refl _) (argsL := []) (rest := [(.ref y8_x0)]) (lenOf pd_15 rfl) rfl (by show 2 * 0 + _ ≤ _; exact Nat.le_of_eq rfl) (hb hby at_206) (fun _ _ => ⟨rfl, e163, (by decide : 14 + 0 ≤ _), (by decide : 48 + 0 ≤ _)⟩)
          dsimp only [Pt.U, Pt.locs, Pt.cells, Pt.slots] at X164 l164 y164 z164 st164 hQ164
          replace X164 : Stand p l e room_1 s m #[(.long q1), (.long q2), (.int p3), (.int p4)] below meth c T164 _ 14 48 := own_mv X164 l164 y164 z164
          clear l164 y164 z164
          obtain ⟨⟨rfl, e164'⟩, N164q⟩ := hQ164
          have e164 : T164.heap = h147 := e164'
          have N164 := Fr.app N163 N164q
          refine go (fun t k => st164.trans k) ?_
          show Gl _ _ _ _ _ _ _ _ (T164.setTop (mkF m 209 #[.val (.long q1), .second, .val (.long q2), .second, .val (.int p3), .val (.int p4), .val (.ref y2_x0), .val (.ref y4_x0), .val (.ref y8_x0), .val (.ref y11_x0), .val (.ref y16_x0), .val (.int (((p4.toUInt32 >>> ((16 : Int32) &&& 31).toUInt32).toInt32) &&& (3 : Int32))), .val (.ref o22), .val (.int (2 : Int32)), .val (.ref o130), .val (.ref y147_x0), .unset] [(.ref y8_x0), (.ref y8_x0)]))
          obtain ⟨cq165, kq165, q165a, q165b, q165c⟩ := isOf hZ e164 (fs139.keep K147q)
          obtain ⟨_, _, ⟨T165, L165, k165, n165⟩, -, X165, ⟨Lc165, hQ165, l165, y165, z165⟩, st165⟩ := X164.virtualBack hx (y := (⟨"java/lang/String", "equals", "(Ljava/lang/Object;)Z"⟩ : MethodName)) (z := (⟨"java/lang/String", "equals", "(Ljava/lang/Object;)Z"⟩ : MethodName)) hown (mvT hZ (hw _ (List.mem_of_getElem? (i := 96) rfl))) (mvT hZ (hw _ (List.mem_of_getElem? (i := 97) rfl))) (notFace_of_selects (args := #[]) (mvT hZ (hw _ (List.mem_of_getElem? (i := 99) rfl)))) (mvT hZ (hw _ (List.mem_of_getElem? (i := 99) rfl))) (mvT hZ (hw _ (List.mem_of_getElem? (i := 98) rfl))) (by decide) (backOf (W := 0) (rm15 l Z a0 hw [] y8_x0 h147 n0 zs157 ) hZ (hw _ (List.mem_of_getElem? (i := 100) rfl)) (hw _ (List.mem_of_getElem? (i := 2) rfl)) (by decide) (by decide)) q165a q165c (g := (mkF m 209 #[.val (.long q1), .second, .val (.long q2), .second, .val (.int p3), .val (.int p4), .val (.ref y2_x0), .val (.ref y4_x0), .val (.ref y8_x0), .val (.ref y11_x0), .val (.ref y16_x0), .val (.int (((p4.toUInt32 >>> ((16 : Int32) &&& 31).toUInt32).toInt32) &&& (3 : Int32))), .val (.ref o22), .val (.int (2 : Int32)), .val (.ref o130), .val (.ref y147_x0), .unset] [(.ref y8_x0), (.ref y8_x0)])) rfl (by rw [hml]; rfl) (Steps.refl _) (argsL := [(.ref y8_x0)]) (rest := []) (lenOf pd_16 rfl) rfl (by show 2 * 0 + _ ≤ _; exact Nat.le_of_eq rfl) (hb hby at_209) (fun _ _ => ⟨rfl, e164, (by decide : 14 + 0 ≤ _), (by decide : 48 + 0 ≤ _)⟩)
          dsimp only [Pt.U, Pt.locs, Pt.cells, Pt.slots] at X165 l165 y165 z165 st165 hQ165
          replace X165 : Stand p l e room_1 s m #[(.long q1), (.long q2), (.int p3), (.int p4)] below meth c T165 _ 14 48 := own_mv X165 l165 y165 z165
          clear l165 y165 z165
          obtain ⟨⟨rfl, e165'⟩, N165q⟩ := hQ165
          have e165 : T165.heap = h147 := e165'
          have N165 := Fr.app N164 N165q
          refine go (fun t k => st165.trans k) ?_
          show Gl _ _ _ _ _ _ _ _ (T165.setTop (mkF m 212 #[.val (.long q1), .second, .val (.long q2), .second, .val (.int p3), .val (.int p4), .val (.ref y2_x0), .val (.ref y4_x0), .val (.ref y8_x0), .val (.ref y11_x0), .val (.ref y16_x0), .val (.int (((p4.toUInt32 >>> ((16 : Int32) &&& 31).toUInt32).toInt32) &&& (3 : Int32))), .val (.ref o22), .val (.int (2 : Int32)), .val (.ref o130), .val (.ref y147_x0), .unset] [(.int (1 : Int32))]))
          refine go (fun t k => XS.ifYes X165.here hx rfl (pc0 := 212) (pc' := 217) rfl (hb hby at_212) rfl ((if0 _ _).trans (feq (by decide : ¬ ((1 : Int32) = (0 : Int32)))).2) (by decide) (by decide) k) ?_
          show Gl _ _ _ _ _ _ _ _ (T165.setTop (mkF m 217 #[.val (.long q1), .second, .val (.long q2), .second, .val (.int p3), .val (.int p4), .val (.ref y2_x0), .val (.ref y4_x0), .val (.ref y8_x0), .val (.ref y11_x0), .val (.ref y16_x0), .val (.int (((p4.toUInt32 >>> ((16 : Int32) &&& 31).toUInt32).toInt32) &&& (3 : Int32))), .val (.ref o22), .val (.int (2 : Int32)), .val (.ref o130), .val (.ref y147_x0), .unset] []))
          refine go (fun t k => XS.aload X165.here hx rfl (hb hby at_217) rfl rfl k) ?_
          show Gl _ _ _ _ _ _ _ _ (T165.setTop (mkF m 219 #[.val (.long q1), .second, .val (.long q2), .second, .val (.int p3), .val (.int p4), .val (.ref y2_x0), .val (.ref y4_x0), .val (.ref y8_x0), .val (.ref y11_x0), .val (.ref y16_x0), .val (.int (((p4.toUInt32 >>> ((16 : Int32) &&& 31).toUInt32).toInt32) &&& (3 : Int32))), .val (.ref o22), .val (.int (2 : Int32)), .val (.ref o130), .val (.ref y147_x0), .unset] [(.ref y147_x0)]))
          obtain ⟨cq166, kq166, q166a, q166b, q166c⟩ := isOf hZ e165 Fo147_0
          obtain ⟨_, _, ⟨T166, L166, k166, n166⟩, -, X166, ⟨Lc166, hQ166, l166, y166, z166⟩, st166⟩ := X165.virtualBack hx (y := (⟨"com/example/leasehold/server/Watches$Kept", "beside", "()Ljava/util/List;"⟩ : MethodName)) (z := (⟨"com/example/leasehold/server/Watches$Kept", "beside", "()Ljava/util/List;"⟩ : MethodName)) hown (mvT hZ (hw _ (List.mem_of_getElem? (i := 111) rfl))) (mvT hZ (hw _ (List.mem_of_getElem? (i := 112) rfl))) (notFace_of_selects (args := #[]) (mvT hZ (hw _ (List.mem_of_getElem? (i := 114) rfl)))) (mvT hZ (hw _ (List.mem_of_getElem? (i := 114) rfl))) (mvT hZ (hw _ (List.mem_of_getElem? (i := 113) rfl))) (by decide) (backOf (W := 0) (rm18 l Z a0 hw [] y147_x0 o22 h147 n0 zs157 Fo147_4) hZ (hw _ (List.mem_of_getElem? (i := 115) rfl)) (hw _ (List.mem_of_getElem? (i := 59) rfl)) (by decide) (by decide)) q166a q166c (g := (mkF m 219 #[.val (.long q1), .second, .val (.long q2), .second, .val (.int p3), .val (.int p4), .val (.ref y2_x0), .val (.ref y4_x0), .val (.ref y8_x0), .val (.ref y11_x0), .val (.ref y16_x0), .val (.int (((p4.toUInt32 >>> ((16 : Int32) &&& 31).toUInt32).toInt32) &&& (3 : Int32))), .val (.ref o22), .val (.int (2 : Int32)), .val (.ref o130), .val (.ref y147_x0), .unset] [(.ref y147_x0)])) rfl (by rw [hml]; rfl) (Steps.refl _) (argsL := []) (rest := []) (lenOf pd_17 rfl) rfl (by show 2 * 0 + _ ≤ _; exact Nat.le_of_eq rfl) (hb hby at_219) (fun _ _ => ⟨rfl, e165, (by decide : 14 + 0 ≤ _), (by decide : 48 + 0 ≤ _)⟩)
          dsimp only [Pt.U, Pt.locs, Pt.cells, Pt.slots] at X166 l166 y166 z166 st166 hQ166
          replace X166 : Stand p l e room_1 s m #[(.long q1), (.long q2), (.int p3), (.int p4)] below meth c T166 _ 14 48 := own_mv X166 l166 y166 z166
          clear l166 y166 z166
          obtain ⟨⟨rfl, e166'⟩, N166q⟩ := hQ166
          have e166 : T166.heap = h147 := e166'
          have N166 := Fr.app N165 N166q
          refine go (fun t k => st166.trans k) ?_
          show Gl _ _ _ _ _ _ _ _ (T166.setTop (mkF m 222 #[.val (.long q1), .second, .val (.long q2), .second, .val (.int p3), .val (.int p4), .val (.ref y2_x0), .val (.ref y4_x0), .val (.ref y8_x0), .val (.ref y11_x0), .val (.ref y16_x0), .val (.int (((p4.toUInt32 >>> ((16 : Int32) &&& 31).toUInt32).toInt32) &&& (3 : Int32))), .val (.ref o22), .val (.int (2 : Int32)), .val (.ref o130), .val (.ref y147_x0), .unset] [(.ref o22)]))
          refine go (fun t k => XS.astore X166.here hx rfl (hb hby at_222) rfl rfl (l' := #[.val (.long q1), .second, .val (.long q2), .second, .val (.int p3), .val (.int p4), .val (.ref y2_x0), .val (.ref y4_x0), .val (.ref y8_x0), .val (.ref y11_x0), .val (.ref y16_x0), .val (.int (((p4.toUInt32 >>> ((16 : Int32) &&& 31).toUInt32).toInt32) &&& (3 : Int32))), .val (.ref o22), .val (.int (2 : Int32)), .val (.ref o130), .val (.ref y147_x0), .val (.ref o22)]) rfl k) ?_
          show Gl _ _ _ _ _ _ _ _ (T166.setTop (mkF m 224 #[.val (.long q1), .second, .val (.long q2), .second, .val (.int p3), .val (.int p4), .val (.ref y2_x0), .val (.ref y4_x0), .val (.ref y8_x0), .val (.ref y11_x0), .val (.ref y16_x0), .val (.int (((p4.toUInt32 >>> ((16 : Int32) &&& 31).toUInt32).toInt32) &&& (3 : Int32))), .val (.ref o22), .val (.int (2 : Int32)), .val (.ref o130), .val (.ref y147_x0), .val (.ref o22)] []))
          refine go (fun t k => XS.aload X166.here hx rfl (hb hby at_224) rfl rfl k) ?_
          show Gl _ _ _ _ _ _ _ _ (T166.setTop (mkF m 226 #[.val (.long q1), .second, .val (.long q2), .second, .val (.int p3), .val (.int p4), .val (.ref y2_x0), .val (.ref y4_x0), .val (.ref y8_x0), .val (.ref y11_x0), .val (.ref y16_x0), .val (.int (((p4.toUInt32 >>> ((16 : Int32) &&& 31).toUInt32).toInt32) &&& (3 : Int32))), .val (.ref o22), .val (.int (2 : Int32)), .val (.ref o130), .val (.ref y147_x0), .val (.ref o22)] [(.ref o22)]))
          obtain ⟨cq167, kq167, q167a, q167b, q167c⟩ := isOf hZ e166 (fs141.keep K147q)
          obtain ⟨_, _, ⟨T167, L167, k167, n167⟩, -, X167, ⟨Lc167, hQ167, l167, y167, z167⟩, st167⟩ := X166.interfaceBack hx (xi := (⟨"java/util/List", "size", "()I"⟩ : MethodName)) (y := (⟨"java/util/ArrayList", "size", "()I"⟩ : MethodName)) hown (mvT hZ (hw _ (List.mem_of_getElem? (i := 116) rfl))) (mvT hZ (hw _ (List.mem_of_getElem? (i := 117) rfl))) (mvT hZ (hw _ (List.mem_of_getElem? (i := 118) rfl))) (mvT hZ (hw _ (List.mem_of_getElem? (i := 119) rfl))) (mvT hZ (hw _ (List.mem_of_getElem? (i := 52) rfl))) (mvT hZ (hw _ (List.mem_of_getElem? (i := 120) rfl))) (mvT hZ (hw _ (List.mem_of_getElem? (i := 121) rfl))) (mvT hZ (hw _ (List.mem_of_getElem? (i := 122) rfl))) (by decide) (backOf (W := 0) (rm9 l Z a0 hw [] o22 (2 : Int32) h147 n0 zs157 (fs143.keep K147q nin0)) hZ (hw _ (List.mem_of_getElem? (i := 54) rfl)) (hw _ (List.mem_of_getElem? (i := 28) rfl)) (by decide) (by decide)) q167a q167b q167c (g := (mkF m 226 #[.val (.long q1), .second, .val (.long q2), .second, .val (.int p3), .val (.int p4), .val (.ref y2_x0), .val (.ref y4_x0), .val (.ref y8_x0), .val (.ref y11_x0), .val (.ref y16_x0), .val (.int (((p4.toUInt32 >>> ((16 : Int32) &&& 31).toUInt32).toInt32) &&& (3 : Int32))), .val (.ref o22), .val (.int (2 : Int32)), .val (.ref o130), .val (.ref y147_x0), .val (.ref o22)] [(.ref o22)])) rfl (by rw [hml]; rfl) (Steps.refl _) (argsL := []) (rest := []) (lenOf pd_12 rfl) rfl (by show 2 * 0 + _ ≤ _; exact Nat.le_of_eq rfl) (hb hby at_226) (fun _ _ => ⟨rfl, e166, (by decide : 14 + 0 ≤ _), (by decide : 48 + 0 ≤ _)⟩)
          dsimp only [Pt.U, Pt.locs, Pt.cells, Pt.slots] at X167 l167 y167 z167 st167 hQ167
          replace X167 : Stand p l e room_1 s m #[(.long q1), (.long q2), (.int p3), (.int p4)] below meth c T167 _ 14 48 := own_mv X167 l167 y167 z167
          clear l167 y167 z167
          obtain ⟨⟨rfl, e167'⟩, N167q⟩ := hQ167
          have e167 : T167.heap = h147 := e167'
          have N167 := Fr.app N166 N167q
          refine go (fun t k => st167.trans k) ?_
          show Gl _ _ _ _ _ _ _ _ (T167.setTop (mkF m 231 #[.val (.long q1), .second, .val (.long q2), .second, .val (.int p3), .val (.int p4), .val (.ref y2_x0), .val (.ref y4_x0), .val (.ref y8_x0), .val (.ref y11_x0), .val (.ref y16_x0), .val (.int (((p4.toUInt32 >>> ((16 : Int32) &&& 31).toUInt32).toInt32) &&& (3 : Int32))), .val (.ref o22), .val (.int (2 : Int32)), .val (.ref o130), .val (.ref y147_x0), .val (.ref o22)] [(.int (2 : Int32))]))
          refine go (fun t k => XS.iload X167.here hx rfl (hb hby at_231) rfl  k) ?_
          show Gl _ _ _ _ _ _ _ _ (T167.setTop (mkF m 233 #[.val (.long q1), .second, .val (.long q2), .second, .val (.int p3), .val (.int p4), .val (.ref y2_x0), .val (.ref y4_x0), .val (.ref y8_x0), .val (.ref y11_x0), .val (.ref y16_x0), .val (.int (((p4.toUInt32 >>> ((16 : Int32) &&& 31).toUInt32).toInt32) &&& (3 : Int32))), .val (.ref o22), .val (.int (2 : Int32)), .val (.ref o130), .val (.ref y147_x0), .val (.ref o22)] [(.int (2 : Int32)), (.int (2 : Int32))]))
          refine go (fun t k => XS.icmpYes X167.here hx rfl (pc0 := 233) (pc' := 238) rfl (hb hby at_233) rfl (teq (by decide : (2 : Int32) = (2 : Int32))).1 (by decide) (by decide) k) ?_
          show Gl _ _ _ _ _ _ _ _ (T167.setTop (mkF m 238 #[.val (.long q1), .second, .val (.long q2), .second, .val (.int p3), .val (.int p4), .val (.ref y2_x0), .val (.ref y4_x0), .val (.ref y8_x0), .val (.ref y11_x0), .val (.ref y16_x0), .val (.int (((p4.toUInt32 >>> ((16 : Int32) &&& 31).toUInt32).toInt32) &&& (3 : Int32))), .val (.ref o22), .val (.int (2 : Int32)), .val (.ref o130), .val (.ref y147_x0), .val (.ref o22)] []))
          refine go (fun t k => XS.iload X167.here hx rfl (hb hby at_238) rfl  k) ?_
          show Gl _ _ _ _ _ _ _ _ (T167.setTop (mkF m 240 #[.val (.long q1), .second, .val (.long q2), .second, .val (.int p3), .val (.int p4), .val (.ref y2_x0), .val (.ref y4_x0), .val (.ref y8_x0), .val (.ref y11_x0), .val (.ref y16_x0), .val (.int (((p4.toUInt32 >>> ((16 : Int32) &&& 31).toUInt32).toInt32) &&& (3 : Int32))), .val (.ref o22), .val (.int (2 : Int32)), .val (.ref o130), .val (.ref y147_x0), .val (.ref o22)] [(.int (2 : Int32))]))
          refine go (fun t k => XS.iconst X167.here hx rfl (hb hby at_240) k) ?_
          show Gl _ _ _ _ _ _ _ _ (T167.setTop (mkF m 241 #[.val (.long q1), .second, .val (.long q2), .second, .val (.int p3), .val (.int p4), .val (.ref y2_x0), .val (.ref y4_x0), .val (.ref y8_x0), .val (.ref y11_x0), .val (.ref y16_x0), .val (.int (((p4.toUInt32 >>> ((16 : Int32) &&& 31).toUInt32).toInt32) &&& (3 : Int32))), .val (.ref o22), .val (.int (2 : Int32)), .val (.ref o130), .val (.ref y147_x0), .val (.ref o22)] [(.int (1 : Int32)), (.int (2 : Int32))]))
          refine go (fun t k => XS.icmpNo X167.here hx rfl (hb hby at_241) rfl (flt (by decide : ¬ ((2 : Int32) < (1 : Int32)))).1 k) ?_
          show Gl _ _ _ _ _ _ _ _ (T167.setTop (mkF m 244 #[.val (.long q1), .second, .val (.long q2), .second, .val (.int p3), .val (.int p4), .val (.ref y2_x0), .val (.ref y4_x0), .val (.ref y8_x0), .val (.ref y11_x0), .val (.ref y16_x0), .val (.int (((p4.toUInt32 >>> ((16 : Int32) &&& 31).toUInt32).toInt32) &&& (3 : Int32))), .val (.ref o22), .val (.int (2 : Int32)), .val (.ref o130), .val (.ref y147_x0), .val (.ref o22)] []))
          refine go (fun t k => XS.aload X167.here hx rfl (hb hby at_244) rfl rfl k) ?_
          show Gl _ _ _ _ _ _ _ _ (T167.setTop (mkF m 246 #[.val (.long q1), .second, .val (.long q2), .second, .val (.int p3), .val (.int p4), .val (.ref y2_x0), .val (.ref y4_x0), .val (.ref y8_x0), .val (.ref y11_x0), .val (.ref y16_x0), .val (.int (((p4.toUInt32 >>> ((16 : Int32) &&& 31).toUInt32).toInt32) &&& (3 : Int32))), .val (.ref o22), .val (.int (2 : Int32)), .val (.ref o130), .val (.ref y147_x0), .val (.ref o22)] [(.ref y11_x0)]))
          refine go (fun t k => XS.aload X167.here hx rfl (hb hby at_246) rfl rfl k) ?_
          show Gl _ _ _ _ _ _ _ _ (T167.setTop (mkF m 248 #[.val (.long q1), .second, .val (.long q2), .second, .val (.int p3), .val (.int p4), .val (.ref y2_x0), .val (.ref y4_x0), .val (.ref y8_x0), .val (.ref y11_x0), .val (.ref y16_x0), .val (.int (((p4.toUInt32 >>> ((16 : Int32) &&& 31).toUInt32).toInt32) &&& (3 : Int32))), .val (.ref o22), .val (.int (2 : Int32)), .val (.ref o130), .val (.ref y147_x0), .val (.ref o22)] [(.ref o22), (.ref y11_x0)]))
          refine go (fun t k => XS.iconst X167.here hx rfl (hb hby at_248) k) ?_
          show Gl _ _ _ _ _ _ _ _ (T167.setTop (mkF m 249 #[.val (.long q1), .second, .val (.long q2), .second, .val (.int p3), .val (.int p4), .val (.ref y2_x0), .val (.ref y4_x0), .val (.ref y8_x0), .val (.ref y11_x0), .val (.ref y16_x0), .val (.int (((p4.toUInt32 >>> ((16 : Int32) &&& 31).toUInt32).toInt32) &&& (3 : Int32))), .val (.ref o22), .val (.int (2 : Int32)), .val (.ref o130), .val (.ref y147_x0), .val (.ref o22)] [(.int (0 : Int32)), (.ref o22), (.ref y11_x0)]))
          obtain ⟨cq168, kq168, q168a, q168b, q168c⟩ := isOf hZ e167 (fs141.keep K147q)
          obtain ⟨_, _, ⟨T168, L168, k168, n168⟩, -, X168, ⟨Lc168, hQ168, l168, y168, z168⟩, st168⟩ := X167.interfaceBack hx (xi := (⟨"java/util/List", "get", "(I)Ljava/lang/Object;"⟩ : MethodName)) (y := (⟨"java/util/ArrayList", "get", "(I)Ljava/lang/Object;"⟩ : MethodName)) hown (mvT hZ (hw _ (List.mem_of_getElem? (i := 152) rfl))) (mvT hZ (hw _ (List.mem_of_getElem? (i := 153) rfl))) (mvT hZ (hw _ (List.mem_of_getElem? (i := 154) rfl))) (mvT hZ (hw _ (List.mem_of_getElem? (i := 155) rfl))) (mvT hZ (hw _ (List.mem_of_getElem? (i := 156) rfl))) (mvT hZ (hw _ (List.mem_of_getElem? (i := 157) rfl))) (mvT hZ (hw _ (List.mem_of_getElem? (i := 158) rfl))) (mvT hZ (hw _ (List.mem_of_getElem? (i := 122) rfl))) (by decide) (backOf (W := 1) (rm24t0_2 l Z a0 hw [] o22 y73_x0 c73_k0 y11_x0 y16_x0 h147 n0 zs157 (fs141.keep K147q) (fs143.keep K147q nin0) (fs144.keep K147q nin0) (fs145.keep K147q nin0)) hZ (hw _ (List.mem_of_getElem? (i := 159) rfl)) (hw _ (List.mem_of_getElem? (i := 28) rfl)) (by decide) (by decide)) q168a q168b q168c (g := (mkF m 249 #[.val (.long q1), .second, .val (.long q2), .second, .val (.int p3), .val (.int p4), .val (.ref y2_x0), .val (.ref y4_x0), .val (.ref y8_x0), .val (.ref y11_x0), .val (.ref y16_x0), .val (.int (((p4.toUInt32 >>> ((16 : Int32) &&& 31).toUInt32).toInt32) &&& (3 : Int32))), .val (.ref o22), .val (.int (2 : Int32)), .val (.ref o130), .val (.ref y147_x0), .val (.ref o22)] [(.int (0 : Int32)), (.ref o22), (.ref y11_x0)])) rfl (by rw [hml]; rfl) (Steps.refl _) (argsL := [(.int (0 : Int32))]) (rest := [(.ref y11_x0)]) (lenOf pd_9 rfl) rfl (by show 2 * 0 + _ ≤ _; exact Nat.le_of_eq rfl) (hb hby at_249) (fun _ _ => ⟨rfl, e167, (by decide : 14 + 0 ≤ _), (by decide : 48 + 0 ≤ _)⟩)
          dsimp only [Pt.U, Pt.locs, Pt.cells, Pt.slots] at X168 l168 y168 z168 st168 hQ168
          replace X168 : Stand p l e room_1 s m #[(.long q1), (.long q2), (.int p3), (.int p4)] below meth c T168 _ 14 48 := own_mv X168 l168 y168 z168
          clear l168 y168 z168
          obtain ⟨⟨rfl, e168'⟩, N168q⟩ := hQ168
          have e168 : T168.heap = h147 := e168'
          have N168 := Fr.app N167 N168q
          refine go (fun t k => st168.trans k) ?_
          show Gl _ _ _ _ _ _ _ _ (T168.setTop (mkF m 254 #[.val (.long q1), .second, .val (.long q2), .second, .val (.int p3), .val (.int p4), .val (.ref y2_x0), .val (.ref y4_x0), .val (.ref y8_x0), .val (.ref y11_x0), .val (.ref y16_x0), .val (.int (((p4.toUInt32 >>> ((16 : Int32) &&& 31).toUInt32).toInt32) &&& (3 : Int32))), .val (.ref o22), .val (.int (2 : Int32)), .val (.ref o130), .val (.ref y147_x0), .val (.ref o22)] [(.ref y11_x0), (.ref y11_x0)]))
          obtain ⟨cq169, kq169, q169a, q169b, q169c⟩ := isOf hZ e168 fs151
          obtain ⟨_, _, ⟨T169, L169, k169, n169⟩, -, X169, ⟨Lc169, hQ169, l169, y169, z169⟩, st169⟩ := X168.virtualBack hx (y := (⟨"java/lang/String", "equals", "(Ljava/lang/Object;)Z"⟩ : MethodName)) (z := (⟨"java/lang/String", "equals", "(Ljava/lang/Object;)Z"⟩ : MethodName)) hown (mvT hZ (hw _ (List.mem_of_getElem? (i := 96) rfl))) (mvT hZ (hw _ (List.mem_of_getElem? (i := 97) rfl))) (notFace_of_selects (args := #[]) (mvT hZ (hw _ (List.mem_of_getElem? (i := 99) rfl)))) (mvT hZ (hw _ (List.mem_of_getElem? (i := 99) rfl))) (mvT hZ (hw _ (List.mem_of_getElem? (i := 98) rfl))) (by decide) (backOf (W := 0) (rm15 l Z a0 hw [] y11_x0 h147 n0 zs157 ) hZ (hw _ (List.mem_of_getElem? (i := 100) rfl)) (hw _ (List.mem_of_getElem? (i := 2) rfl)) (by decide) (by decide)) q169a q169c (g := (mkF m 254 #[.val (.long q1), .second, .val (.long q2), .second, .val (.int p3), .val (.int p4), .val (.ref y2_x0), .val (.ref y4_x0), .val (.ref y8_x0), .val (.ref y11_x0), .val (.ref y16_x0), .val (.int (((p4.toUInt32 >>> ((16 : Int32) &&& 31).toUInt32).toInt32) &&& (3 : Int32))), .val (.ref o22), .val (.int (2 : Int32)), .val (.ref o130), .val (.ref y147_x0), .val (.ref o22)] [(.ref y11_x0), (.ref y11_x0)])) rfl (by rw [hml]; rfl) (Steps.refl _) (argsL := [(.ref y11_x0)]) (rest := []) (lenOf pd_16 rfl) rfl (by show 2 * 0 + _ ≤ _; exact Nat.le_of_eq rfl) (hb hby at_254) (fun _ _ => ⟨rfl, e168, (by decide : 14 + 0 ≤ _), (by decide : 48 + 0 ≤ _)⟩)
          dsimp only [Pt.U, Pt.locs, Pt.cells, Pt.slots] at X169 l169 y169 z169 st169 hQ169
          replace X169 : Stand p l e room_1 s m #[(.long q1), (.long q2), (.int p3), (.int p4)] below meth c T169 _ 14 48 := own_mv X169 l169 y169 z169
          clear l169 y169 z169
          obtain ⟨⟨rfl, e169'⟩, N169q⟩ := hQ169
          have e169 : T169.heap = h147 := e169'
          have N169 := Fr.app N168 N169q
          refine go (fun t k => st169.trans k) ?_
          show Gl _ _ _ _ _ _ _ _ (T169.setTop (mkF m 257 #[.val (.long q1), .second, .val (.long q2), .second, .val (.int p3), .val (.int p4), .val (.ref y2_x0), .val (.ref y4_x0), .val (.ref y8_x0), .val (.ref y11_x0), .val (.ref y16_x0), .val (.int (((p4.toUInt32 >>> ((16 : Int32) &&& 31).toUInt32).toInt32) &&& (3 : Int32))), .val (.ref o22), .val (.int (2 : Int32)), .val (.ref o130), .val (.ref y147_x0), .val (.ref o22)] [(.int (1 : Int32))]))
          refine go (fun t k => XS.ifYes X169.here hx rfl (pc0 := 257) (pc' := 262) rfl (hb hby at_257) rfl ((if0 _ _).trans (feq (by decide : ¬ ((1 : Int32) = (0 : Int32)))).2) (by decide) (by decide) k) ?_
          show Gl _ _ _ _ _ _ _ _ (T169.setTop (mkF m 262 #[.val (.long q1), .second, .val (.long q2), .second, .val (.int p3), .val (.int p4), .val (.ref y2_x0), .val (.ref y4_x0), .val (.ref y8_x0), .val (.ref y11_x0), .val (.ref y16_x0), .val (.int (((p4.toUInt32 >>> ((16 : Int32) &&& 31).toUInt32).toInt32) &&& (3 : Int32))), .val (.ref o22), .val (.int (2 : Int32)), .val (.ref o130), .val (.ref y147_x0), .val (.ref o22)] []))
          refine go (fun t k => XS.iload X169.here hx rfl (hb hby at_262) rfl  k) ?_
          show Gl _ _ _ _ _ _ _ _ (T169.setTop (mkF m 264 #[.val (.long q1), .second, .val (.long q2), .second, .val (.int p3), .val (.int p4), .val (.ref y2_x0), .val (.ref y4_x0), .val (.ref y8_x0), .val (.ref y11_x0), .val (.ref y16_x0), .val (.int (((p4.toUInt32 >>> ((16 : Int32) &&& 31).toUInt32).toInt32) &&& (3 : Int32))), .val (.ref o22), .val (.int (2 : Int32)), .val (.ref o130), .val (.ref y147_x0), .val (.ref o22)] [(.int (2 : Int32))]))
          refine go (fun t k => XS.iconst X169.here hx rfl (hb hby at_264) k) ?_
          show Gl _ _ _ _ _ _ _ _ (T169.setTop (mkF m 265 #[.val (.long q1), .second, .val (.long q2), .second, .val (.int p3), .val (.int p4), .val (.ref y2_x0), .val (.ref y4_x0), .val (.ref y8_x0), .val (.ref y11_x0), .val (.ref y16_x0), .val (.int (((p4.toUInt32 >>> ((16 : Int32) &&& 31).toUInt32).toInt32) &&& (3 : Int32))), .val (.ref o22), .val (.int (2 : Int32)), .val (.ref o130), .val (.ref y147_x0), .val (.ref o22)] [(.int (2 : Int32)), (.int (2 : Int32))]))
          refine go (fun t k => XS.icmpNo X169.here hx rfl (hb hby at_265) rfl (flt (by decide : ¬ ((2 : Int32) < (2 : Int32)))).1 k) ?_
          show Gl _ _ _ _ _ _ _ _ (T169.setTop (mkF m 268 #[.val (.long q1), .second, .val (.long q2), .second, .val (.int p3), .val (.int p4), .val (.ref y2_x0), .val (.ref y4_x0), .val (.ref y8_x0), .val (.ref y11_x0), .val (.ref y16_x0), .val (.int (((p4.toUInt32 >>> ((16 : Int32) &&& 31).toUInt32).toInt32) &&& (3 : Int32))), .val (.ref o22), .val (.int (2 : Int32)), .val (.ref o130), .val (.ref y147_x0), .val (.ref o22)] []))
          refine go (fun t k => XS.aload X169.here hx rfl (hb hby at_268) rfl rfl k) ?_
          show Gl _ _ _ _ _ _ _ _ (T169.setTop (mkF m 270 #[.val (.long q1), .second, .val (.long q2), .second, .val (.int p3), .val (.int p4), .val (.ref y2_x0), .val (.ref y4_x0), .val (.ref y8_x0), .val (.ref y11_x0), .val (.ref y16_x0), .val (.int (((p4.toUInt32 >>> ((16 : Int32) &&& 31).toUInt32).toInt32) &&& (3 : Int32))), .val (.ref o22), .val (.int (2 : Int32)), .val (.ref o130), .val (.ref y147_x0), .val (.ref o22)] [(.ref y16_x0)]))
          refine go (fun t k => XS.aload X169.here hx rfl (hb hby at_270) rfl rfl k) ?_
          show Gl _ _ _ _ _ _ _ _ (T169.setTop (mkF m 272 #[.val (.long q1), .second, .val (.long q2), .second, .val (.int p3), .val (.int p4), .val (.ref y2_x0), .val (.ref y4_x0), .val (.ref y8_x0), .val (.ref y11_x0), .val (.ref y16_x0), .val (.int (((p4.toUInt32 >>> ((16 : Int32) &&& 31).toUInt32).toInt32) &&& (3 : Int32))), .val (.ref o22), .val (.int (2 : Int32)), .val (.ref o130), .val (.ref y147_x0), .val (.ref o22)] [(.ref o22), (.ref y16_x0)]))
          refine go (fun t k => XS.iconst X169.here hx rfl (hb hby at_272) k) ?_
          show Gl _ _ _ _ _ _ _ _ (T169.setTop (mkF m 273 #[.val (.long q1), .second, .val (.long q2), .second, .val (.int p3), .val (.int p4), .val (.ref y2_x0), .val (.ref y4_x0), .val (.ref y8_x0), .val (.ref y11_x0), .val (.ref y16_x0), .val (.int (((p4.toUInt32 >>> ((16 : Int32) &&& 31).toUInt32).toInt32) &&& (3 : Int32))), .val (.ref o22), .val (.int (2 : Int32)), .val (.ref o130), .val (.ref y147_x0), .val (.ref o22)] [(.int (1 : Int32)), (.ref o22), (.ref y16_x0)]))
          obtain ⟨cq170, kq170, q170a, q170b, q170c⟩ := isOf hZ e169 (fs141.keep K147q)
          obtain ⟨_, _, ⟨T170, L170, k170, n170⟩, -, X170, ⟨Lc170, hQ170, l170, y170, z170⟩, st170⟩ := X169.interfaceBack hx (xi := (⟨"java/util/List", "get", "(I)Ljava/lang/Object;"⟩ : MethodName)) (y := (⟨"java/util/ArrayList", "get", "(I)Ljava/lang/Object;"⟩ : MethodName)) hown (mvT hZ (hw _ (List.mem_of_getElem? (i := 152) rfl))) (mvT hZ (hw _ (List.mem_of_getElem? (i := 153) rfl))) (mvT hZ (hw _ (List.mem_of_getElem? (i := 154) rfl))) (mvT hZ (hw _ (List.mem_of_getElem? (i := 155) rfl))) (mvT hZ (hw _ (List.mem_of_getElem? (i := 156) rfl))) (mvT hZ (hw _ (List.mem_of_getElem? (i := 157) rfl))) (mvT hZ (hw _ (List.mem_of_getElem? (i := 158) rfl))) (mvT hZ (hw _ (List.mem_of_getElem? (i := 122) rfl))) (by decide) (backOf (W := 1) (rm24t1_2 l Z a0 hw [] o22 y73_x0 c73_k0 y11_x0 y16_x0 h147 n0 zs157 (fs141.keep K147q) (fs143.keep K147q nin0) (fs144.keep K147q nin0) (fs145.keep K147q nin0)) hZ (hw _ (List.mem_of_getElem? (i := 159) rfl)) (hw _ (List.mem_of_getElem? (i := 28) rfl)) (by decide) (by decide)) q170a q170b q170c (g := (mkF m 273 #[.val (.long q1), .second, .val (.long q2), .second, .val (.int p3), .val (.int p4), .val (.ref y2_x0), .val (.ref y4_x0), .val (.ref y8_x0), .val (.ref y11_x0), .val (.ref y16_x0), .val (.int (((p4.toUInt32 >>> ((16 : Int32) &&& 31).toUInt32).toInt32) &&& (3 : Int32))), .val (.ref o22), .val (.int (2 : Int32)), .val (.ref o130), .val (.ref y147_x0), .val (.ref o22)] [(.int (1 : Int32)), (.ref o22), (.ref y16_x0)])) rfl (by rw [hml]; rfl) (Steps.refl _) (argsL := [(.int (1 : Int32))]) (rest := [(.ref y16_x0)]) (lenOf pd_9 rfl) rfl (by show 2 * 0 + _ ≤ _; exact Nat.le_of_eq rfl) (hb hby at_273) (fun _ _ => ⟨rfl, e169, (by decide : 14 + 0 ≤ _), (by decide : 48 + 0 ≤ _)⟩)
          dsimp only [Pt.U, Pt.locs, Pt.cells, Pt.slots] at X170 l170 y170 z170 st170 hQ170
          replace X170 : Stand p l e room_1 s m #[(.long q1), (.long q2), (.int p3), (.int p4)] below meth c T170 _ 14 48 := own_mv X170 l170 y170 z170
          clear l170 y170 z170
          obtain ⟨⟨rfl, e170'⟩, N170q⟩ := hQ170
          have e170 : T170.heap = h147 := e170'
          have N170 := Fr.app N169 N170q
          refine go (fun t k => st170.trans k) ?_
          show Gl _ _ _ _ _ _ _ _ (T170.setTop (mkF m 278 #[.val (.long q1), .second, .val (.long q2), .second, .val (.int p3), .val (.int p4), .val (.ref y2_x0), .val (.ref y4_x0), .val (.ref y8_x0), .val (.ref y11_x0), .val (.ref y16_x0), .val (.int (((p4.toUInt32 >>> ((16 : Int32) &&& 31).toUInt32).toInt32) &&& (3 : Int32))), .val (.ref o22), .val (.int (2 : Int32)), .val (.ref o130), .val (.ref y147_x0), .val (.ref o22)] [(.ref y16_x0), (.ref y16_x0)]))
          obtain ⟨cq171, kq171, q171a, q171b, q171c⟩ := isOf hZ e170 (fs140.keep K147q)
          obtain ⟨_, _, ⟨T171, L171, k171, n171⟩, -, X171, ⟨Lc171, hQ171, l171, y171, z171⟩, st171⟩ := X170.virtualBack hx (y := (⟨"java/lang/String", "equals", "(Ljava/lang/Object;)Z"⟩ : MethodName)) (z := (⟨"java/lang/String", "equals", "(Ljava/lang/Object;)Z"⟩ : MethodName)) hown (mvT hZ (hw _ (List.mem_of_getElem? (i := 96) rfl))) (mvT hZ (hw _ (List.mem_of_getElem? (i := 97) rfl))) (notFace_of_selects (args := #[]) (mvT hZ (hw _ (List.mem_of_getElem? (i := 99) rfl)))) (mvT hZ (hw _ (List.mem_of_getElem? (i := 99) rfl))) (mvT hZ (hw _ (List.mem_of_getElem? (i := 98) rfl))) (by decide) (backOf (W := 0) (rm15 l Z a0 hw [] y16_x0 h147 n0 zs157 ) hZ (hw _ (List.mem_of_getElem? (i := 100) rfl)) (hw _ (List.mem_of_getElem? (i := 2) rfl)) (by decide) (by decide)) q171a q171c (g := (mkF m 278 #[.val (.long q1), .second, .val (.long q2), .second, .val (.int p3), .val (.int p4), .val (.ref y2_x0), .val (.ref y4_x0), .val (.ref y8_x0), .val (.ref y11_x0), .val (.ref y16_x0), .val (.int (((p4.toUInt32 >>> ((16 : Int32) &&& 31).toUInt32).toInt32) &&& (3 : Int32))), .val (.ref o22), .val (.int (2 : Int32)), .val (.ref o130), .val (.ref y147_x0), .val (.ref o22)] [(.ref y16_x0), (.ref y16_x0)])) rfl (by rw [hml]; rfl) (Steps.refl _) (argsL := [(.ref y16_x0)]) (rest := []) (lenOf pd_16 rfl) rfl (by show 2 * 0 + _ ≤ _; exact Nat.le_of_eq rfl) (hb hby at_278) (fun _ _ => ⟨rfl, e170, (by decide : 14 + 0 ≤ _), (by decide : 48 + 0 ≤ _)⟩)
          dsimp only [Pt.U, Pt.locs, Pt.cells, Pt.slots] at X171 l171 y171 z171 st171 hQ171
          replace X171 : Stand p l e room_1 s m #[(.long q1), (.long q2), (.int p3), (.int p4)] below meth c T171 _ 14 48 := own_mv X171 l171 y171 z171
          clear l171 y171 z171
          obtain ⟨⟨rfl, e171'⟩, N171q⟩ := hQ171
          have e171 : T171.heap = h147 := e171'
          have N171 := Fr.app N170 N171q
          refine go (fun t k => st171.trans k) ?_
          show Gl _ _ _ _ _ _ _ _ (T171.setTop (mkF m 281 #[.val (.long q1), .second, .val (.long q2), .second, .val (.int p3), .val (.int p4), .val (.ref y2_x0), .val (.ref y4_x0), .val (.ref y8_x0), .val (.ref y11_x0), .val (.ref y16_x0), .val (.int (((p4.toUInt32 >>> ((16 : Int32) &&& 31).toUInt32).toInt32) &&& (3 : Int32))), .val (.ref o22), .val (.int (2 : Int32)), .val (.ref o130), .val (.ref y147_x0), .val (.ref o22)] [(.int (1 : Int32))]))
          refine go (fun t k => XS.ifYes X171.here hx rfl (pc0 := 281) (pc' := 286) rfl (hb hby at_281) rfl ((if0 _ _).trans (feq (by decide : ¬ ((1 : Int32) = (0 : Int32)))).2) (by decide) (by decide) k) ?_
          show Gl _ _ _ _ _ _ _ _ (T171.setTop (mkF m 286 #[.val (.long q1), .second, .val (.long q2), .second, .val (.int p3), .val (.int p4), .val (.ref y2_x0), .val (.ref y4_x0), .val (.ref y8_x0), .val (.ref y11_x0), .val (.ref y16_x0), .val (.int (((p4.toUInt32 >>> ((16 : Int32) &&& 31).toUInt32).toInt32) &&& (3 : Int32))), .val (.ref o22), .val (.int (2 : Int32)), .val (.ref o130), .val (.ref y147_x0), .val (.ref o22)] []))
          refine go (fun t k => XS.iconst X171.here hx rfl (hb hby at_286) k) ?_
          show Gl _ _ _ _ _ _ _ _ (T171.setTop (mkF m 287 #[.val (.long q1), .second, .val (.long q2), .second, .val (.int p3), .val (.int p4), .val (.ref y2_x0), .val (.ref y4_x0), .val (.ref y8_x0), .val (.ref y11_x0), .val (.ref y16_x0), .val (.int (((p4.toUInt32 >>> ((16 : Int32) &&& 31).toUInt32).toInt32) &&& (3 : Int32))), .val (.ref o22), .val (.int (2 : Int32)), .val (.ref o130), .val (.ref y147_x0), .val (.ref o22)] [(.int (1 : Int32))]))
          exact endN X171 hx Bd (t := .boolean) (by simp) (hb hby at_287) ⟨rfl, trivial⟩ N171 (by decide) (by decide)
        · refine go (fun t k => XS.ifNo X159.here hx rfl (hb hby at_167) rfl ((if0 _ _).trans (feq (mt (lw_eq q1 q1).mp hc167)).1) k) ?_
          show Gl _ _ _ _ _ _ _ _ (T159.setTop (mkF m 170 #[.val (.long q1), .second, .val (.long q2), .second, .val (.int p3), .val (.int p4), .val (.ref y2_x0), .val (.ref y4_x0), .val (.ref y8_x0), .val (.ref y11_x0), .val (.ref y16_x0), .val (.int (((p4.toUInt32 >>> ((16 : Int32) &&& 31).toUInt32).toInt32) &&& (3 : Int32))), .val (.ref o22), .val (.int (2 : Int32)), .val (.ref o130), .val (.ref y147_x0), .unset] []))
          refine go (fun t k => XS.iconst X159.here hx rfl (hb hby at_170) k) ?_
          show Gl _ _ _ _ _ _ _ _ (T159.setTop (mkF m 171 #[.val (.long q1), .second, .val (.long q2), .second, .val (.int p3), .val (.int p4), .val (.ref y2_x0), .val (.ref y4_x0), .val (.ref y8_x0), .val (.ref y11_x0), .val (.ref y16_x0), .val (.int (((p4.toUInt32 >>> ((16 : Int32) &&& 31).toUInt32).toInt32) &&& (3 : Int32))), .val (.ref o22), .val (.int (2 : Int32)), .val (.ref o130), .val (.ref y147_x0), .unset] [(.int (0 : Int32))]))
          exact endN X159 hx Bd (t := .boolean) (by simp) (hb hby at_171) ⟨rfl, trivial⟩ N159 (by decide) (by decide)
      · refine go (fun t k => XS.ifNo X158.here hx rfl (hb hby at_155) rfl ((if0 _ _).trans (feq (mt (lw_eq q2 q2).mp hc155)).1) k) ?_
        show Gl _ _ _ _ _ _ _ _ (T158.setTop (mkF m 158 #[.val (.long q1), .second, .val (.long q2), .second, .val (.int p3), .val (.int p4), .val (.ref y2_x0), .val (.ref y4_x0), .val (.ref y8_x0), .val (.ref y11_x0), .val (.ref y16_x0), .val (.int (((p4.toUInt32 >>> ((16 : Int32) &&& 31).toUInt32).toInt32) &&& (3 : Int32))), .val (.ref o22), .val (.int (2 : Int32)), .val (.ref o130), .val (.ref y147_x0), .unset] []))
        refine go (fun t k => XS.iconst X158.here hx rfl (hb hby at_158) k) ?_
        show Gl _ _ _ _ _ _ _ _ (T158.setTop (mkF m 159 #[.val (.long q1), .second, .val (.long q2), .second, .val (.int p3), .val (.int p4), .val (.ref y2_x0), .val (.ref y4_x0), .val (.ref y8_x0), .val (.ref y11_x0), .val (.ref y16_x0), .val (.int (((p4.toUInt32 >>> ((16 : Int32) &&& 31).toUInt32).toInt32) &&& (3 : Int32))), .val (.ref o22), .val (.int (2 : Int32)), .val (.ref o130), .val (.ref y147_x0), .unset] [(.int (0 : Int32))]))
        exact endN X158 hx Bd (t := .boolean) (by simp) (hb hby at_159) ⟨rfl, trivial⟩ N158 (by decide) (by decide)
theorem own_not0 {t : Term} {a0 : Array Value} {s : State} {cs : Int32} (h : t.eval a0 s none [] s = some (.int cs)) (hn : (Jvm.Cond.not (Jvm.Cond.eq t (.int (0 : Int32)))).value a0 s none s [] = some true) : ¬ (cs = (0 : Int32)) := by
  intro e
  subst e
  simp [Cond.value, Term.eval, h] at hn
theorem own_len0 {args : Array Value} {s : State} {t : Term} {a : Addr} {cell : Cell} (ht : t.eval args s none [] s = some (.ref a)) (hc : s.arrayAt? a = some cell) (h : (Term.length t).eval args s none [] s = some (.int (0 : Int32))) : cell.slots.size = 0 := by
  by_cases hl : cell.slots.size < 2 ^ 31
  · have q := (len_f ht hc hl).symm.trans h
    have q2 : cell.slots.size.toInt32 = 0 := by injection q with q; injection q
    have q3 := len_toInt hl
    rw [q2] at q3; simp only [Int32.reduceToInt] at q3; omega
  · simp [Term.eval, ht, hc, hl] at h
theorem own_arv0 {Z : State} {h : Heap} {a : Addr} {cl : Cell} {ty : FieldType} (A : Arr Z h a cl ty) (hl : cl.slots.size = 0) : Arv Z h a cl.cls ty (0 : Int32) [] .null :=
  ⟨cl, A, rfl, hl, by decide, fun k hk => absurd hk (by rw [hl]; exact Nat.not_lt_zero k), fun k hk => absurd hk (by rw [hl]; exact Nat.not_lt_zero k)⟩
--@@LAW
theorem law_eq (q1 q2 : Int64) (p4 : Int32) : b0_0 q1 q2 p4 = 1 := by
  have k : nar .boolean (1 : Int32) = 1 := rfl
  unfold b0_0
  simp only [k, if_true, ite_self]
set_option maxRecDepth 65536 in
set_option maxHeartbeats 40000000 in
theorem comes_1 {Post : Tables → Env → Array Value → State → Outcome → State → Prop} (hpost : ∀ tb e args s v u, (limb_1_1.after args s (.returned v) u = true ∧ limb_1_2.after args s (.returned v) u = true ∧ True) → FrameEnd s (.returned v) u (Jvm.fieldLocs frame_1_writes args s ++ Jvm.arrayLocs frame_1_arrays args s ++ Jvm.staticLocs frame_1_statics s) 40 192 → Post tb e args s (.returned v) u) :
    ArmFor flags0 classFile x code maxLocals ret World_1 tables_1 room_1 Calls_1 rest_1 Pre_1 Post := by
  intro l hfl _ _ p e ha hc hk s m args below hf hA hF happ hP
  obtain ⟨hcalls, hrest, hpre⟩ := hP
  obtain ⟨-, -, -, hnamed, -, -, -, hat⟩ := (Spec.applies_iff hf).mp happ
  obtain ⟨hg, hn⟩ := and_e (Cond.before_iff.mp (show (Jvm.Cond.and given_1 narrow_1).before args s = true from hpre))
  obtain ⟨g1, g2⟩ := and_e hg
  obtain ⟨g3, g4⟩ := and_e g2
  obtain ⟨g5, g6⟩ := and_e g4
  obtain ⟨g7, g8⟩ := and_e g6
  obtain ⟨w0, w1, w2, w3, rfl⟩ : ∃ w0 w1 w2 w3 : Value, args = #[w0, w1, w2, w3] := by
    have hs : args.size = 4 := by simpa [Cond.value, given_1] using g1
    obtain ⟨L⟩ := args
    match L, hs with
    | [w0, w1, w2, w3], _ => exact ⟨w0, w1, w2, w3, rfl⟩
  have hw := fun d (hd : d ∈ tables_1) => atoms_spec (ws := Jvm.Cond.code x code maxLocals ret :: tables_1) hat d (List.mem_cons_of_mem _ hd)
  have hfit : Fit s := fun {y c} hc i hi => by
    obtain ⟨ha, rfl⟩ := Array.getElem?_eq_some_iff.mp hc
    have q := List.all_eq_true.mp ((Array.all_eq_true_iff_forall_mem.mp hF) _ (Array.getElem_mem ha)) i (List.mem_range.mpr hi)
    simpa [Array.getElem?_eq_getElem hi] using q
  obtain ⟨i0, ei0⟩ := isL_v g3
  obtain rfl : w0 = (.long i0) := Option.some.inj ei0
  obtain ⟨i1, ei1⟩ := isL_v g5
  obtain rfl : w1 = (.long i1) := Option.some.inj ei1
  obtain ⟨i2, ei2⟩ := is_v g7
  obtain rfl : w2 = (.int i2) := Option.some.inj ei2
  obtain ⟨i3, ei3⟩ := is_v g8
  obtain rfl : w3 = (.int i3) := Option.some.inj ei3
  obtain ⟨hsets, hown0⟩ := atoms_of _ (rest_1_c_eq ▸ (show rest_1_c.before _ s = true from hrest))
  obtain ⟨cs, ecs⟩ := is_v (Cond.before_iff.mp (hsets _ (List.mem_of_getElem? (i := 1) rfl)))
  have hcs : ¬ (cs = (0 : Int32)) := own_not0 ecs (Cond.before_iff.mp (hsets _ (List.mem_of_getElem? (i := 2) rfl)))
  have S_C : Sta s s.heap "java/lang/String" "COMPACT_STRINGS" "Z" (.int cs) := Sta.start ecs (Or.inl (hsets _ (List.mem_of_getElem? (i := 0) rfl)))
  have md := Cond.before_iff.mp (hsets _ (List.mem_of_getElem? (i := 15) rfl))
  obtain ⟨wd, ed⟩ := arr_v md
  obtain ⟨cd, Ard⟩ := Arr.start ed md
  have hAt : s.arrayAt? wd = some cd := Arr.fin (Vm.Alike.refl _) Ard
  have hl0 := own_len0 ed hAt (eqI_v (Cond.before_iff.mp (hsets _ (List.mem_of_getElem? (i := 17) rfl))))
  have S_D : Sta s s.heap "java/util/ArrayList" "DEFAULTCAPACITY_EMPTY_ELEMENTDATA" "[Ljava/lang/Object;" (.ref wd) := Sta.start ed (Or.inr ⟨(hw _ (List.mem_of_getElem? (i := 28) rfl)), (hsets _ (List.mem_of_getElem? (i := 11) rfl))⟩)
  have V_d := own_arv0 Ard hl0
  obtain ⟨n, o, h1, h2, h3, _, L, rfl, ⟨⟨hv, -⟩, N⟩, hq⟩ := rm0 l s _ hw tables_1 i0 i1 i2 i3 cs wd cd.cls s.heap s.heap.size (Nat.le_refl _) S_C S_D V_d hcs p e ha hc hk s m _ below hf ((Spec.applies_iff_loose hf).mp happ).1 ⟨rfl, State.Warmed39.refl s, rfl⟩ trivial
  rw [law_eq] at hv
  subst hv
  refine ⟨n, _, h1, h2, h3, hpost _ _ _ _ _ _ ⟨Cond.after_iff.mpr rfl, Cond.after_iff.mpr (eq_i res_at (Term.int_eval (1)) rfl), trivial⟩ ⟨hq.1, hq.2.1, (hq.2.2.sift fun y hy => Or.inr (N y hy)).mono (by decide) (by decide)⟩⟩
theorem main_1_1 : Claimed_1_1 := comes_1 fun _ _ _ _ _ _ h hF => ⟨h.1, hF⟩
theorem main_1_2 : Claimed_1_2 := comes_1 fun _ _ _ _ _ _ h hF => ⟨h.2.1, hF⟩
end Jvm.Pilot.@@N@@
namespace Jvm.Pilot.@@N@@
open Jvm Jvm.ClassFile Sem Op Lib Jvm.Free Jvm.Stand Jvm.Pilot.@@N@@.Jvm.D
/-! MADE BY PROGRAM (witnessworld.py) out of the Statement's table words and the real class files: 29 classes; the members and pool entries that the words name. The judged class is class 1, her method 1. -/
namespace start1
open Jvm.ClassFile
def u (s : String) : CpInfo := .utf8 (stringToUtf16 s)
/-- a pool by its gaps: so many unusable entries, then the entry; so many at the end -/
def gap : Nat → List CpInfo → List CpInfo
  | 0, r => r
  | n + 1, r => .unusable :: gap n r
def poolList (es : List (Nat × CpInfo)) (last : Nat) : List CpInfo := es.foldr (fun e r => gap e.1 (e.2 :: r)) (gap last [])
def pool (es : List (Nat × CpInfo)) (last : Nat) : Array CpInfo := ⟨poolList es last⟩
def fileOf (pool : Array CpInfo) (this : Nat) (attrs : Array Attribute := #[]) (ms : Array MethodInfo := #[]) (fl : Nat := 33) (sup : Nat := 0) (ifs : Array Nat := #[]) (fds : Array FieldInfo := #[]) : ClassFile where
  minorVersion := 0
  majorVersion := 65
  constantPool := pool
  accessFlags := fl
  thisClass := this
  superClass := sup
  interfaces := ifs
  fields := fds
  methods := ms
  attributes := attrs
def plain (name : String) (sup : Option ClassId) : Class where
  name := name
  kind := .ordinary
  loader := none
  accessFlags := 33
  super := sup
  interfaces := #[]
  cf := none
  fields := #[]
  methods := #[]
  instanceTypes := #[]
  staticTypes := #[]
  resolved := #[]
  callSites := []
  init := .initialized
  statics := none
  mirror := none

def pool0 : Array CpInfo := pool [(5, u "<init>"), (0, u "()V"), (1, .class_ 10), (1, u "java/lang/Object")] 113

def k0c0 : Code := { maxStack := 0, maxLocals := 1, code := object_method_1_code, exceptionTable := #[], attributes := #[] }
def k0m0 : Method := { name := "<init>", desc := "()V", sig := { parameters := [], returnType := none }, accessFlags := 1, code := some k0c0 }
/-- java/lang/Object -/
def k0 : Class := { plain "java/lang/Object" none with
  accessFlags := 33
  interfaces := #[]
  cf := some (fileOf pool0 8 #[] #[{ accessFlags := 1, nameIndex := 5, descriptorIndex := 6, attributes := #[] }] 33 0 #[] #[])
  fields := #[]
  methods := #[k0m0]
  instanceTypes := #[]
  staticTypes := #[]
  resolved := Array.replicate 124 none
  statics := none }

def pool1 : Array CpInfo := pool [(2, .class_ 4), (0, .nameAndType 5 6), (0, u "java/lang/Object"), (0, u "<init>"), (0, u "()V"), (0, .methodref 8 9), (0, .class_ 10), (0, .nameAndType 11 12), (0, u "java/lang/String"), (0, u "valueOf"), (0, u "(C)Ljava/lang/String;"), (0, .class_ 14), (0, u "java/util/ArrayList"), (0, .methodref 13 3), (0, .methodref 13 17), (0, .nameAndType 18 19), (0, u "add"), (0, u "(Ljava/lang/Object;)Z"), (0, .methodref 13 21), (0, .nameAndType 22 23), (0, u "size"), (0, u "()I"), (0, .class_ 25), (0, u "com/example/leasehold/server/Watches$Kept"), (0, .methodref 24 27), (0, .nameAndType 5 28), (0, u "(Ljava/lang/String;Ljava/lang/String;Ljava/lang/String;Ljava/util/List;J)V"), (0, .methodref 24 30), (0, .nameAndType 31 32), (0, u "reserving"), (0, u "(J)Lcom/example/leasehold/server/Watches$Kept;"), (0, .methodref 24 34), (0, .nameAndType 35 36), (0, u "reserved"), (0, u "()J"), (0, .methodref 24 38), (0, .nameAndType 39 40), (0, u "watched"), (0, u "()Ljava/lang/String;"), (0, .methodref 8 42), (0, .nameAndType 43 19), (0, u "equals"), (0, .methodref 24 45), (0, .nameAndType 46 40), (0, u "id"), (0, .methodref 24 48), (0, .nameAndType 49 40), (0, u "handback"), (0, .methodref 24 51), (0, .nameAndType 52 53), (0, u "beside"), (0, u "()Ljava/util/List;"), (0, .interfaceMethodref 55 21), (0, .class_ 56), (0, u "java/util/List"), (0, .interfaceMethodref 55 58), (0, .nameAndType 59 60), (0, u "get"), (0, u "(I)Ljava/lang/Object;"), (0, .class_ 62), (0, u "com/example/leasehold/server/KeptReservingPinLaw"), (2, u "law"), (0, u "(JJII)Z")] 7

def k1m0 : Method := { name := "<init>", desc := "()V", sig := { parameters := [], returnType := none }, accessFlags := 1, code := none }
def k1c1 : Code := { maxStack := 8, maxLocals := 17, code := code, exceptionTable := #[], attributes := #[] }
def k1m1 : Method := { name := "law", desc := "(JJII)Z", sig := { parameters := [.long, .long, .int, .int], returnType := some .boolean }, accessFlags := 9, code := some k1c1 }
/-- com/example/leasehold/server/KeptReservingPinLaw -/
def k1 : Class := { plain "com/example/leasehold/server/KeptReservingPinLaw" (some 0) with
  accessFlags := 49
  interfaces := #[]
  cf := some (fileOf pool1 61 #[] #[{ accessFlags := 1, nameIndex := 5, descriptorIndex := 6, attributes := #[] }, { accessFlags := 9, nameIndex := 65, descriptorIndex := 66, attributes := #[] }] 49 2 #[] #[])
  fields := #[]
  methods := #[k1m0, k1m1]
  instanceTypes := #[]
  staticTypes := #[]
  resolved := Array.replicate 74 none
  statics := none }

def pool2 : Array CpInfo := pool [(1, .class_ 2), (0, u "java/io/Serializable"), (0, .class_ 4), (0, u "java/lang/Object")] 2

/-- java/io/Serializable -/
def k2 : Class := { plain "java/io/Serializable" (some 0) with
  accessFlags := 1537
  interfaces := #[]
  cf := some (fileOf pool2 1 #[] #[] 1537 3 #[] #[])
  fields := #[]
  methods := #[]
  instanceTypes := #[]
  staticTypes := #[]
  resolved := Array.replicate 7 none
  statics := none }

def pool3 : Array CpInfo := pool [(1, .class_ 2), (0, u "java/lang/Comparable"), (0, .class_ 4), (0, u "java/lang/Object")] 7

/-- java/lang/Comparable -/
def k3 : Class := { plain "java/lang/Comparable" (some 0) with
  accessFlags := 1537
  interfaces := #[]
  cf := some (fileOf pool3 1 #[] #[] 1537 3 #[] #[])
  fields := #[]
  methods := #[]
  instanceTypes := #[]
  staticTypes := #[]
  resolved := Array.replicate 12 none
  statics := none }

def pool4 : Array CpInfo := pool [(2, .class_ 4), (1, u "java/lang/CharSequence"), (42, .class_ 48), (0, u "java/lang/CharSequence$1CodePointIterator"), (10, .class_ 60), (0, u "java/lang/CharSequence$1CharIterator"), (5, .class_ 67), (0, u "java/lang/Object")] 63

/-- java/lang/CharSequence -/
def k4 : Class := { plain "java/lang/CharSequence" (some 0) with
  accessFlags := 1537
  interfaces := #[]
  cf := some (fileOf pool4 2 #[.nestMembers #[47, 59]] #[] 1537 66 #[] #[])
  fields := #[]
  methods := #[]
  instanceTypes := #[]
  staticTypes := #[]
  resolved := Array.replicate 131 none
  statics := none }

def pool5 : Array CpInfo := pool [(1, .class_ 2), (0, u "java/lang/constant/Constable"), (0, .class_ 4), (0, u "java/lang/Object")] 6

/-- java/lang/constant/Constable -/
def k5 : Class := { plain "java/lang/constant/Constable" (some 0) with
  accessFlags := 1537
  interfaces := #[]
  cf := some (fileOf pool5 1 #[] #[] 1537 3 #[] #[])
  fields := #[]
  methods := #[]
  instanceTypes := #[]
  staticTypes := #[]
  resolved := Array.replicate 11 none
  statics := none }

def pool6 : Array CpInfo := pool [(1, .class_ 2), (0, u "java/lang/constant/ConstantDesc"), (0, .class_ 4), (0, u "java/lang/Object")] 32

/-- java/lang/constant/ConstantDesc -/
def k6 : Class := { plain "java/lang/constant/ConstantDesc" (some 0) with
  accessFlags := 1537
  interfaces := #[]
  cf := some (fileOf pool6 1 #[] #[] 1537 3 #[] #[])
  fields := #[]
  methods := #[]
  instanceTypes := #[]
  staticTypes := #[]
  resolved := Array.replicate 37 none
  statics := none }

def pool7 : Array CpInfo := pool [(1, .methodref 2 3), (0, .class_ 4), (0, .nameAndType 5 6), (0, u "java/lang/Object"), (0, u "<init>"), (0, u "()V"), (2, .fieldref 10 11), (0, .class_ 12), (0, .nameAndType 13 14), (0, u "java/lang/String"), (0, u "value"), (0, u "[B"), (0, .fieldref 10 16), (0, .nameAndType 17 18), (0, u "coder"), (0, u "B"), (2, u "hash"), (0, u "I"), (2, u "hashIsZero"), (0, u "Z"), (11, .fieldref 10 39), (0, .nameAndType 40 26), (0, u "COMPACT_STRINGS"), (12, u "toBytes"), (53, .class_ 109), (1, u "java/lang/StringLatin1"), (99, .methodref 10 210), (0, .nameAndType 5 211), (0, u "([BB)V"), (157, u "(C)Z"), (173, u "equals"), (29, u "(Ljava/lang/Object;)Z"), (1, .class_ 576), (0, u "java/lang/CharSequence"), (22, u "CASE_INSENSITIVE_ORDER"), (0, u "Ljava/util/Comparator;"), (181, u "valueOf"), (0, u "(C)Ljava/lang/String;"), (231, .methodref 107 1016), (0, .nameAndType 1017 369), (0, u "canEncode"), (0, .methodref 107 1019), (0, .nameAndType 53 1020), (0, u "(C)[B"), (80, u "serialPersistentFields"), (0, u "[Ljava/io/ObjectStreamField;"), (0, .class_ 1104), (0, u "java/lang/String$CaseInsensitiveComparator"), (1, .class_ 1107), (0, u "java/io/Serializable"), (0, .class_ 1109), (0, u "java/lang/Comparable"), (0, .class_ 1111), (0, u "java/lang/constant/Constable"), (0, .class_ 1113), (0, u "java/lang/constant/ConstantDesc"), (2, u "serialVersionUID"), (0, u "J"), (3, u "REPL"), (0, u "C"), (2, u "LATIN1"), (1, u "UTF16")] 323

def k7m0 : Method := { name := "<init>", desc := "()V", sig := { parameters := [], returnType := none }, accessFlags := 1, code := none }
def k7c1 : Code := { maxStack := 2, maxLocals := 3, code := jdk_42_method_66_code, exceptionTable := #[], attributes := #[] }
def k7m1 : Method := { name := "equals", desc := "(Ljava/lang/Object;)Z", sig := { parameters := [(.object "java/lang/Object")], returnType := some .boolean }, accessFlags := 1, code := some k7c1 }
def k7c2 : Code := { maxStack := 4, maxLocals := 1, code := jdk_42_method_139_code, exceptionTable := #[], attributes := #[] }
def k7m2 : Method := { name := "valueOf", desc := "(C)Ljava/lang/String;", sig := { parameters := [.char], returnType := some (.object "java/lang/String") }, accessFlags := 9, code := some k7c2 }
def k7c3 : Code := { maxStack := 2, maxLocals := 3, code := jdk_42_method_151_code, exceptionTable := #[], attributes := #[] }
def k7m3 : Method := { name := "<init>", desc := "([BB)V", sig := { parameters := [(.array .byte), .byte], returnType := none }, accessFlags := 0, code := some k7c3 }
/-- java/lang/String -/
def k7 : Class := { plain "java/lang/String" (some 0) with
  accessFlags := 49
  interfaces := #[2, 3, 4, 5, 6]
  cf := some (fileOf pool7 10 #[.nestMembers #[1103]] #[{ accessFlags := 1, nameIndex := 5, descriptorIndex := 6, attributes := #[] }, { accessFlags := 1, nameIndex := 543, descriptorIndex := 573, attributes := #[] }, { accessFlags := 9, nameIndex := 782, descriptorIndex := 783, attributes := #[] }, { accessFlags := 0, nameIndex := 5, descriptorIndex := 211, attributes := #[] }] 49 2 #[1106, 1108, 575, 1110, 1112] #[{ accessFlags := 18, nameIndex := 13, descriptorIndex := 14, attributes := #[] }, { accessFlags := 18, nameIndex := 17, descriptorIndex := 18, attributes := #[] }, { accessFlags := 2, nameIndex := 21, descriptorIndex := 22, attributes := #[] }, { accessFlags := 2, nameIndex := 25, descriptorIndex := 26, attributes := #[] }, { accessFlags := 26, nameIndex := 1116, descriptorIndex := 1117, attributes := #[] }, { accessFlags := 24, nameIndex := 40, descriptorIndex := 26, attributes := #[] }, { accessFlags := 26, nameIndex := 1101, descriptorIndex := 1102, attributes := #[] }, { accessFlags := 26, nameIndex := 1121, descriptorIndex := 1122, attributes := #[] }, { accessFlags := 25, nameIndex := 599, descriptorIndex := 600, attributes := #[] }, { accessFlags := 24, nameIndex := 1125, descriptorIndex := 18, attributes := #[] }, { accessFlags := 24, nameIndex := 1127, descriptorIndex := 18, attributes := #[] }])
  fields := #[{ name := "value", type := (.array .byte), accessFlags := 18, slot := 0, constantValue := 0 }, { name := "coder", type := .byte, accessFlags := 18, slot := 1, constantValue := 0 }, { name := "hash", type := .int, accessFlags := 2, slot := 2, constantValue := 0 }, { name := "hashIsZero", type := .boolean, accessFlags := 2, slot := 3, constantValue := 0 }, { name := "serialVersionUID", type := .long, accessFlags := 26, slot := 0, constantValue := 0 }, { name := "COMPACT_STRINGS", type := .boolean, accessFlags := 24, slot := 1, constantValue := 0 }, { name := "serialPersistentFields", type := (.array (.object "java/io/ObjectStreamField")), accessFlags := 26, slot := 2, constantValue := 0 }, { name := "REPL", type := .char, accessFlags := 26, slot := 3, constantValue := 0 }, { name := "CASE_INSENSITIVE_ORDER", type := (.object "java/util/Comparator"), accessFlags := 25, slot := 4, constantValue := 0 }, { name := "LATIN1", type := .byte, accessFlags := 24, slot := 5, constantValue := 0 }, { name := "UTF16", type := .byte, accessFlags := 24, slot := 6, constantValue := 0 }]
  methods := #[k7m0, k7m1, k7m2, k7m3]
  instanceTypes := #[(.array .byte), .byte, .int, .boolean]
  staticTypes := #[.long, .boolean, (.array (.object "java/io/ObjectStreamField")), .char, (.object "java/util/Comparator"), .byte, .byte]
  resolved := Array.replicate 1451 none
  statics := some 0 }

def pool8 : Array CpInfo := pool [(4, .class_ 6), (1, u "java/lang/Object"), (0, u "<init>"), (0, u "()V"), (5, .class_ 16), (1, u "java/lang/StringLatin1"), (73, u "canEncode"), (14, u "(C)Z"), (15, u "$assertionsDisabled"), (0, u "Z"), (98, .class_ 223), (1, u "java/lang/StringLatin1$LinesSpliterator"), (156, u "toBytes"), (1, u "(C)[B"), (7, .class_ 391), (0, u "java/lang/StringLatin1$CharsSpliterator")] 3

def k8m0 : Method := { name := "<init>", desc := "()V", sig := { parameters := [], returnType := none }, accessFlags := 0, code := none }
def k8c1 : Code := { maxStack := 2, maxLocals := 1, code := jdk_43_method_3_code, exceptionTable := #[], attributes := #[] }
def k8m1 : Method := { name := "canEncode", desc := "(C)Z", sig := { parameters := [.char], returnType := some .boolean }, accessFlags := 9, code := some k8c1 }
def k8c2 : Code := { maxStack := 4, maxLocals := 1, code := jdk_43_method_46_code, exceptionTable := #[], attributes := #[] }
def k8m2 : Method := { name := "toBytes", desc := "(C)[B", sig := { parameters := [.char], returnType := some (.array .byte) }, accessFlags := 9, code := some k8c2 }
/-- java/lang/StringLatin1 -/
def k8 : Class := { plain "java/lang/StringLatin1" (some 0) with
  accessFlags := 48
  interfaces := #[]
  cf := some (fileOf pool8 14 #[.nestMembers #[390, 221]] #[{ accessFlags := 0, nameIndex := 7, descriptorIndex := 8, attributes := #[] }, { accessFlags := 9, nameIndex := 90, descriptorIndex := 105, attributes := #[] }, { accessFlags := 9, nameIndex := 380, descriptorIndex := 382, attributes := #[] }] 48 4 #[] #[{ accessFlags := 4120, nameIndex := 121, descriptorIndex := 122, attributes := #[] }])
  fields := #[{ name := "$assertionsDisabled", type := .boolean, accessFlags := 4120, slot := 0, constantValue := 0 }]
  methods := #[k8m0, k8m1, k8m2]
  instanceTypes := #[]
  staticTypes := #[.boolean]
  resolved := Array.replicate 395 none
  statics := none }

def pool9 : Array CpInfo := pool [(8, .class_ 10), (1, u "java/lang/Iterable"), (24, .class_ 36), (0, u "java/lang/Object")] 25

/-- java/lang/Iterable -/
def k9 : Class := { plain "java/lang/Iterable" (some 0) with
  accessFlags := 1537
  interfaces := #[]
  cf := some (fileOf pool9 8 #[] #[] 1537 35 #[] #[])
  fields := #[]
  methods := #[]
  instanceTypes := #[]
  staticTypes := #[]
  resolved := Array.replicate 62 none
  statics := none }

def pool10 : Array CpInfo := pool [(10, .class_ 12), (1, u "java/util/Collection"), (47, .class_ 61), (0, u "java/lang/Object"), (0, .class_ 63), (0, u "java/lang/Iterable")] 51

/-- java/util/Collection -/
def k10 : Class := { plain "java/util/Collection" (some 0) with
  accessFlags := 1537
  interfaces := #[9]
  cf := some (fileOf pool10 10 #[] #[] 1537 60 #[62] #[])
  fields := #[]
  methods := #[]
  instanceTypes := #[]
  staticTypes := #[]
  resolved := Array.replicate 115 none
  statics := none }

def pool11 : Array CpInfo := pool [(1, .methodref 2 3), (0, .class_ 4), (0, .nameAndType 5 6), (0, u "java/lang/Object"), (0, u "<init>"), (0, u "()V"), (1, .class_ 10), (1, u "java/util/AbstractCollection"), (66, .class_ 78), (0, u "java/util/Collection")] 81

def k11c0 : Code := { maxStack := 1, maxLocals := 1, code := jdk_22_method_1_code, exceptionTable := #[], attributes := #[] }
def k11m0 : Method := { name := "<init>", desc := "()V", sig := { parameters := [], returnType := none }, accessFlags := 4, code := some k11c0 }
/-- java/util/AbstractCollection -/
def k11 : Class := { plain "java/util/AbstractCollection" (some 0) with
  accessFlags := 1057
  interfaces := #[10]
  cf := some (fileOf pool11 8 #[] #[{ accessFlags := 4, nameIndex := 5, descriptorIndex := 6, attributes := #[] }] 1057 2 #[77] #[])
  fields := #[]
  methods := #[k11m0]
  instanceTypes := #[]
  staticTypes := #[]
  resolved := Array.replicate 160 none
  statics := none }

def pool12 : Array CpInfo := pool [(8, .class_ 10), (1, u "java/util/SequencedCollection"), (15, .class_ 27), (0, u "java/lang/Object"), (0, .class_ 29), (0, u "java/util/Collection")] 27

/-- java/util/SequencedCollection -/
def k12 : Class := { plain "java/util/SequencedCollection" (some 0) with
  accessFlags := 1537
  interfaces := #[10]
  cf := some (fileOf pool12 8 #[] #[] 1537 26 #[28] #[])
  fields := #[]
  methods := #[]
  instanceTypes := #[]
  staticTypes := #[]
  resolved := Array.replicate 57 none
  statics := none }

def pool13 : Array CpInfo := pool [(8, .class_ 10), (1, u "java/util/List"), (64, u "get"), (0, u "(I)Ljava/lang/Object;"), (2, u "size"), (0, u "()I"), (22, .class_ 104), (0, u "java/lang/Object"), (15, .class_ 121), (0, u "java/util/SequencedCollection")] 129

def k13m0 : Method := { name := "size", desc := "()I", sig := { parameters := [], returnType := some .int }, accessFlags := 1025, code := none }
def k13m1 : Method := { name := "get", desc := "(I)Ljava/lang/Object;", sig := { parameters := [.int], returnType := some (.object "java/lang/Object") }, accessFlags := 1025, code := none }
/-- java/util/List -/
def k13 : Class := { plain "java/util/List" (some 0) with
  accessFlags := 1537
  interfaces := #[12]
  cf := some (fileOf pool13 8 #[] #[{ accessFlags := 1025, nameIndex := 79, descriptorIndex := 80, attributes := #[] }, { accessFlags := 1025, nameIndex := 75, descriptorIndex := 76, attributes := #[] }] 1537 103 #[120] #[])
  fields := #[]
  methods := #[k13m0, k13m1]
  instanceTypes := #[]
  staticTypes := #[]
  resolved := Array.replicate 251 none
  statics := none }

def pool14 : Array CpInfo := pool [(1, .methodref 2 3), (0, .class_ 4), (0, .nameAndType 5 6), (0, u "java/util/AbstractCollection"), (0, u "<init>"), (0, u "()V"), (0, .fieldref 8 9), (0, .class_ 10), (0, .nameAndType 11 12), (0, u "java/util/AbstractList"), (0, u "modCount"), (0, u "I"), (64, .class_ 78), (0, u "java/util/AbstractList$Itr"), (3, .class_ 83), (0, u "java/util/AbstractList$ListItr"), (9, .class_ 94), (0, u "java/util/AbstractList$RandomAccessSubList"), (3, .class_ 99), (0, u "java/util/AbstractList$SubList"), (33, .class_ 134), (0, u "java/util/List"), (73, .class_ 209), (0, u "java/util/AbstractList$SubList$1"), (0, .class_ 211), (0, u "java/util/AbstractList$RandomAccessSpliterator")] 6

def k14c0 : Code := { maxStack := 2, maxLocals := 1, code := jdk_39_method_1_code, exceptionTable := #[], attributes := #[] }
def k14m0 : Method := { name := "<init>", desc := "()V", sig := { parameters := [], returnType := none }, accessFlags := 4, code := some k14c0 }
/-- java/util/AbstractList -/
def k14 : Class := { plain "java/util/AbstractList" (some 11) with
  accessFlags := 1057
  interfaces := #[13]
  cf := some (fileOf pool14 8 #[.nestMembers #[93, 98, 208, 210, 82, 77]] #[{ accessFlags := 4, nameIndex := 5, descriptorIndex := 6, attributes := #[] }] 1057 2 #[133] #[{ accessFlags := 132, nameIndex := 11, descriptorIndex := 12, attributes := #[] }])
  fields := #[{ name := "modCount", type := .int, accessFlags := 132, slot := 0, constantValue := 0 }]
  methods := #[k14m0]
  instanceTypes := #[.int]
  staticTypes := #[]
  resolved := Array.replicate 218 none
  statics := none }

def pool15 : Array CpInfo := pool [(1, .class_ 2), (0, u "java/util/RandomAccess"), (0, .class_ 4), (0, u "java/lang/Object")] 2

/-- java/util/RandomAccess -/
def k15 : Class := { plain "java/util/RandomAccess" (some 0) with
  accessFlags := 1537
  interfaces := #[]
  cf := some (fileOf pool15 1 #[] #[] 1537 3 #[] #[])
  fields := #[]
  methods := #[]
  instanceTypes := #[]
  staticTypes := #[]
  resolved := Array.replicate 7 none
  statics := none }

def pool16 : Array CpInfo := pool [(1, .class_ 2), (0, u "java/lang/Cloneable"), (0, .class_ 4), (0, u "java/lang/Object")] 2

/-- java/lang/Cloneable -/
def k16 : Class := { plain "java/lang/Cloneable" (some 0) with
  accessFlags := 1537
  interfaces := #[]
  cf := some (fileOf pool16 1 #[] #[] 1537 3 #[] #[])
  fields := #[]
  methods := #[]
  instanceTypes := #[]
  staticTypes := #[]
  resolved := Array.replicate 7 none
  statics := none }

def pool17 : Array CpInfo := pool [(1, .methodref 2 3), (0, .class_ 4), (0, .nameAndType 5 6), (0, u "java/util/AbstractList"), (0, u "<init>"), (0, u "()V"), (0, .class_ 8), (0, u "java/lang/Object"), (0, .fieldref 10 11), (0, .class_ 12), (0, .nameAndType 13 14), (0, u "java/util/ArrayList"), (0, u "elementData"), (0, u "[Ljava/lang/Object;"), (2, u "EMPTY_ELEMENTDATA"), (21, .fieldref 10 40), (0, .nameAndType 41 14), (0, u "DEFAULTCAPACITY_EMPTY_ELEMENTDATA"), (5, u "()[Ljava/lang/Object;"), (0, .fieldref 10 49), (0, .nameAndType 50 51), (0, u "size"), (0, u "I"), (11, .fieldref 10 64), (0, .nameAndType 65 51), (0, u "modCount"), (3, .methodref 10 70), (0, .nameAndType 71 72), (0, u "grow"), (0, u "(I)[Ljava/lang/Object;"), (6, .methodref 80 81), (0, .class_ 82), (0, .nameAndType 83 84), (0, u "java/lang/Math"), (0, u "max"), (0, u "(II)I"), (11, u "(Ljava/lang/Object;)Z"), (21, .methodref 119 120), (0, .class_ 121), (0, .nameAndType 122 84), (0, u "java/util/Objects"), (0, u "checkIndex"), (0, .methodref 10 124), (0, .nameAndType 13 125), (0, u "(I)Ljava/lang/Object;"), (3, .methodref 10 130), (0, .nameAndType 71 47), (0, .methodref 10 132), (0, .nameAndType 133 134), (0, u "add"), (0, u "(Ljava/lang/Object;[Ljava/lang/Object;I)V"), (13, .class_ 149), (0, u "java/util/List"), (36, u "()I"), (75, .class_ 263), (0, u "java/util/ArrayList$ListItr"), (3, .class_ 268), (0, u "java/util/ArrayList$Itr"), (7, .class_ 277), (0, u "java/util/ArrayList$SubList"), (12, .class_ 291), (0, u "java/util/ArrayList$ArrayListSpliterator"), (37, .class_ 330), (0, u "java/util/RandomAccess"), (0, .class_ 332), (0, u "java/lang/Cloneable"), (0, .class_ 334), (0, u "java/io/Serializable"), (0, u "serialVersionUID"), (0, u "J"), (3, u "DEFAULT_CAPACITY"), (40, u "get"), (118, .class_ 501), (0, u "java/util/ArrayList$SubList$2"), (0, .class_ 503), (0, u "java/util/ArrayList$SubList$1")] 5

def k17c0 : Code := { maxStack := 2, maxLocals := 1, code := jdk_38_method_2_code, exceptionTable := #[], attributes := #[] }
def k17m0 : Method := { name := "<init>", desc := "()V", sig := { parameters := [], returnType := none }, accessFlags := 1, code := some k17c0 }
def k17c1 : Code := { maxStack := 4, maxLocals := 4, code := jdk_38_method_6_code, exceptionTable := #[], attributes := #[] }
def k17m1 : Method := { name := "grow", desc := "(I)[Ljava/lang/Object;", sig := { parameters := [.int], returnType := some (.array (.object "java/lang/Object")) }, accessFlags := 2, code := some k17c1 }
def k17c2 : Code := { maxStack := 3, maxLocals := 1, code := jdk_38_method_7_code, exceptionTable := #[], attributes := #[] }
def k17m2 : Method := { name := "grow", desc := "()[Ljava/lang/Object;", sig := { parameters := [], returnType := some (.array (.object "java/lang/Object")) }, accessFlags := 2, code := some k17c2 }
def k17c3 : Code := { maxStack := 1, maxLocals := 1, code := jdk_38_method_8_code, exceptionTable := #[], attributes := #[] }
def k17m3 : Method := { name := "size", desc := "()I", sig := { parameters := [], returnType := some .int }, accessFlags := 1, code := some k17c3 }
def k17c4 : Code := { maxStack := 2, maxLocals := 2, code := jdk_38_method_18_code, exceptionTable := #[], attributes := #[] }
def k17m4 : Method := { name := "elementData", desc := "(I)Ljava/lang/Object;", sig := { parameters := [.int], returnType := some (.object "java/lang/Object") }, accessFlags := 0, code := some k17c4 }
def k17c5 : Code := { maxStack := 2, maxLocals := 2, code := jdk_38_method_20_code, exceptionTable := #[], attributes := #[] }
def k17m5 : Method := { name := "get", desc := "(I)Ljava/lang/Object;", sig := { parameters := [.int], returnType := some (.object "java/lang/Object") }, accessFlags := 1, code := some k17c5 }
def k17c6 : Code := { maxStack := 3, maxLocals := 4, code := jdk_38_method_24_code, exceptionTable := #[], attributes := #[] }
def k17m6 : Method := { name := "add", desc := "(Ljava/lang/Object;[Ljava/lang/Object;I)V", sig := { parameters := [(.object "java/lang/Object"), (.array (.object "java/lang/Object")), .int], returnType := none }, accessFlags := 2, code := some k17c6 }
def k17c7 : Code := { maxStack := 4, maxLocals := 2, code := jdk_38_method_25_code, exceptionTable := #[], attributes := #[] }
def k17m7 : Method := { name := "add", desc := "(Ljava/lang/Object;)Z", sig := { parameters := [(.object "java/lang/Object")], returnType := some .boolean }, accessFlags := 1, code := some k17c7 }
/-- java/util/ArrayList -/
def k17 : Class := { plain "java/util/ArrayList" (some 14) with
  accessFlags := 33
  interfaces := #[13, 15, 16, 2]
  cf := some (fileOf pool17 10 #[.nestMembers #[290, 276, 500, 502, 262, 267]] #[{ accessFlags := 1, nameIndex := 5, descriptorIndex := 6, attributes := #[] }, { accessFlags := 2, nameIndex := 71, descriptorIndex := 72, attributes := #[] }, { accessFlags := 2, nameIndex := 71, descriptorIndex := 47, attributes := #[] }, { accessFlags := 1, nameIndex := 50, descriptorIndex := 186, attributes := #[] }, { accessFlags := 0, nameIndex := 13, descriptorIndex := 125, attributes := #[] }, { accessFlags := 1, nameIndex := 381, descriptorIndex := 125, attributes := #[] }, { accessFlags := 2, nameIndex := 133, descriptorIndex := 134, attributes := #[] }, { accessFlags := 1, nameIndex := 133, descriptorIndex := 96, attributes := #[] }] 33 2 #[148, 329, 331, 333] #[{ accessFlags := 26, nameIndex := 335, descriptorIndex := 336, attributes := #[] }, { accessFlags := 26, nameIndex := 340, descriptorIndex := 51, attributes := #[] }, { accessFlags := 26, nameIndex := 17, descriptorIndex := 14, attributes := #[] }, { accessFlags := 26, nameIndex := 41, descriptorIndex := 14, attributes := #[] }, { accessFlags := 128, nameIndex := 13, descriptorIndex := 14, attributes := #[] }, { accessFlags := 2, nameIndex := 50, descriptorIndex := 51, attributes := #[] }])
  fields := #[{ name := "serialVersionUID", type := .long, accessFlags := 26, slot := 0, constantValue := 0 }, { name := "DEFAULT_CAPACITY", type := .int, accessFlags := 26, slot := 1, constantValue := 0 }, { name := "EMPTY_ELEMENTDATA", type := (.array (.object "java/lang/Object")), accessFlags := 26, slot := 2, constantValue := 0 }, { name := "DEFAULTCAPACITY_EMPTY_ELEMENTDATA", type := (.array (.object "java/lang/Object")), accessFlags := 26, slot := 3, constantValue := 0 }, { name := "elementData", type := (.array (.object "java/lang/Object")), accessFlags := 128, slot := 1, constantValue := 0 }, { name := "size", type := .int, accessFlags := 2, slot := 2, constantValue := 0 }]
  methods := #[k17m0, k17m1, k17m2, k17m3, k17m4, k17m5, k17m6, k17m7]
  instanceTypes := #[.int, (.array (.object "java/lang/Object")), .int]
  staticTypes := #[.long, .int, (.array (.object "java/lang/Object")), (.array (.object "java/lang/Object"))]
  resolved := Array.replicate 509 none
  statics := some 1 }

def pool18 : Array CpInfo := pool [(1, .methodref 2 3), (0, .class_ 4), (0, .nameAndType 5 6), (0, u "java/lang/Object"), (0, u "<init>"), (0, u "()V"), (0, .class_ 8), (0, u "java/lang/Record")] 13

def k18c0 : Code := { maxStack := 1, maxLocals := 1, code := jdk_30_method_1_code, exceptionTable := #[], attributes := #[] }
def k18m0 : Method := { name := "<init>", desc := "()V", sig := { parameters := [], returnType := none }, accessFlags := 4, code := some k18c0 }
/-- java/lang/Record -/
def k18 : Class := { plain "java/lang/Record" (some 0) with
  accessFlags := 1057
  interfaces := #[]
  cf := some (fileOf pool18 7 #[] #[{ accessFlags := 4, nameIndex := 5, descriptorIndex := 6, attributes := #[] }] 1057 2 #[] #[])
  fields := #[]
  methods := #[k18m0]
  instanceTypes := #[]
  staticTypes := #[]
  resolved := Array.replicate 22 none
  statics := none }

def pool19 : Array CpInfo := pool [(1, .methodref 2 3), (0, .class_ 4), (0, .nameAndType 5 6), (0, u "java/lang/Record"), (0, u "<init>"), (0, u "()V"), (0, .fieldref 8 9), (0, .class_ 10), (0, .nameAndType 11 12), (0, u "com/example/leasehold/server/Watches$Kept"), (0, u "watched"), (0, u "Ljava/lang/String;"), (0, .fieldref 8 14), (0, .nameAndType 15 12), (0, u "id"), (0, .fieldref 8 17), (0, .nameAndType 18 12), (0, u "handback"), (0, .fieldref 8 20), (0, .nameAndType 21 22), (0, u "beside"), (0, u "Ljava/util/List;"), (0, .fieldref 8 24), (0, .nameAndType 25 26), (0, u "reserved"), (0, u "J"), (29, .methodref 8 57), (0, .nameAndType 5 58), (0, u "(Ljava/lang/String;Ljava/lang/String;Ljava/lang/String;Ljava/util/List;J)V"), (57, u "()Ljava/util/List;"), (1, u "reserving"), (0, u "(J)Lcom/example/leasehold/server/Watches$Kept;"), (5, u "()Ljava/lang/String;"), (0, u "()J"), (3, .class_ 131), (0, u "com/example/leasehold/server/Watches")] 34

def k19c0 : Code := { maxStack := 3, maxLocals := 7, code := prog_150_method_1_code, exceptionTable := #[], attributes := #[] }
def k19m0 : Method := { name := "<init>", desc := "(Ljava/lang/String;Ljava/lang/String;Ljava/lang/String;Ljava/util/List;J)V", sig := { parameters := [(.object "java/lang/String"), (.object "java/lang/String"), (.object "java/lang/String"), (.object "java/util/List"), .long], returnType := none }, accessFlags := 0, code := some k19c0 }
def k19c1 : Code := { maxStack := 8, maxLocals := 3, code := prog_150_method_3_code, exceptionTable := #[], attributes := #[] }
def k19m1 : Method := { name := "reserving", desc := "(J)Lcom/example/leasehold/server/Watches$Kept;", sig := { parameters := [.long], returnType := some (.object "com/example/leasehold/server/Watches$Kept") }, accessFlags := 0, code := some k19c1 }
def k19c2 : Code := { maxStack := 1, maxLocals := 1, code := prog_150_method_8_code, exceptionTable := #[], attributes := #[] }
def k19m2 : Method := { name := "watched", desc := "()Ljava/lang/String;", sig := { parameters := [], returnType := some (.object "java/lang/String") }, accessFlags := 1, code := some k19c2 }
def k19c3 : Code := { maxStack := 1, maxLocals := 1, code := prog_150_method_9_code, exceptionTable := #[], attributes := #[] }
def k19m3 : Method := { name := "id", desc := "()Ljava/lang/String;", sig := { parameters := [], returnType := some (.object "java/lang/String") }, accessFlags := 1, code := some k19c3 }
def k19c4 : Code := { maxStack := 1, maxLocals := 1, code := prog_150_method_10_code, exceptionTable := #[], attributes := #[] }
def k19m4 : Method := { name := "handback", desc := "()Ljava/lang/String;", sig := { parameters := [], returnType := some (.object "java/lang/String") }, accessFlags := 1, code := some k19c4 }
def k19c5 : Code := { maxStack := 1, maxLocals := 1, code := prog_150_method_11_code, exceptionTable := #[], attributes := #[] }
def k19m5 : Method := { name := "beside", desc := "()Ljava/util/List;", sig := { parameters := [], returnType := some (.object "java/util/List") }, accessFlags := 1, code := some k19c5 }
def k19c6 : Code := { maxStack := 2, maxLocals := 1, code := prog_150_method_12_code, exceptionTable := #[], attributes := #[] }
def k19m6 : Method := { name := "reserved", desc := "()J", sig := { parameters := [], returnType := some .long }, accessFlags := 1, code := some k19c6 }
/-- com/example/leasehold/server/Watches$Kept -/
def k19 : Class := { plain "com/example/leasehold/server/Watches$Kept" (some 18) with
  accessFlags := 48
  interfaces := #[]
  cf := some (fileOf pool19 8 #[.nestHost 130] #[{ accessFlags := 0, nameIndex := 5, descriptorIndex := 58, attributes := #[] }, { accessFlags := 0, nameIndex := 118, descriptorIndex := 119, attributes := #[] }, { accessFlags := 1, nameIndex := 11, descriptorIndex := 125, attributes := #[] }, { accessFlags := 1, nameIndex := 15, descriptorIndex := 125, attributes := #[] }, { accessFlags := 1, nameIndex := 18, descriptorIndex := 125, attributes := #[] }, { accessFlags := 1, nameIndex := 21, descriptorIndex := 116, attributes := #[] }, { accessFlags := 1, nameIndex := 25, descriptorIndex := 126, attributes := #[] }] 48 2 #[] #[{ accessFlags := 18, nameIndex := 11, descriptorIndex := 12, attributes := #[] }, { accessFlags := 18, nameIndex := 15, descriptorIndex := 12, attributes := #[] }, { accessFlags := 18, nameIndex := 18, descriptorIndex := 12, attributes := #[] }, { accessFlags := 18, nameIndex := 21, descriptorIndex := 22, attributes := #[] }, { accessFlags := 18, nameIndex := 25, descriptorIndex := 26, attributes := #[] }])
  fields := #[{ name := "watched", type := (.object "java/lang/String"), accessFlags := 18, slot := 0, constantValue := 0 }, { name := "id", type := (.object "java/lang/String"), accessFlags := 18, slot := 1, constantValue := 0 }, { name := "handback", type := (.object "java/lang/String"), accessFlags := 18, slot := 2, constantValue := 0 }, { name := "beside", type := (.object "java/util/List"), accessFlags := 18, slot := 3, constantValue := 0 }, { name := "reserved", type := .long, accessFlags := 18, slot := 4, constantValue := 0 }]
  methods := #[k19m0, k19m1, k19m2, k19m3, k19m4, k19m5, k19m6]
  instanceTypes := #[(.object "java/lang/String"), (.object "java/lang/String"), (.object "java/lang/String"), (.object "java/util/List"), .long]
  staticTypes := #[]
  resolved := Array.replicate 166 none
  statics := none }

def pool20 : Array CpInfo := pool [(1, .class_ 2), (0, u "java/lang/Math"), (1, .class_ 6), (1, u "java/lang/Object"), (0, u "<init>"), (0, u "()V"), (89, .class_ 100), (1, u "java/lang/Math$RandomNumberGeneratorHolder"), (71, u "negativeZeroFloatBits"), (0, u "J"), (2, u "negativeZeroDoubleBits"), (21, u "max"), (46, u "$assertionsDisabled"), (0, u "Z"), (88, u "(II)I"), (2, u "twoToTheDoubleScaleDown"), (0, u "D"), (4, u "twoToTheDoubleScaleUp"), (9, u "E"), (3, u "PI"), (2, u "TAU"), (2, u "DEGREES_TO_RADIANS"), (0, u "RADIANS_TO_DEGREES")] 94

def k20m0 : Method := { name := "<init>", desc := "()V", sig := { parameters := [], returnType := none }, accessFlags := 2, code := none }
def k20c1 : Code := { maxStack := 2, maxLocals := 2, code := jdk_29_method_65_code, exceptionTable := #[], attributes := #[] }
def k20m1 : Method := { name := "max", desc := "(II)I", sig := { parameters := [.int, .int], returnType := some .int }, accessFlags := 9, code := some k20c1 }
/-- java/lang/Math -/
def k20 : Class := { plain "java/lang/Math" (some 0) with
  accessFlags := 49
  interfaces := #[]
  cf := some (fileOf pool20 1 #[.nestMembers #[98]] #[{ accessFlags := 2, nameIndex := 7, descriptorIndex := 8, attributes := #[] }, { accessFlags := 9, nameIndex := 198, descriptorIndex := 335, attributes := #[] }] 49 4 #[] #[{ accessFlags := 25, nameIndex := 354, descriptorIndex := 339, attributes := #[] }, { accessFlags := 25, nameIndex := 358, descriptorIndex := 339, attributes := #[] }, { accessFlags := 25, nameIndex := 361, descriptorIndex := 339, attributes := #[] }, { accessFlags := 26, nameIndex := 364, descriptorIndex := 339, attributes := #[] }, { accessFlags := 26, nameIndex := 365, descriptorIndex := 339, attributes := #[] }, { accessFlags := 26, nameIndex := 172, descriptorIndex := 173, attributes := #[] }, { accessFlags := 26, nameIndex := 176, descriptorIndex := 173, attributes := #[] }, { accessFlags := 8, nameIndex := 344, descriptorIndex := 339, attributes := #[] }, { accessFlags := 8, nameIndex := 338, descriptorIndex := 339, attributes := #[] }, { accessFlags := 4120, nameIndex := 245, descriptorIndex := 246, attributes := #[] }])
  fields := #[{ name := "E", type := .double, accessFlags := 25, slot := 0, constantValue := 0 }, { name := "PI", type := .double, accessFlags := 25, slot := 1, constantValue := 0 }, { name := "TAU", type := .double, accessFlags := 25, slot := 2, constantValue := 0 }, { name := "DEGREES_TO_RADIANS", type := .double, accessFlags := 26, slot := 3, constantValue := 0 }, { name := "RADIANS_TO_DEGREES", type := .double, accessFlags := 26, slot := 4, constantValue := 0 }, { name := "negativeZeroFloatBits", type := .long, accessFlags := 26, slot := 5, constantValue := 0 }, { name := "negativeZeroDoubleBits", type := .long, accessFlags := 26, slot := 6, constantValue := 0 }, { name := "twoToTheDoubleScaleUp", type := .double, accessFlags := 8, slot := 7, constantValue := 0 }, { name := "twoToTheDoubleScaleDown", type := .double, accessFlags := 8, slot := 8, constantValue := 0 }, { name := "$assertionsDisabled", type := .boolean, accessFlags := 4120, slot := 9, constantValue := 0 }]
  methods := #[k20m0, k20m1]
  instanceTypes := #[]
  staticTypes := #[.double, .double, .double, .double, .double, .long, .long, .double, .double, .boolean]
  resolved := Array.replicate 460 none
  statics := none }

def pool21 : Array CpInfo := pool [(2, .class_ 4), (1, u "java/lang/Object"), (0, u "<init>"), (0, u "()V"), (35, .class_ 44), (1, u "java/util/Objects"), (60, .methodref 106 107), (0, .class_ 108), (0, .nameAndType 109 110), (0, u "jdk/internal/util/Preconditions"), (0, u "checkIndex"), (0, u "(IILjava/util/function/BiFunction;)I"), (60, u "(II)I")] 12

def k21m0 : Method := { name := "<init>", desc := "()V", sig := { parameters := [], returnType := none }, accessFlags := 2, code := none }
def k21c1 : Code := { maxStack := 3, maxLocals := 2, code := jdk_31_method_17_code, exceptionTable := #[], attributes := #[] }
def k21m1 : Method := { name := "checkIndex", desc := "(II)I", sig := { parameters := [.int, .int], returnType := some .int }, accessFlags := 9, code := some k21c1 }
/-- java/util/Objects -/
def k21 : Class := { plain "java/util/Objects" (some 0) with
  accessFlags := 49
  interfaces := #[]
  cf := some (fileOf pool21 42 #[] #[{ accessFlags := 2, nameIndex := 5, descriptorIndex := 6, attributes := #[] }, { accessFlags := 9, nameIndex := 109, descriptorIndex := 171, attributes := #[] }] 49 2 #[] #[])
  fields := #[]
  methods := #[k21m0, k21m1]
  instanceTypes := #[]
  staticTypes := #[]
  resolved := Array.replicate 184 none
  statics := none }

def pool22 : Array CpInfo := pool [(2, .class_ 4), (1, u "java/lang/Object"), (0, u "<init>"), (0, u "()V"), (17, .class_ 26), (1, u "jdk/internal/util/Preconditions"), (6, u "checkIndex"), (21, .class_ 56), (0, u "jdk/internal/util/Preconditions$4"), (57, .class_ 115), (0, u "jdk/internal/util/Preconditions$1"), (7, u "SIOOBE_FORMATTER"), (0, u "Ljava/util/function/BiFunction;"), (0, .class_ 126), (0, u "jdk/internal/util/Preconditions$2"), (3, u "AIOOBE_FORMATTER"), (0, .class_ 132), (0, u "jdk/internal/util/Preconditions$3"), (3, u "IOOBE_FORMATTER"), (41, u "(IILjava/util/function/BiFunction;)I")] 15

def k22m0 : Method := { name := "<init>", desc := "()V", sig := { parameters := [], returnType := none }, accessFlags := 1, code := none }
def k22c1 : Code := { maxStack := 3, maxLocals := 3, code := jdk_41_method_11_code, exceptionTable := #[], attributes := #[] }
def k22m1 : Method := { name := "checkIndex", desc := "(IILjava/util/function/BiFunction;)I", sig := { parameters := [.int, .int, (.object "java/util/function/BiFunction")], returnType := some .int }, accessFlags := 9, code := some k22c1 }
/-- jdk/internal/util/Preconditions -/
def k22 : Class := { plain "jdk/internal/util/Preconditions" (some 0) with
  accessFlags := 33
  interfaces := #[]
  cf := some (fileOf pool22 24 #[.nestMembers #[55, 131, 125, 114]] #[{ accessFlags := 1, nameIndex := 5, descriptorIndex := 6, attributes := #[] }, { accessFlags := 9, nameIndex := 33, descriptorIndex := 178, attributes := #[] }] 33 2 #[] #[{ accessFlags := 25, nameIndex := 123, descriptorIndex := 124, attributes := #[] }, { accessFlags := 25, nameIndex := 130, descriptorIndex := 124, attributes := #[] }, { accessFlags := 25, nameIndex := 136, descriptorIndex := 124, attributes := #[] }])
  fields := #[{ name := "SIOOBE_FORMATTER", type := (.object "java/util/function/BiFunction"), accessFlags := 25, slot := 0, constantValue := 0 }, { name := "AIOOBE_FORMATTER", type := (.object "java/util/function/BiFunction"), accessFlags := 25, slot := 1, constantValue := 0 }, { name := "IOOBE_FORMATTER", type := (.object "java/util/function/BiFunction"), accessFlags := 25, slot := 2, constantValue := 0 }]
  methods := #[k22m0, k22m1]
  instanceTypes := #[]
  staticTypes := #[(.object "java/util/function/BiFunction"), (.object "java/util/function/BiFunction"), (.object "java/util/function/BiFunction")]
  resolved := Array.replicate 194 none
  statics := some 2 }

def pool23 : Array CpInfo := pool [(9, u "<init>"), (6, .class_ 18), (1, u "java/lang/Object"), (0, u "()V"), (1, .class_ 23), (1, u "jdk/internal/util/ArraysSupport"), (0, u "LOG2_ARRAY_LONG_INDEX_SCALE"), (0, u "I"), (2, u "U"), (0, u "Ljdk/internal/misc/Unsafe;"), (8, u "BIG_ENDIAN"), (0, u "Z"), (8, u "LOG2_BYTE_BIT_SIZE"), (4, u "LOG2_ARRAY_INT_INDEX_SCALE"), (54, u "JLA"), (0, u "Ljdk/internal/access/JavaLangAccess;"), (11, u "LOG2_ARRAY_BOOLEAN_INDEX_SCALE"), (9, u "LOG2_ARRAY_BYTE_INDEX_SCALE"), (5, u "LOG2_ARRAY_CHAR_INDEX_SCALE"), (5, u "LOG2_ARRAY_SHORT_INDEX_SCALE"), (18, u "LOG2_ARRAY_FLOAT_INDEX_SCALE"), (24, u "LOG2_ARRAY_DOUBLE_INDEX_SCALE"), (89, u "T_BOOLEAN"), (2, u "T_CHAR"), (1, u "T_FLOAT"), (1, u "T_DOUBLE"), (1, u "T_BYTE"), (1, u "T_SHORT"), (1, u "T_INT"), (1, u "T_LONG"), (1, u "SOFT_MAX_ARRAY_LENGTH")] 83

def k23m0 : Method := { name := "<init>", desc := "()V", sig := { parameters := [], returnType := none }, accessFlags := 2, code := none }
/-- jdk/internal/util/ArraysSupport -/
def k23 : Class := { plain "jdk/internal/util/ArraysSupport" (some 0) with
  accessFlags := 33
  interfaces := #[]
  cf := some (fileOf pool23 21 #[] #[{ accessFlags := 2, nameIndex := 9, descriptorIndex := 19, attributes := #[] }] 33 16 #[] #[{ accessFlags := 24, nameIndex := 28, descriptorIndex := 29, attributes := #[] }, { accessFlags := 26, nameIndex := 38, descriptorIndex := 39, attributes := #[] }, { accessFlags := 25, nameIndex := 121, descriptorIndex := 25, attributes := #[] }, { accessFlags := 25, nameIndex := 131, descriptorIndex := 25, attributes := #[] }, { accessFlags := 25, nameIndex := 137, descriptorIndex := 25, attributes := #[] }, { accessFlags := 25, nameIndex := 143, descriptorIndex := 25, attributes := #[] }, { accessFlags := 25, nameIndex := 53, descriptorIndex := 25, attributes := #[] }, { accessFlags := 25, nameIndex := 24, descriptorIndex := 25, attributes := #[] }, { accessFlags := 25, nameIndex := 162, descriptorIndex := 25, attributes := #[] }, { accessFlags := 25, nameIndex := 187, descriptorIndex := 25, attributes := #[] }, { accessFlags := 26, nameIndex := 48, descriptorIndex := 25, attributes := #[] }, { accessFlags := 25, nameIndex := 277, descriptorIndex := 25, attributes := #[] }, { accessFlags := 25, nameIndex := 280, descriptorIndex := 25, attributes := #[] }, { accessFlags := 25, nameIndex := 282, descriptorIndex := 25, attributes := #[] }, { accessFlags := 25, nameIndex := 284, descriptorIndex := 25, attributes := #[] }, { accessFlags := 25, nameIndex := 286, descriptorIndex := 25, attributes := #[] }, { accessFlags := 25, nameIndex := 288, descriptorIndex := 25, attributes := #[] }, { accessFlags := 25, nameIndex := 290, descriptorIndex := 25, attributes := #[] }, { accessFlags := 25, nameIndex := 292, descriptorIndex := 25, attributes := #[] }, { accessFlags := 26, nameIndex := 108, descriptorIndex := 109, attributes := #[] }, { accessFlags := 25, nameIndex := 294, descriptorIndex := 25, attributes := #[] }])
  fields := #[{ name := "U", type := (.object "jdk/internal/misc/Unsafe"), accessFlags := 24, slot := 0, constantValue := 0 }, { name := "BIG_ENDIAN", type := .boolean, accessFlags := 26, slot := 1, constantValue := 0 }, { name := "LOG2_ARRAY_BOOLEAN_INDEX_SCALE", type := .int, accessFlags := 25, slot := 2, constantValue := 0 }, { name := "LOG2_ARRAY_BYTE_INDEX_SCALE", type := .int, accessFlags := 25, slot := 3, constantValue := 0 }, { name := "LOG2_ARRAY_CHAR_INDEX_SCALE", type := .int, accessFlags := 25, slot := 4, constantValue := 0 }, { name := "LOG2_ARRAY_SHORT_INDEX_SCALE", type := .int, accessFlags := 25, slot := 5, constantValue := 0 }, { name := "LOG2_ARRAY_INT_INDEX_SCALE", type := .int, accessFlags := 25, slot := 6, constantValue := 0 }, { name := "LOG2_ARRAY_LONG_INDEX_SCALE", type := .int, accessFlags := 25, slot := 7, constantValue := 0 }, { name := "LOG2_ARRAY_FLOAT_INDEX_SCALE", type := .int, accessFlags := 25, slot := 8, constantValue := 0 }, { name := "LOG2_ARRAY_DOUBLE_INDEX_SCALE", type := .int, accessFlags := 25, slot := 9, constantValue := 0 }, { name := "LOG2_BYTE_BIT_SIZE", type := .int, accessFlags := 26, slot := 10, constantValue := 0 }, { name := "T_BOOLEAN", type := .int, accessFlags := 25, slot := 11, constantValue := 0 }, { name := "T_CHAR", type := .int, accessFlags := 25, slot := 12, constantValue := 0 }, { name := "T_FLOAT", type := .int, accessFlags := 25, slot := 13, constantValue := 0 }, { name := "T_DOUBLE", type := .int, accessFlags := 25, slot := 14, constantValue := 0 }, { name := "T_BYTE", type := .int, accessFlags := 25, slot := 15, constantValue := 0 }, { name := "T_SHORT", type := .int, accessFlags := 25, slot := 16, constantValue := 0 }, { name := "T_INT", type := .int, accessFlags := 25, slot := 17, constantValue := 0 }, { name := "T_LONG", type := .int, accessFlags := 25, slot := 18, constantValue := 0 }, { name := "JLA", type := (.object "jdk/internal/access/JavaLangAccess"), accessFlags := 26, slot := 19, constantValue := 0 }, { name := "SOFT_MAX_ARRAY_LENGTH", type := .int, accessFlags := 25, slot := 20, constantValue := 0 }]
  methods := #[k23m0]
  instanceTypes := #[]
  staticTypes := #[(.object "jdk/internal/misc/Unsafe"), .boolean, .int, .int, .int, .int, .int, .int, .int, .int, .int, .int, .int, .int, .int, .int, .int, .int, .int, (.object "jdk/internal/access/JavaLangAccess"), .int]
  resolved := Array.replicate 378 none
  statics := none }

/-- the primitive byte -/
def k24 : Class := { plain "byte" none with kind := .primitive 'B', accessFlags := 0x411 }
/-- [B -/
def k25 : Class := { plain "[B" (some 0) with kind := .array 24 .byte, interfaces := #[16, 2], accessFlags := 1041 }

/-- the primitive int -/
def k26 : Class := { plain "int" none with kind := .primitive 'I', accessFlags := 0x411 }
/-- [I -/
def k27 : Class := { plain "[I" (some 0) with kind := .array 26 .int, interfaces := #[16, 2], accessFlags := 1041 }

/-- [Ljava/lang/Object; -/
def k28 : Class := { plain "[Ljava/lang/Object;" (some 0) with kind := .array 0 (.object "java/lang/Object"), interfaces := #[16, 2], accessFlags := 1041 }

def heap : Heap := #[{ cls := 7, slots := #[.long 0, .int 1, .null, .int 0, .null, .int 0, .int 0], vm := .statics 7 },
  { cls := 17, slots := #[.long 0, .int 0, .ref 3, .ref 4], vm := .statics 17 },
  { cls := 22, slots := #[.null, .null, .null], vm := .statics 22 },
  { cls := 28, slots := #[], vm := .none },
  { cls := 28, slots := #[], vm := .none }]
def classes : Array Class := #[k0, k1, k2, k3, k4, k5, k6, k7, k8, k9, k10, k11, k12, k13, k14, k15, k16, k17, k18, k19, k20, k21, k22, k23, k24, k25, k26, k27, k28]
def interned : List (Array UInt16 × Addr) := []
def slotsUsed : Nat := 14
def theMethod : MethodId := ⟨1, 1⟩
def args0 : Array Value := #[.long 5, .long 6, .int 7, .int 8]
def aboutOver (below : List Frame) : State where
  vm := { classes := classes, interned := interned.toArray }
  heap := heap
  slotsUsed := slotsUsed
  threads := #[{ frames := .invoking theMethod args0 :: below }]
def below0 : List Frame := [.native { method := ⟨0, 0⟩, args := #[] }]
def about1 : State := aboutOver below0
def p0 : Program := .bare "" "" ""
def e0 : Env := launch0.env 0 0 0
theorem w_frames : about1.frames = Frame.invoking theMethod args0 :: below0 := rfl
set_option maxRecDepth 65536 in
theorem w_args : argsFit about1.vm theMethod args0 = true := by decide +kernel
set_option maxRecDepth 65536 in
theorem w_heap : heapFits about1 = true := by decide +kernel
set_option maxRecDepth 65536 in
theorem w_runnable : about1.curStatus? = some .runnable := by decide +kernel
set_option maxRecDepth 65536 in
theorem w_alone : about1.alone = true := by decide +kernel
set_option maxRecDepth 65536 in
theorem w_named : about1.methodNamed? x = some theMethod := by decide +kernel
set_option maxRecDepth 65536 in
theorem w_hears : about1.hears theMethod below0 = true := by decide +kernel
set_option maxRecDepth 65536 in
theorem w_ripe : about1.ripe theMethod args0 below0 = true := by decide +kernel
theorem w_running : about1.status = .running := rfl
set_option maxRecDepth 65536 in
theorem w_room : about1.hasRoom e0.platform room_1 = true :=
  launch0.hasRoom_least _ room_1 (by decide +kernel) (by decide +kernel) (by decide +kernel) (by decide +kernel) (by decide +kernel) (by decide +kernel)
theorem allAtoms_all (ts : List Jvm.Cond) (a : Array Jvm.Value) (st : Jvm.State) : (allAtoms ts).before a st = ts.all (fun c => c.before a st) := by
  induction ts with
  | nil => rfl
  | cons c t ih =>
    show (Jvm.Cond.and c (allAtoms t)).before a st = _
    rw [Jvm.Cond.before_and, ih, List.all_cons]
def words1 : List Jvm.Cond := Jvm.Cond.code x code maxLocals ret :: tables_1
/-- a 'code' word, met by the world's own term for the bytes: nothing is compared byte by byte -/
theorem code_word {y : MethodName} {bytes : ByteArray} {mx : Nat} {rt : Option FieldType} {a : Array Value} {s : State} {m : MethodId} {meth : Method} {c : Code} (h1 : s.methodNamed? y = some m) (h2 : s.vm.method? m = some meth) (h3 : meth.code = some c) (h4 : c.code = bytes)
    (h5 : (c.maxLocals == mx && c.exceptionTable.isEmpty && decide (c.maxStack ≤ mostOperands) && decide (meth.sig.returnType = rt) && !meth.locks && decide (parseMethodDescriptor y.desc = some meth.sig)) = true) : (Jvm.Cond.code y bytes mx rt).before a s = true := by
  simp only [Bool.and_eq_true, beq_iff_eq, Bool.not_eq_true', decide_eq_true_eq] at h5
  obtain ⟨⟨⟨⟨⟨g1, g2⟩, g3⟩, g4⟩, g5⟩, g6⟩ := h5
  simp [Cond.before, Cond.holds, Cond.value, h1, h2, h3, h4, g1, g2, g3, g4, g5, g6]
def isCode : Jvm.Cond → Bool
  | .code _ _ _ _ => true
  | _ => false
theorem all_split {L : List Jvm.Cond} {P : Jvm.Cond → Bool} (h1 : L.all (fun c => isCode c || P c) = true) (h2 : ∀ c ∈ L.filter isCode, P c = true) : L.all P = true := by
  refine List.all_eq_true.mpr fun c hc => ?_
  have h := List.all_eq_true.mp h1 c hc
  rcases Bool.eq_false_or_eq_true (isCode c) with hi | hi
  · exact h2 c (List.mem_filter.mpr ⟨hc, hi⟩)
  · simpa [hi] using h
set_option maxRecDepth 65536 in
theorem w_c0 : (Jvm.Cond.code x code maxLocals ret).before args0 about1 = true := code_word (m := ⟨1, 1⟩) (meth := k1m1) (c := k1c1) (by decide +kernel) rfl rfl rfl (by decide +kernel)
set_option maxRecDepth 65536 in
theorem w_c1 : (Jvm.Cond.code ({ cls := "java/lang/String", name := "valueOf", desc := "(C)Ljava/lang/String;" } : Jvm.MethodName) jdk_42_method_139_code (1 : Nat) (Option.some (Jvm.ClassFile.FieldType.object "java/lang/String"))).before args0 about1 = true := code_word (m := ⟨7, 2⟩) (meth := k7m2) (c := k7c2) (by decide +kernel) rfl rfl rfl (by decide +kernel)
set_option maxRecDepth 65536 in
theorem w_c2 : (Jvm.Cond.code ({ cls := "java/lang/StringLatin1", name := "canEncode", desc := "(C)Z" } : Jvm.MethodName) jdk_43_method_3_code (1 : Nat) (Option.some Jvm.ClassFile.FieldType.boolean)).before args0 about1 = true := code_word (m := ⟨8, 1⟩) (meth := k8m1) (c := k8c1) (by decide +kernel) rfl rfl rfl (by decide +kernel)
set_option maxRecDepth 65536 in
theorem w_c3 : (Jvm.Cond.code ({ cls := "java/lang/StringLatin1", name := "toBytes", desc := "(C)[B" } : Jvm.MethodName) jdk_43_method_46_code (1 : Nat) (Option.some (Jvm.ClassFile.FieldType.array Jvm.ClassFile.FieldType.byte))).before args0 about1 = true := code_word (m := ⟨8, 2⟩) (meth := k8m2) (c := k8c2) (by decide +kernel) rfl rfl rfl (by decide +kernel)
set_option maxRecDepth 65536 in
theorem w_c4 : (Jvm.Cond.code ({ cls := "java/lang/String", name := "<init>", desc := "([BB)V" } : Jvm.MethodName) jdk_42_method_151_code (3 : Nat) (Option.none : Option Jvm.ClassFile.FieldType)).before args0 about1 = true := code_word (m := ⟨7, 3⟩) (meth := k7m3) (c := k7c3) (by decide +kernel) rfl rfl rfl (by decide +kernel)
set_option maxRecDepth 65536 in
theorem w_c5 : (Jvm.Cond.code ({ cls := "java/lang/Object", name := "<init>", desc := "()V" } : Jvm.MethodName) object_method_1_code (1 : Nat) (Option.none : Option Jvm.ClassFile.FieldType)).before args0 about1 = true := code_word (m := ⟨0, 0⟩) (meth := k0m0) (c := k0c0) (by decide +kernel) rfl rfl rfl (by decide +kernel)
set_option maxRecDepth 65536 in
theorem w_c6 : (Jvm.Cond.code ({ cls := "java/util/ArrayList", name := "<init>", desc := "()V" } : Jvm.MethodName) jdk_38_method_2_code (1 : Nat) (Option.none : Option Jvm.ClassFile.FieldType)).before args0 about1 = true := code_word (m := ⟨17, 0⟩) (meth := k17m0) (c := k17c0) (by decide +kernel) rfl rfl rfl (by decide +kernel)
set_option maxRecDepth 65536 in
theorem w_c7 : (Jvm.Cond.code ({ cls := "java/util/AbstractList", name := "<init>", desc := "()V" } : Jvm.MethodName) jdk_39_method_1_code (1 : Nat) (Option.none : Option Jvm.ClassFile.FieldType)).before args0 about1 = true := code_word (m := ⟨14, 0⟩) (meth := k14m0) (c := k14c0) (by decide +kernel) rfl rfl rfl (by decide +kernel)
set_option maxRecDepth 65536 in
theorem w_c8 : (Jvm.Cond.code ({ cls := "java/util/AbstractCollection", name := "<init>", desc := "()V" } : Jvm.MethodName) jdk_22_method_1_code (1 : Nat) (Option.none : Option Jvm.ClassFile.FieldType)).before args0 about1 = true := code_word (m := ⟨11, 0⟩) (meth := k11m0) (c := k11c0) (by decide +kernel) rfl rfl rfl (by decide +kernel)
set_option maxRecDepth 65536 in
theorem w_c9 : (Jvm.Cond.code ({ cls := "java/util/ArrayList", name := "size", desc := "()I" } : Jvm.MethodName) jdk_38_method_8_code (1 : Nat) (Option.some Jvm.ClassFile.FieldType.int)).before args0 about1 = true := code_word (m := ⟨17, 3⟩) (meth := k17m3) (c := k17c3) (by decide +kernel) rfl rfl rfl (by decide +kernel)
set_option maxRecDepth 65536 in
theorem w_c10 : (Jvm.Cond.code ({ cls := "com/example/leasehold/server/Watches$Kept", name := "<init>", desc := "(Ljava/lang/String;Ljava/lang/String;Ljava/lang/String;Ljava/util/List;J)V" } : Jvm.MethodName) prog_150_method_1_code (7 : Nat) (Option.none : Option Jvm.ClassFile.FieldType)).before args0 about1 = true := code_word (m := ⟨19, 0⟩) (meth := k19m0) (c := k19c0) (by decide +kernel) rfl rfl rfl (by decide +kernel)
set_option maxRecDepth 65536 in
theorem w_c11 : (Jvm.Cond.code ({ cls := "java/lang/Record", name := "<init>", desc := "()V" } : Jvm.MethodName) jdk_30_method_1_code (1 : Nat) (Option.none : Option Jvm.ClassFile.FieldType)).before args0 about1 = true := code_word (m := ⟨18, 0⟩) (meth := k18m0) (c := k18c0) (by decide +kernel) rfl rfl rfl (by decide +kernel)
set_option maxRecDepth 65536 in
theorem w_c12 : (Jvm.Cond.code ({ cls := "com/example/leasehold/server/Watches$Kept", name := "reserving", desc := "(J)Lcom/example/leasehold/server/Watches$Kept;" } : Jvm.MethodName) prog_150_method_3_code (3 : Nat) (Option.some (Jvm.ClassFile.FieldType.object "com/example/leasehold/server/Watches$Kept"))).before args0 about1 = true := code_word (m := ⟨19, 1⟩) (meth := k19m1) (c := k19c1) (by decide +kernel) rfl rfl rfl (by decide +kernel)
set_option maxRecDepth 65536 in
theorem w_c13 : (Jvm.Cond.code ({ cls := "com/example/leasehold/server/Watches$Kept", name := "reserved", desc := "()J" } : Jvm.MethodName) prog_150_method_12_code (1 : Nat) (Option.some Jvm.ClassFile.FieldType.long)).before args0 about1 = true := code_word (m := ⟨19, 6⟩) (meth := k19m6) (c := k19c6) (by decide +kernel) rfl rfl rfl (by decide +kernel)
set_option maxRecDepth 65536 in
theorem w_c14 : (Jvm.Cond.code ({ cls := "com/example/leasehold/server/Watches$Kept", name := "watched", desc := "()Ljava/lang/String;" } : Jvm.MethodName) prog_150_method_8_code (1 : Nat) (Option.some (Jvm.ClassFile.FieldType.object "java/lang/String"))).before args0 about1 = true := code_word (m := ⟨19, 2⟩) (meth := k19m2) (c := k19c2) (by decide +kernel) rfl rfl rfl (by decide +kernel)
set_option maxRecDepth 65536 in
theorem w_c15 : (Jvm.Cond.code ({ cls := "java/lang/String", name := "equals", desc := "(Ljava/lang/Object;)Z" } : Jvm.MethodName) jdk_42_method_66_code (3 : Nat) (Option.some Jvm.ClassFile.FieldType.boolean)).before args0 about1 = true := code_word (m := ⟨7, 1⟩) (meth := k7m1) (c := k7c1) (by decide +kernel) rfl rfl rfl (by decide +kernel)
set_option maxRecDepth 65536 in
theorem w_c16 : (Jvm.Cond.code ({ cls := "com/example/leasehold/server/Watches$Kept", name := "id", desc := "()Ljava/lang/String;" } : Jvm.MethodName) prog_150_method_9_code (1 : Nat) (Option.some (Jvm.ClassFile.FieldType.object "java/lang/String"))).before args0 about1 = true := code_word (m := ⟨19, 3⟩) (meth := k19m3) (c := k19c3) (by decide +kernel) rfl rfl rfl (by decide +kernel)
set_option maxRecDepth 65536 in
theorem w_c17 : (Jvm.Cond.code ({ cls := "com/example/leasehold/server/Watches$Kept", name := "handback", desc := "()Ljava/lang/String;" } : Jvm.MethodName) prog_150_method_10_code (1 : Nat) (Option.some (Jvm.ClassFile.FieldType.object "java/lang/String"))).before args0 about1 = true := code_word (m := ⟨19, 4⟩) (meth := k19m4) (c := k19c4) (by decide +kernel) rfl rfl rfl (by decide +kernel)
set_option maxRecDepth 65536 in
theorem w_c18 : (Jvm.Cond.code ({ cls := "com/example/leasehold/server/Watches$Kept", name := "beside", desc := "()Ljava/util/List;" } : Jvm.MethodName) prog_150_method_11_code (1 : Nat) (Option.some (Jvm.ClassFile.FieldType.object "java/util/List"))).before args0 about1 = true := code_word (m := ⟨19, 5⟩) (meth := k19m5) (c := k19c5) (by decide +kernel) rfl rfl rfl (by decide +kernel)
set_option maxRecDepth 65536 in
theorem w_c19 : (Jvm.Cond.code ({ cls := "java/util/ArrayList", name := "add", desc := "(Ljava/lang/Object;)Z" } : Jvm.MethodName) jdk_38_method_25_code (2 : Nat) (Option.some Jvm.ClassFile.FieldType.boolean)).before args0 about1 = true := code_word (m := ⟨17, 7⟩) (meth := k17m7) (c := k17c7) (by decide +kernel) rfl rfl rfl (by decide +kernel)
set_option maxRecDepth 65536 in
theorem w_c20 : (Jvm.Cond.code ({ cls := "java/util/ArrayList", name := "add", desc := "(Ljava/lang/Object;[Ljava/lang/Object;I)V" } : Jvm.MethodName) jdk_38_method_24_code (4 : Nat) (Option.none : Option Jvm.ClassFile.FieldType)).before args0 about1 = true := code_word (m := ⟨17, 6⟩) (meth := k17m6) (c := k17c6) (by decide +kernel) rfl rfl rfl (by decide +kernel)
set_option maxRecDepth 65536 in
theorem w_c21 : (Jvm.Cond.code ({ cls := "java/util/ArrayList", name := "grow", desc := "()[Ljava/lang/Object;" } : Jvm.MethodName) jdk_38_method_7_code (1 : Nat) (Option.some (Jvm.ClassFile.FieldType.array (Jvm.ClassFile.FieldType.object "java/lang/Object")))).before args0 about1 = true := code_word (m := ⟨17, 2⟩) (meth := k17m2) (c := k17c2) (by decide +kernel) rfl rfl rfl (by decide +kernel)
set_option maxRecDepth 65536 in
theorem w_c22 : (Jvm.Cond.code ({ cls := "java/util/ArrayList", name := "grow", desc := "(I)[Ljava/lang/Object;" } : Jvm.MethodName) jdk_38_method_6_code (4 : Nat) (Option.some (Jvm.ClassFile.FieldType.array (Jvm.ClassFile.FieldType.object "java/lang/Object")))).before args0 about1 = true := code_word (m := ⟨17, 1⟩) (meth := k17m1) (c := k17c1) (by decide +kernel) rfl rfl rfl (by decide +kernel)
set_option maxRecDepth 65536 in
theorem w_c23 : (Jvm.Cond.code ({ cls := "java/lang/Math", name := "max", desc := "(II)I" } : Jvm.MethodName) jdk_29_method_65_code (2 : Nat) (Option.some Jvm.ClassFile.FieldType.int)).before args0 about1 = true := code_word (m := ⟨20, 1⟩) (meth := k20m1) (c := k20c1) (by decide +kernel) rfl rfl rfl (by decide +kernel)
set_option maxRecDepth 65536 in
theorem w_c24 : (Jvm.Cond.code ({ cls := "java/util/ArrayList", name := "get", desc := "(I)Ljava/lang/Object;" } : Jvm.MethodName) jdk_38_method_20_code (2 : Nat) (Option.some (Jvm.ClassFile.FieldType.object "java/lang/Object"))).before args0 about1 = true := code_word (m := ⟨17, 5⟩) (meth := k17m5) (c := k17c5) (by decide +kernel) rfl rfl rfl (by decide +kernel)
set_option maxRecDepth 65536 in
theorem w_c25 : (Jvm.Cond.code ({ cls := "java/util/Objects", name := "checkIndex", desc := "(II)I" } : Jvm.MethodName) jdk_31_method_17_code (2 : Nat) (Option.some Jvm.ClassFile.FieldType.int)).before args0 about1 = true := code_word (m := ⟨21, 1⟩) (meth := k21m1) (c := k21c1) (by decide +kernel) rfl rfl rfl (by decide +kernel)
set_option maxRecDepth 65536 in
theorem w_c26 : (Jvm.Cond.code ({ cls := "jdk/internal/util/Preconditions", name := "checkIndex", desc := "(IILjava/util/function/BiFunction;)I" } : Jvm.MethodName) jdk_41_method_11_code (3 : Nat) (Option.some Jvm.ClassFile.FieldType.int)).before args0 about1 = true := code_word (m := ⟨22, 1⟩) (meth := k22m1) (c := k22c1) (by decide +kernel) rfl rfl rfl (by decide +kernel)
set_option maxRecDepth 65536 in
theorem w_c27 : (Jvm.Cond.code ({ cls := "java/util/ArrayList", name := "elementData", desc := "(I)Ljava/lang/Object;" } : Jvm.MethodName) jdk_38_method_18_code (2 : Nat) (Option.some (Jvm.ClassFile.FieldType.object "java/lang/Object"))).before args0 about1 = true := code_word (m := ⟨17, 4⟩) (meth := k17m4) (c := k17c4) (by decide +kernel) rfl rfl rfl (by decide +kernel)
def codes1 : List Jvm.Cond := [Jvm.Cond.code x code maxLocals ret, Jvm.Cond.code ({ cls := "java/lang/String", name := "valueOf", desc := "(C)Ljava/lang/String;" } : Jvm.MethodName) jdk_42_method_139_code (1 : Nat) (Option.some (Jvm.ClassFile.FieldType.object "java/lang/String")), Jvm.Cond.code ({ cls := "java/lang/StringLatin1", name := "canEncode", desc := "(C)Z" } : Jvm.MethodName) jdk_43_method_3_code (1 : Nat) (Option.some Jvm.ClassFile.FieldType.boolean), Jvm.Cond.code ({ cls := "java/lang/StringLatin1", name := "toBytes", desc := "(C)[B" } : Jvm.MethodName) jdk_43_method_46_code (1 : Nat) (Option.some (Jvm.ClassFile.FieldType.array Jvm.ClassFile.FieldType.byte)), Jvm.Cond.code ({ cls := "java/lang/String", name := "<init>", desc := "([BB)V" } : Jvm.MethodName) jdk_42_method_151_code (3 : Nat) (Option.none : Option Jvm.ClassFile.FieldType), Jvm.Cond.code ({ cls := "java/lang/Object", name := "<init>", desc := "()V" } : Jvm.MethodName) object_method_1_code (1 : Nat) (Option.none : Option Jvm.ClassFile.FieldType), Jvm.Cond.code ({ cls := "java/util/ArrayList", name := "<init>", desc := "()V" } : Jvm.MethodName) jdk_38_method_2_code (1 : Nat) (Option.none : Option Jvm.ClassFile.FieldType), Jvm.Cond.code ({ cls := "java/util/AbstractList", name := "<init>", desc := "()V" } : Jvm.MethodName) jdk_39_method_1_code (1 : Nat) (Option.none : Option Jvm.ClassFile.FieldType), Jvm.Cond.code ({ cls := "java/util/AbstractCollection", name := "<init>", desc := "()V" } : Jvm.MethodName) jdk_22_method_1_code (1 : Nat) (Option.none : Option Jvm.ClassFile.FieldType), Jvm.Cond.code ({ cls := "java/util/ArrayList", name := "size", desc := "()I" } : Jvm.MethodName) jdk_38_method_8_code (1 : Nat) (Option.some Jvm.ClassFile.FieldType.int), Jvm.Cond.code ({ cls := "com/example/leasehold/server/Watches$Kept", name := "<init>", desc := "(Ljava/lang/String;Ljava/lang/String;Ljava/lang/String;Ljava/util/List;J)V" } : Jvm.MethodName) prog_150_method_1_code (7 : Nat) (Option.none : Option Jvm.ClassFile.FieldType), Jvm.Cond.code ({ cls := "java/lang/Record", name := "<init>", desc := "()V" } : Jvm.MethodName) jdk_30_method_1_code (1 : Nat) (Option.none : Option Jvm.ClassFile.FieldType), Jvm.Cond.code ({ cls := "com/example/leasehold/server/Watches$Kept", name := "reserving", desc := "(J)Lcom/example/leasehold/server/Watches$Kept;" } : Jvm.MethodName) prog_150_method_3_code (3 : Nat) (Option.some (Jvm.ClassFile.FieldType.object "com/example/leasehold/server/Watches$Kept")), Jvm.Cond.code ({ cls := "com/example/leasehold/server/Watches$Kept", name := "reserved", desc := "()J" } : Jvm.MethodName) prog_150_method_12_code (1 : Nat) (Option.some Jvm.ClassFile.FieldType.long), Jvm.Cond.code ({ cls := "com/example/leasehold/server/Watches$Kept", name := "watched", desc := "()Ljava/lang/String;" } : Jvm.MethodName) prog_150_method_8_code (1 : Nat) (Option.some (Jvm.ClassFile.FieldType.object "java/lang/String")), Jvm.Cond.code ({ cls := "java/lang/String", name := "equals", desc := "(Ljava/lang/Object;)Z" } : Jvm.MethodName) jdk_42_method_66_code (3 : Nat) (Option.some Jvm.ClassFile.FieldType.boolean), Jvm.Cond.code ({ cls := "com/example/leasehold/server/Watches$Kept", name := "id", desc := "()Ljava/lang/String;" } : Jvm.MethodName) prog_150_method_9_code (1 : Nat) (Option.some (Jvm.ClassFile.FieldType.object "java/lang/String")), Jvm.Cond.code ({ cls := "com/example/leasehold/server/Watches$Kept", name := "handback", desc := "()Ljava/lang/String;" } : Jvm.MethodName) prog_150_method_10_code (1 : Nat) (Option.some (Jvm.ClassFile.FieldType.object "java/lang/String")), Jvm.Cond.code ({ cls := "com/example/leasehold/server/Watches$Kept", name := "beside", desc := "()Ljava/util/List;" } : Jvm.MethodName) prog_150_method_11_code (1 : Nat) (Option.some (Jvm.ClassFile.FieldType.object "java/util/List")), Jvm.Cond.code ({ cls := "java/util/ArrayList", name := "add", desc := "(Ljava/lang/Object;)Z" } : Jvm.MethodName) jdk_38_method_25_code (2 : Nat) (Option.some Jvm.ClassFile.FieldType.boolean), Jvm.Cond.code ({ cls := "java/util/ArrayList", name := "add", desc := "(Ljava/lang/Object;[Ljava/lang/Object;I)V" } : Jvm.MethodName) jdk_38_method_24_code (4 : Nat) (Option.none : Option Jvm.ClassFile.FieldType), Jvm.Cond.code ({ cls := "java/util/ArrayList", name := "grow", desc := "()[Ljava/lang/Object;" } : Jvm.MethodName) jdk_38_method_7_code (1 : Nat) (Option.some (Jvm.ClassFile.FieldType.array (Jvm.ClassFile.FieldType.object "java/lang/Object"))), Jvm.Cond.code ({ cls := "java/util/ArrayList", name := "grow", desc := "(I)[Ljava/lang/Object;" } : Jvm.MethodName) jdk_38_method_6_code (4 : Nat) (Option.some (Jvm.ClassFile.FieldType.array (Jvm.ClassFile.FieldType.object "java/lang/Object"))), Jvm.Cond.code ({ cls := "java/lang/Math", name := "max", desc := "(II)I" } : Jvm.MethodName) jdk_29_method_65_code (2 : Nat) (Option.some Jvm.ClassFile.FieldType.int), Jvm.Cond.code ({ cls := "java/util/ArrayList", name := "get", desc := "(I)Ljava/lang/Object;" } : Jvm.MethodName) jdk_38_method_20_code (2 : Nat) (Option.some (Jvm.ClassFile.FieldType.object "java/lang/Object")), Jvm.Cond.code ({ cls := "java/util/Objects", name := "checkIndex", desc := "(II)I" } : Jvm.MethodName) jdk_31_method_17_code (2 : Nat) (Option.some Jvm.ClassFile.FieldType.int), Jvm.Cond.code ({ cls := "jdk/internal/util/Preconditions", name := "checkIndex", desc := "(IILjava/util/function/BiFunction;)I" } : Jvm.MethodName) jdk_41_method_11_code (3 : Nat) (Option.some Jvm.ClassFile.FieldType.int), Jvm.Cond.code ({ cls := "java/util/ArrayList", name := "elementData", desc := "(I)Ljava/lang/Object;" } : Jvm.MethodName) jdk_38_method_18_code (2 : Nat) (Option.some (Jvm.ClassFile.FieldType.object "java/lang/Object"))]
set_option maxRecDepth 65536 in
theorem codes_eq : words1.filter isCode = codes1 := rfl
theorem w_codes : ∀ c ∈ words1.filter isCode, c.before args0 about1 = true := by
  rw [codes_eq]
  intro c hc
  simp only [codes1, List.mem_cons, List.not_mem_nil, or_false] at hc
  rcases hc with rfl | rfl | rfl | rfl | rfl | rfl | rfl | rfl | rfl | rfl | rfl | rfl | rfl | rfl | rfl | rfl | rfl | rfl | rfl | rfl | rfl | rfl | rfl | rfl | rfl | rfl | rfl | rfl
  · exact w_c0
  · exact w_c1
  · exact w_c2
  · exact w_c3
  · exact w_c4
  · exact w_c5
  · exact w_c6
  · exact w_c7
  · exact w_c8
  · exact w_c9
  · exact w_c10
  · exact w_c11
  · exact w_c12
  · exact w_c13
  · exact w_c14
  · exact w_c15
  · exact w_c16
  · exact w_c17
  · exact w_c18
  · exact w_c19
  · exact w_c20
  · exact w_c21
  · exact w_c22
  · exact w_c23
  · exact w_c24
  · exact w_c25
  · exact w_c26
  · exact w_c27
set_option maxRecDepth 65536 in
theorem w_t1 : (words1.take 24).all (fun c => isCode c || c.before args0 about1) = true := by decide +kernel
set_option maxRecDepth 65536 in
theorem w_t2 : ((words1.drop 24).take 24).all (fun c => isCode c || c.before args0 about1) = true := by decide +kernel
set_option maxRecDepth 65536 in
theorem w_t3 : (((words1.drop 24).drop 24).take 24).all (fun c => isCode c || c.before args0 about1) = true := by decide +kernel
set_option maxRecDepth 65536 in
theorem w_t4 : ((((words1.drop 24).drop 24).drop 24).take 24).all (fun c => isCode c || c.before args0 about1) = true := by decide +kernel
set_option maxRecDepth 65536 in
theorem w_t5 : (((((words1.drop 24).drop 24).drop 24).drop 24).take 24).all (fun c => isCode c || c.before args0 about1) = true := by decide +kernel
set_option maxRecDepth 65536 in
theorem w_t6 : ((((((words1.drop 24).drop 24).drop 24).drop 24).drop 24).take 24).all (fun c => isCode c || c.before args0 about1) = true := by decide +kernel
set_option maxRecDepth 65536 in
theorem w_t7 : (((((((words1.drop 24).drop 24).drop 24).drop 24).drop 24).drop 24).take 24).all (fun c => isCode c || c.before args0 about1) = true := by decide +kernel
set_option maxRecDepth 65536 in
theorem w_t8 : (((((((words1.drop 24).drop 24).drop 24).drop 24).drop 24).drop 24).drop 24).all (fun c => isCode c || c.before args0 about1) = true := by decide +kernel
theorem w_tables : (allAtoms (Jvm.Cond.code x code maxLocals ret :: tables_1)).before args0 about1 = true := by
  rw [allAtoms_all]
  show words1.all (fun c => c.before args0 about1) = true
  refine all_split ?_ w_codes
  rw [← List.take_append_drop 24 words1, List.all_append, w_t1, ← List.take_append_drop 24 (words1.drop 24), List.all_append, w_t2, ← List.take_append_drop 24 ((words1.drop 24).drop 24), List.all_append, w_t3, ← List.take_append_drop 24 (((words1.drop 24).drop 24).drop 24), List.all_append, w_t4, ← List.take_append_drop 24 ((((words1.drop 24).drop 24).drop 24).drop 24), List.all_append, w_t5, ← List.take_append_drop 24 (((((words1.drop 24).drop 24).drop 24).drop 24).drop 24), List.all_append, w_t6, ← List.take_append_drop 24 ((((((words1.drop 24).drop 24).drop 24).drop 24).drop 24).drop 24), List.all_append, w_t7, w_t8]
  rfl
set_option maxRecDepth 65536 in
theorem w_rest : rest_1_c.before args0 about1 = true := by decide +kernel
set_option maxRecDepth 65536 in
theorem w_case : (Jvm.Cond.and given_1 narrow_1).before args0 about1 = true := by decide +kernel
theorem w_applies : (headSpec (Jvm.Cond.code x code maxLocals ret :: tables_1) room_1).applies x e0.platform about1 = true :=
  (Spec.applies_iff w_frames).mpr ⟨w_running, w_runnable, w_alone, w_named, w_hears, w_ripe, w_room, w_tables⟩
theorem atStart : AtStart classFile x code maxLocals ret World_1 tables_1 room_1 Calls_1 rest_1 Pre_1 launch0 p0 e0 about1 theMethod args0 below0 :=
  ⟨lists_1, trivial, launch0.admits_env _ _ _, launch0.least_env, fairChoices_fair.cas, fairChoices_fair.clock, w_frames, w_args, w_heap, w_applies, trivial, w_rest, w_case⟩
end start1
theorem witness_1 : WitnessClaimed_1 := ⟨start1.p0, start1.e0, start1.about1, start1.theMethod, start1.args0, start1.below0, start1.atStart⟩
end Jvm.Pilot.@@N@@
