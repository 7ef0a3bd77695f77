import JvmDerived
import JvmDerived.Pilot.@@N@@Statement
import JvmDerived.Pilot.@@N@@Code
set_option linter.unusedVariables false
set_option linter.unusedSimpArgs false
@@BLOCK:NumsL.lean.txt@@
namespace Jvm.Pilot.@@N@@
open Jvm Jvm.ClassFile Sem Op Lib Jvm.Free Jvm.Stand Jvm.LawKit Jvm.RoadKit Bundle Jvm.Pilot.@@N@@.Jvm.D
section OwnKit
variable {p : Program} {l : Launch} {e : Env} {R : Room} {s : State} {m : MethodId} {args : Array Value} {below : List Frame} {meth : Method} {c : Code} {T : State} {locs : List Loc} {cells slots : Nat} {n0 cc nn : Nat} {K : Option Value → Heap → Prop} {P : Heap → Prop} {A B : State}
/-- what a contract says of the value, the heap and the places written -/
def QK (n0 : Nat) (K : Option Value → Heap → Prop) (v : Option Value) (h : Heap) (L : List Loc) : Prop := K v h ∧ Fr n0 L
def Kv (w : Option Value) (P : Heap → Prop) (v : Option Value) (h : Heap) : Prop := v = w ∧ P h
/-- from A the run comes to this body's end, and K holds there -/
def Gl (p : Program) (e : Env) (below : List Frame) (s : State) (n0 cc nn : Nat) (K : Option Value → Heap → Prop) (A : State) : Prop :=
  ∃ t o, Steps p.tables e below A t ∧ t.status = .running ∧ Ended t below o ∧ ∃ v L, o = .returned v ∧ QK n0 K v t.heap L ∧ FrameEnd s o t L cc nn
theorem go (st : ∀ t, Steps p.tables e below B t → Steps p.tables e below A t) (h : Gl p e below s n0 cc nn K B) : Gl p e below s n0 cc nn K A := by
  obtain ⟨t, o, h1, h2⟩ := h; exact ⟨t, o, st t h1, h2⟩
theorem gl_start {g g' : JFrame} (q : g = g') (h : Gl p e below s n0 cc nn K (T.setTop g')) :
    ∃ t o, Steps p.tables e below (T.setTop g) t ∧ t.status = .running ∧ Ended t below o ∧ ∃ v L, o = .returned v ∧ QK n0 K v t.heap L ∧ FrameEnd s o t L cc nn := by
  subst q; exact h
theorem gI {c : Prop} [Decidable c] {a b : Int32} (h1 : c → Gl p e below s n0 cc nn (Kv (some (.int a)) P) A) (h2 : ¬ c → Gl p e below s n0 cc nn (Kv (some (.int b)) P) A) : Gl p e below s n0 cc nn (Kv (some (.int (if c then a else b))) P) A := by
  by_cases h : c
  · rw [if_pos h]; exact h1 h
  · rw [if_neg h]; exact h2 h
theorem gJ {c : Prop} [Decidable c] {a b : Int64} (h1 : c → Gl p e below s n0 cc nn (Kv (some (.long a)) P) A) (h2 : ¬ c → Gl p e below s n0 cc nn (Kv (some (.long b)) P) A) : Gl p e below s n0 cc nn (Kv (some (.long (if c then a else b))) P) A := by
  by_cases h : c
  · rw [if_pos h]; exact h1 h
  · rw [if_neg h]; exact h2 h
theorem gR {c : Prop} [Decidable c] {a b : Addr} (h1 : c → Gl p e below s n0 cc nn (Kv (some (.ref a)) P) A) (h2 : ¬ c → Gl p e below s n0 cc nn (Kv (some (.ref b)) P) A) : Gl p e below s n0 cc nn (Kv (some (.ref (if c then a else b))) P) A := by
  by_cases h : c
  · rw [if_pos h]; exact h1 h
  · rw [if_neg h]; exact h2 h
theorem gV {c : Prop} [Decidable c] (h1 : c → Gl p e below s n0 cc nn K A) (h2 : ¬ c → Gl p e below s n0 cc nn K A) : Gl p e below s n0 cc nn K A := by
  by_cases h : c
  · exact h1 h
  · exact h2 h
variable {x : MethodName} {S : Spec} {code' : ByteArray} {ml : Nat} {s₁ : State} {pc : Nat} {Ls : Array Slot} {rest : List Value}
theorem endN (X : Stand p l e R s m args below meth c T locs cells slots) (hx : p.tables.exec = Jvm.exec) {t : FieldType} (Bd : BodyLoose p l x S code' ml (some t) e s m args below meth c s₁) (ht : t = .boolean ∨ t = .byte ∨ t = .char ∨ t = .short) {z : Int32}
    (hd : decode c.code pc = .ok (.ireturn, 1)) (hK : K (some (.int (nar t z))) T.heap) (N : Fr n0 locs) (hc : cells ≤ cc) (hs : slots ≤ nn) : Gl p e below s n0 cc nn K (T.setTop (mkF m pc Ls (.int z :: rest))) := by
  obtain ⟨fs, hr, hrun, hended, hW, hsame⟩ := X.leave (v := some (.int (nar t z))) (fun h => by rw [Bd.returns] at h; cases h)
  exact ⟨_, _, retN X hx Bd.returns ht hd hr, hrun, hended, _, _, rfl, ⟨hK, N⟩, ⟨_, rfl⟩, hW, hsame.mono hc hs⟩
theorem endO (X : Stand p l e R s m args below meth c T locs cells slots) (hx : p.tables.exec = Jvm.exec) {t : FieldType} (Bd : BodyLoose p l x S code' ml (some t) e s m args below meth c s₁) {w : Value} {i : Instr} (hn : narrow t w = w)
    (hi : (i = .ireturn ∧ (t = .int ∨ t = .boolean ∨ t = .byte ∨ t = .char ∨ t = .short) ∧ ∃ z, w = .int z) ∨ (i = .lreturn ∧ t = .long ∧ ∃ z, w = .long z) ∨ (i = .dreturn ∧ t = .double ∧ ∃ z, w = .double z) ∨ (i = .freturn ∧ t = .float ∧ ∃ z, w = .float z) ∨ (i = .areturn ∧ t.isReference = true ∧ w.isRef = true))
    (hd : decode c.code pc = .ok (i, 1)) (hK : K (some w) T.heap) (N : Fr n0 locs) (hc : cells ≤ cc) (hs : slots ≤ nn) : Gl p e below s n0 cc nn K (T.setTop (mkF m pc Ls (w :: rest))) := by
  obtain ⟨fs, hr, hrun, hended, hW, hsame⟩ := X.leave (v := some w) (fun h => by rw [Bd.returns] at h; cases h)
  exact ⟨_, _, retOut X hx Bd.returns hn hi hd hr, hrun, hended, _, _, rfl, ⟨hK, N⟩, ⟨_, rfl⟩, hW, hsame.mono hc hs⟩
theorem endI (X : Stand p l e R s m args below meth c T locs cells slots) (hx : p.tables.exec = Jvm.exec) (Bd : BodyLoose p l x S code' ml (some .int) e s m args below meth c s₁) {z : Int32}
    (hd : decode c.code pc = .ok (.ireturn, 1)) (hK : K (some (.int z)) T.heap) (N : Fr n0 locs) (hc : cells ≤ cc) (hs : slots ≤ nn) : Gl p e below s n0 cc nn K (T.setTop (mkF m pc Ls (.int z :: rest))) :=
  endO X hx Bd rfl (Or.inl ⟨rfl, Or.inl rfl, z, rfl⟩) hd hK N hc hs
theorem endJ (X : Stand p l e R s m args below meth c T locs cells slots) (hx : p.tables.exec = Jvm.exec) (Bd : BodyLoose p l x S code' ml (some .long) e s m args below meth c s₁) {z : Int64}
    (hd : decode c.code pc = .ok (.lreturn, 1)) (hK : K (some (.long z)) T.heap) (N : Fr n0 locs) (hc : cells ≤ cc) (hs : slots ≤ nn) : Gl p e below s n0 cc nn K (T.setTop (mkF m pc Ls (.long z :: rest))) :=
  endO X hx Bd rfl (Or.inr (Or.inl ⟨rfl, rfl, z, rfl⟩)) hd hK N hc hs
theorem endR (X : Stand p l e R s m args below meth c T locs cells slots) (hx : p.tables.exec = Jvm.exec) {t : FieldType} (Bd : BodyLoose p l x S code' ml (some t) e s m args below meth c s₁) (ht : t.isReference = true) {a : Addr}
    (hd : decode c.code pc = .ok (.areturn, 1)) (hK : K (some (.ref a)) T.heap) (N : Fr n0 locs) (hc : cells ≤ cc) (hs : slots ≤ nn) : Gl p e below s n0 cc nn K (T.setTop (mkF m pc Ls (.ref a :: rest))) :=
  endO X hx Bd (by cases t <;> first | rfl | cases ht) (Or.inr (Or.inr (Or.inr (Or.inr ⟨rfl, ht, rfl⟩)))) hd hK N hc hs
theorem endV (X : Stand p l e R s m args below meth c T locs cells slots) (hx : p.tables.exec = Jvm.exec) (Bd : BodyLoose p l x S code' ml none e s m args below meth c s₁)
    (hd : decode c.code pc = .ok (.return_, 1)) (hK : K none T.heap) (N : Fr n0 locs) (hc : cells ≤ cc) (hs : slots ≤ nn) : Gl p e below s n0 cc nn K (T.setTop (mkF m pc Ls [])) := by
  obtain ⟨fs, hr, hrun, hended, hW, hsame⟩ := X.leave (v := none) (fun _ => rfl)
  exact ⟨_, _, X.returnOut hx Bd.returns hd hr, hrun, hended, _, _, rfl, ⟨hK, N⟩, ⟨_, rfl⟩, hW, hsame.mono hc hs⟩
theorem lremM {g : JFrame} {target : State} (X : Stand p l e R s m args below meth c T locs cells slots) (hx : p.tables.exec = Jvm.exec) (hg : g.method = m) {x y : Int64} {rest : List Value} (hd : decode c.code g.pc = .ok (.lrem, 1)) (hs : g.stack = .long y :: .long x :: rest) (hy : y ≠ 0)
    (hr : Steps p.tables e below (T.setTop { g with pc := g.pc + 1, stack := .long (x % y) :: rest }) target) : Steps p.tables e below (T.setTop g) target := by
  have q := lrem_mod x y
  exact XS.lrem X.here hx hg hd hs hy (by rw [q]; exact hr)
theorem sta_keep {Z : State} {h h' : Heap} {a : Addr} {C n d D : String} {w : Value} (F : Sta Z h C n d w) (Kp : Keep h h' [a]) (E : Exa Z h a D) : Sta Z h' C n d w := by
  obtain ⟨cf, i, k, f, st, cell, h1, h2, h3, h4, h5, h6, h7⟩ := F
  obtain ⟨cell', k', e1, -, -, e4, -⟩ := E
  refine ⟨cf, i, k, f, st, cell, h1, h2, h3, h4, Kp.2.1 st cell h5 (ninS (fun q => ?_) nin0), h6, h7⟩
  subst q; cases h5.symm.trans e1; rw [h6] at e4; cases e4
theorem sta_keepN {Z : State} {h h' : Heap} {ws : List Addr} {C n d : String} {w : Value} (F : Sta Z h C n d w) (Kp : Keep h h' ws) (hn : ∀ x ∈ ws, ∀ cell : Cell, h[x]? = some cell → cell.vm.isStatics = false) : Sta Z h' C n d w := by
  obtain ⟨cf, i, k, f, st, cell, h1, h2, h3, h4, h5, h6, h7⟩ := F
  refine ⟨cf, i, k, f, st, cell, h1, h2, h3, h4, Kp.2.1 st cell h5 (fun q => ?_), h6, h7⟩
  have := hn st q cell h5
  rw [h6] at this; cases this
theorem sta_keep0 {Z : State} {h h' : Heap} {C n d : String} {w : Value} (F : Sta Z h C n d w) (Kp : Keep h h' []) : Sta Z h' C n d w := by
  obtain ⟨cf, i, k, f, st, cell, h1, h2, h3, h4, h5, h6, h7⟩ := F
  exact ⟨cf, i, k, f, st, cell, h1, h2, h3, h4, Kp.2.1 st cell h5 nin0, h6, h7⟩
theorem sel_priv {Z s : State} {a0 args : Array Value} {y : MethodName} {n : Nat} (hZ : Z.Warmed39 s.vm) (wi : (Cond.instantiable y.cls n).before a0 Z = true) (wp : (Cond.privateMethod y).before a0 Z = true) (wm : (Cond.instanceMethod y).before a0 Z = true) (hy : y.cls ≠ "java/lang/invoke/MethodHandle" ∧ y.cls ≠ "java/lang/invoke/VarHandle") : (Cond.selects y.cls y y).before args s = true := by
  obtain ⟨c, k, h1, h2, -, h4, -⟩ := Cond.instantiable_spec (show (Cond.instantiable y.cls n).before args s = true from mvT hZ wi)
  exact Jvm.Stand.selects_self_of_private h1 h2 (by simp only [Bool.or_eq_false_iff] at h4; exact h4.1) (Cond.privateMethod_at (mvP hZ wp (args := args))) (mvT hZ wm) hy
theorem eqL_v {t : Term} {k : Int64} {a0 : Array Value} {first u : State} {o : Option Outcome} {idx : List Nat} (h : (Cond.eq t (.long k)).value a0 first o u idx = some true) : t.eval a0 first o idx u = some (.long k) := by
  simp only [Cond.value, Term.eval] at h
  cases ht : t.eval a0 first o idx u with
  | none => simp [ht] at h
  | some x => cases x <;> simp [ht] at h ⊢; exact h
theorem eqI_v {t : Term} {k : Int32} {a0 : Array Value} {first u : State} {o : Option Outcome} {idx : List Nat} (h : (Cond.eq t (.int k)).value a0 first o u idx = some true) : t.eval a0 first o idx u = some (.int k) := by
  simp only [Cond.value, Term.eval] at h
  cases ht : t.eval a0 first o idx u with
  | none => simp [ht] at h
  | some x => cases x <;> simp [ht] at h ⊢; exact h
end OwnKit
theorem d2_0 : decode prog_46_method_1_code 0 = .ok (.getstatic 10, 3) := by decide +kernel
theorem d2_3 : decode prog_46_method_1_code 3 = .ok (.invokevirtual 14, 3) := by decide +kernel
theorem d2_6 : decode prog_46_method_1_code 6 = .ok (.checkcast 15, 3) := by decide +kernel
theorem d2_9 : decode prog_46_method_1_code 9 = .ok (.areturn, 1) := by decide +kernel
theorem pn_0 : plainName "com/example/vicinet/vicinet/protocol/Beacon$Availability" = true := by first | (simp [plainName, overriddenIn]; done) | decide +kernel
theorem ef_2 (m : MethodId)  : entryFrame m #[] 0 = mkF m 0 #[] [] := by first | (simp [entryFrame, mkF, argsToLocals, Value.category]; done) | rfl
set_option maxRecDepth 65536 in
set_option maxHeartbeats 40000000 in
theorem rm2 (l : Launch) (Z : State) (a0 : Array Value) (hw : ∀ d ∈ tables_1, d.before a0 Z = true) (ws : List Jvm.Cond)  (w__VALUES : Addr) (w_READY : Addr) (w_CHOKED : Addr) (cl : Cell) (h0 : Heap) (n0 : Nat) (Z0 : n0 ≤ h0.size) (S__VALUES : Sta Z h0 "com/example/vicinet/vicinet/protocol/Beacon$Availability" "$VALUES" "[Lcom/example/vicinet/vicinet/protocol/Beacon$Availability;" (.ref w__VALUES)) (S_READY : Sta Z h0 "com/example/vicinet/vicinet/protocol/Beacon$Availability" "READY" "Lcom/example/vicinet/vicinet/protocol/Beacon$Availability;" (.ref w_READY)) (S_CHOKED : Sta Z h0 "com/example/vicinet/vicinet/protocol/Beacon$Availability" "CHOKED" "Lcom/example/vicinet/vicinet/protocol/Beacon$Availability;" (.ref w_CHOKED)) (Ar : Arr Z h0 w__VALUES cl (.object "com/example/vicinet/vicinet/protocol/Beacon$Availability")) (hS : cl.slots.size = 2) (hE0 : cl.slots[0]? = some (.ref w_READY)) (hE1 : cl.slots[1]? = some (.ref w_CHOKED)) (Fc : FitC Z cl) (EV : Exa Z h0 w__VALUES "[Lcom/example/vicinet/vicinet/protocol/Beacon$Availability;") :
    MetFree l (⟨"com/example/vicinet/vicinet/protocol/Beacon$Availability", "values", "()[Lcom/example/vicinet/vicinet/protocol/Beacon$Availability;"⟩ : MethodName) (head1 (Jvm.Cond.code (⟨"com/example/vicinet/vicinet/protocol/Beacon$Availability", "values", "()[Lcom/example/vicinet/vicinet/protocol/Beacon$Availability;"⟩ : MethodName) prog_46_method_1_code 0 (some (.array (.object "com/example/vicinet/vicinet/protocol/Beacon$Availability"))) :: ws) ({ frames := 1, cells := 1, slots := 2, locals := 14 } : Room)) (fun a U => a = #[] ∧ Z.Warmed39 U.vm ∧ U.heap = h0) (fun _ _ _ _ _ => True) (fun _ U o U' => ∃ v L, o = .returned v ∧ QK n0 (Kv (some (.ref h0.size)) (fun h => Keep h0 h [] ∧ Arr Z h h0.size (cloneOf cl) (.object "com/example/vicinet/vicinet/protocol/Beacon$Availability"))) v U'.heap L ∧ FrameEnd U o U' L ({ frames := 1, cells := 1, slots := 2, locals := 14 } : Room).cells ({ frames := 1, cells := 1, slots := 2, locals := 14 } : Room).slots) := by
  refine MetFree.of_bodySF (plainFor_of_name pn_0) hisR ?_
  intro p e s m args below meth c s₁ Bd hml0 hP hK
  obtain ⟨rfl, hZ, hh⟩ := hP
  have hx := Bd.exec
  have hby := Bd.bytes
  have hml : c.maxLocals = 0 := hml0
  have hown : s.vm.findClass "com/example/vicinet/vicinet/protocol/Beacon$Availability" = some m.cls := findClass_of_methodNamed Bd.named
  have hnm := (name_of_methodNamed Bd.named Bd.method).1
  have X0 : Stand p l e ({ frames := 1, cells := 1, slots := 2, locals := 14 } : Room) s m #[] below meth c s₁ [] 0 0 := Stand.of_body Bd
  have e0 : s₁.heap = h0 := by rw [← hh, Bd.state]; rfl
  have N0 := Fr.nil n0
  refine gl_start (ef_2 m ) ?_
  show Gl p e below s n0 ({ frames := 1, cells := 1, slots := 2, locals := 14 } : Room).cells ({ frames := 1, cells := 1, slots := 2, locals := 14 } : Room).slots (Kv (some (.ref h0.size)) (fun h => Keep h0 h [] ∧ Arr Z h h0.size (cloneOf cl) (.object "com/example/vicinet/vicinet/protocol/Beacon$Availability"))) (s₁.setTop (mkF m 0 #[] []))
  obtain ⟨T1, X1, e1, st1⟩ := getS2 X0 hx hZ hown (host := "") (Or.inl (hw _ (List.mem_of_getElem? (i := 7) rfl))) Via.refl e0 S__VALUES (g := (mkF m 0 #[] [])) rfl (hb hby d2_0)
  refine go (fun t k => st1 _ k) ?_
  show Gl _ _ _ _ _ _ _ _ (T1.setTop (mkF m 3 #[] [(.ref w__VALUES)]))
  obtain ⟨T2, h2, X2, e2, E2, A2, EA2, st2⟩ := cloneA X1 hx hZ hown (hw _ (List.mem_of_getElem? (i := 9) rfl)) (hw _ (List.mem_of_getElem? (i := 10) rfl)) (hw _ (List.mem_of_getElem? (i := 14) rfl)) (hw _ (List.mem_of_getElem? (i := 12) rfl)) (hw _ (List.mem_of_getElem? (i := 13) rfl)) (hw _ (List.mem_of_getElem? (i := 15) rfl)) e1 Ar EV Fc (g := (mkF m 3 #[] [(.ref w__VALUES)])) rfl (by rw [hml]; rfl) rfl (hb hby d2_3) (by decide) (W := 0) (cap := 2) (by show 2 * 0 + _ ≤ _; exact Nat.le_of_eq rfl) (by decide) (Nat.le_of_eq hS) (by decide) (by decide)
  refine go (fun t k => st2 _ k) ?_
  show Gl _ _ _ _ _ _ _ _ (T2.setTop (mkF m 6 #[] [(.ref h0.size)]))
  obtain ⟨T3, X3, e3, st3⟩ := castY X2 hx hZ hown (hw _ (List.mem_of_getElem? (i := 19) rfl)) e2 (Ins.self EA2) (g := (mkF m 6 #[] [(.ref h0.size)])) rfl rfl (hb hby d2_6)
  refine go (fun t k => st3 _ k) ?_
  show Gl _ _ _ _ _ _ _ _ (T3.setTop (mkF m 9 #[] [(.ref h0.size)]))
  exact endR X3 hx Bd rfl (hb hby d2_9) ⟨rfl, (by rw [e3]; exact ⟨(Keep.refl h0 []).ext E2, A2⟩)⟩ N0 (by decide) (by decide)
theorem own_arv {Z : State} {h : Heap} {r : Addr} {cl : Cell} {C : String} {a b : Addr} (A : Arr Z h r (cloneOf cl) (.object C)) (hS : cl.slots.size = 2) (h0 : cl.slots[0]? = some (.ref a)) (h1 : cl.slots[1]? = some (.ref b)) : Arv Z h r cl.cls (.object C) (2 : Int32) [(.ref a), (.ref b)] .null := by
  refine ⟨cloneOf cl, A, rfl, hS, by decide, fun k hk => ?_, fun i hi => ?_⟩
  · have hk' : k < 2 := by rw [← hS]; exact hk
    match k, hk' with
    | 0, _ => exact h0
    | 1, _ => exact h1
  · have hk' : i < 2 := by rw [← hS]; exact hi
    match i, hk' with
    | 0, _ => rfl
    | 1, _ => rfl
theorem own_c1 {p : Int32} (h : p = 0 ∨ p = 1) (q : ¬ ((0 : Int32) = p)) : (1 : Int32) = p := h.elim (fun e => absurd e.symm q) Eq.symm
theorem pd_0 : parseMethodDescriptor "()[Lcom/example/vicinet/vicinet/protocol/Beacon$Availability;" = some ⟨[], some (.array (.object "com/example/vicinet/vicinet/protocol/Beacon$Availability"))⟩ := by decide +kernel
theorem d1_0 : decode prog_46_method_5_code 0 = .ok (.invokestatic 33, 3) := by decide +kernel
theorem d1_3 : decode prog_46_method_5_code 3 = .ok (.astore_n 1, 1) := by decide +kernel
theorem d1_4 : decode prog_46_method_5_code 4 = .ok (.aload_n 1, 1) := by decide +kernel
theorem d1_5 : decode prog_46_method_5_code 5 = .ok (.arraylength, 1) := by decide +kernel
theorem d1_6 : decode prog_46_method_5_code 6 = .ok (.istore_n 2, 1) := by decide +kernel
theorem d1_7 : decode prog_46_method_5_code 7 = .ok (.iconst 0, 1) := by decide +kernel
theorem d1_8 : decode prog_46_method_5_code 8 = .ok (.istore_n 3, 1) := by decide +kernel
theorem d1_9 : decode prog_46_method_5_code 9 = .ok (.iload_n 3, 1) := by decide +kernel
theorem d1_10 : decode prog_46_method_5_code 10 = .ok (.iload_n 2, 1) := by decide +kernel
theorem d1_11 : decode prog_46_method_5_code 11 = .ok (.if_icmp .ge 26, 3) := by decide +kernel
theorem d1_14 : decode prog_46_method_5_code 14 = .ok (.aload_n 1, 1) := by decide +kernel
theorem d1_15 : decode prog_46_method_5_code 15 = .ok (.iload_n 3, 1) := by decide +kernel
theorem d1_16 : decode prog_46_method_5_code 16 = .ok (.aaload, 1) := by decide +kernel
theorem d1_17 : decode prog_46_method_5_code 17 = .ok (.astore 4, 2) := by decide +kernel
theorem d1_19 : decode prog_46_method_5_code 19 = .ok (.aload 4, 2) := by decide +kernel
theorem d1_21 : decode prog_46_method_5_code 21 = .ok (.getfield 29, 3) := by decide +kernel
theorem d1_24 : decode prog_46_method_5_code 24 = .ok (.iload_n 0, 1) := by decide +kernel
theorem d1_25 : decode prog_46_method_5_code 25 = .ok (.if_icmp .ne 6, 3) := by decide +kernel
theorem d1_28 : decode prog_46_method_5_code 28 = .ok (.aload 4, 2) := by decide +kernel
theorem d1_30 : decode prog_46_method_5_code 30 = .ok (.areturn, 1) := by decide +kernel
theorem d1_31 : decode prog_46_method_5_code 31 = .ok (.iinc 3 1, 3) := by decide +kernel
theorem d1_34 : decode prog_46_method_5_code 34 = .ok (.goto (-25), 3) := by decide +kernel
theorem ef_1 (m : MethodId) (p1 : Int32) : entryFrame m #[(.int p1)] 5 = mkF m 0 #[.val (.int p1), .unset, .unset, .unset, .unset] [] := by first | (simp [entryFrame, mkF, argsToLocals, Value.category]; done) | rfl
def b1_0 (p1 : Int32) (w_READY : Addr) (w_CHOKED : Addr) : Addr := (if (0 : Int32) = p1 then w_READY else w_CHOKED)
set_option maxRecDepth 65536 in
set_option maxHeartbeats 40000000 in
theorem rm1 (l : Launch) (Z : State) (a0 : Array Value) (hw : ∀ d ∈ tables_1, d.before a0 Z = true) (ws : List Jvm.Cond) (p1 : Int32) (w__VALUES : Addr) (w_READY : Addr) (w_CHOKED : Addr) (cl : Cell) (h0 : Heap) (n0 : Nat) (Z0 : n0 ≤ h0.size) (S__VALUES : Sta Z h0 "com/example/vicinet/vicinet/protocol/Beacon$Availability" "$VALUES" "[Lcom/example/vicinet/vicinet/protocol/Beacon$Availability;" (.ref w__VALUES)) (S_READY : Sta Z h0 "com/example/vicinet/vicinet/protocol/Beacon$Availability" "READY" "Lcom/example/vicinet/vicinet/protocol/Beacon$Availability;" (.ref w_READY)) (S_CHOKED : Sta Z h0 "com/example/vicinet/vicinet/protocol/Beacon$Availability" "CHOKED" "Lcom/example/vicinet/vicinet/protocol/Beacon$Availability;" (.ref w_CHOKED)) (Ar : Arr Z h0 w__VALUES cl (.object "com/example/vicinet/vicinet/protocol/Beacon$Availability")) (hS : cl.slots.size = 2) (hE0 : cl.slots[0]? = some (.ref w_READY)) (hE1 : cl.slots[1]? = some (.ref w_CHOKED)) (Fc : FitC Z cl) (EV : Exa Z h0 w__VALUES "[Lcom/example/vicinet/vicinet/protocol/Beacon$Availability;") (FX_READY : Fld Z h0 w_READY "com/example/vicinet/vicinet/protocol/Beacon$Availability" "code" "I" (.int (0 : Int32))) (EX_READY : Exa Z h0 w_READY "com/example/vicinet/vicinet/protocol/Beacon$Availability") (FX_CHOKED : Fld Z h0 w_CHOKED "com/example/vicinet/vicinet/protocol/Beacon$Availability" "code" "I" (.int (1 : Int32))) (EX_CHOKED : Exa Z h0 w_CHOKED "com/example/vicinet/vicinet/protocol/Beacon$Availability") (hcc : p1 = 0 ∨ p1 = 1) :
    MetFree l (⟨"com/example/vicinet/vicinet/protocol/Beacon$Availability", "of", "(I)Lcom/example/vicinet/vicinet/protocol/Beacon$Availability;"⟩ : MethodName) (head1 (Jvm.Cond.code (⟨"com/example/vicinet/vicinet/protocol/Beacon$Availability", "of", "(I)Lcom/example/vicinet/vicinet/protocol/Beacon$Availability;"⟩ : MethodName) prog_46_method_5_code 5 (some (.object "com/example/vicinet/vicinet/protocol/Beacon$Availability")) :: ws) ({ frames := 2, cells := 1, slots := 2, locals := 25 } : Room)) (fun a U => a = #[(.int p1)] ∧ Z.Warmed39 U.vm ∧ U.heap = h0) (fun _ _ _ _ _ => True) (fun _ U o U' => ∃ v L, o = .returned v ∧ QK n0 (Kv (some (.ref (b1_0 p1 w_READY w_CHOKED))) (fun h => Keep h0 h [])) v U'.heap L ∧ FrameEnd U o U' L ({ frames := 2, cells := 1, slots := 2, locals := 25 } : Room).cells ({ frames := 2, cells := 1, slots := 2, locals := 25 } : Room).slots) := by
  refine MetFree.of_bodySF (plainFor_of_name pn_0) hisR ?_
  intro p e s m args below meth c s₁ Bd hml0 hP hK
  obtain ⟨rfl, hZ, hh⟩ := hP
  have hx := Bd.exec
  have hby := Bd.bytes
  have hml : c.maxLocals = 5 := hml0
  have hown : s.vm.findClass "com/example/vicinet/vicinet/protocol/Beacon$Availability" = some m.cls := findClass_of_methodNamed Bd.named
  have hnm := (name_of_methodNamed Bd.named Bd.method).1
  have X0 : Stand p l e ({ frames := 2, cells := 1, slots := 2, locals := 25 } : Room) s m #[(.int p1)] below meth c s₁ [] 0 0 := Stand.of_body Bd
  have e0 : s₁.heap = h0 := by rw [← hh, Bd.state]; rfl
  have N0 := Fr.nil n0
  refine gl_start (ef_1 m p1) ?_
  show Gl p e below s n0 ({ frames := 2, cells := 1, slots := 2, locals := 25 } : Room).cells ({ frames := 2, cells := 1, slots := 2, locals := 25 } : Room).slots (Kv (some (.ref (if (0 : Int32) = p1 then w_READY else w_CHOKED))) (fun h => Keep h0 h [])) (s₁.setTop (mkF m 0 #[.val (.int p1), .unset, .unset, .unset, .unset] []))
  obtain ⟨_, _, ⟨T1, L1, k1, n1⟩, -, X1, ⟨Lc1, hQ1, l1, y1, z1⟩, st1⟩ := Jvm.LawKit.callS X0 hx (y := (⟨"com/example/vicinet/vicinet/protocol/Beacon$Availability", "values", "()[Lcom/example/vicinet/vicinet/protocol/Beacon$Availability;"⟩ : MethodName)) hown (mvT hZ (hw _ (List.mem_of_getElem? (i := 4) rfl))) (mvT hZ (hw _ (List.mem_of_getElem? (i := 5) rfl))) (mvT hZ (hw _ (List.mem_of_getElem? (i := 2) rfl))) (mvT hZ (hw _ (List.mem_of_getElem? (i := 6) rfl))) (by decide) (backOf (W := 0) (rm2 l Z a0 hw []  w__VALUES w_READY w_CHOKED cl h0 n0 Z0 S__VALUES S_READY S_CHOKED Ar hS hE0 hE1 Fc EV) hZ (hw _ (List.mem_of_getElem? (i := 6) rfl)) (hw _ (List.mem_of_getElem? (i := 2) rfl)) (by decide) (by decide)) (g := (mkF m 0 #[.val (.int p1), .unset, .unset, .unset, .unset] [])) rfl (by rw [hml]; rfl) (argsL := []) (rest := []) (lenOf pd_0 rfl) rfl (by show 2 * 0 + _ ≤ _; exact Nat.le_of_eq rfl) (hb hby d1_0) (fun _ _ => ⟨rfl, e0, (by decide : 0 + 1 ≤ _), (by decide : 0 + 2 ≤ _)⟩)
  dsimp only [Pt.U, Pt.locs, Pt.cells, Pt.slots] at X1 l1 y1 z1 st1 hQ1
  subst l1 y1 z1
  have X1 : Stand p l e ({ frames := 2, cells := 1, slots := 2, locals := 25 } : Room) s m #[(.int p1)] below meth c T1 _ 1 2 := X1
  obtain ⟨⟨rfl, K1q, A1⟩, N1q⟩ := hQ1
  obtain ⟨h1, e1⟩ : ∃ z, T1.heap = z := ⟨_, rfl⟩
  rw [e1] at K1q A1
  obtain ⟨r1, gq1⟩ : ∃ z, z = h0.size := ⟨_, rfl⟩
  rw [← gq1] at A1 st1
  have K1 : Keep h0 h1 [] := (Keep.refl h0 []).trans K1q all0
  have V_r1 := own_arv A1 hS hE0 hE1
  have N1 := Fr.app N0 N1q
  refine go (fun t k => st1 _ k) ?_
  show Gl _ _ _ _ _ _ _ _ (T1.setTop (mkF m 3 #[.val (.int p1), .unset, .unset, .unset, .unset] [(.ref r1)]))
  refine go (fun t k => XS.astoreN X1.here hx rfl (hb hby d1_3) rfl rfl (l' := #[.val (.int p1), .val (.ref r1), .unset, .unset, .unset]) rfl k) ?_
  show Gl _ _ _ _ _ _ _ _ (T1.setTop (mkF m 4 #[.val (.int p1), .val (.ref r1), .unset, .unset, .unset] []))
  refine go (fun t k => XS.aloadN X1.here hx rfl (hb hby d1_4) rfl rfl k) ?_
  show Gl _ _ _ _ _ _ _ _ (T1.setTop (mkF m 5 #[.val (.int p1), .val (.ref r1), .unset, .unset, .unset] [(.ref r1)]))
  obtain ⟨cl2, Ar2, q2, S2, M2, Hh2, G2⟩ := id V_r1
  have hl2 : cl2.slots.size.toInt32 = (2 : Int32) := len_of S2 M2
  refine go (fun t k => X1.arraylength hx (by rw [e1]; exact Ar2.1) (State.isArrayOf_alike hZ.alike Ar2.2.1) (g := (mkF m 5 #[.val (.int p1), .val (.ref r1), .unset, .unset, .unset] [(.ref r1)])) rfl rfl (hb hby d1_5) _ (by rw [hl2]; exact k)) ?_
  show Gl _ _ _ _ _ _ _ _ (T1.setTop (mkF m 6 #[.val (.int p1), .val (.ref r1), .unset, .unset, .unset] [(.int (2 : Int32))]))
  refine go (fun t k => XS.istoreN X1.here hx rfl (hb hby d1_6) rfl (l' := #[.val (.int p1), .val (.ref r1), .val (.int (2 : Int32)), .unset, .unset]) rfl k) ?_
  show Gl _ _ _ _ _ _ _ _ (T1.setTop (mkF m 7 #[.val (.int p1), .val (.ref r1), .val (.int (2 : Int32)), .unset, .unset] []))
  refine go (fun t k => XS.iconst X1.here hx rfl (hb hby d1_7) k) ?_
  show Gl _ _ _ _ _ _ _ _ (T1.setTop (mkF m 8 #[.val (.int p1), .val (.ref r1), .val (.int (2 : Int32)), .unset, .unset] [(.int (0 : Int32))]))
  refine go (fun t k => XS.istoreN X1.here hx rfl (hb hby d1_8) rfl (l' := #[.val (.int p1), .val (.ref r1), .val (.int (2 : Int32)), .val (.int (0 : Int32)), .unset]) rfl k) ?_
  show Gl _ _ _ _ _ _ _ _ (T1.setTop (mkF m 9 #[.val (.int p1), .val (.ref r1), .val (.int (2 : Int32)), .val (.int (0 : Int32)), .unset] []))
  refine go (fun t k => XS.iloadN X1.here hx rfl (hb hby d1_9) rfl  k) ?_
  show Gl _ _ _ _ _ _ _ _ (T1.setTop (mkF m 10 #[.val (.int p1), .val (.ref r1), .val (.int (2 : Int32)), .val (.int (0 : Int32)), .unset] [(.int (0 : Int32))]))
  refine go (fun t k => XS.iloadN X1.here hx rfl (hb hby d1_10) rfl  k) ?_
  show Gl _ _ _ _ _ _ _ _ (T1.setTop (mkF m 11 #[.val (.int p1), .val (.ref r1), .val (.int (2 : Int32)), .val (.int (0 : Int32)), .unset] [(.int (2 : Int32)), (.int (0 : Int32))]))
  refine go (fun t k => XS.icmpNo X1.here hx rfl (hb hby d1_11) rfl (tlt (by decide : (0 : Int32) < (2 : Int32))).2.1 k) ?_
  show Gl _ _ _ _ _ _ _ _ (T1.setTop (mkF m 14 #[.val (.int p1), .val (.ref r1), .val (.int (2 : Int32)), .val (.int (0 : Int32)), .unset] []))
  refine go (fun t k => XS.aloadN X1.here hx rfl (hb hby d1_14) rfl rfl k) ?_
  show Gl _ _ _ _ _ _ _ _ (T1.setTop (mkF m 15 #[.val (.int p1), .val (.ref r1), .val (.int (2 : Int32)), .val (.int (0 : Int32)), .unset] [(.ref r1)]))
  refine go (fun t k => XS.iloadN X1.here hx rfl (hb hby d1_15) rfl  k) ?_
  show Gl _ _ _ _ _ _ _ _ (T1.setTop (mkF m 16 #[.val (.int p1), .val (.ref r1), .val (.int (2 : Int32)), .val (.int (0 : Int32)), .unset] [(.int (0 : Int32)), (.ref r1)]))
  obtain ⟨cl3, Ar3, q3, S3, M3, Hh3, G3⟩ := id V_r1
  have hin3 : ¬ ((0 : Int32) < 0 ∨ cl3.slots.size ≤ ((0 : Int32)).toNatClampNeg) := inb_of S3 ⟨by decide, by decide⟩
  have hat3 : cl3.slots[((0 : Int32)).toNatClampNeg]? = some (.ref w_READY) := Hh3 0 (by rw [S3]; decide)
  refine go (fun t k => X1.aaload hx (j := (0 : Int32)) (v := (.ref w_READY)) (by rw [e1]; exact Ar3.1) (State.isArrayOf_alike hZ.alike Ar3.2.1) rfl Ar3.2.2 hin3 hat3 (g := (mkF m 16 #[.val (.int p1), .val (.ref r1), .val (.int (2 : Int32)), .val (.int (0 : Int32)), .unset] [(.int (0 : Int32)), (.ref r1)])) rfl rfl (hb hby d1_16) _ k) ?_
  show Gl _ _ _ _ _ _ _ _ (T1.setTop (mkF m 17 #[.val (.int p1), .val (.ref r1), .val (.int (2 : Int32)), .val (.int (0 : Int32)), .unset] [(.ref w_READY)]))
  refine go (fun t k => XS.astore X1.here hx rfl (hb hby d1_17) rfl rfl (l' := #[.val (.int p1), .val (.ref r1), .val (.int (2 : Int32)), .val (.int (0 : Int32)), .val (.ref w_READY)]) rfl k) ?_
  show Gl _ _ _ _ _ _ _ _ (T1.setTop (mkF m 19 #[.val (.int p1), .val (.ref r1), .val (.int (2 : Int32)), .val (.int (0 : Int32)), .val (.ref w_READY)] []))
  refine go (fun t k => XS.aload X1.here hx rfl (hb hby d1_19) rfl rfl k) ?_
  show Gl _ _ _ _ _ _ _ _ (T1.setTop (mkF m 21 #[.val (.int p1), .val (.ref r1), .val (.int (2 : Int32)), .val (.int (0 : Int32)), .val (.ref w_READY)] [(.ref w_READY)]))
  obtain ⟨T4, X4, e4, st4⟩ := getF X1 hx hZ hown (host := "") (Or.inl (hw _ (List.mem_of_getElem? (i := 21) rfl))) Via.refl e1 (FX_READY.keep K1q nin0) (g := (mkF m 21 #[.val (.int p1), .val (.ref r1), .val (.int (2 : Int32)), .val (.int (0 : Int32)), .val (.ref w_READY)] [(.ref w_READY)])) rfl rfl (hb hby d1_21)
  refine go (fun t k => st4 _ k) ?_
  show Gl _ _ _ _ _ _ _ _ (T4.setTop (mkF m 24 #[.val (.int p1), .val (.ref r1), .val (.int (2 : Int32)), .val (.int (0 : Int32)), .val (.ref w_READY)] [(.int (0 : Int32))]))
  refine go (fun t k => XS.iloadN X4.here hx rfl (hb hby d1_24) rfl  k) ?_
  show Gl _ _ _ _ _ _ _ _ (T4.setTop (mkF m 25 #[.val (.int p1), .val (.ref r1), .val (.int (2 : Int32)), .val (.int (0 : Int32)), .val (.ref w_READY)] [(.int p1), (.int (0 : Int32))]))
  refine gR (c := (0 : Int32) = p1) (fun hc25 => ?_) (fun hc25 => ?_)
  · refine go (fun t k => XS.icmpNo X4.here hx rfl (hb hby d1_25) rfl (teq hc25).2 k) ?_
    show Gl _ _ _ _ _ _ _ _ (T4.setTop (mkF m 28 #[.val (.int p1), .val (.ref r1), .val (.int (2 : Int32)), .val (.int (0 : Int32)), .val (.ref w_READY)] []))
    refine go (fun t k => XS.aload X4.here hx rfl (hb hby d1_28) rfl rfl k) ?_
    show Gl _ _ _ _ _ _ _ _ (T4.setTop (mkF m 30 #[.val (.int p1), .val (.ref r1), .val (.int (2 : Int32)), .val (.int (0 : Int32)), .val (.ref w_READY)] [(.ref w_READY)]))
    exact endR X4 hx Bd rfl (hb hby d1_30) ⟨rfl, (by rw [e4]; exact K1)⟩ N1 (by decide) (by decide)
  · refine go (fun t k => XS.icmpYes X4.here hx rfl (pc0 := 25) (pc' := 31) rfl (hb hby d1_25) rfl (feq hc25).2 (by decide) (by decide) k) ?_
    show Gl _ _ _ _ _ _ _ _ (T4.setTop (mkF m 31 #[.val (.int p1), .val (.ref r1), .val (.int (2 : Int32)), .val (.int (0 : Int32)), .val (.ref w_READY)] []))
    refine go (fun t k => XS.iinc X4.here hx rfl (hb hby d1_31) rfl (l' := #[.val (.int p1), .val (.ref r1), .val (.int (2 : Int32)), .val (.int (1 : Int32)), .val (.ref w_READY)]) rfl k) ?_
    show Gl _ _ _ _ _ _ _ _ (T4.setTop (mkF m 34 #[.val (.int p1), .val (.ref r1), .val (.int (2 : Int32)), .val (.int (1 : Int32)), .val (.ref w_READY)] []))
    refine go (fun t k => XS.goto X4.here hx rfl (pc0 := 34) (pc' := 9) rfl (hb hby d1_34) (by decide) (by decide) k) ?_
    show Gl _ _ _ _ _ _ _ _ (T4.setTop (mkF m 9 #[.val (.int p1), .val (.ref r1), .val (.int (2 : Int32)), .val (.int (1 : Int32)), .val (.ref w_READY)] []))
    refine go (fun t k => XS.iloadN X4.here hx rfl (hb hby d1_9) rfl  k) ?_
    show Gl _ _ _ _ _ _ _ _ (T4.setTop (mkF m 10 #[.val (.int p1), .val (.ref r1), .val (.int (2 : Int32)), .val (.int (1 : Int32)), .val (.ref w_READY)] [(.int (1 : Int32))]))
    refine go (fun t k => XS.iloadN X4.here hx rfl (hb hby d1_10) rfl  k) ?_
    show Gl _ _ _ _ _ _ _ _ (T4.setTop (mkF m 11 #[.val (.int p1), .val (.ref r1), .val (.int (2 : Int32)), .val (.int (1 : Int32)), .val (.ref w_READY)] [(.int (2 : Int32)), (.int (1 : Int32))]))
    refine go (fun t k => XS.icmpNo X4.here hx rfl (hb hby d1_11) rfl (tlt (by decide : (1 : Int32) < (2 : Int32))).2.1 k) ?_
    show Gl _ _ _ _ _ _ _ _ (T4.setTop (mkF m 14 #[.val (.int p1), .val (.ref r1), .val (.int (2 : Int32)), .val (.int (1 : Int32)), .val (.ref w_READY)] []))
    refine go (fun t k => XS.aloadN X4.here hx rfl (hb hby d1_14) rfl rfl k) ?_
    show Gl _ _ _ _ _ _ _ _ (T4.setTop (mkF m 15 #[.val (.int p1), .val (.ref r1), .val (.int (2 : Int32)), .val (.int (1 : Int32)), .val (.ref w_READY)] [(.ref r1)]))
    refine go (fun t k => XS.iloadN X4.here hx rfl (hb hby d1_15) rfl  k) ?_
    show Gl _ _ _ _ _ _ _ _ (T4.setTop (mkF m 16 #[.val (.int p1), .val (.ref r1), .val (.int (2 : Int32)), .val (.int (1 : Int32)), .val (.ref w_READY)] [(.int (1 : Int32)), (.ref r1)]))
    obtain ⟨cl5, Ar5, q5, S5, M5, Hh5, G5⟩ := id V_r1
    have hin5 : ¬ ((1 : Int32) < 0 ∨ cl5.slots.size ≤ ((1 : Int32)).toNatClampNeg) := inb_of S5 ⟨by decide, by decide⟩
    have hat5 : cl5.slots[((1 : Int32)).toNatClampNeg]? = some (.ref w_CHOKED) := Hh5 1 (by rw [S5]; decide)
    refine go (fun t k => X4.aaload hx (j := (1 : Int32)) (v := (.ref w_CHOKED)) (by rw [e4]; exact Ar5.1) (State.isArrayOf_alike hZ.alike Ar5.2.1) rfl Ar5.2.2 hin5 hat5 (g := (mkF m 16 #[.val (.int p1), .val (.ref r1), .val (.int (2 : Int32)), .val (.int (1 : Int32)), .val (.ref w_READY)] [(.int (1 : Int32)), (.ref r1)])) rfl rfl (hb hby d1_16) _ k) ?_
    show Gl _ _ _ _ _ _ _ _ (T4.setTop (mkF m 17 #[.val (.int p1), .val (.ref r1), .val (.int (2 : Int32)), .val (.int (1 : Int32)), .val (.ref w_READY)] [(.ref w_CHOKED)]))
    refine go (fun t k => XS.astore X4.here hx rfl (hb hby d1_17) rfl rfl (l' := #[.val (.int p1), .val (.ref r1), .val (.int (2 : Int32)), .val (.int (1 : Int32)), .val (.ref w_CHOKED)]) rfl k) ?_
    show Gl _ _ _ _ _ _ _ _ (T4.setTop (mkF m 19 #[.val (.int p1), .val (.ref r1), .val (.int (2 : Int32)), .val (.int (1 : Int32)), .val (.ref w_CHOKED)] []))
    refine go (fun t k => XS.aload X4.here hx rfl (hb hby d1_19) rfl rfl k) ?_
    show Gl _ _ _ _ _ _ _ _ (T4.setTop (mkF m 21 #[.val (.int p1), .val (.ref r1), .val (.int (2 : Int32)), .val (.int (1 : Int32)), .val (.ref w_CHOKED)] [(.ref w_CHOKED)]))
    obtain ⟨T6, X6, e6, st6⟩ := getF X4 hx hZ hown (host := "") (Or.inl (hw _ (List.mem_of_getElem? (i := 21) rfl))) Via.refl e4 (FX_CHOKED.keep K1q nin0) (g := (mkF m 21 #[.val (.int p1), .val (.ref r1), .val (.int (2 : Int32)), .val (.int (1 : Int32)), .val (.ref w_CHOKED)] [(.ref w_CHOKED)])) rfl rfl (hb hby d1_21)
    refine go (fun t k => st6 _ k) ?_
    show Gl _ _ _ _ _ _ _ _ (T6.setTop (mkF m 24 #[.val (.int p1), .val (.ref r1), .val (.int (2 : Int32)), .val (.int (1 : Int32)), .val (.ref w_CHOKED)] [(.int (1 : Int32))]))
    refine go (fun t k => XS.iloadN X6.here hx rfl (hb hby d1_24) rfl  k) ?_
    show Gl _ _ _ _ _ _ _ _ (T6.setTop (mkF m 25 #[.val (.int p1), .val (.ref r1), .val (.int (2 : Int32)), .val (.int (1 : Int32)), .val (.ref w_CHOKED)] [(.int p1), (.int (1 : Int32))]))
    refine go (fun t k => XS.icmpNo X6.here hx rfl (hb hby d1_25) rfl (teq (own_c1 hcc hc25 : (1 : Int32) = p1)).2 k) ?_
    show Gl _ _ _ _ _ _ _ _ (T6.setTop (mkF m 28 #[.val (.int p1), .val (.ref r1), .val (.int (2 : Int32)), .val (.int (1 : Int32)), .val (.ref w_CHOKED)] []))
    refine go (fun t k => XS.aload X6.here hx rfl (hb hby d1_28) rfl rfl k) ?_
    show Gl _ _ _ _ _ _ _ _ (T6.setTop (mkF m 30 #[.val (.int p1), .val (.ref r1), .val (.int (2 : Int32)), .val (.int (1 : Int32)), .val (.ref w_CHOKED)] [(.ref w_CHOKED)]))
    exact endR X6 hx Bd rfl (hb hby d1_30) ⟨rfl, (by rw [e6]; exact K1)⟩ N1 (by decide) (by decide)
theorem d3_0 : decode prog_46_method_4_code 0 = .ok (.aload_n 0, 1) := by decide +kernel
theorem d3_1 : decode prog_46_method_4_code 1 = .ok (.getfield 29, 3) := by decide +kernel
theorem d3_4 : decode prog_46_method_4_code 4 = .ok (.ireturn, 1) := by decide +kernel
theorem ef_3 (m : MethodId) (a1 : Addr) : entryFrame m #[(.ref a1)] 1 = mkF m 0 #[.val (.ref a1)] [] := by first | (simp [entryFrame, mkF, argsToLocals, Value.category]; done) | rfl
def b3_0 (w_code_a1 : Int32) : Int32 := w_code_a1
set_option maxRecDepth 65536 in
set_option maxHeartbeats 40000000 in
theorem rm3 (l : Launch) (Z : State) (a0 : Array Value) (hw : ∀ d ∈ tables_1, d.before a0 Z = true) (ws : List Jvm.Cond) (a1 : Addr) (w_code_a1 : Int32) (h0 : Heap) (n0 : Nat) (Z0 : n0 ≤ h0.size) (F_code_a1 : Fld Z h0 a1 "com/example/vicinet/vicinet/protocol/Beacon$Availability" "code" "I" (.int w_code_a1)) :
    MetFree l (⟨"com/example/vicinet/vicinet/protocol/Beacon$Availability", "code", "()I"⟩ : MethodName) (head1 (Jvm.Cond.code (⟨"com/example/vicinet/vicinet/protocol/Beacon$Availability", "code", "()I"⟩ : MethodName) prog_46_method_4_code 1 (some .int) :: ws) ({ frames := 0, cells := 0, slots := 0, locals := 0 } : Room)) (fun a U => a = #[(.ref a1)] ∧ Z.Warmed39 U.vm ∧ U.heap = h0) (fun _ _ _ _ _ => True) (fun _ U o U' => ∃ v L, o = .returned v ∧ QK n0 (Kv (some (.int (b3_0 w_code_a1))) (fun h => h = h0)) v U'.heap L ∧ FrameEnd U o U' L ({ frames := 0, cells := 0, slots := 0, locals := 0 } : Room).cells ({ frames := 0, cells := 0, slots := 0, locals := 0 } : Room).slots) := by
  refine MetFree.of_bodySF (plainFor_of_name pn_0) hisR ?_
  intro p e s m args below meth c s₁ Bd hml0 hP hK
  obtain ⟨rfl, hZ, hh⟩ := hP
  have hx := Bd.exec
  have hby := Bd.bytes
  have hml : c.maxLocals = 1 := hml0
  have hown : s.vm.findClass "com/example/vicinet/vicinet/protocol/Beacon$Availability" = some m.cls := findClass_of_methodNamed Bd.named
  have hnm := (name_of_methodNamed Bd.named Bd.method).1
  have X0 : Stand p l e ({ frames := 0, cells := 0, slots := 0, locals := 0 } : Room) s m #[(.ref a1)] below meth c s₁ [] 0 0 := Stand.of_body Bd
  have e0 : s₁.heap = h0 := by rw [← hh, Bd.state]; rfl
  have N0 := Fr.nil n0
  refine gl_start (ef_3 m a1) ?_
  show Gl p e below s n0 ({ frames := 0, cells := 0, slots := 0, locals := 0 } : Room).cells ({ frames := 0, cells := 0, slots := 0, locals := 0 } : Room).slots (Kv (some (.int w_code_a1)) (fun h => h = h0)) (s₁.setTop (mkF m 0 #[.val (.ref a1)] []))
  refine go (fun t k => XS.aloadN X0.here hx rfl (hb hby d3_0) rfl rfl k) ?_
  show Gl _ _ _ _ _ _ _ _ (s₁.setTop (mkF m 1 #[.val (.ref a1)] [(.ref a1)]))
  obtain ⟨T1, X1, e1, st1⟩ := getF X0 hx hZ hown (host := "") (Or.inl (hw _ (List.mem_of_getElem? (i := 21) rfl))) Via.refl e0 F_code_a1 (g := (mkF m 1 #[.val (.ref a1)] [(.ref a1)])) rfl rfl (hb hby d3_1)
  refine go (fun t k => st1 _ k) ?_
  show Gl _ _ _ _ _ _ _ _ (T1.setTop (mkF m 4 #[.val (.ref a1)] [(.int w_code_a1)]))
  exact endI X1 hx Bd (hb hby d3_4) ⟨rfl, e1⟩ N0 (by decide) (by decide)
theorem own_bit (x : Int32) : (x &&& (1 : Int32)) = 0 ∨ (x &&& (1 : Int32)) = 1 := by
  have e := Jvm.Kit.i32_mask x 1 (k := 1) (by decide) (by decide)
  simp only [← Int32.toInt_inj, e, Int32.reduceToInt]; omega
theorem own_exa {Z : State} {h : Heap} {k : Int32} {r c : Addr} {C : String} (E1 : Exa Z h r C) (E2 : Exa Z h c C) : Exa Z h (b1_0 k r c) C := by
  unfold b1_0
  split <;> assumption
def own_code (k : Int32) : Int32 := if (0 : Int32) = k then 0 else 1
theorem own_fld {Z : State} {h : Heap} {k : Int32} {r c : Addr} {C n d : String} (E1 : Fld Z h r C n d (.int (0 : Int32))) (E2 : Fld Z h c C n d (.int (1 : Int32))) : Fld Z h (b1_0 k r c) C n d (.int (own_code k)) := by
  unfold b1_0 own_code
  split <;> assumption
theorem pd_1 : parseMethodDescriptor "(I)Lcom/example/vicinet/vicinet/protocol/Beacon$Availability;" = some ⟨[.int], some (.object "com/example/vicinet/vicinet/protocol/Beacon$Availability")⟩ := by decide +kernel
theorem pd_2 : parseMethodDescriptor "()I" = some ⟨[], some .int⟩ := by decide +kernel
theorem pn_1 : plainName "com/example/vicinet/vicinet/protocol/AvailabilityOfPinLaw" = true := by first | (simp [plainName, overriddenIn]; done) | decide +kernel
theorem ef_0 (m : MethodId) (p1 : Int32) : entryFrame m #[(.int p1)] maxLocals = mkF m 0 #[.val (.int p1), .unset, .unset, .unset] [] := by first | (simp [entryFrame, mkF, argsToLocals, Value.category, maxLocals]; done) | rfl
def b0_41 (s0_41 : Int32) : Int32 := (nar .boolean s0_41)
def b0_40  : Int32 := (b0_41 (0 : Int32))
def b0_22 (p1 : Int32) (w_READY : Addr) (w_CHOKED : Addr) (s0_22 : Addr) : Int32 := (if (b1_0 (p1 &&& (1 : Int32)) w_READY w_CHOKED) = s0_22 then (if (b3_0 (own_code (p1 &&& (1 : Int32)))) = (p1 &&& (1 : Int32)) then (b0_41 (1 : Int32)) else b0_40) else b0_40)
def b0_0 (p1 : Int32) (w_READY : Addr) (w_CHOKED : Addr) : Int32 := (if (p1 &&& (1 : Int32)) = (0 : Int32) then (b0_22 p1 w_READY w_CHOKED w_READY) else (b0_22 p1 w_READY w_CHOKED w_CHOKED))
set_option maxRecDepth 65536 in
set_option maxHeartbeats 40000000 in
theorem rm0 (l : Launch) (Z : State) (a0 : Array Value) (hw : ∀ d ∈ tables_1, d.before a0 Z = true) (ws : List Jvm.Cond) (p1 : Int32) (w__VALUES : Addr) (w_READY : Addr) (w_CHOKED : Addr) (cl : Cell) (h0 : Heap) (n0 : Nat) (Z0 : n0 ≤ h0.size) (S__VALUES : Sta Z h0 "com/example/vicinet/vicinet/protocol/Beacon$Availability" "$VALUES" "[Lcom/example/vicinet/vicinet/protocol/Beacon$Availability;" (.ref w__VALUES)) (S_READY : Sta Z h0 "com/example/vicinet/vicinet/protocol/Beacon$Availability" "READY" "Lcom/example/vicinet/vicinet/protocol/Beacon$Availability;" (.ref w_READY)) (S_CHOKED : Sta Z h0 "com/example/vicinet/vicinet/protocol/Beacon$Availability" "CHOKED" "Lcom/example/vicinet/vicinet/protocol/Beacon$Availability;" (.ref w_CHOKED)) (Ar : Arr Z h0 w__VALUES cl (.object "com/example/vicinet/vicinet/protocol/Beacon$Availability")) (hS : cl.slots.size = 2) (hE0 : cl.slots[0]? = some (.ref w_READY)) (hE1 : cl.slots[1]? = some (.ref w_CHOKED)) (Fc : FitC Z cl) (EV : Exa Z h0 w__VALUES "[Lcom/example/vicinet/vicinet/protocol/Beacon$Availability;") (FX_READY : Fld Z h0 w_READY "com/example/vicinet/vicinet/protocol/Beacon$Availability" "code" "I" (.int (0 : Int32))) (EX_READY : Exa Z h0 w_READY "com/example/vicinet/vicinet/protocol/Beacon$Availability") (FX_CHOKED : Fld Z h0 w_CHOKED "com/example/vicinet/vicinet/protocol/Beacon$Availability" "code" "I" (.int (1 : Int32))) (EX_CHOKED : Exa Z h0 w_CHOKED "com/example/vicinet/vicinet/protocol/Beacon$Availability") :
    MetFree l x (head1 (Jvm.Cond.code x code maxLocals ret :: ws) room_1) (fun a U => a = #[(.int p1)] ∧ Z.Warmed39 U.vm ∧ U.heap = h0) (fun _ _ _ _ _ => True) (fun _ U o U' => ∃ v L, o = .returned v ∧ QK n0 (Kv (some (.int (b0_0 p1 w_READY w_CHOKED))) (fun _ => True)) v U'.heap L ∧ FrameEnd U o U' L room_1.cells room_1.slots) := by
  refine MetFree.of_bodySF (plainFor_of_name pn_1) hisR ?_
  intro p e s m args below meth c s₁ Bd hml0 hP hK
  obtain ⟨rfl, hZ, hh⟩ := hP
  have hx := Bd.exec
  have hby := Bd.bytes
  have hml : c.maxLocals = 4 := hml0
  have hown : s.vm.findClass "com/example/vicinet/vicinet/protocol/AvailabilityOfPinLaw" = some m.cls := findClass_of_methodNamed Bd.named
  have hnm := (name_of_methodNamed Bd.named Bd.method).1
  have X0 : Stand p l e room_1 s m #[(.int p1)] below meth c s₁ [] 0 0 := Stand.of_body Bd
  have e0 : s₁.heap = h0 := by rw [← hh, Bd.state]; rfl
  have N0 := Fr.nil n0
  refine gl_start (ef_0 m p1) ?_
  show Gl p e below s n0 room_1.cells room_1.slots (Kv (some (.int (if (p1 &&& (1 : Int32)) = (0 : Int32) then (b0_22 p1 w_READY w_CHOKED w_READY) else (b0_22 p1 w_READY w_CHOKED w_CHOKED)))) (fun _ => True)) (s₁.setTop (mkF m 0 #[.val (.int p1), .unset, .unset, .unset] []))
  refine go (fun t k => XS.iloadN X0.here hx rfl (hb hby at_0) rfl  k) ?_
  show Gl _ _ _ _ _ _ _ _ (s₁.setTop (mkF m 1 #[.val (.int p1), .unset, .unset, .unset] [(.int p1)]))
  refine go (fun t k => XS.iconst X0.here hx rfl (hb hby at_1) k) ?_
  show Gl _ _ _ _ _ _ _ _ (s₁.setTop (mkF m 2 #[.val (.int p1), .unset, .unset, .unset] [(.int (1 : Int32)), (.int p1)]))
  refine go (fun t k => XS.iand X0.here hx rfl (hb hby at_2) rfl k) ?_
  show Gl _ _ _ _ _ _ _ _ (s₁.setTop (mkF m 3 #[.val (.int p1), .unset, .unset, .unset] [(.int (p1 &&& (1 : Int32)))]))
  refine go (fun t k => XS.istoreN X0.here hx rfl (hb hby at_3) rfl (l' := #[.val (.int p1), .val (.int (p1 &&& (1 : Int32))), .unset, .unset]) rfl k) ?_
  show Gl _ _ _ _ _ _ _ _ (s₁.setTop (mkF m 4 #[.val (.int p1), .val (.int (p1 &&& (1 : Int32))), .unset, .unset] []))
  refine go (fun t k => XS.iloadN X0.here hx rfl (hb hby at_4) rfl  k) ?_
  show Gl _ _ _ _ _ _ _ _ (s₁.setTop (mkF m 5 #[.val (.int p1), .val (.int (p1 &&& (1 : Int32))), .unset, .unset] [(.int (p1 &&& (1 : Int32)))]))
  obtain ⟨_, _, ⟨T1, L1, k1, n1⟩, -, X1, ⟨Lc1, hQ1, l1, y1, z1⟩, st1⟩ := Jvm.LawKit.callS X0 hx (y := (⟨"com/example/vicinet/vicinet/protocol/Beacon$Availability", "of", "(I)Lcom/example/vicinet/vicinet/protocol/Beacon$Availability;"⟩ : MethodName)) hown (mvT hZ (hw _ (List.mem_of_getElem? (i := 0) rfl))) (mvT hZ (hw _ (List.mem_of_getElem? (i := 1) rfl))) (mvT hZ (hw _ (List.mem_of_getElem? (i := 2) rfl))) (mvT hZ (hw _ (List.mem_of_getElem? (i := 3) rfl))) (by decide) (backOf (W := 0) (rm1 l Z a0 hw [] (p1 &&& (1 : Int32)) w__VALUES w_READY w_CHOKED cl h0 n0 Z0 S__VALUES S_READY S_CHOKED Ar hS hE0 hE1 Fc EV FX_READY EX_READY FX_CHOKED EX_CHOKED (own_bit _)) hZ (hw _ (List.mem_of_getElem? (i := 3) rfl)) (hw _ (List.mem_of_getElem? (i := 2) rfl)) (by decide) (by decide)) (g := (mkF m 5 #[.val (.int p1), .val (.int (p1 &&& (1 : Int32))), .unset, .unset] [(.int (p1 &&& (1 : Int32)))])) rfl (by rw [hml]; rfl) (argsL := [(.int (p1 &&& (1 : Int32)))]) (rest := []) (lenOf pd_1 rfl) rfl (by show 2 * 0 + _ ≤ _; exact Nat.le_of_eq rfl) (hb hby at_5) (fun _ _ => ⟨rfl, e0, (by decide : 0 + 1 ≤ _), (by decide : 0 + 2 ≤ _)⟩)
  dsimp only [Pt.U, Pt.locs, Pt.cells, Pt.slots] at X1 l1 y1 z1 st1 hQ1
  subst l1 y1 z1
  have X1 : Stand p l e room_1 s m #[(.int p1)] below meth c T1 _ 1 2 := X1
  obtain ⟨⟨rfl, K1q⟩, N1q⟩ := hQ1
  obtain ⟨h1, e1⟩ : ∃ z, T1.heap = z := ⟨_, rfl⟩
  rw [e1] at K1q
  have K1q : Keep h0 h1 [] := K1q
  have K1 : Keep h0 h1 [] := (Keep.refl h0 []).trans K1q all0
  have N1 := Fr.app N0 N1q
  refine go (fun t k => st1 _ k) ?_
  show Gl _ _ _ _ _ _ _ _ (T1.setTop (mkF m 8 #[.val (.int p1), .val (.int (p1 &&& (1 : Int32))), .unset, .unset] [(.ref (b1_0 (p1 &&& (1 : Int32)) w_READY w_CHOKED))]))
  refine go (fun t k => XS.astoreN X1.here hx rfl (hb hby at_8) rfl rfl (l' := #[.val (.int p1), .val (.int (p1 &&& (1 : Int32))), .val (.ref (b1_0 (p1 &&& (1 : Int32)) w_READY w_CHOKED)), .unset]) rfl k) ?_
  show Gl _ _ _ _ _ _ _ _ (T1.setTop (mkF m 9 #[.val (.int p1), .val (.int (p1 &&& (1 : Int32))), .val (.ref (b1_0 (p1 &&& (1 : Int32)) w_READY w_CHOKED)), .unset] []))
  refine go (fun t k => XS.iloadN X1.here hx rfl (hb hby at_9) rfl  k) ?_
  show Gl _ _ _ _ _ _ _ _ (T1.setTop (mkF m 10 #[.val (.int p1), .val (.int (p1 &&& (1 : Int32))), .val (.ref (b1_0 (p1 &&& (1 : Int32)) w_READY w_CHOKED)), .unset] [(.int (p1 &&& (1 : Int32)))]))
  have J22 : ∀ (s0_22 : Addr) (TJ22 : State) (lJ22 : List Loc) (XJ22 : Stand p l e room_1 s m #[(.int p1)] below meth c TJ22 lJ22 1 2) (eJ22 : TJ22.heap = h1) (NJ22 : Fr n0 lJ22), Gl p e below s n0 room_1.cells room_1.slots (Kv (some (.int (b0_22 p1 w_READY w_CHOKED s0_22))) (fun _ => True)) (TJ22.setTop (mkF m 22 #[.val (.int p1), .val (.int (p1 &&& (1 : Int32))), .val (.ref (b1_0 (p1 &&& (1 : Int32)) w_READY w_CHOKED)), .unset] [(.ref s0_22)])) := by
    intro s0_22 TJ22 lJ22 XJ22 eJ22 NJ22
    show Gl _ _ _ _ _ _ _ (Kv (some (.int (if (b1_0 (p1 &&& (1 : Int32)) w_READY w_CHOKED) = s0_22 then (if (b3_0 (own_code (p1 &&& (1 : Int32)))) = (p1 &&& (1 : Int32)) then (b0_41 (1 : Int32)) else b0_40) else b0_40))) _) _
    refine go (fun t k => XS.astoreN XJ22.here hx rfl (hb hby at_22) rfl rfl (l' := #[.val (.int p1), .val (.int (p1 &&& (1 : Int32))), .val (.ref (b1_0 (p1 &&& (1 : Int32)) w_READY w_CHOKED)), .val (.ref s0_22)]) rfl k) ?_
    show Gl _ _ _ _ _ _ _ _ (TJ22.setTop (mkF m 23 #[.val (.int p1), .val (.int (p1 &&& (1 : Int32))), .val (.ref (b1_0 (p1 &&& (1 : Int32)) w_READY w_CHOKED)), .val (.ref s0_22)] []))
    refine go (fun t k => XS.aloadN XJ22.here hx rfl (hb hby at_23) rfl rfl k) ?_
    show Gl _ _ _ _ _ _ _ _ (TJ22.setTop (mkF m 24 #[.val (.int p1), .val (.int (p1 &&& (1 : Int32))), .val (.ref (b1_0 (p1 &&& (1 : Int32)) w_READY w_CHOKED)), .val (.ref s0_22)] [(.ref (b1_0 (p1 &&& (1 : Int32)) w_READY w_CHOKED))]))
    refine go (fun t k => XS.aloadN XJ22.here hx rfl (hb hby at_24) rfl rfl k) ?_
    show Gl _ _ _ _ _ _ _ _ (TJ22.setTop (mkF m 25 #[.val (.int p1), .val (.int (p1 &&& (1 : Int32))), .val (.ref (b1_0 (p1 &&& (1 : Int32)) w_READY w_CHOKED)), .val (.ref s0_22)] [(.ref s0_22), (.ref (b1_0 (p1 &&& (1 : Int32)) w_READY w_CHOKED))]))
    have J41 : ∀ (s0_41 : Int32) (TJ41 : State) (lJ41 : List Loc) (XJ41 : Stand p l e room_1 s m #[(.int p1)] below meth c TJ41 lJ41 1 2) (eJ41 : TJ41.heap = h1) (NJ41 : Fr n0 lJ41), Gl p e below s n0 room_1.cells room_1.slots (Kv (some (.int (b0_41 s0_41))) (fun _ => True)) (TJ41.setTop (mkF m 41 #[.val (.int p1), .val (.int (p1 &&& (1 : Int32))), .val (.ref (b1_0 (p1 &&& (1 : Int32)) w_READY w_CHOKED)), .val (.ref s0_22)] [(.int s0_41)])) := by
      intro s0_41 TJ41 lJ41 XJ41 eJ41 NJ41
      show Gl _ _ _ _ _ _ _ (Kv (some (.int (nar .boolean s0_41))) _) _
      exact endN XJ41 hx Bd (t := .boolean) (by simp) (hb hby at_41) ⟨rfl, trivial⟩ NJ41 (by decide) (by decide)
    have J40 : ∀  (TJ40 : State) (lJ40 : List Loc) (XJ40 : Stand p l e room_1 s m #[(.int p1)] below meth c TJ40 lJ40 1 2) (eJ40 : TJ40.heap = h1) (NJ40 : Fr n0 lJ40), Gl p e below s n0 room_1.cells room_1.slots (Kv (some (.int b0_40)) (fun _ => True)) (TJ40.setTop (mkF m 40 #[.val (.int p1), .val (.int (p1 &&& (1 : Int32))), .val (.ref (b1_0 (p1 &&& (1 : Int32)) w_READY w_CHOKED)), .val (.ref s0_22)] [])) := by
      intro  TJ40 lJ40 XJ40 eJ40 NJ40
      show Gl _ _ _ _ _ _ _ (Kv (some (.int (b0_41 (0 : Int32)))) _) _
      refine go (fun t k => XS.iconst XJ40.here hx rfl (hb hby at_40) k) ?_
      show Gl _ _ _ _ _ _ _ _ (TJ40.setTop (mkF m 41 #[.val (.int p1), .val (.int (p1 &&& (1 : Int32))), .val (.ref (b1_0 (p1 &&& (1 : Int32)) w_READY w_CHOKED)), .val (.ref s0_22)] [(.int (0 : Int32))]))
      exact J41 (0 : Int32) TJ40 _ XJ40 eJ40 NJ40
    refine gI (c := (b1_0 (p1 &&& (1 : Int32)) w_READY w_CHOKED) = s0_22) (fun hc25 => ?_) (fun hc25 => ?_)
    · refine go (fun t k => Jvm.RoadKit.acmp (g := (mkF m 25 #[.val (.int p1), .val (.int (p1 &&& (1 : Int32))), .val (.ref (b1_0 (p1 &&& (1 : Int32)) w_READY w_CHOKED)), .val (.ref s0_22)] [(.ref s0_22), (.ref (b1_0 (p1 &&& (1 : Int32)) w_READY w_CHOKED))])) XJ22 hx rfl rfl rfl (pc0 := 25) (pc' := 28) (same := true) rfl (hb hby at_25) rfl (decide_eq_true (congrArg Value.ref hc25)) (by decide) (by decide) k) ?_
      show Gl _ _ _ _ _ _ _ _ (TJ22.setTop (mkF m 28 #[.val (.int p1), .val (.int (p1 &&& (1 : Int32))), .val (.ref (b1_0 (p1 &&& (1 : Int32)) w_READY w_CHOKED)), .val (.ref s0_22)] []))
      refine go (fun t k => XS.aloadN XJ22.here hx rfl (hb hby at_28) rfl rfl k) ?_
      show Gl _ _ _ _ _ _ _ _ (TJ22.setTop (mkF m 29 #[.val (.int p1), .val (.int (p1 &&& (1 : Int32))), .val (.ref (b1_0 (p1 &&& (1 : Int32)) w_READY w_CHOKED)), .val (.ref s0_22)] [(.ref (b1_0 (p1 &&& (1 : Int32)) w_READY w_CHOKED))]))
      obtain ⟨cq5, kq5, q5a, q5b, q5c⟩ := isOf hZ eJ22 (own_exa (EX_READY.keep K1q) (EX_CHOKED.keep K1q))
      obtain ⟨_, _, ⟨T5, L5, k5, n5⟩, -, X5, ⟨Lc5, hQ5, l5, y5, z5⟩, st5⟩ := XJ22.virtualBack hx (y := (⟨"com/example/vicinet/vicinet/protocol/Beacon$Availability", "code", "()I"⟩ : MethodName)) (z := (⟨"com/example/vicinet/vicinet/protocol/Beacon$Availability", "code", "()I"⟩ : MethodName)) hown (mvT hZ (hw _ (List.mem_of_getElem? (i := 24) rfl))) (mvT hZ (hw _ (List.mem_of_getElem? (i := 25) rfl))) (notFace_of_selects (args := #[]) (mvT hZ (hw _ (List.mem_of_getElem? (i := 27) rfl)))) (mvT hZ (hw _ (List.mem_of_getElem? (i := 27) rfl))) (mvT hZ (hw _ (List.mem_of_getElem? (i := 26) rfl))) (by decide) (backOf (W := 0) (rm3 l Z a0 hw [] (b1_0 (p1 &&& (1 : Int32)) w_READY w_CHOKED) (own_code (p1 &&& (1 : Int32))) h1 n0 (Nat.le_trans Z0 K1q.1) (own_fld (FX_READY.keep K1q nin0) (FX_CHOKED.keep K1q nin0))) hZ (hw _ (List.mem_of_getElem? (i := 28) rfl)) (hw _ (List.mem_of_getElem? (i := 2) rfl)) (by decide) (by decide)) q5a q5c (g := (mkF m 29 #[.val (.int p1), .val (.int (p1 &&& (1 : Int32))), .val (.ref (b1_0 (p1 &&& (1 : Int32)) w_READY w_CHOKED)), .val (.ref s0_22)] [(.ref (b1_0 (p1 &&& (1 : Int32)) w_READY w_CHOKED))])) rfl (by rw [hml]; rfl) (Steps.refl _) (argsL := []) (rest := []) (lenOf pd_2 rfl) rfl (by show 2 * 0 + _ ≤ _; exact Nat.le_of_eq rfl) (hb hby at_29) (fun _ _ => ⟨rfl, eJ22, (by decide : 1 + 0 ≤ _), (by decide : 2 + 0 ≤ _)⟩)
      dsimp only [Pt.U, Pt.locs, Pt.cells, Pt.slots] at X5 l5 y5 z5 st5 hQ5
      subst l5 y5 z5
      have X5 : Stand p l e room_1 s m #[(.int p1)] below meth c T5 _ 1 2 := X5
      obtain ⟨⟨rfl, e5'⟩, N5q⟩ := hQ5
      have e5 : T5.heap = h1 := e5'
      have N5 := Fr.app NJ22 N5q
      refine go (fun t k => st5.trans k) ?_
      show Gl _ _ _ _ _ _ _ _ (T5.setTop (mkF m 32 #[.val (.int p1), .val (.int (p1 &&& (1 : Int32))), .val (.ref (b1_0 (p1 &&& (1 : Int32)) w_READY w_CHOKED)), .val (.ref s0_22)] [(.int (b3_0 (own_code (p1 &&& (1 : Int32)))))]))
      refine go (fun t k => XS.iloadN X5.here hx rfl (hb hby at_32) rfl  k) ?_
      show Gl _ _ _ _ _ _ _ _ (T5.setTop (mkF m 33 #[.val (.int p1), .val (.int (p1 &&& (1 : Int32))), .val (.ref (b1_0 (p1 &&& (1 : Int32)) w_READY w_CHOKED)), .val (.ref s0_22)] [(.int (p1 &&& (1 : Int32))), (.int (b3_0 (own_code (p1 &&& (1 : Int32)))))]))
      refine gI (c := (b3_0 (own_code (p1 &&& (1 : Int32)))) = (p1 &&& (1 : Int32))) (fun hc33 => ?_) (fun hc33 => ?_)
      · refine go (fun t k => XS.icmpNo X5.here hx rfl (hb hby at_33) rfl (teq hc33).2 k) ?_
        show Gl _ _ _ _ _ _ _ _ (T5.setTop (mkF m 36 #[.val (.int p1), .val (.int (p1 &&& (1 : Int32))), .val (.ref (b1_0 (p1 &&& (1 : Int32)) w_READY w_CHOKED)), .val (.ref s0_22)] []))
        refine go (fun t k => XS.iconst X5.here hx rfl (hb hby at_36) k) ?_
        show Gl _ _ _ _ _ _ _ _ (T5.setTop (mkF m 37 #[.val (.int p1), .val (.int (p1 &&& (1 : Int32))), .val (.ref (b1_0 (p1 &&& (1 : Int32)) w_READY w_CHOKED)), .val (.ref s0_22)] [(.int (1 : Int32))]))
        refine go (fun t k => XS.goto X5.here hx rfl (pc0 := 37) (pc' := 41) rfl (hb hby at_37) (by decide) (by decide) k) ?_
        show Gl _ _ _ _ _ _ _ _ (T5.setTop (mkF m 41 #[.val (.int p1), .val (.int (p1 &&& (1 : Int32))), .val (.ref (b1_0 (p1 &&& (1 : Int32)) w_READY w_CHOKED)), .val (.ref s0_22)] [(.int (1 : Int32))]))
        exact J41 (1 : Int32) T5 _ X5 e5 N5
      · refine go (fun t k => XS.icmpYes X5.here hx rfl (pc0 := 33) (pc' := 40) rfl (hb hby at_33) rfl (feq hc33).2 (by decide) (by decide) k) ?_
        show Gl _ _ _ _ _ _ _ _ (T5.setTop (mkF m 40 #[.val (.int p1), .val (.int (p1 &&& (1 : Int32))), .val (.ref (b1_0 (p1 &&& (1 : Int32)) w_READY w_CHOKED)), .val (.ref s0_22)] []))
        exact J40  T5 _ X5 e5 N5
    · refine go (fun t k => Jvm.RoadKit.acmp (g := (mkF m 25 #[.val (.int p1), .val (.int (p1 &&& (1 : Int32))), .val (.ref (b1_0 (p1 &&& (1 : Int32)) w_READY w_CHOKED)), .val (.ref s0_22)] [(.ref s0_22), (.ref (b1_0 (p1 &&& (1 : Int32)) w_READY w_CHOKED))])) XJ22 hx rfl rfl rfl (pc0 := 25) (pc' := 40) (same := false) rfl (hb hby at_25) rfl (decide_eq_false fun q => hc25 (Value.ref.inj q)) (by decide) (by decide) k) ?_
      show Gl _ _ _ _ _ _ _ _ (TJ22.setTop (mkF m 40 #[.val (.int p1), .val (.int (p1 &&& (1 : Int32))), .val (.ref (b1_0 (p1 &&& (1 : Int32)) w_READY w_CHOKED)), .val (.ref s0_22)] []))
      exact J40  TJ22 _ XJ22 eJ22 NJ22
  refine gI (c := (p1 &&& (1 : Int32)) = (0 : Int32)) (fun hc10 => ?_) (fun hc10 => ?_)
  · refine go (fun t k => XS.ifNo X1.here hx rfl (hb hby at_10) rfl ((if0 _ _).trans (teq hc10).2) k) ?_
    show Gl _ _ _ _ _ _ _ _ (T1.setTop (mkF m 13 #[.val (.int p1), .val (.int (p1 &&& (1 : Int32))), .val (.ref (b1_0 (p1 &&& (1 : Int32)) w_READY w_CHOKED)), .unset] []))
    obtain ⟨T6, X6, e6, st6⟩ := getS2 X1 hx hZ hown (host := "") (Or.inl (hw _ (List.mem_of_getElem? (i := 23) rfl))) Via.refl e1 (sta_keep0 S_READY K1q) (g := (mkF m 13 #[.val (.int p1), .val (.int (p1 &&& (1 : Int32))), .val (.ref (b1_0 (p1 &&& (1 : Int32)) w_READY w_CHOKED)), .unset] [])) rfl (hb hby at_13)
    refine go (fun t k => st6 _ k) ?_
    show Gl _ _ _ _ _ _ _ _ (T6.setTop (mkF m 16 #[.val (.int p1), .val (.int (p1 &&& (1 : Int32))), .val (.ref (b1_0 (p1 &&& (1 : Int32)) w_READY w_CHOKED)), .unset] [(.ref w_READY)]))
    refine go (fun t k => XS.goto X6.here hx rfl (pc0 := 16) (pc' := 22) rfl (hb hby at_16) (by decide) (by decide) k) ?_
    show Gl _ _ _ _ _ _ _ _ (T6.setTop (mkF m 22 #[.val (.int p1), .val (.int (p1 &&& (1 : Int32))), .val (.ref (b1_0 (p1 &&& (1 : Int32)) w_READY w_CHOKED)), .unset] [(.ref w_READY)]))
    exact J22 w_READY T6 _ X6 e6 N1
  · refine go (fun t k => XS.ifYes X1.here hx rfl (pc0 := 10) (pc' := 19) rfl (hb hby at_10) rfl ((if0 _ _).trans (feq hc10).2) (by decide) (by decide) k) ?_
    show Gl _ _ _ _ _ _ _ _ (T1.setTop (mkF m 19 #[.val (.int p1), .val (.int (p1 &&& (1 : Int32))), .val (.ref (b1_0 (p1 &&& (1 : Int32)) w_READY w_CHOKED)), .unset] []))
    obtain ⟨T7, X7, e7, st7⟩ := getS2 X1 hx hZ hown (host := "") (Or.inl (hw _ (List.mem_of_getElem? (i := 29) rfl))) Via.refl e1 (sta_keep0 S_CHOKED K1q) (g := (mkF m 19 #[.val (.int p1), .val (.int (p1 &&& (1 : Int32))), .val (.ref (b1_0 (p1 &&& (1 : Int32)) w_READY w_CHOKED)), .unset] [])) rfl (hb hby at_19)
    refine go (fun t k => st7 _ k) ?_
    show Gl _ _ _ _ _ _ _ _ (T7.setTop (mkF m 22 #[.val (.int p1), .val (.int (p1 &&& (1 : Int32))), .val (.ref (b1_0 (p1 &&& (1 : Int32)) w_READY w_CHOKED)), .unset] [(.ref w_CHOKED)]))
    exact J22 w_CHOKED T7 _ X7 e7 N1
theorem own_len2 {args : Array Value} {s : State} {t : Term} {a : Addr} {cell : Cell} (ht : t.eval args s none [] s = some (.ref a)) (hc : s.arrayAt? a = some cell) (h : (Term.length t).eval args s none [] s = some (.int (2 : Int32))) : cell.slots.size = 2 := by
  by_cases hl : cell.slots.size < 2 ^ 31
  · have q := (len_f ht hc hl).symm.trans h
    have q2 : cell.slots.size.toInt32 = 2 := by injection q with q; injection q
    have q3 := len_toInt hl
    rw [q2] at q3; simp only [Int32.reduceToInt] at q3; omega
  · simp [Term.eval, ht, hc, hl] at h
theorem eqR_v {t u : Term} {a0 : Array Value} {s : State} {r : Addr} (h : (Jvm.Cond.eq t u).value a0 s none s [] = some true) (hu : u.eval a0 s none [] s = some (.ref r)) : t.eval a0 s none [] s = some (.ref r) := by
  simp only [Cond.value, hu] at h
  cases ht : t.eval a0 s none [] s with
  | none => simp [ht] at h
  | some x => cases x <;> simp [ht] at h ⊢; exact h
--@@LAW
theorem law_eq (p1 : Int32) (r c : Addr) : b0_0 p1 r c = 1 := by
  have k1 : b0_41 1 = 1 := rfl
  have z10 : ¬ ((1 : Int32) = 0) := by decide
  have z01 : ¬ ((0 : Int32) = 1) := by decide
  unfold b0_0 b0_22 b1_0 b3_0 own_code
  rcases own_bit p1 with h | h <;> rw [h]
  · simp [k1]
  · simp [k1]
set_option maxRecDepth 65536 in
set_option maxHeartbeats 40000000 in
theorem comes_1 {Post : Tables → Env → Array Value → State → Outcome → State → Prop} (hpost : ∀ tb e args s v u, (limb_1_1.after args s (.returned v) u = true ∧ limb_1_2.after args s (.returned v) u = true ∧ True) → FrameEnd s (.returned v) u (Jvm.fieldLocs frame_1_writes args s ++ Jvm.arrayLocs frame_1_arrays args s ++ Jvm.staticLocs frame_1_statics s) 16 128 → Post tb e args s (.returned v) u) :
    ArmFor flags0 classFile x code maxLocals ret World_1 tables_1 room_1 Calls_1 rest_1 Pre_1 Post := by
  intro l hfl _ _ p e ha hc hk s m args below hf hA hF happ hP
  obtain ⟨hcalls, hrest, hpre⟩ := hP
  obtain ⟨-, -, -, hnamed, -, -, -, hat⟩ := (Spec.applies_iff hf).mp happ
  obtain ⟨hg, hn⟩ := and_e (Cond.before_iff.mp (show (Jvm.Cond.and given_1 narrow_1).before args s = true from hpre))
  obtain ⟨g1, g2⟩ := and_e hg
  obtain ⟨w0, rfl⟩ : ∃ w0 : Value, args = #[w0] := by
    have hs : args.size = 1 := by simpa [Cond.value, given_1] using g1
    obtain ⟨L⟩ := args
    match L, hs with
    | [w0], _ => exact ⟨w0, rfl⟩
  have hw := fun d (hd : d ∈ tables_1) => atoms_spec (ws := Jvm.Cond.code x code maxLocals ret :: tables_1) hat d (List.mem_cons_of_mem _ hd)
  have hfit : Fit s := fun {y c} hc i hi => by
    obtain ⟨ha, rfl⟩ := Array.getElem?_eq_some_iff.mp hc
    have q := List.all_eq_true.mp ((Array.all_eq_true_iff_forall_mem.mp hF) _ (Array.getElem_mem ha)) i (List.mem_range.mpr hi)
    simpa [Array.getElem?_eq_getElem hi] using q
  obtain ⟨i0, ei0⟩ := is_v g2
  obtain rfl : w0 = (.int i0) := Option.some.inj ei0
  obtain ⟨m0, hn0⟩ := and_e hn
  obtain ⟨m1, hn1⟩ := and_e hn0
  obtain ⟨m2, hn2⟩ := and_e hn1
  obtain ⟨m3, hn3⟩ := and_e hn2
  obtain ⟨m4, hn4⟩ := and_e hn3
  obtain ⟨m5, hn5⟩ := and_e hn4
  obtain ⟨m6, hn6⟩ := and_e hn5
  obtain ⟨m7, hn7⟩ := and_e hn6
  have m8 := hn7
  obtain ⟨wa, ea⟩ := arr_v m0
  obtain ⟨cl, Ar⟩ := Arr.start ea m0
  have EV := Exa.start ea m1
  have hAt : s.arrayAt? wa = some cl := Arr.fin (Vm.Alike.refl _) Ar
  have hS : cl.slots.size = 2 := own_len2 ea hAt (eqI_v m2)
  obtain ⟨r, er⟩ := exa_v m3
  obtain ⟨c, ec⟩ := exa_v m5
  have S_V : Sta s s.heap "com/example/vicinet/vicinet/protocol/Beacon$Availability" "$VALUES" "[Lcom/example/vicinet/vicinet/protocol/Beacon$Availability;" (.ref wa) := Sta.start ea (Or.inl (hw _ (List.mem_of_getElem? (i := 18) rfl)))
  have S_R : Sta s s.heap "com/example/vicinet/vicinet/protocol/Beacon$Availability" "READY" "Lcom/example/vicinet/vicinet/protocol/Beacon$Availability;" (.ref r) := Sta.start er (Or.inr ⟨(hw _ (List.mem_of_getElem? (i := 2) rfl)), (hw _ (List.mem_of_getElem? (i := 16) rfl))⟩)
  have S_C : Sta s s.heap "com/example/vicinet/vicinet/protocol/Beacon$Availability" "CHOKED" "Lcom/example/vicinet/vicinet/protocol/Beacon$Availability;" (.ref c) := Sta.start ec (Or.inr ⟨(hw _ (List.mem_of_getElem? (i := 2) rfl)), (hw _ (List.mem_of_getElem? (i := 17) rfl))⟩)
  have hE0 : cl.slots[0]? = some (.ref r) := (elem_in (eqR_v m4 er) ea (Term.int_eval 0) Ar.1).2
  have hE1 : cl.slots[1]? = some (.ref c) := (elem_in (eqR_v m6 ec) ea (Term.int_eval 1) Ar.1).2
  have ER := Exa.start er m3
  have EC := Exa.start ec m5
  have FR : Fld s s.heap r "com/example/vicinet/vicinet/protocol/Beacon$Availability" "code" "I" (.int 0) := Fld.start ((fld_at er).symm.trans (eqI_v m7))
  have FC : Fld s s.heap c "com/example/vicinet/vicinet/protocol/Beacon$Availability" "code" "I" (.int 1) := Fld.start ((fld_at ec).symm.trans (eqI_v m8))
  have Fc : FitC s cl := FitC.start hfit Ar
  obtain ⟨n, o, h1, h2, h3, _, L, rfl, ⟨⟨hv, -⟩, N⟩, hq⟩ := rm0 l s _ hw tables_1 i0 wa r c cl s.heap s.heap.size (Nat.le_refl _) S_V S_R S_C Ar hS hE0 hE1 Fc EV FR ER FC EC p e ha hc hk s m _ below hf ((Spec.applies_iff_loose hf).mp happ).1 ⟨rfl, State.Warmed39.refl s, rfl⟩ trivial
  rw [law_eq] at hv
  subst hv
  refine ⟨n, _, h1, h2, h3, hpost _ _ _ _ _ _ ⟨Cond.after_iff.mpr rfl, Cond.after_iff.mpr (eq_i res_at (Term.int_eval (1)) rfl), trivial⟩ ⟨hq.1, hq.2.1, (hq.2.2.sift fun y hy => Or.inr (N y hy)).mono (by decide) (by decide)⟩⟩
theorem main_1_1 : Claimed_1_1 := comes_1 fun _ _ _ _ _ _ h hF => ⟨h.1, hF⟩
theorem main_1_2 : Claimed_1_2 := comes_1 fun _ _ _ _ _ _ h hF => ⟨h.2.1, hF⟩
end Jvm.Pilot.@@N@@
namespace Jvm.Pilot.@@N@@
open Jvm Jvm.ClassFile Sem Op Lib Jvm.Free Jvm.Stand Jvm.Pilot.@@N@@.Jvm.D
/-! MADE BY PROGRAM (witnessworld.py) out of the Statement's table words and the real class files: 13 classes; the members and pool entries that the words name. The judged class is class 1, her method 1. -/
namespace start1
open Jvm.ClassFile
def u (s : String) : CpInfo := .utf8 (stringToUtf16 s)
/-- a pool by its gaps: so many unusable entries, then the entry; so many at the end -/
def gap : Nat → List CpInfo → List CpInfo
  | 0, r => r
  | n + 1, r => .unusable :: gap n r
def poolList (es : List (Nat × CpInfo)) (last : Nat) : List CpInfo := es.foldr (fun e r => gap e.1 (e.2 :: r)) (gap last [])
def pool (es : List (Nat × CpInfo)) (last : Nat) : Array CpInfo := ⟨poolList es last⟩
def fileOf (pool : Array CpInfo) (this : Nat) (attrs : Array Attribute := #[]) (ms : Array MethodInfo := #[]) (fl : Nat := 33) (sup : Nat := 0) (ifs : Array Nat := #[]) (fds : Array FieldInfo := #[]) : ClassFile where
  minorVersion := 0
  majorVersion := 65
  constantPool := pool
  accessFlags := fl
  thisClass := this
  superClass := sup
  interfaces := ifs
  fields := fds
  methods := ms
  attributes := attrs
def plain (name : String) (sup : Option ClassId) : Class where
  name := name
  kind := .ordinary
  loader := none
  accessFlags := 33
  super := sup
  interfaces := #[]
  cf := none
  fields := #[]
  methods := #[]
  instanceTypes := #[]
  staticTypes := #[]
  resolved := #[]
  callSites := []
  init := .initialized
  statics := none
  mirror := none

def pool0 : Array CpInfo := pool [(5, u "<init>"), (0, u "()V"), (1, .class_ 10), (1, u "java/lang/Object"), (85, u "clone"), (0, u "()Ljava/lang/Object;")] 26

def k0m0 : Method := { name := "<init>", desc := "()V", sig := { parameters := [], returnType := none }, accessFlags := 1, code := none }
def k0m1 : Method := { name := "clone", desc := "()Ljava/lang/Object;", sig := { parameters := [], returnType := some (.object "java/lang/Object") }, accessFlags := 260, code := none }
/-- java/lang/Object -/
def k0 : Class := { plain "java/lang/Object" none with
  accessFlags := 33
  interfaces := #[]
  cf := some (fileOf pool0 8 #[] #[{ accessFlags := 1, nameIndex := 5, descriptorIndex := 6, attributes := #[] }, { accessFlags := 260, nameIndex := 96, descriptorIndex := 97, attributes := #[] }] 33 0 #[] #[])
  fields := #[]
  methods := #[k0m0, k0m1]
  instanceTypes := #[]
  staticTypes := #[]
  resolved := Array.replicate 124 none
  statics := none }

def pool1 : Array CpInfo := pool [(2, .class_ 4), (1, u "java/lang/Object"), (0, u "<init>"), (0, u "()V"), (0, .methodref 8 9), (0, .class_ 10), (0, .nameAndType 11 12), (0, u "com/example/vicinet/vicinet/protocol/Beacon$Availability"), (0, u "of"), (0, u "(I)Lcom/example/vicinet/vicinet/protocol/Beacon$Availability;"), (0, .fieldref 8 14), (0, .nameAndType 15 16), (0, u "READY"), (0, u "Lcom/example/vicinet/vicinet/protocol/Beacon$Availability;"), (0, .fieldref 8 18), (0, .nameAndType 19 16), (0, u "CHOKED"), (0, .methodref 8 21), (0, .nameAndType 22 23), (0, u "code"), (0, u "()I"), (0, .class_ 25), (0, u "com/example/vicinet/vicinet/protocol/AvailabilityOfPinLaw"), (2, u "law"), (0, u "(I)Z")] 7

def k1m0 : Method := { name := "<init>", desc := "()V", sig := { parameters := [], returnType := none }, accessFlags := 2, code := none }
def k1c1 : Code := { maxStack := 2, maxLocals := 4, code := code, exceptionTable := #[], attributes := #[] }
def k1m1 : Method := { name := "law", desc := "(I)Z", sig := { parameters := [.int], returnType := some .boolean }, accessFlags := 9, code := some k1c1 }
/-- com/example/vicinet/vicinet/protocol/AvailabilityOfPinLaw -/
def k1 : Class := { plain "com/example/vicinet/vicinet/protocol/AvailabilityOfPinLaw" (some 0) with
  accessFlags := 49
  interfaces := #[]
  cf := some (fileOf pool1 24 #[] #[{ accessFlags := 2, nameIndex := 5, descriptorIndex := 6, attributes := #[] }, { accessFlags := 9, nameIndex := 28, descriptorIndex := 29, attributes := #[] }] 49 2 #[] #[])
  fields := #[]
  methods := #[k1m0, k1m1]
  instanceTypes := #[]
  staticTypes := #[]
  resolved := Array.replicate 37 none
  statics := none }

def pool2 : Array CpInfo := pool [(1, .class_ 2), (0, u "java/lang/constant/Constable"), (0, .class_ 4), (0, u "java/lang/Object")] 6

/-- java/lang/constant/Constable -/
def k2 : Class := { plain "java/lang/constant/Constable" (some 0) with
  accessFlags := 1537
  interfaces := #[]
  cf := some (fileOf pool2 1 #[] #[] 1537 3 #[] #[])
  fields := #[]
  methods := #[]
  instanceTypes := #[]
  staticTypes := #[]
  resolved := Array.replicate 11 none
  statics := none }

def pool3 : Array CpInfo := pool [(1, .class_ 2), (0, u "java/lang/Comparable"), (0, .class_ 4), (0, u "java/lang/Object")] 7

/-- java/lang/Comparable -/
def k3 : Class := { plain "java/lang/Comparable" (some 0) with
  accessFlags := 1537
  interfaces := #[]
  cf := some (fileOf pool3 1 #[] #[] 1537 3 #[] #[])
  fields := #[]
  methods := #[]
  instanceTypes := #[]
  staticTypes := #[]
  resolved := Array.replicate 12 none
  statics := none }

def pool4 : Array CpInfo := pool [(1, .class_ 2), (0, u "java/io/Serializable"), (0, .class_ 4), (0, u "java/lang/Object")] 2

/-- java/io/Serializable -/
def k4 : Class := { plain "java/io/Serializable" (some 0) with
  accessFlags := 1537
  interfaces := #[]
  cf := some (fileOf pool4 1 #[] #[] 1537 3 #[] #[])
  fields := #[]
  methods := #[]
  instanceTypes := #[]
  staticTypes := #[]
  resolved := Array.replicate 7 none
  statics := none }

def pool5 : Array CpInfo := pool [(2, .class_ 4), (1, u "java/lang/Enum"), (0, u "name"), (0, u "Ljava/lang/String;"), (2, u "ordinal"), (0, u "I"), (1, .class_ 14), (1, u "java/lang/Object"), (4, u "hash"), (86, .class_ 108), (1, u "java/lang/Enum$EnumDesc"), (2, .class_ 112), (0, u "java/lang/constant/Constable"), (0, .class_ 114), (0, u "java/lang/Comparable"), (0, .class_ 116), (0, u "java/io/Serializable")] 87

/-- java/lang/Enum -/
def k5 : Class := { plain "java/lang/Enum" (some 0) with
  accessFlags := 1057
  interfaces := #[2, 3, 4]
  cf := some (fileOf pool5 2 #[.nestMembers #[106]] #[] 1057 12 #[111, 113, 115] #[{ accessFlags := 18, nameIndex := 5, descriptorIndex := 6, attributes := #[] }, { accessFlags := 18, nameIndex := 9, descriptorIndex := 10, attributes := #[] }, { accessFlags := 2, nameIndex := 19, descriptorIndex := 10, attributes := #[] }])
  fields := #[{ name := "name", type := (.object "java/lang/String"), accessFlags := 18, slot := 0, constantValue := 0 }, { name := "ordinal", type := .int, accessFlags := 18, slot := 1, constantValue := 0 }, { name := "hash", type := .int, accessFlags := 2, slot := 2, constantValue := 0 }]
  methods := #[]
  instanceTypes := #[(.object "java/lang/String"), .int, .int]
  staticTypes := #[]
  resolved := Array.replicate 204 none
  statics := none }

def pool6 : Array CpInfo := pool [(1, .class_ 2), (0, u "com/example/vicinet/vicinet/protocol/Beacon$Availability"), (2, u "READY"), (0, u "Lcom/example/vicinet/vicinet/protocol/Beacon$Availability;"), (2, u "CHOKED"), (0, .fieldref 1 11), (0, .nameAndType 12 13), (0, u "$VALUES"), (0, u "[Lcom/example/vicinet/vicinet/protocol/Beacon$Availability;"), (0, .methodref 15 16), (0, .class_ 13), (0, .nameAndType 17 18), (0, u "clone"), (0, u "()Ljava/lang/Object;"), (1, .class_ 22), (1, u "java/lang/Enum"), (6, .fieldref 1 30), (0, .nameAndType 31 32), (0, u "code"), (0, u "I"), (0, .methodref 1 34), (0, .nameAndType 35 36), (0, u "values"), (0, u "()[Lcom/example/vicinet/vicinet/protocol/Beacon$Availability;"), (39, u "()I"), (0, u "of"), (0, u "(I)Lcom/example/vicinet/vicinet/protocol/Beacon$Availability;"), (8, .class_ 88), (0, u "com/example/vicinet/vicinet/protocol/Beacon")] 16

def k6c0 : Code := { maxStack := 1, maxLocals := 0, code := prog_46_method_1_code, exceptionTable := #[], attributes := #[] }
def k6m0 : Method := { name := "values", desc := "()[Lcom/example/vicinet/vicinet/protocol/Beacon$Availability;", sig := { parameters := [], returnType := some (.array (.object "com/example/vicinet/vicinet/protocol/Beacon$Availability")) }, accessFlags := 9, code := some k6c0 }
def k6c1 : Code := { maxStack := 1, maxLocals := 1, code := prog_46_method_4_code, exceptionTable := #[], attributes := #[] }
def k6m1 : Method := { name := "code", desc := "()I", sig := { parameters := [], returnType := some .int }, accessFlags := 0, code := some k6c1 }
def k6c2 : Code := { maxStack := 3, maxLocals := 5, code := prog_46_method_5_code, exceptionTable := #[], attributes := #[] }
def k6m2 : Method := { name := "of", desc := "(I)Lcom/example/vicinet/vicinet/protocol/Beacon$Availability;", sig := { parameters := [.int], returnType := some (.object "com/example/vicinet/vicinet/protocol/Beacon$Availability") }, accessFlags := 8, code := some k6c2 }
/-- com/example/vicinet/vicinet/protocol/Beacon$Availability -/
def k6 : Class := { plain "com/example/vicinet/vicinet/protocol/Beacon$Availability" (some 5) with
  accessFlags := 16433
  interfaces := #[]
  cf := some (fileOf pool6 1 #[.nestHost 87] #[{ accessFlags := 9, nameIndex := 35, descriptorIndex := 36, attributes := #[] }, { accessFlags := 0, nameIndex := 31, descriptorIndex := 76, attributes := #[] }, { accessFlags := 8, nameIndex := 77, descriptorIndex := 78, attributes := #[] }] 16433 20 #[] #[{ accessFlags := 16409, nameIndex := 5, descriptorIndex := 6, attributes := #[] }, { accessFlags := 16409, nameIndex := 9, descriptorIndex := 6, attributes := #[] }, { accessFlags := 18, nameIndex := 31, descriptorIndex := 32, attributes := #[] }, { accessFlags := 4122, nameIndex := 12, descriptorIndex := 13, attributes := #[] }])
  fields := #[{ name := "READY", type := (.object "com/example/vicinet/vicinet/protocol/Beacon$Availability"), accessFlags := 16409, slot := 0, constantValue := 0 }, { name := "CHOKED", type := (.object "com/example/vicinet/vicinet/protocol/Beacon$Availability"), accessFlags := 16409, slot := 1, constantValue := 0 }, { name := "code", type := .int, accessFlags := 18, slot := 3, constantValue := 0 }, { name := "$VALUES", type := (.array (.object "com/example/vicinet/vicinet/protocol/Beacon$Availability")), accessFlags := 4122, slot := 2, constantValue := 0 }]
  methods := #[k6m0, k6m1, k6m2]
  instanceTypes := #[(.object "java/lang/String"), .int, .int, .int]
  staticTypes := #[(.object "com/example/vicinet/vicinet/protocol/Beacon$Availability"), (.object "com/example/vicinet/vicinet/protocol/Beacon$Availability"), (.array (.object "com/example/vicinet/vicinet/protocol/Beacon$Availability"))]
  resolved := Array.replicate 105 none
  statics := some 0 }

def pool7 : Array CpInfo := pool [(1, .class_ 2), (0, u "java/lang/Cloneable"), (0, .class_ 4), (0, u "java/lang/Object")] 2

/-- java/lang/Cloneable -/
def k7 : Class := { plain "java/lang/Cloneable" (some 0) with
  accessFlags := 1537
  interfaces := #[]
  cf := some (fileOf pool7 1 #[] #[] 1537 3 #[] #[])
  fields := #[]
  methods := #[]
  instanceTypes := #[]
  staticTypes := #[]
  resolved := Array.replicate 7 none
  statics := none }

/-- the primitive byte -/
def k8 : Class := { plain "byte" none with kind := .primitive 'B', accessFlags := 0x411 }
/-- [B -/
def k9 : Class := { plain "[B" (some 0) with kind := .array 8 .byte, interfaces := #[7, 4], accessFlags := 1041 }

/-- the primitive int -/
def k10 : Class := { plain "int" none with kind := .primitive 'I', accessFlags := 0x411 }
/-- [I -/
def k11 : Class := { plain "[I" (some 0) with kind := .array 10 .int, interfaces := #[7, 4], accessFlags := 1041 }

/-- [Lcom/example/vicinet/vicinet/protocol/Beacon$Availability; -/
def k12 : Class := { plain "[Lcom/example/vicinet/vicinet/protocol/Beacon$Availability;" (some 0) with kind := .array 6 (.object "com/example/vicinet/vicinet/protocol/Beacon$Availability"), interfaces := #[7, 4], accessFlags := 1041 }

def heap : Heap := #[{ cls := 6, slots := #[.ref 2, .ref 3, .ref 1], vm := .statics 6 },
  { cls := 12, slots := #[.ref 2, .ref 3], vm := .none },
  { cls := 6, slots := #[.null, .int 0, .int 0, .int 0], vm := .none },
  { cls := 6, slots := #[.null, .int 1, .int 0, .int 1], vm := .none }]
def classes : Array Class := #[k0, k1, k2, k3, k4, k5, k6, k7, k8, k9, k10, k11, k12]
def interned : List (Array UInt16 × Addr) := []
def slotsUsed : Nat := 13
def theMethod : MethodId := ⟨1, 1⟩
def args0 : Array Value := #[.int 5]
def aboutOver (below : List Frame) : State where
  vm := { classes := classes, interned := interned.toArray }
  heap := heap
  slotsUsed := slotsUsed
  threads := #[{ frames := .invoking theMethod args0 :: below }]
def below0 : List Frame := [.native { method := ⟨0, 0⟩, args := #[] }]
def about1 : State := aboutOver below0
def p0 : Program := .bare "" "" ""
def e0 : Env := launch0.env 0 0 0
theorem w_frames : about1.frames = Frame.invoking theMethod args0 :: below0 := rfl
set_option maxRecDepth 65536 in
theorem w_args : argsFit about1.vm theMethod args0 = true := by decide +kernel
set_option maxRecDepth 65536 in
theorem w_heap : heapFits about1 = true := by decide +kernel
set_option maxRecDepth 65536 in
theorem w_runnable : about1.curStatus? = some .runnable := by decide +kernel
set_option maxRecDepth 65536 in
theorem w_alone : about1.alone = true := by decide +kernel
set_option maxRecDepth 65536 in
theorem w_named : about1.methodNamed? x = some theMethod := by decide +kernel
set_option maxRecDepth 65536 in
theorem w_hears : about1.hears theMethod below0 = true := by decide +kernel
set_option maxRecDepth 65536 in
theorem w_ripe : about1.ripe theMethod args0 below0 = true := by decide +kernel
theorem w_running : about1.status = .running := rfl
set_option maxRecDepth 65536 in
theorem w_room : about1.hasRoom e0.platform room_1 = true :=
  launch0.hasRoom_least _ room_1 (by decide +kernel) (by decide +kernel) (by decide +kernel) (by decide +kernel) (by decide +kernel) (by decide +kernel)
theorem allAtoms_all (ts : List Jvm.Cond) (a : Array Jvm.Value) (st : Jvm.State) : (allAtoms ts).before a st = ts.all (fun c => c.before a st) := by
  induction ts with
  | nil => rfl
  | cons c t ih =>
    show (Jvm.Cond.and c (allAtoms t)).before a st = _
    rw [Jvm.Cond.before_and, ih, List.all_cons]
def words1 : List Jvm.Cond := Jvm.Cond.code x code maxLocals ret :: tables_1
/-- a 'code' word, met by the world's own term for the bytes: nothing is compared byte by byte -/
theorem code_word {y : MethodName} {bytes : ByteArray} {mx : Nat} {rt : Option FieldType} {a : Array Value} {s : State} {m : MethodId} {meth : Method} {c : Code} (h1 : s.methodNamed? y = some m) (h2 : s.vm.method? m = some meth) (h3 : meth.code = some c) (h4 : c.code = bytes)
    (h5 : (c.maxLocals == mx && c.exceptionTable.isEmpty && decide (c.maxStack ≤ mostOperands) && decide (meth.sig.returnType = rt) && !meth.locks && decide (parseMethodDescriptor y.desc = some meth.sig)) = true) : (Jvm.Cond.code y bytes mx rt).before a s = true := by
  simp only [Bool.and_eq_true, beq_iff_eq, Bool.not_eq_true', decide_eq_true_eq] at h5
  obtain ⟨⟨⟨⟨⟨g1, g2⟩, g3⟩, g4⟩, g5⟩, g6⟩ := h5
  simp [Cond.before, Cond.holds, Cond.value, h1, h2, h3, h4, g1, g2, g3, g4, g5, g6]
def isCode : Jvm.Cond → Bool
  | .code _ _ _ _ => true
  | _ => false
theorem all_split {L : List Jvm.Cond} {P : Jvm.Cond → Bool} (h1 : L.all (fun c => isCode c || P c) = true) (h2 : ∀ c ∈ L.filter isCode, P c = true) : L.all P = true := by
  refine List.all_eq_true.mpr fun c hc => ?_
  have h := List.all_eq_true.mp h1 c hc
  rcases Bool.eq_false_or_eq_true (isCode c) with hi | hi
  · exact h2 c (List.mem_filter.mpr ⟨hc, hi⟩)
  · simpa [hi] using h
set_option maxRecDepth 65536 in
theorem w_c0 : (Jvm.Cond.code x code maxLocals ret).before args0 about1 = true := code_word (m := ⟨1, 1⟩) (meth := k1m1) (c := k1c1) (by decide +kernel) rfl rfl rfl (by decide +kernel)
set_option maxRecDepth 65536 in
theorem w_c1 : (Jvm.Cond.code ({ cls := "com/example/vicinet/vicinet/protocol/Beacon$Availability", name := "of", desc := "(I)Lcom/example/vicinet/vicinet/protocol/Beacon$Availability;" } : Jvm.MethodName) prog_46_method_5_code (5 : Nat) (Option.some (Jvm.ClassFile.FieldType.object "com/example/vicinet/vicinet/protocol/Beacon$Availability"))).before args0 about1 = true := code_word (m := ⟨6, 2⟩) (meth := k6m2) (c := k6c2) (by decide +kernel) rfl rfl rfl (by decide +kernel)
set_option maxRecDepth 65536 in
theorem w_c2 : (Jvm.Cond.code ({ cls := "com/example/vicinet/vicinet/protocol/Beacon$Availability", name := "values", desc := "()[Lcom/example/vicinet/vicinet/protocol/Beacon$Availability;" } : Jvm.MethodName) prog_46_method_1_code (0 : Nat) (Option.some (Jvm.ClassFile.FieldType.array (Jvm.ClassFile.FieldType.object "com/example/vicinet/vicinet/protocol/Beacon$Availability")))).before args0 about1 = true := code_word (m := ⟨6, 0⟩) (meth := k6m0) (c := k6c0) (by decide +kernel) rfl rfl rfl (by decide +kernel)
set_option maxRecDepth 65536 in
theorem w_c3 : (Jvm.Cond.code ({ cls := "com/example/vicinet/vicinet/protocol/Beacon$Availability", name := "code", desc := "()I" } : Jvm.MethodName) prog_46_method_4_code (1 : Nat) (Option.some Jvm.ClassFile.FieldType.int)).before args0 about1 = true := code_word (m := ⟨6, 1⟩) (meth := k6m1) (c := k6c1) (by decide +kernel) rfl rfl rfl (by decide +kernel)
def codes1 : List Jvm.Cond := [Jvm.Cond.code x code maxLocals ret, Jvm.Cond.code ({ cls := "com/example/vicinet/vicinet/protocol/Beacon$Availability", name := "of", desc := "(I)Lcom/example/vicinet/vicinet/protocol/Beacon$Availability;" } : Jvm.MethodName) prog_46_method_5_code (5 : Nat) (Option.some (Jvm.ClassFile.FieldType.object "com/example/vicinet/vicinet/protocol/Beacon$Availability")), Jvm.Cond.code ({ cls := "com/example/vicinet/vicinet/protocol/Beacon$Availability", name := "values", desc := "()[Lcom/example/vicinet/vicinet/protocol/Beacon$Availability;" } : Jvm.MethodName) prog_46_method_1_code (0 : Nat) (Option.some (Jvm.ClassFile.FieldType.array (Jvm.ClassFile.FieldType.object "com/example/vicinet/vicinet/protocol/Beacon$Availability"))), Jvm.Cond.code ({ cls := "com/example/vicinet/vicinet/protocol/Beacon$Availability", name := "code", desc := "()I" } : Jvm.MethodName) prog_46_method_4_code (1 : Nat) (Option.some Jvm.ClassFile.FieldType.int)]
set_option maxRecDepth 65536 in
theorem codes_eq : words1.filter isCode = codes1 := rfl
theorem w_codes : ∀ c ∈ words1.filter isCode, c.before args0 about1 = true := by
  rw [codes_eq]
  intro c hc
  simp only [codes1, List.mem_cons, List.not_mem_nil, or_false] at hc
  rcases hc with rfl | rfl | rfl | rfl
  · exact w_c0
  · exact w_c1
  · exact w_c2
  · exact w_c3
set_option maxRecDepth 65536 in
theorem w_t1 : (words1.take 24).all (fun c => isCode c || c.before args0 about1) = true := by decide +kernel
set_option maxRecDepth 65536 in
theorem w_t2 : (words1.drop 24).all (fun c => isCode c || c.before args0 about1) = true := by decide +kernel
theorem w_tables : (allAtoms (Jvm.Cond.code x code maxLocals ret :: tables_1)).before args0 about1 = true := by
  rw [allAtoms_all]
  show words1.all (fun c => c.before args0 about1) = true
  refine all_split ?_ w_codes
  rw [← List.take_append_drop 24 words1, List.all_append, w_t1, w_t2]
  rfl
set_option maxRecDepth 65536 in
theorem w_case : (Jvm.Cond.and given_1 narrow_1).before args0 about1 = true := by decide +kernel
theorem w_applies : (headSpec (Jvm.Cond.code x code maxLocals ret :: tables_1) room_1).applies x e0.platform about1 = true :=
  (Spec.applies_iff w_frames).mpr ⟨w_running, w_runnable, w_alone, w_named, w_hears, w_ripe, w_room, w_tables⟩
theorem atStart : AtStart classFile x code maxLocals ret World_1 tables_1 room_1 Calls_1 rest_1 Pre_1 launch0 p0 e0 about1 theMethod args0 below0 :=
  ⟨lists_1, trivial, launch0.admits_env _ _ _, launch0.least_env, fairChoices_fair.cas, fairChoices_fair.clock, w_frames, w_args, w_heap, w_applies, trivial, trivial, w_case⟩
end start1
theorem witness_1 : WitnessClaimed_1 := ⟨start1.p0, start1.e0, start1.about1, start1.theMethod, start1.args0, start1.below0, start1.atStart⟩
end Jvm.Pilot.@@N@@
