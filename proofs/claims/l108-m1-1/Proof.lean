import JvmDerived
import JvmDerived.Pilot.@@N@@Statement
import JvmDerived.Pilot.@@N@@Code
set_option linter.unusedVariables false
set_option linter.unusedSimpArgs false
@@BLOCK:NumsL.lean.txt@@
namespace Jvm.Pilot.@@N@@
open Jvm Jvm.ClassFile Sem Op Lib Jvm.Free Jvm.Stand Jvm.LawKit Jvm.RoadKit Bundle Jvm.Pilot.@@N@@.Jvm.D
section OwnKit
variable {p : Program} {l : Launch} {e : Env} {R : Room} {s : State} {m : MethodId} {args : Array Value} {below : List Frame} {meth : Method} {c : Code} {T : State} {locs : List Loc} {cells slots : Nat} {n0 cc nn : Nat} {K : Option Value → Heap → Prop} {P : Heap → Prop} {A B : State}
/-- what a contract says of the value, the heap and the places written -/
def QK (n0 : Nat) (K : Option Value → Heap → Prop) (v : Option Value) (h : Heap) (L : List Loc) : Prop := K v h ∧ Fr n0 L
def Kv (w : Option Value) (P : Heap → Prop) (v : Option Value) (h : Heap) : Prop := v = w ∧ P h
/-- from A the run comes to this body's end, and K holds there -/
def Gl (p : Program) (e : Env) (below : List Frame) (s : State) (n0 cc nn : Nat) (K : Option Value → Heap → Prop) (A : State) : Prop :=
  ∃ t o, Steps p.tables e below A t ∧ t.status = .running ∧ Ended t below o ∧ ∃ v L, o = .returned v ∧ QK n0 K v t.heap L ∧ FrameEnd s o t L cc nn
theorem go (st : ∀ t, Steps p.tables e below B t → Steps p.tables e below A t) (h : Gl p e below s n0 cc nn K B) : Gl p e below s n0 cc nn K A := by
  obtain ⟨t, o, h1, h2⟩ := h; exact ⟨t, o, st t h1, h2⟩
theorem gl_start {g g' : JFrame} (q : g = g') (h : Gl p e below s n0 cc nn K (T.setTop g')) :
    ∃ t o, Steps p.tables e below (T.setTop g) t ∧ t.status = .running ∧ Ended t below o ∧ ∃ v L, o = .returned v ∧ QK n0 K v t.heap L ∧ FrameEnd s o t L cc nn := by
  subst q; exact h
theorem gI {c : Prop} [Decidable c] {a b : Int32} (h1 : c → Gl p e below s n0 cc nn (Kv (some (.int a)) P) A) (h2 : ¬ c → Gl p e below s n0 cc nn (Kv (some (.int b)) P) A) : Gl p e below s n0 cc nn (Kv (some (.int (if c then a else b))) P) A := by
  by_cases h : c
  · rw [if_pos h]; exact h1 h
  · rw [if_neg h]; exact h2 h
theorem gJ {c : Prop} [Decidable c] {a b : Int64} (h1 : c → Gl p e below s n0 cc nn (Kv (some (.long a)) P) A) (h2 : ¬ c → Gl p e below s n0 cc nn (Kv (some (.long b)) P) A) : Gl p e below s n0 cc nn (Kv (some (.long (if c then a else b))) P) A := by
  by_cases h : c
  · rw [if_pos h]; exact h1 h
  · rw [if_neg h]; exact h2 h
theorem gR {c : Prop} [Decidable c] {a b : Addr} (h1 : c → Gl p e below s n0 cc nn (Kv (some (.ref a)) P) A) (h2 : ¬ c → Gl p e below s n0 cc nn (Kv (some (.ref b)) P) A) : Gl p e below s n0 cc nn (Kv (some (.ref (if c then a else b))) P) A := by
  by_cases h : c
  · rw [if_pos h]; exact h1 h
  · rw [if_neg h]; exact h2 h
theorem gV {c : Prop} [Decidable c] (h1 : c → Gl p e below s n0 cc nn K A) (h2 : ¬ c → Gl p e below s n0 cc nn K A) : Gl p e below s n0 cc nn K A := by
  by_cases h : c
  · exact h1 h
  · exact h2 h
variable {x : MethodName} {S : Spec} {code' : ByteArray} {ml : Nat} {s₁ : State} {pc : Nat} {Ls : Array Slot} {rest : List Value}
theorem endN (X : Stand p l e R s m args below meth c T locs cells slots) (hx : p.tables.exec = Jvm.exec) {t : FieldType} (Bd : BodyLoose p l x S code' ml (some t) e s m args below meth c s₁) (ht : t = .boolean ∨ t = .byte ∨ t = .char ∨ t = .short) {z : Int32}
    (hd : decode c.code pc = .ok (.ireturn, 1)) (hK : K (some (.int (nar t z))) T.heap) (N : Fr n0 locs) (hc : cells ≤ cc) (hs : slots ≤ nn) : Gl p e below s n0 cc nn K (T.setTop (mkF m pc Ls (.int z :: rest))) := by
  obtain ⟨fs, hr, hrun, hended, hW, hsame⟩ := X.leave (v := some (.int (nar t z))) (fun h => by rw [Bd.returns] at h; cases h)
  exact ⟨_, _, retN X hx Bd.returns ht hd hr, hrun, hended, _, _, rfl, ⟨hK, N⟩, ⟨_, rfl⟩, hW, hsame.mono hc hs⟩
theorem endO (X : Stand p l e R s m args below meth c T locs cells slots) (hx : p.tables.exec = Jvm.exec) {t : FieldType} (Bd : BodyLoose p l x S code' ml (some t) e s m args below meth c s₁) {w : Value} {i : Instr} (hn : narrow t w = w)
    (hi : (i = .ireturn ∧ (t = .int ∨ t = .boolean ∨ t = .byte ∨ t = .char ∨ t = .short) ∧ ∃ z, w = .int z) ∨ (i = .lreturn ∧ t = .long ∧ ∃ z, w = .long z) ∨ (i = .dreturn ∧ t = .double ∧ ∃ z, w = .double z) ∨ (i = .freturn ∧ t = .float ∧ ∃ z, w = .float z) ∨ (i = .areturn ∧ t.isReference = true ∧ w.isRef = true))
    (hd : decode c.code pc = .ok (i, 1)) (hK : K (some w) T.heap) (N : Fr n0 locs) (hc : cells ≤ cc) (hs : slots ≤ nn) : Gl p e below s n0 cc nn K (T.setTop (mkF m pc Ls (w :: rest))) := by
  obtain ⟨fs, hr, hrun, hended, hW, hsame⟩ := X.leave (v := some w) (fun h => by rw [Bd.returns] at h; cases h)
  exact ⟨_, _, retOut X hx Bd.returns hn hi hd hr, hrun, hended, _, _, rfl, ⟨hK, N⟩, ⟨_, rfl⟩, hW, hsame.mono hc hs⟩
theorem endI (X : Stand p l e R s m args below meth c T locs cells slots) (hx : p.tables.exec = Jvm.exec) (Bd : BodyLoose p l x S code' ml (some .int) e s m args below meth c s₁) {z : Int32}
    (hd : decode c.code pc = .ok (.ireturn, 1)) (hK : K (some (.int z)) T.heap) (N : Fr n0 locs) (hc : cells ≤ cc) (hs : slots ≤ nn) : Gl p e below s n0 cc nn K (T.setTop (mkF m pc Ls (.int z :: rest))) :=
  endO X hx Bd rfl (Or.inl ⟨rfl, Or.inl rfl, z, rfl⟩) hd hK N hc hs
theorem endJ (X : Stand p l e R s m args below meth c T locs cells slots) (hx : p.tables.exec = Jvm.exec) (Bd : BodyLoose p l x S code' ml (some .long) e s m args below meth c s₁) {z : Int64}
    (hd : decode c.code pc = .ok (.lreturn, 1)) (hK : K (some (.long z)) T.heap) (N : Fr n0 locs) (hc : cells ≤ cc) (hs : slots ≤ nn) : Gl p e below s n0 cc nn K (T.setTop (mkF m pc Ls (.long z :: rest))) :=
  endO X hx Bd rfl (Or.inr (Or.inl ⟨rfl, rfl, z, rfl⟩)) hd hK N hc hs
theorem endR (X : Stand p l e R s m args below meth c T locs cells slots) (hx : p.tables.exec = Jvm.exec) {t : FieldType} (Bd : BodyLoose p l x S code' ml (some t) e s m args below meth c s₁) (ht : t.isReference = true) {a : Addr}
    (hd : decode c.code pc = .ok (.areturn, 1)) (hK : K (some (.ref a)) T.heap) (N : Fr n0 locs) (hc : cells ≤ cc) (hs : slots ≤ nn) : Gl p e below s n0 cc nn K (T.setTop (mkF m pc Ls (.ref a :: rest))) :=
  endO X hx Bd (by cases t <;> first | rfl | cases ht) (Or.inr (Or.inr (Or.inr (Or.inr ⟨rfl, ht, rfl⟩)))) hd hK N hc hs
theorem endV (X : Stand p l e R s m args below meth c T locs cells slots) (hx : p.tables.exec = Jvm.exec) (Bd : BodyLoose p l x S code' ml none e s m args below meth c s₁)
    (hd : decode c.code pc = .ok (.return_, 1)) (hK : K none T.heap) (N : Fr n0 locs) (hc : cells ≤ cc) (hs : slots ≤ nn) : Gl p e below s n0 cc nn K (T.setTop (mkF m pc Ls [])) := by
  obtain ⟨fs, hr, hrun, hended, hW, hsame⟩ := X.leave (v := none) (fun _ => rfl)
  exact ⟨_, _, X.returnOut hx Bd.returns hd hr, hrun, hended, _, _, rfl, ⟨hK, N⟩, ⟨_, rfl⟩, hW, hsame.mono hc hs⟩
theorem lremM {g : JFrame} {target : State} (X : Stand p l e R s m args below meth c T locs cells slots) (hx : p.tables.exec = Jvm.exec) (hg : g.method = m) {x y : Int64} {rest : List Value} (hd : decode c.code g.pc = .ok (.lrem, 1)) (hs : g.stack = .long y :: .long x :: rest) (hy : y ≠ 0)
    (hr : Steps p.tables e below (T.setTop { g with pc := g.pc + 1, stack := .long (x % y) :: rest }) target) : Steps p.tables e below (T.setTop g) target := by
  have q := lrem_mod x y
  exact XS.lrem X.here hx hg hd hs hy (by rw [q]; exact hr)
theorem sta_keep {Z : State} {h h' : Heap} {a : Addr} {C n d D : String} {w : Value} (F : Sta Z h C n d w) (Kp : Keep h h' [a]) (E : Exa Z h a D) : Sta Z h' C n d w := by
  obtain ⟨cf, i, k, f, st, cell, h1, h2, h3, h4, h5, h6, h7⟩ := F
  obtain ⟨cell', k', e1, -, -, e4, -⟩ := E
  refine ⟨cf, i, k, f, st, cell, h1, h2, h3, h4, Kp.2.1 st cell h5 (ninS (fun q => ?_) nin0), h6, h7⟩
  subst q; cases h5.symm.trans e1; rw [h6] at e4; cases e4
theorem sta_keepN {Z : State} {h h' : Heap} {ws : List Addr} {C n d : String} {w : Value} (F : Sta Z h C n d w) (Kp : Keep h h' ws) (hn : ∀ x ∈ ws, ∀ cell : Cell, h[x]? = some cell → cell.vm.isStatics = false) : Sta Z h' C n d w := by
  obtain ⟨cf, i, k, f, st, cell, h1, h2, h3, h4, h5, h6, h7⟩ := F
  refine ⟨cf, i, k, f, st, cell, h1, h2, h3, h4, Kp.2.1 st cell h5 (fun q => ?_), h6, h7⟩
  have := hn st q cell h5
  rw [h6] at this; cases this
theorem sta_keep0 {Z : State} {h h' : Heap} {C n d : String} {w : Value} (F : Sta Z h C n d w) (Kp : Keep h h' []) : Sta Z h' C n d w := by
  obtain ⟨cf, i, k, f, st, cell, h1, h2, h3, h4, h5, h6, h7⟩ := F
  exact ⟨cf, i, k, f, st, cell, h1, h2, h3, h4, Kp.2.1 st cell h5 nin0, h6, h7⟩
theorem sel_priv {Z s : State} {a0 args : Array Value} {y : MethodName} {n : Nat} (hZ : Z.Warmed39 s.vm) (wi : (Cond.instantiable y.cls n).before a0 Z = true) (wp : (Cond.privateMethod y).before a0 Z = true) (wm : (Cond.instanceMethod y).before a0 Z = true) (hy : y.cls ≠ "java/lang/invoke/MethodHandle" ∧ y.cls ≠ "java/lang/invoke/VarHandle") : (Cond.selects y.cls y y).before args s = true := by
  obtain ⟨c, k, h1, h2, -, h4, -⟩ := Cond.instantiable_spec (show (Cond.instantiable y.cls n).before args s = true from mvT hZ wi)
  exact Jvm.Stand.selects_self_of_private h1 h2 (by simp only [Bool.or_eq_false_iff] at h4; exact h4.1) (Cond.privateMethod_at (mvP hZ wp (args := args))) (mvT hZ wm) hy
theorem eqL_v {t : Term} {k : Int64} {a0 : Array Value} {first u : State} {o : Option Outcome} {idx : List Nat} (h : (Cond.eq t (.long k)).value a0 first o u idx = some true) : t.eval a0 first o idx u = some (.long k) := by
  simp only [Cond.value, Term.eval] at h
  cases ht : t.eval a0 first o idx u with
  | none => simp [ht] at h
  | some x => cases x <;> simp [ht] at h ⊢; exact h
theorem eqI_v {t : Term} {k : Int32} {a0 : Array Value} {first u : State} {o : Option Outcome} {idx : List Nat} (h : (Cond.eq t (.int k)).value a0 first o u idx = some true) : t.eval a0 first o idx u = some (.int k) := by
  simp only [Cond.value, Term.eval] at h
  cases ht : t.eval a0 first o idx u with
  | none => simp [ht] at h
  | some x => cases x <;> simp [ht] at h ⊢; exact h
end OwnKit
theorem d1_0 : decode method_2_code 0 = .ok (.iload_n 0, 1) := by decide +kernel
theorem d1_1 : decode method_2_code 1 = .ok (.iconst 3, 1) := by decide +kernel
theorem d1_2 : decode method_2_code 2 = .ok (.iand, 1) := by decide +kernel
theorem d1_3 : decode method_2_code 3 = .ok (.istore_n 1, 1) := by decide +kernel
theorem d1_4 : decode method_2_code 4 = .ok (.iload_n 1, 1) := by decide +kernel
theorem d1_5 : decode method_2_code 5 = .ok (.ifCond .ne 5, 3) := by decide +kernel
theorem d1_8 : decode method_2_code 8 = .ok (.iconst 0, 1) := by decide +kernel
theorem d1_9 : decode method_2_code 9 = .ok (.ireturn, 1) := by decide +kernel
theorem d1_10 : decode method_2_code 10 = .ok (.iload_n 1, 1) := by decide +kernel
theorem d1_11 : decode method_2_code 11 = .ok (.iconst 1, 1) := by decide +kernel
theorem d1_12 : decode method_2_code 12 = .ok (.if_icmp .ne 6, 3) := by decide +kernel
theorem d1_15 : decode method_2_code 15 = .ok (.ldc 7, 2) := by decide +kernel
theorem d1_17 : decode method_2_code 17 = .ok (.ireturn, 1) := by decide +kernel
theorem d1_18 : decode method_2_code 18 = .ok (.iload_n 1, 1) := by decide +kernel
theorem d1_19 : decode method_2_code 19 = .ok (.iconst 2, 1) := by decide +kernel
theorem d1_20 : decode method_2_code 20 = .ok (.if_icmp .ne 6, 3) := by decide +kernel
theorem d1_23 : decode method_2_code 23 = .ok (.ldc 8, 2) := by decide +kernel
theorem d1_25 : decode method_2_code 25 = .ok (.ireturn, 1) := by decide +kernel
theorem d1_26 : decode method_2_code 26 = .ok (.iload_n 0, 1) := by decide +kernel
theorem d1_27 : decode method_2_code 27 = .ok (.iconst 2, 1) := by decide +kernel
theorem d1_28 : decode method_2_code 28 = .ok (.iushr, 1) := by decide +kernel
theorem d1_29 : decode method_2_code 29 = .ok (.ldc 7, 2) := by decide +kernel
theorem d1_31 : decode method_2_code 31 = .ok (.iand, 1) := by decide +kernel
theorem d1_32 : decode method_2_code 32 = .ok (.ireturn, 1) := by decide +kernel
theorem pn_0 : plainName "com/example/linkwright/linkwright/ClassFileVersionIsSupportedByPinLaw" = true := by first | (simp [plainName, overriddenIn]; done) | decide +kernel
theorem ef_1 (m : MethodId) (p1 : Int32) : entryFrame m #[(.int p1)] 2 = mkF m 0 #[.val (.int p1), .unset] [] := by first | (simp [entryFrame, mkF, argsToLocals, Value.category]; done) | rfl
def b1_0 (p1 : Int32) : Int32 := (if (p1 &&& (3 : Int32)) = (0 : Int32) then (0 : Int32) else (if (p1 &&& (3 : Int32)) = (1 : Int32) then (65535 : Int32) else (if (p1 &&& (3 : Int32)) = (2 : Int32) then (65534 : Int32) else (((p1.toUInt32 >>> ((2 : Int32) &&& 31).toUInt32).toInt32) &&& (65535 : Int32)))))
set_option maxRecDepth 65536 in
set_option maxHeartbeats 40000000 in
theorem rm1 (l : Launch) (Z : State) (a0 : Array Value) (hw : ∀ d ∈ tables_1, d.before a0 Z = true) (ws : List Jvm.Cond) (p1 : Int32) (h0 : Heap) (n0 : Nat) (Z0 : n0 ≤ h0.size) :
    MetFree l (⟨"com/example/linkwright/linkwright/ClassFileVersionIsSupportedByPinLaw", "pickMinor", "(I)I"⟩ : MethodName) (head1 (Jvm.Cond.code (⟨"com/example/linkwright/linkwright/ClassFileVersionIsSupportedByPinLaw", "pickMinor", "(I)I"⟩ : MethodName) method_2_code 2 (some .int) :: ws) ({ frames := 0, cells := 0, slots := 0, locals := 0 } : Room)) (fun a U => a = #[(.int p1)] ∧ Z.Warmed39 U.vm ∧ U.heap = h0) (fun _ _ _ _ _ => True) (fun _ U o U' => ∃ v L, o = .returned v ∧ QK n0 (Kv (some (.int (b1_0 p1))) (fun h => h = h0)) v U'.heap L ∧ FrameEnd U o U' L ({ frames := 0, cells := 0, slots := 0, locals := 0 } : Room).cells ({ frames := 0, cells := 0, slots := 0, locals := 0 } : Room).slots) := by
  refine MetFree.of_bodySF (plainFor_of_name pn_0) hisR ?_
  intro p e s m args below meth c s₁ Bd hml0 hP hK
  obtain ⟨rfl, hZ, hh⟩ := hP
  have hx := Bd.exec
  have hby := Bd.bytes
  have hml : c.maxLocals = 2 := hml0
  have hown : s.vm.findClass "com/example/linkwright/linkwright/ClassFileVersionIsSupportedByPinLaw" = some m.cls := findClass_of_methodNamed Bd.named
  have hnm := (name_of_methodNamed Bd.named Bd.method).1
  have X0 : Stand p l e ({ frames := 0, cells := 0, slots := 0, locals := 0 } : Room) s m #[(.int p1)] below meth c s₁ [] 0 0 := Stand.of_body Bd
  have e0 : s₁.heap = h0 := by rw [← hh, Bd.state]; rfl
  have N0 := Fr.nil n0
  refine gl_start (ef_1 m p1) ?_
  show Gl p e below s n0 ({ frames := 0, cells := 0, slots := 0, locals := 0 } : Room).cells ({ frames := 0, cells := 0, slots := 0, locals := 0 } : Room).slots (Kv (some (.int (if (p1 &&& (3 : Int32)) = (0 : Int32) then (0 : Int32) else (if (p1 &&& (3 : Int32)) = (1 : Int32) then (65535 : Int32) else (if (p1 &&& (3 : Int32)) = (2 : Int32) then (65534 : Int32) else (((p1.toUInt32 >>> ((2 : Int32) &&& 31).toUInt32).toInt32) &&& (65535 : Int32))))))) (fun h => h = h0)) (s₁.setTop (mkF m 0 #[.val (.int p1), .unset] []))
  refine go (fun t k => XS.iloadN X0.here hx rfl (hb hby d1_0) rfl  k) ?_
  show Gl _ _ _ _ _ _ _ _ (s₁.setTop (mkF m 1 #[.val (.int p1), .unset] [(.int p1)]))
  refine go (fun t k => XS.iconst X0.here hx rfl (hb hby d1_1) k) ?_
  show Gl _ _ _ _ _ _ _ _ (s₁.setTop (mkF m 2 #[.val (.int p1), .unset] [(.int (3 : Int32)), (.int p1)]))
  refine go (fun t k => XS.iand X0.here hx rfl (hb hby d1_2) rfl k) ?_
  show Gl _ _ _ _ _ _ _ _ (s₁.setTop (mkF m 3 #[.val (.int p1), .unset] [(.int (p1 &&& (3 : Int32)))]))
  refine go (fun t k => XS.istoreN X0.here hx rfl (hb hby d1_3) rfl (l' := #[.val (.int p1), .val (.int (p1 &&& (3 : Int32)))]) rfl k) ?_
  show Gl _ _ _ _ _ _ _ _ (s₁.setTop (mkF m 4 #[.val (.int p1), .val (.int (p1 &&& (3 : Int32)))] []))
  refine go (fun t k => XS.iloadN X0.here hx rfl (hb hby d1_4) rfl  k) ?_
  show Gl _ _ _ _ _ _ _ _ (s₁.setTop (mkF m 5 #[.val (.int p1), .val (.int (p1 &&& (3 : Int32)))] [(.int (p1 &&& (3 : Int32)))]))
  refine gI (c := (p1 &&& (3 : Int32)) = (0 : Int32)) (fun hc5 => ?_) (fun hc5 => ?_)
  · refine go (fun t k => XS.ifNo X0.here hx rfl (hb hby d1_5) rfl ((if0 _ _).trans (teq hc5).2) k) ?_
    show Gl _ _ _ _ _ _ _ _ (s₁.setTop (mkF m 8 #[.val (.int p1), .val (.int (p1 &&& (3 : Int32)))] []))
    refine go (fun t k => XS.iconst X0.here hx rfl (hb hby d1_8) k) ?_
    show Gl _ _ _ _ _ _ _ _ (s₁.setTop (mkF m 9 #[.val (.int p1), .val (.int (p1 &&& (3 : Int32)))] [(.int (0 : Int32))]))
    exact endI X0 hx Bd (hb hby d1_9) ⟨rfl, e0⟩ N0 (by decide) (by decide)
  · refine go (fun t k => XS.ifYes X0.here hx rfl (pc0 := 5) (pc' := 10) rfl (hb hby d1_5) rfl ((if0 _ _).trans (feq hc5).2) (by decide) (by decide) k) ?_
    show Gl _ _ _ _ _ _ _ _ (s₁.setTop (mkF m 10 #[.val (.int p1), .val (.int (p1 &&& (3 : Int32)))] []))
    refine go (fun t k => XS.iloadN X0.here hx rfl (hb hby d1_10) rfl  k) ?_
    show Gl _ _ _ _ _ _ _ _ (s₁.setTop (mkF m 11 #[.val (.int p1), .val (.int (p1 &&& (3 : Int32)))] [(.int (p1 &&& (3 : Int32)))]))
    refine go (fun t k => XS.iconst X0.here hx rfl (hb hby d1_11) k) ?_
    show Gl _ _ _ _ _ _ _ _ (s₁.setTop (mkF m 12 #[.val (.int p1), .val (.int (p1 &&& (3 : Int32)))] [(.int (1 : Int32)), (.int (p1 &&& (3 : Int32)))]))
    refine gI (c := (p1 &&& (3 : Int32)) = (1 : Int32)) (fun hc12 => ?_) (fun hc12 => ?_)
    · refine go (fun t k => XS.icmpNo X0.here hx rfl (hb hby d1_12) rfl (teq hc12).2 k) ?_
      show Gl _ _ _ _ _ _ _ _ (s₁.setTop (mkF m 15 #[.val (.int p1), .val (.int (p1 &&& (3 : Int32)))] []))
      refine go (fun t k => X0.ldcInt hx hown (mvT hZ (hw _ (List.mem_of_getElem? (i := 0) rfl))) (g := (mkF m 15 #[.val (.int p1), .val (.int (p1 &&& (3 : Int32)))] [])) rfl (hb hby d1_15) _ k) ?_
      show Gl _ _ _ _ _ _ _ _ (s₁.setTop (mkF m 17 #[.val (.int p1), .val (.int (p1 &&& (3 : Int32)))] [(.int (65535 : Int32))]))
      exact endI X0 hx Bd (hb hby d1_17) ⟨rfl, e0⟩ N0 (by decide) (by decide)
    · refine go (fun t k => XS.icmpYes X0.here hx rfl (pc0 := 12) (pc' := 18) rfl (hb hby d1_12) rfl (feq hc12).2 (by decide) (by decide) k) ?_
      show Gl _ _ _ _ _ _ _ _ (s₁.setTop (mkF m 18 #[.val (.int p1), .val (.int (p1 &&& (3 : Int32)))] []))
      refine go (fun t k => XS.iloadN X0.here hx rfl (hb hby d1_18) rfl  k) ?_
      show Gl _ _ _ _ _ _ _ _ (s₁.setTop (mkF m 19 #[.val (.int p1), .val (.int (p1 &&& (3 : Int32)))] [(.int (p1 &&& (3 : Int32)))]))
      refine go (fun t k => XS.iconst X0.here hx rfl (hb hby d1_19) k) ?_
      show Gl _ _ _ _ _ _ _ _ (s₁.setTop (mkF m 20 #[.val (.int p1), .val (.int (p1 &&& (3 : Int32)))] [(.int (2 : Int32)), (.int (p1 &&& (3 : Int32)))]))
      refine gI (c := (p1 &&& (3 : Int32)) = (2 : Int32)) (fun hc20 => ?_) (fun hc20 => ?_)
      · refine go (fun t k => XS.icmpNo X0.here hx rfl (hb hby d1_20) rfl (teq hc20).2 k) ?_
        show Gl _ _ _ _ _ _ _ _ (s₁.setTop (mkF m 23 #[.val (.int p1), .val (.int (p1 &&& (3 : Int32)))] []))
        refine go (fun t k => X0.ldcInt hx hown (mvT hZ (hw _ (List.mem_of_getElem? (i := 31) rfl))) (g := (mkF m 23 #[.val (.int p1), .val (.int (p1 &&& (3 : Int32)))] [])) rfl (hb hby d1_23) _ k) ?_
        show Gl _ _ _ _ _ _ _ _ (s₁.setTop (mkF m 25 #[.val (.int p1), .val (.int (p1 &&& (3 : Int32)))] [(.int (65534 : Int32))]))
        exact endI X0 hx Bd (hb hby d1_25) ⟨rfl, e0⟩ N0 (by decide) (by decide)
      · refine go (fun t k => XS.icmpYes X0.here hx rfl (pc0 := 20) (pc' := 26) rfl (hb hby d1_20) rfl (feq hc20).2 (by decide) (by decide) k) ?_
        show Gl _ _ _ _ _ _ _ _ (s₁.setTop (mkF m 26 #[.val (.int p1), .val (.int (p1 &&& (3 : Int32)))] []))
        refine go (fun t k => XS.iloadN X0.here hx rfl (hb hby d1_26) rfl  k) ?_
        show Gl _ _ _ _ _ _ _ _ (s₁.setTop (mkF m 27 #[.val (.int p1), .val (.int (p1 &&& (3 : Int32)))] [(.int p1)]))
        refine go (fun t k => XS.iconst X0.here hx rfl (hb hby d1_27) k) ?_
        show Gl _ _ _ _ _ _ _ _ (s₁.setTop (mkF m 28 #[.val (.int p1), .val (.int (p1 &&& (3 : Int32)))] [(.int (2 : Int32)), (.int p1)]))
        refine go (fun t k => XS.iushr X0.here hx rfl (hb hby d1_28) rfl k) ?_
        show Gl _ _ _ _ _ _ _ _ (s₁.setTop (mkF m 29 #[.val (.int p1), .val (.int (p1 &&& (3 : Int32)))] [(.int ((p1.toUInt32 >>> ((2 : Int32) &&& 31).toUInt32).toInt32))]))
        refine go (fun t k => X0.ldcInt hx hown (mvT hZ (hw _ (List.mem_of_getElem? (i := 0) rfl))) (g := (mkF m 29 #[.val (.int p1), .val (.int (p1 &&& (3 : Int32)))] [(.int ((p1.toUInt32 >>> ((2 : Int32) &&& 31).toUInt32).toInt32))])) rfl (hb hby d1_29) _ k) ?_
        show Gl _ _ _ _ _ _ _ _ (s₁.setTop (mkF m 31 #[.val (.int p1), .val (.int (p1 &&& (3 : Int32)))] [(.int (65535 : Int32)), (.int ((p1.toUInt32 >>> ((2 : Int32) &&& 31).toUInt32).toInt32))]))
        refine go (fun t k => XS.iand X0.here hx rfl (hb hby d1_31) rfl k) ?_
        show Gl _ _ _ _ _ _ _ _ (s₁.setTop (mkF m 32 #[.val (.int p1), .val (.int (p1 &&& (3 : Int32)))] [(.int (((p1.toUInt32 >>> ((2 : Int32) &&& 31).toUInt32).toInt32) &&& (65535 : Int32)))]))
        exact endI X0 hx Bd (hb hby d1_32) ⟨rfl, e0⟩ N0 (by decide) (by decide)
theorem d3_0 : decode jdk_30_method_1_code 0 = .ok (.aload_n 0, 1) := by decide +kernel
theorem d3_1 : decode jdk_30_method_1_code 1 = .ok (.invokespecial 1, 3) := by decide +kernel
theorem d3_4 : decode jdk_30_method_1_code 4 = .ok (.return_, 1) := by decide +kernel
theorem pn_1 : plainName "java/lang/Record" = true := by first | (simp [plainName, overriddenIn]; done) | decide +kernel
theorem ef_3 (m : MethodId) (a1 : Addr) : entryFrame m #[(.ref a1)] 1 = mkF m 0 #[.val (.ref a1)] [] := by first | (simp [entryFrame, mkF, argsToLocals, Value.category]; done) | rfl
set_option maxRecDepth 65536 in
set_option maxHeartbeats 40000000 in
theorem rm3 (l : Launch) (Z : State) (a0 : Array Value) (hw : ∀ d ∈ tables_1, d.before a0 Z = true) (ws : List Jvm.Cond) (a1 : Addr) (h0 : Heap) (n0 : Nat) (Z0 : n0 ≤ h0.size) :
    MetFree l (⟨"java/lang/Record", "<init>", "()V"⟩ : MethodName) (head1 (Jvm.Cond.code (⟨"java/lang/Record", "<init>", "()V"⟩ : MethodName) jdk_30_method_1_code 1 none :: ws) ({ frames := 1, cells := 0, slots := 0, locals := 12 } : Room)) (fun a U => a = #[(.ref a1)] ∧ Z.Warmed39 U.vm ∧ U.heap = h0) (fun _ _ _ _ _ => True) (fun _ U o U' => ∃ v L, o = .returned v ∧ QK n0 (Kv none (fun h => h = h0)) v U'.heap L ∧ FrameEnd U o U' L ({ frames := 1, cells := 0, slots := 0, locals := 12 } : Room).cells ({ frames := 1, cells := 0, slots := 0, locals := 12 } : Room).slots) := by
  refine MetFree.of_bodySF (plainFor_of_name pn_1) hisR ?_
  intro p e s m args below meth c s₁ Bd hml0 hP hK
  obtain ⟨rfl, hZ, hh⟩ := hP
  have hx := Bd.exec
  have hby := Bd.bytes
  have hml : c.maxLocals = 1 := hml0
  have hown : s.vm.findClass "java/lang/Record" = some m.cls := findClass_of_methodNamed Bd.named
  have hnm := (name_of_methodNamed Bd.named Bd.method).1
  have X0 : Stand p l e ({ frames := 1, cells := 0, slots := 0, locals := 12 } : Room) s m #[(.ref a1)] below meth c s₁ [] 0 0 := Stand.of_body Bd
  have e0 : s₁.heap = h0 := by rw [← hh, Bd.state]; rfl
  have N0 := Fr.nil n0
  refine gl_start (ef_3 m a1) ?_
  show Gl p e below s n0 ({ frames := 1, cells := 0, slots := 0, locals := 12 } : Room).cells ({ frames := 1, cells := 0, slots := 0, locals := 12 } : Room).slots (Kv none (fun h => h = h0)) (s₁.setTop (mkF m 0 #[.val (.ref a1)] []))
  refine go (fun t k => XS.aloadN X0.here hx rfl (hb hby d3_0) rfl rfl k) ?_
  show Gl _ _ _ _ _ _ _ _ (s₁.setTop (mkF m 1 #[.val (.ref a1)] [(.ref a1)]))
  obtain ⟨T1, X1, e1, st1⟩ := initO X0 hx hZ hown (hw _ (List.mem_of_getElem? (i := 17) rfl)) (hw _ (List.mem_of_getElem? (i := 18) rfl)) (hw _ (List.mem_of_getElem? (i := 19) rfl)) e0 (g := (mkF m 1 #[.val (.ref a1)] [(.ref a1)])) rfl (by rw [hml]; rfl) rfl (hb hby d3_1) (by decide) (W := 0) (by show 2 * 0 + _ ≤ _; exact Nat.le_of_eq rfl) (by decide)
  refine go (fun t k => st1 _ k) ?_
  show Gl _ _ _ _ _ _ _ _ (T1.setTop (mkF m 4 #[.val (.ref a1)] []))
  exact endV X1 hx Bd (hb hby d3_4) ⟨rfl, e1⟩ N0 (by decide) (by decide)
theorem pd_0 : parseMethodDescriptor "()V" = some ⟨[], none⟩ := by decide +kernel
theorem d2_0 : decode prog_1_method_1_code 0 = .ok (.aload_n 0, 1) := by decide +kernel
theorem d2_1 : decode prog_1_method_1_code 1 = .ok (.invokespecial 1, 3) := by decide +kernel
theorem d2_4 : decode prog_1_method_1_code 4 = .ok (.iload_n 1, 1) := by decide +kernel
theorem d2_5 : decode prog_1_method_1_code 5 = .ok (.ifCond .lt 19, 3) := by decide +kernel
theorem d2_8 : decode prog_1_method_1_code 8 = .ok (.iload_n 1, 1) := by decide +kernel
theorem d2_9 : decode prog_1_method_1_code 9 = .ok (.ldc 9, 2) := by decide +kernel
theorem d2_11 : decode prog_1_method_1_code 11 = .ok (.if_icmp .gt 13, 3) := by decide +kernel
theorem d2_14 : decode prog_1_method_1_code 14 = .ok (.iload_n 2, 1) := by decide +kernel
theorem d2_15 : decode prog_1_method_1_code 15 = .ok (.ifCond .lt 9, 3) := by decide +kernel
theorem d2_18 : decode prog_1_method_1_code 18 = .ok (.iload_n 2, 1) := by decide +kernel
theorem d2_19 : decode prog_1_method_1_code 19 = .ok (.ldc 9, 2) := by decide +kernel
theorem d2_21 : decode prog_1_method_1_code 21 = .ok (.if_icmp .le 18, 3) := by decide +kernel
theorem d2_39 : decode prog_1_method_1_code 39 = .ok (.aload_n 0, 1) := by decide +kernel
theorem d2_40 : decode prog_1_method_1_code 40 = .ok (.iload_n 1, 1) := by decide +kernel
theorem d2_41 : decode prog_1_method_1_code 41 = .ok (.putfield 19, 3) := by decide +kernel
theorem d2_44 : decode prog_1_method_1_code 44 = .ok (.aload_n 0, 1) := by decide +kernel
theorem d2_45 : decode prog_1_method_1_code 45 = .ok (.iload_n 2, 1) := by decide +kernel
theorem d2_46 : decode prog_1_method_1_code 46 = .ok (.putfield 23, 3) := by decide +kernel
theorem d2_49 : decode prog_1_method_1_code 49 = .ok (.return_, 1) := by decide +kernel
theorem pn_2 : plainName "com/example/linkwright/linkwright/ClassFileVersion" = true := by first | (simp [plainName, overriddenIn]; done) | decide +kernel
theorem ef_2 (m : MethodId) (a1 : Addr) (p2 : Int32) (p3 : Int32) : entryFrame m #[(.ref a1), (.int p2), (.int p3)] 3 = mkF m 0 #[.val (.ref a1), .val (.int p2), .val (.int p3)] [] := by first | (simp [entryFrame, mkF, argsToLocals, Value.category]; done) | rfl
set_option maxRecDepth 65536 in
set_option maxHeartbeats 40000000 in
theorem rm2 (l : Launch) (Z : State) (a0 : Array Value) (hw : ∀ d ∈ tables_1, d.before a0 Z = true) (ws : List Jvm.Cond) (a1 : Addr) (p2 : Int32) (p3 : Int32) (w_major_a1 : Value) (w_minor_a1 : Value) (h0 : Heap) (n0 : Nat) (Z0 : n0 ≤ h0.size) (E_a1 : Exa Z h0 a1 "com/example/linkwright/linkwright/ClassFileVersion") (g_a1 : n0 ≤ a1) (F_major_a1 : Fld Z h0 a1 "com/example/linkwright/linkwright/ClassFileVersion" "major" "I" w_major_a1) (F_minor_a1 : Fld Z h0 a1 "com/example/linkwright/linkwright/ClassFileVersion" "minor" "I" w_minor_a1) (hc5 : ¬ (p2 < (0 : Int32))) (hc11 : ¬ ((65535 : Int32) < p2)) (hc15 : ¬ (p3 < (0 : Int32))) (hc21 : ¬ ((65535 : Int32) < p3)) :
    MetFree l (⟨"com/example/linkwright/linkwright/ClassFileVersion", "<init>", "(II)V"⟩ : MethodName) (head1 (Jvm.Cond.code (⟨"com/example/linkwright/linkwright/ClassFileVersion", "<init>", "(II)V"⟩ : MethodName) prog_1_method_1_code 3 none :: ws) ({ frames := 2, cells := 0, slots := 0, locals := 24 } : Room)) (fun a U => a = #[(.ref a1), (.int p2), (.int p3)] ∧ Z.Warmed39 U.vm ∧ U.heap = h0) (fun _ _ _ _ _ => True) (fun _ U o U' => ∃ v L, o = .returned v ∧ QK n0 (Kv none (fun h => Keep h0 h [a1] ∧ Exa Z h a1 "com/example/linkwright/linkwright/ClassFileVersion" ∧ Fld Z h a1 "com/example/linkwright/linkwright/ClassFileVersion" "major" "I" (.int p2) ∧ Fld Z h a1 "com/example/linkwright/linkwright/ClassFileVersion" "minor" "I" (.int p3))) v U'.heap L ∧ FrameEnd U o U' L ({ frames := 2, cells := 0, slots := 0, locals := 24 } : Room).cells ({ frames := 2, cells := 0, slots := 0, locals := 24 } : Room).slots) := by
  refine MetFree.of_bodySF (plainFor_of_name pn_2) hisR ?_
  intro p e s m args below meth c s₁ Bd hml0 hP hK
  obtain ⟨rfl, hZ, hh⟩ := hP
  have hx := Bd.exec
  have hby := Bd.bytes
  have hml : c.maxLocals = 3 := hml0
  have hown : s.vm.findClass "com/example/linkwright/linkwright/ClassFileVersion" = some m.cls := findClass_of_methodNamed Bd.named
  have hnm := (name_of_methodNamed Bd.named Bd.method).1
  have X0 : Stand p l e ({ frames := 2, cells := 0, slots := 0, locals := 24 } : Room) s m #[(.ref a1), (.int p2), (.int p3)] below meth c s₁ [] 0 0 := Stand.of_body Bd
  have e0 : s₁.heap = h0 := by rw [← hh, Bd.state]; rfl
  have N0 := Fr.nil n0
  refine gl_start (ef_2 m a1 p2 p3) ?_
  show Gl p e below s n0 ({ frames := 2, cells := 0, slots := 0, locals := 24 } : Room).cells ({ frames := 2, cells := 0, slots := 0, locals := 24 } : Room).slots (Kv none (fun h => Keep h0 h [a1] ∧ Exa Z h a1 "com/example/linkwright/linkwright/ClassFileVersion" ∧ Fld Z h a1 "com/example/linkwright/linkwright/ClassFileVersion" "major" "I" (.int p2) ∧ Fld Z h a1 "com/example/linkwright/linkwright/ClassFileVersion" "minor" "I" (.int p3))) (s₁.setTop (mkF m 0 #[.val (.ref a1), .val (.int p2), .val (.int p3)] []))
  refine go (fun t k => XS.aloadN X0.here hx rfl (hb hby d2_0) rfl rfl k) ?_
  show Gl _ _ _ _ _ _ _ _ (s₁.setTop (mkF m 1 #[.val (.ref a1), .val (.int p2), .val (.int p3)] [(.ref a1)]))
  obtain ⟨_, _, ⟨T1, L1, k1, n1⟩, -, X1, ⟨Lc1, hQ1, l1, y1, z1⟩, st1⟩ := X0.specialBack hx (y := (⟨"java/lang/Record", "<init>", "()V"⟩ : MethodName)) rfl hown (mvT hZ (hw _ (List.mem_of_getElem? (i := 12) rfl))) (mvT hZ (hw _ (List.mem_of_getElem? (i := 13) rfl))) (mvT hZ (hw _ (List.mem_of_getElem? (i := 16) rfl))) (by decide) (backOf (W := 0) (rm3 l Z a0 hw [] a1 h0 n0 Z0 ) hZ (hw _ (List.mem_of_getElem? (i := 16) rfl)) (hw _ (List.mem_of_getElem? (i := 15) rfl)) (by decide) (by decide)) (g := (mkF m 1 #[.val (.ref a1), .val (.int p2), .val (.int p3)] [(.ref a1)])) rfl (by rw [hml]; rfl) (Steps.refl _) (a := a1) (argsL := []) (rest := []) (lenOf pd_0 rfl) rfl (by show 2 * 0 + _ ≤ _; exact Nat.le_of_eq rfl) (hb hby d2_1) (fun _ _ => ⟨rfl, e0, (by decide : 0 + 0 ≤ _), (by decide : 0 + 0 ≤ _)⟩)
  dsimp only [Pt.U, Pt.locs, Pt.cells, Pt.slots] at X1 l1 y1 z1 st1 hQ1
  subst l1 y1 z1
  have X1 : Stand p l e ({ frames := 2, cells := 0, slots := 0, locals := 24 } : Room) s m #[(.ref a1), (.int p2), (.int p3)] below meth c T1 _ 0 0 := X1
  obtain ⟨⟨rfl, e1'⟩, N1q⟩ := hQ1
  have e1 : T1.heap = h0 := e1'
  have N1 := Fr.app N0 N1q
  refine go (fun t k => st1.trans k) ?_
  show Gl _ _ _ _ _ _ _ _ (T1.setTop (mkF m 4 #[.val (.ref a1), .val (.int p2), .val (.int p3)] []))
  refine go (fun t k => XS.iloadN X1.here hx rfl (hb hby d2_4) rfl  k) ?_
  show Gl _ _ _ _ _ _ _ _ (T1.setTop (mkF m 5 #[.val (.ref a1), .val (.int p2), .val (.int p3)] [(.int p2)]))
  refine go (fun t k => XS.ifNo X1.here hx rfl (hb hby d2_5) rfl ((if0 _ _).trans (flt hc5).1) k) ?_
  show Gl _ _ _ _ _ _ _ _ (T1.setTop (mkF m 8 #[.val (.ref a1), .val (.int p2), .val (.int p3)] []))
  refine go (fun t k => XS.iloadN X1.here hx rfl (hb hby d2_8) rfl  k) ?_
  show Gl _ _ _ _ _ _ _ _ (T1.setTop (mkF m 9 #[.val (.ref a1), .val (.int p2), .val (.int p3)] [(.int p2)]))
  refine go (fun t k => X1.ldcInt hx hown (mvT hZ (hw _ (List.mem_of_getElem? (i := 20) rfl))) (g := (mkF m 9 #[.val (.ref a1), .val (.int p2), .val (.int p3)] [(.int p2)])) rfl (hb hby d2_9) _ k) ?_
  show Gl _ _ _ _ _ _ _ _ (T1.setTop (mkF m 11 #[.val (.ref a1), .val (.int p2), .val (.int p3)] [(.int (65535 : Int32)), (.int p2)]))
  refine go (fun t k => XS.icmpNo X1.here hx rfl (hb hby d2_11) rfl (flt hc11).2.2.1 k) ?_
  show Gl _ _ _ _ _ _ _ _ (T1.setTop (mkF m 14 #[.val (.ref a1), .val (.int p2), .val (.int p3)] []))
  refine go (fun t k => XS.iloadN X1.here hx rfl (hb hby d2_14) rfl  k) ?_
  show Gl _ _ _ _ _ _ _ _ (T1.setTop (mkF m 15 #[.val (.ref a1), .val (.int p2), .val (.int p3)] [(.int p3)]))
  refine go (fun t k => XS.ifNo X1.here hx rfl (hb hby d2_15) rfl ((if0 _ _).trans (flt hc15).1) k) ?_
  show Gl _ _ _ _ _ _ _ _ (T1.setTop (mkF m 18 #[.val (.ref a1), .val (.int p2), .val (.int p3)] []))
  refine go (fun t k => XS.iloadN X1.here hx rfl (hb hby d2_18) rfl  k) ?_
  show Gl _ _ _ _ _ _ _ _ (T1.setTop (mkF m 19 #[.val (.ref a1), .val (.int p2), .val (.int p3)] [(.int p3)]))
  refine go (fun t k => X1.ldcInt hx hown (mvT hZ (hw _ (List.mem_of_getElem? (i := 20) rfl))) (g := (mkF m 19 #[.val (.ref a1), .val (.int p2), .val (.int p3)] [(.int p3)])) rfl (hb hby d2_19) _ k) ?_
  show Gl _ _ _ _ _ _ _ _ (T1.setTop (mkF m 21 #[.val (.ref a1), .val (.int p2), .val (.int p3)] [(.int (65535 : Int32)), (.int p3)]))
  refine go (fun t k => XS.icmpYes X1.here hx rfl (pc0 := 21) (pc' := 39) rfl (hb hby d2_21) rfl (flt hc21).2.2.2 (by decide) (by decide) k) ?_
  show Gl _ _ _ _ _ _ _ _ (T1.setTop (mkF m 39 #[.val (.ref a1), .val (.int p2), .val (.int p3)] []))
  refine go (fun t k => XS.aloadN X1.here hx rfl (hb hby d2_39) rfl rfl k) ?_
  show Gl _ _ _ _ _ _ _ _ (T1.setTop (mkF m 40 #[.val (.ref a1), .val (.int p2), .val (.int p3)] [(.ref a1)]))
  refine go (fun t k => XS.iloadN X1.here hx rfl (hb hby d2_40) rfl  k) ?_
  show Gl _ _ _ _ _ _ _ _ (T1.setTop (mkF m 41 #[.val (.ref a1), .val (.int p2), .val (.int p3)] [(.int p2), (.ref a1)]))
  obtain ⟨T2, h2, X2, e2, W2, st2⟩ := putF X1 hx hZ hown (host := "") (Or.inl (hw _ (List.mem_of_getElem? (i := 21) rfl))) Via.refl e1 F_major_a1 E_a1 (Or.inr ⟨(hw _ (List.mem_of_getElem? (i := 22) rfl)), rfl, hnm⟩) (hw _ (List.mem_of_getElem? (i := 7) rfl)) (ty := .int) (by decide) rfl rfl (g := (mkF m 41 #[.val (.ref a1), .val (.int p2), .val (.int p3)] [(.int p2), (.ref a1)])) rfl rfl (hb hby d2_41)
  have Fw2 := F_major_a1.same W2
  have K2 : Keep h0 h2 [a1] := (Keep.refl h0 [a1]).wr W2 (Or.inl (List.mem_of_getElem? (i := 0) rfl))
  have N2 := Fr.snoc X2 N1 g_a1
  refine go (fun t k => st2 _ k) ?_
  show Gl _ _ _ _ _ _ _ _ (T2.setTop (mkF m 44 #[.val (.ref a1), .val (.int p2), .val (.int p3)] []))
  refine go (fun t k => XS.aloadN X2.here hx rfl (hb hby d2_44) rfl rfl k) ?_
  show Gl _ _ _ _ _ _ _ _ (T2.setTop (mkF m 45 #[.val (.ref a1), .val (.int p2), .val (.int p3)] [(.ref a1)]))
  refine go (fun t k => XS.iloadN X2.here hx rfl (hb hby d2_45) rfl  k) ?_
  show Gl _ _ _ _ _ _ _ _ (T2.setTop (mkF m 46 #[.val (.ref a1), .val (.int p2), .val (.int p3)] [(.int p3), (.ref a1)]))
  obtain ⟨T3, h3, X3, e3, W3, st3⟩ := putF X2 hx hZ hown (host := "") (Or.inl (hw _ (List.mem_of_getElem? (i := 23) rfl))) Via.refl e2 (F_minor_a1.other W2 (Or.inr (slot_ne (Or.inr (hw _ (List.mem_of_getElem? (i := 24) rfl))) (Or.inr (hw _ (List.mem_of_getElem? (i := 22) rfl))) (by decide) (t := .int) (t' := .int) (by decide) (by decide)))) (E_a1.wr W2) (Or.inr ⟨(hw _ (List.mem_of_getElem? (i := 24) rfl)), rfl, hnm⟩) (hw _ (List.mem_of_getElem? (i := 7) rfl)) (ty := .int) (by decide) rfl rfl (g := (mkF m 46 #[.val (.ref a1), .val (.int p2), .val (.int p3)] [(.int p3), (.ref a1)])) rfl rfl (hb hby d2_46)
  have Fw3 := (F_minor_a1.other W2 (Or.inr (slot_ne (Or.inr (hw _ (List.mem_of_getElem? (i := 24) rfl))) (Or.inr (hw _ (List.mem_of_getElem? (i := 22) rfl))) (by decide) (t := .int) (t' := .int) (by decide) (by decide)))).same W3
  have K3 : Keep h0 h3 [a1] := K2.wr W3 (Or.inl (List.mem_of_getElem? (i := 0) rfl))
  have N3 := Fr.snoc X3 N2 g_a1
  refine go (fun t k => st3 _ k) ?_
  show Gl _ _ _ _ _ _ _ _ (T3.setTop (mkF m 49 #[.val (.ref a1), .val (.int p2), .val (.int p3)] []))
  exact endV X3 hx Bd (hb hby d2_49) ⟨rfl, (by rw [e3]; exact ⟨K3, ((E_a1.wr W2).wr W3), (Fw2.other W3 (Or.inr (slot_ne (Or.inr (hw _ (List.mem_of_getElem? (i := 22) rfl))) (Or.inr (hw _ (List.mem_of_getElem? (i := 24) rfl))) (by decide) (t := .int) (t' := .int) (by decide) (by decide)))), Fw3⟩)⟩ N3 (by decide) (by decide)
theorem d5_0 : decode prog_1_method_4_code 0 = .ok (.iload_n 1, 1) := by decide +kernel
theorem d5_1 : decode prog_1_method_4_code 1 = .ok (.bipush 44, 2) := by decide +kernel
theorem d5_3 : decode prog_1_method_4_code 3 = .ok (.iadd, 1) := by decide +kernel
theorem d5_4 : decode prog_1_method_4_code 4 = .ok (.istore_n 3, 1) := by decide +kernel
theorem d5_5 : decode prog_1_method_4_code 5 = .ok (.aload_n 0, 1) := by decide +kernel
theorem d5_6 : decode prog_1_method_4_code 6 = .ok (.getfield 19, 3) := by decide +kernel
theorem d5_9 : decode prog_1_method_4_code 9 = .ok (.bipush 45, 2) := by decide +kernel
theorem d5_11 : decode prog_1_method_4_code 11 = .ok (.if_icmp .lt 11, 3) := by decide +kernel
theorem d5_14 : decode prog_1_method_4_code 14 = .ok (.aload_n 0, 1) := by decide +kernel
theorem d5_15 : decode prog_1_method_4_code 15 = .ok (.getfield 19, 3) := by decide +kernel
theorem d5_18 : decode prog_1_method_4_code 18 = .ok (.iload_n 3, 1) := by decide +kernel
theorem d5_19 : decode prog_1_method_4_code 19 = .ok (.if_icmp .le 9, 3) := by decide +kernel
theorem d5_22 : decode prog_1_method_4_code 22 = .ok (.iconst 0, 1) := by decide +kernel
theorem d5_23 : decode prog_1_method_4_code 23 = .ok (.istore 4, 2) := by decide +kernel
theorem d5_25 : decode prog_1_method_4_code 25 = .ok (.goto 63, 3) := by decide +kernel
theorem d5_28 : decode prog_1_method_4_code 28 = .ok (.aload_n 0, 1) := by decide +kernel
theorem d5_29 : decode prog_1_method_4_code 29 = .ok (.getfield 19, 3) := by decide +kernel
theorem d5_32 : decode prog_1_method_4_code 32 = .ok (.bipush 56, 2) := by decide +kernel
theorem d5_34 : decode prog_1_method_4_code 34 = .ok (.if_icmp .ge 9, 3) := by decide +kernel
theorem d5_37 : decode prog_1_method_4_code 37 = .ok (.iconst 1, 1) := by decide +kernel
theorem d5_38 : decode prog_1_method_4_code 38 = .ok (.istore 4, 2) := by decide +kernel
theorem d5_40 : decode prog_1_method_4_code 40 = .ok (.goto 48, 3) := by decide +kernel
theorem d5_43 : decode prog_1_method_4_code 43 = .ok (.aload_n 0, 1) := by decide +kernel
theorem d5_44 : decode prog_1_method_4_code 44 = .ok (.getfield 23, 3) := by decide +kernel
theorem d5_47 : decode prog_1_method_4_code 47 = .ok (.ldc 9, 2) := by decide +kernel
theorem d5_49 : decode prog_1_method_4_code 49 = .ok (.if_icmp .ne 25, 3) := by decide +kernel
theorem d5_52 : decode prog_1_method_4_code 52 = .ok (.aload_n 0, 1) := by decide +kernel
theorem d5_53 : decode prog_1_method_4_code 53 = .ok (.getfield 19, 3) := by decide +kernel
theorem d5_56 : decode prog_1_method_4_code 56 = .ok (.iload_n 3, 1) := by decide +kernel
theorem d5_57 : decode prog_1_method_4_code 57 = .ok (.if_icmp .ne 11, 3) := by decide +kernel
theorem d5_60 : decode prog_1_method_4_code 60 = .ok (.iload_n 2, 1) := by decide +kernel
theorem d5_61 : decode prog_1_method_4_code 61 = .ok (.ifCond .eq 7, 3) := by decide +kernel
theorem d5_64 : decode prog_1_method_4_code 64 = .ok (.iconst 1, 1) := by decide +kernel
theorem d5_65 : decode prog_1_method_4_code 65 = .ok (.goto 4, 3) := by decide +kernel
theorem d5_68 : decode prog_1_method_4_code 68 = .ok (.iconst 0, 1) := by decide +kernel
theorem d5_69 : decode prog_1_method_4_code 69 = .ok (.istore 4, 2) := by decide +kernel
theorem d5_71 : decode prog_1_method_4_code 71 = .ok (.goto 17, 3) := by decide +kernel
theorem d5_74 : decode prog_1_method_4_code 74 = .ok (.aload_n 0, 1) := by decide +kernel
theorem d5_75 : decode prog_1_method_4_code 75 = .ok (.getfield 23, 3) := by decide +kernel
theorem d5_78 : decode prog_1_method_4_code 78 = .ok (.ifCond .ne 7, 3) := by decide +kernel
theorem d5_81 : decode prog_1_method_4_code 81 = .ok (.iconst 1, 1) := by decide +kernel
theorem d5_82 : decode prog_1_method_4_code 82 = .ok (.goto 4, 3) := by decide +kernel
theorem d5_85 : decode prog_1_method_4_code 85 = .ok (.iconst 0, 1) := by decide +kernel
theorem d5_86 : decode prog_1_method_4_code 86 = .ok (.istore 4, 2) := by decide +kernel
theorem d5_88 : decode prog_1_method_4_code 88 = .ok (.iload 4, 2) := by decide +kernel
theorem d5_90 : decode prog_1_method_4_code 90 = .ok (.ireturn, 1) := by decide +kernel
theorem ef_5 (m : MethodId) (a1 : Addr) (p2 : Int32) (p3 : Int32) : entryFrame m #[(.ref a1), (.int p2), (.int p3)] 5 = mkF m 0 #[.val (.ref a1), .val (.int p2), .val (.int p3), .unset, .unset] [] := by first | (simp [entryFrame, mkF, argsToLocals, Value.category]; done) | rfl
def b5_88 (v4_88 : Int32) : Int32 := (nar .boolean v4_88)
def b5_22  : Int32 := (b5_88 (0 : Int32))
def b5_69 (s0_69 : Int32) : Int32 := (b5_88 s0_69)
def b5_68  : Int32 := (b5_69 (0 : Int32))
def b5_86 (s0_86 : Int32) : Int32 := (b5_88 s0_86)
def b5_0 (p2 : Int32) (p3 : Int32) (w_major_a1 : Int32) (w_minor_a1 : Int32) : Int32 := (if w_major_a1 < (45 : Int32) then b5_22 else (if (p2 + (44 : Int32)) < w_major_a1 then b5_22 else (if w_major_a1 < (56 : Int32) then (b5_88 (1 : Int32)) else (if w_minor_a1 = (65535 : Int32) then (if w_major_a1 = (p2 + (44 : Int32)) then (if p3 = (0 : Int32) then b5_68 else (b5_69 (1 : Int32))) else b5_68) else (if w_minor_a1 = (0 : Int32) then (b5_86 (1 : Int32)) else (b5_86 (0 : Int32)))))))
set_option maxRecDepth 65536 in
set_option maxHeartbeats 40000000 in
theorem rm5 (l : Launch) (Z : State) (a0 : Array Value) (hw : ∀ d ∈ tables_1, d.before a0 Z = true) (ws : List Jvm.Cond) (a1 : Addr) (p2 : Int32) (p3 : Int32) (w_major_a1 : Int32) (w_minor_a1 : Int32) (h0 : Heap) (n0 : Nat) (Z0 : n0 ≤ h0.size) (F_major_a1 : Fld Z h0 a1 "com/example/linkwright/linkwright/ClassFileVersion" "major" "I" (.int w_major_a1)) (F_minor_a1 : Fld Z h0 a1 "com/example/linkwright/linkwright/ClassFileVersion" "minor" "I" (.int w_minor_a1)) :
    MetFree l (⟨"com/example/linkwright/linkwright/ClassFileVersion", "isSupportedBy", "(IZ)Z"⟩ : MethodName) (head1 (Jvm.Cond.code (⟨"com/example/linkwright/linkwright/ClassFileVersion", "isSupportedBy", "(IZ)Z"⟩ : MethodName) prog_1_method_4_code 5 (some .boolean) :: ws) ({ frames := 0, cells := 0, slots := 0, locals := 0 } : Room)) (fun a U => a = #[(.ref a1), (.int p2), (.int p3)] ∧ Z.Warmed39 U.vm ∧ U.heap = h0) (fun _ _ _ _ _ => True) (fun _ U o U' => ∃ v L, o = .returned v ∧ QK n0 (Kv (some (.int (b5_0 p2 p3 w_major_a1 w_minor_a1))) (fun h => h = h0)) v U'.heap L ∧ FrameEnd U o U' L ({ frames := 0, cells := 0, slots := 0, locals := 0 } : Room).cells ({ frames := 0, cells := 0, slots := 0, locals := 0 } : Room).slots) := by
  refine MetFree.of_bodySF (plainFor_of_name pn_2) hisR ?_
  intro p e s m args below meth c s₁ Bd hml0 hP hK
  obtain ⟨rfl, hZ, hh⟩ := hP
  have hx := Bd.exec
  have hby := Bd.bytes
  have hml : c.maxLocals = 5 := hml0
  have hown : s.vm.findClass "com/example/linkwright/linkwright/ClassFileVersion" = some m.cls := findClass_of_methodNamed Bd.named
  have hnm := (name_of_methodNamed Bd.named Bd.method).1
  have X0 : Stand p l e ({ frames := 0, cells := 0, slots := 0, locals := 0 } : Room) s m #[(.ref a1), (.int p2), (.int p3)] below meth c s₁ [] 0 0 := Stand.of_body Bd
  have e0 : s₁.heap = h0 := by rw [← hh, Bd.state]; rfl
  have N0 := Fr.nil n0
  refine gl_start (ef_5 m a1 p2 p3) ?_
  show Gl p e below s n0 ({ frames := 0, cells := 0, slots := 0, locals := 0 } : Room).cells ({ frames := 0, cells := 0, slots := 0, locals := 0 } : Room).slots (Kv (some (.int (if w_major_a1 < (45 : Int32) then b5_22 else (if (p2 + (44 : Int32)) < w_major_a1 then b5_22 else (if w_major_a1 < (56 : Int32) then (b5_88 (1 : Int32)) else (if w_minor_a1 = (65535 : Int32) then (if w_major_a1 = (p2 + (44 : Int32)) then (if p3 = (0 : Int32) then b5_68 else (b5_69 (1 : Int32))) else b5_68) else (if w_minor_a1 = (0 : Int32) then (b5_86 (1 : Int32)) else (b5_86 (0 : Int32))))))))) (fun h => h = h0)) (s₁.setTop (mkF m 0 #[.val (.ref a1), .val (.int p2), .val (.int p3), .unset, .unset] []))
  refine go (fun t k => XS.iloadN X0.here hx rfl (hb hby d5_0) rfl  k) ?_
  show Gl _ _ _ _ _ _ _ _ (s₁.setTop (mkF m 1 #[.val (.ref a1), .val (.int p2), .val (.int p3), .unset, .unset] [(.int p2)]))
  refine go (fun t k => XS.bipush X0.here hx rfl (hb hby d5_1) k) ?_
  show Gl _ _ _ _ _ _ _ _ (s₁.setTop (mkF m 3 #[.val (.ref a1), .val (.int p2), .val (.int p3), .unset, .unset] [(.int (44 : Int32)), (.int p2)]))
  refine go (fun t k => XS.iadd X0.here hx rfl (hb hby d5_3) rfl k) ?_
  show Gl _ _ _ _ _ _ _ _ (s₁.setTop (mkF m 4 #[.val (.ref a1), .val (.int p2), .val (.int p3), .unset, .unset] [(.int (p2 + (44 : Int32)))]))
  refine go (fun t k => XS.istoreN X0.here hx rfl (hb hby d5_4) rfl (l' := #[.val (.ref a1), .val (.int p2), .val (.int p3), .val (.int (p2 + (44 : Int32))), .unset]) rfl k) ?_
  show Gl _ _ _ _ _ _ _ _ (s₁.setTop (mkF m 5 #[.val (.ref a1), .val (.int p2), .val (.int p3), .val (.int (p2 + (44 : Int32))), .unset] []))
  refine go (fun t k => XS.aloadN X0.here hx rfl (hb hby d5_5) rfl rfl k) ?_
  show Gl _ _ _ _ _ _ _ _ (s₁.setTop (mkF m 6 #[.val (.ref a1), .val (.int p2), .val (.int p3), .val (.int (p2 + (44 : Int32))), .unset] [(.ref a1)]))
  obtain ⟨T1, X1, e1, st1⟩ := getF X0 hx hZ hown (host := "") (Or.inl (hw _ (List.mem_of_getElem? (i := 21) rfl))) Via.refl e0 F_major_a1 (g := (mkF m 6 #[.val (.ref a1), .val (.int p2), .val (.int p3), .val (.int (p2 + (44 : Int32))), .unset] [(.ref a1)])) rfl rfl (hb hby d5_6)
  refine go (fun t k => st1 _ k) ?_
  show Gl _ _ _ _ _ _ _ _ (T1.setTop (mkF m 9 #[.val (.ref a1), .val (.int p2), .val (.int p3), .val (.int (p2 + (44 : Int32))), .unset] [(.int w_major_a1)]))
  refine go (fun t k => XS.bipush X1.here hx rfl (hb hby d5_9) k) ?_
  show Gl _ _ _ _ _ _ _ _ (T1.setTop (mkF m 11 #[.val (.ref a1), .val (.int p2), .val (.int p3), .val (.int (p2 + (44 : Int32))), .unset] [(.int (45 : Int32)), (.int w_major_a1)]))
  have J88 : ∀ (v4_88 : Int32) (TJ88 : State) (lJ88 : List Loc) (XJ88 : Stand p l e ({ frames := 0, cells := 0, slots := 0, locals := 0 } : Room) s m #[(.ref a1), (.int p2), (.int p3)] below meth c TJ88 lJ88 0 0) (eJ88 : TJ88.heap = h0) (NJ88 : Fr n0 lJ88), Gl p e below s n0 ({ frames := 0, cells := 0, slots := 0, locals := 0 } : Room).cells ({ frames := 0, cells := 0, slots := 0, locals := 0 } : Room).slots (Kv (some (.int (b5_88 v4_88))) (fun h => h = h0)) (TJ88.setTop (mkF m 88 #[.val (.ref a1), .val (.int p2), .val (.int p3), .val (.int (p2 + (44 : Int32))), .val (.int v4_88)] [])) := by
    intro v4_88 TJ88 lJ88 XJ88 eJ88 NJ88
    show Gl _ _ _ _ _ _ _ (Kv (some (.int (nar .boolean v4_88))) _) _
    refine go (fun t k => XS.iload XJ88.here hx rfl (hb hby d5_88) rfl  k) ?_
    show Gl _ _ _ _ _ _ _ _ (TJ88.setTop (mkF m 90 #[.val (.ref a1), .val (.int p2), .val (.int p3), .val (.int (p2 + (44 : Int32))), .val (.int v4_88)] [(.int v4_88)]))
    exact endN XJ88 hx Bd (t := .boolean) (by simp) (hb hby d5_90) ⟨rfl, eJ88⟩ NJ88 (by decide) (by decide)
  have J22 : ∀  (TJ22 : State) (lJ22 : List Loc) (XJ22 : Stand p l e ({ frames := 0, cells := 0, slots := 0, locals := 0 } : Room) s m #[(.ref a1), (.int p2), (.int p3)] below meth c TJ22 lJ22 0 0) (eJ22 : TJ22.heap = h0) (NJ22 : Fr n0 lJ22), Gl p e below s n0 ({ frames := 0, cells := 0, slots := 0, locals := 0 } : Room).cells ({ frames := 0, cells := 0, slots := 0, locals := 0 } : Room).slots (Kv (some (.int b5_22)) (fun h => h = h0)) (TJ22.setTop (mkF m 22 #[.val (.ref a1), .val (.int p2), .val (.int p3), .val (.int (p2 + (44 : Int32))), .unset] [])) := by
    intro  TJ22 lJ22 XJ22 eJ22 NJ22
    show Gl _ _ _ _ _ _ _ (Kv (some (.int (b5_88 (0 : Int32)))) _) _
    refine go (fun t k => XS.iconst XJ22.here hx rfl (hb hby d5_22) k) ?_
    show Gl _ _ _ _ _ _ _ _ (TJ22.setTop (mkF m 23 #[.val (.ref a1), .val (.int p2), .val (.int p3), .val (.int (p2 + (44 : Int32))), .unset] [(.int (0 : Int32))]))
    refine go (fun t k => XS.istore XJ22.here hx rfl (hb hby d5_23) rfl (l' := #[.val (.ref a1), .val (.int p2), .val (.int p3), .val (.int (p2 + (44 : Int32))), .val (.int (0 : Int32))]) rfl k) ?_
    show Gl _ _ _ _ _ _ _ _ (TJ22.setTop (mkF m 25 #[.val (.ref a1), .val (.int p2), .val (.int p3), .val (.int (p2 + (44 : Int32))), .val (.int (0 : Int32))] []))
    refine go (fun t k => XS.goto XJ22.here hx rfl (pc0 := 25) (pc' := 88) rfl (hb hby d5_25) (by decide) (by decide) k) ?_
    show Gl _ _ _ _ _ _ _ _ (TJ22.setTop (mkF m 88 #[.val (.ref a1), .val (.int p2), .val (.int p3), .val (.int (p2 + (44 : Int32))), .val (.int (0 : Int32))] []))
    exact J88 (0 : Int32) TJ22 _ XJ22 eJ22 NJ22
  refine gI (c := w_major_a1 < (45 : Int32)) (fun hc11 => ?_) (fun hc11 => ?_)
  · refine go (fun t k => XS.icmpYes X1.here hx rfl (pc0 := 11) (pc' := 22) rfl (hb hby d5_11) rfl (tlt hc11).1 (by decide) (by decide) k) ?_
    show Gl _ _ _ _ _ _ _ _ (T1.setTop (mkF m 22 #[.val (.ref a1), .val (.int p2), .val (.int p3), .val (.int (p2 + (44 : Int32))), .unset] []))
    exact J22  T1 _ X1 e1 N0
  · refine go (fun t k => XS.icmpNo X1.here hx rfl (hb hby d5_11) rfl (flt hc11).1 k) ?_
    show Gl _ _ _ _ _ _ _ _ (T1.setTop (mkF m 14 #[.val (.ref a1), .val (.int p2), .val (.int p3), .val (.int (p2 + (44 : Int32))), .unset] []))
    refine go (fun t k => XS.aloadN X1.here hx rfl (hb hby d5_14) rfl rfl k) ?_
    show Gl _ _ _ _ _ _ _ _ (T1.setTop (mkF m 15 #[.val (.ref a1), .val (.int p2), .val (.int p3), .val (.int (p2 + (44 : Int32))), .unset] [(.ref a1)]))
    obtain ⟨T4, X4, e4, st4⟩ := getF X1 hx hZ hown (host := "") (Or.inl (hw _ (List.mem_of_getElem? (i := 21) rfl))) Via.refl e1 F_major_a1 (g := (mkF m 15 #[.val (.ref a1), .val (.int p2), .val (.int p3), .val (.int (p2 + (44 : Int32))), .unset] [(.ref a1)])) rfl rfl (hb hby d5_15)
    refine go (fun t k => st4 _ k) ?_
    show Gl _ _ _ _ _ _ _ _ (T4.setTop (mkF m 18 #[.val (.ref a1), .val (.int p2), .val (.int p3), .val (.int (p2 + (44 : Int32))), .unset] [(.int w_major_a1)]))
    refine go (fun t k => XS.iloadN X4.here hx rfl (hb hby d5_18) rfl  k) ?_
    show Gl _ _ _ _ _ _ _ _ (T4.setTop (mkF m 19 #[.val (.ref a1), .val (.int p2), .val (.int p3), .val (.int (p2 + (44 : Int32))), .unset] [(.int (p2 + (44 : Int32))), (.int w_major_a1)]))
    refine gI (c := (p2 + (44 : Int32)) < w_major_a1) (fun hc19 => ?_) (fun hc19 => ?_)
    · refine go (fun t k => XS.icmpNo X4.here hx rfl (hb hby d5_19) rfl (tlt hc19).2.2.2 k) ?_
      show Gl _ _ _ _ _ _ _ _ (T4.setTop (mkF m 22 #[.val (.ref a1), .val (.int p2), .val (.int p3), .val (.int (p2 + (44 : Int32))), .unset] []))
      exact J22  T4 _ X4 e4 N0
    · refine go (fun t k => XS.icmpYes X4.here hx rfl (pc0 := 19) (pc' := 28) rfl (hb hby d5_19) rfl (flt hc19).2.2.2 (by decide) (by decide) k) ?_
      show Gl _ _ _ _ _ _ _ _ (T4.setTop (mkF m 28 #[.val (.ref a1), .val (.int p2), .val (.int p3), .val (.int (p2 + (44 : Int32))), .unset] []))
      refine go (fun t k => XS.aloadN X4.here hx rfl (hb hby d5_28) rfl rfl k) ?_
      show Gl _ _ _ _ _ _ _ _ (T4.setTop (mkF m 29 #[.val (.ref a1), .val (.int p2), .val (.int p3), .val (.int (p2 + (44 : Int32))), .unset] [(.ref a1)]))
      obtain ⟨T5, X5, e5, st5⟩ := getF X4 hx hZ hown (host := "") (Or.inl (hw _ (List.mem_of_getElem? (i := 21) rfl))) Via.refl e4 F_major_a1 (g := (mkF m 29 #[.val (.ref a1), .val (.int p2), .val (.int p3), .val (.int (p2 + (44 : Int32))), .unset] [(.ref a1)])) rfl rfl (hb hby d5_29)
      refine go (fun t k => st5 _ k) ?_
      show Gl _ _ _ _ _ _ _ _ (T5.setTop (mkF m 32 #[.val (.ref a1), .val (.int p2), .val (.int p3), .val (.int (p2 + (44 : Int32))), .unset] [(.int w_major_a1)]))
      refine go (fun t k => XS.bipush X5.here hx rfl (hb hby d5_32) k) ?_
      show Gl _ _ _ _ _ _ _ _ (T5.setTop (mkF m 34 #[.val (.ref a1), .val (.int p2), .val (.int p3), .val (.int (p2 + (44 : Int32))), .unset] [(.int (56 : Int32)), (.int w_major_a1)]))
      refine gI (c := w_major_a1 < (56 : Int32)) (fun hc34 => ?_) (fun hc34 => ?_)
      · refine go (fun t k => XS.icmpNo X5.here hx rfl (hb hby d5_34) rfl (tlt hc34).2.1 k) ?_
        show Gl _ _ _ _ _ _ _ _ (T5.setTop (mkF m 37 #[.val (.ref a1), .val (.int p2), .val (.int p3), .val (.int (p2 + (44 : Int32))), .unset] []))
        refine go (fun t k => XS.iconst X5.here hx rfl (hb hby d5_37) k) ?_
        show Gl _ _ _ _ _ _ _ _ (T5.setTop (mkF m 38 #[.val (.ref a1), .val (.int p2), .val (.int p3), .val (.int (p2 + (44 : Int32))), .unset] [(.int (1 : Int32))]))
        refine go (fun t k => XS.istore X5.here hx rfl (hb hby d5_38) rfl (l' := #[.val (.ref a1), .val (.int p2), .val (.int p3), .val (.int (p2 + (44 : Int32))), .val (.int (1 : Int32))]) rfl k) ?_
        show Gl _ _ _ _ _ _ _ _ (T5.setTop (mkF m 40 #[.val (.ref a1), .val (.int p2), .val (.int p3), .val (.int (p2 + (44 : Int32))), .val (.int (1 : Int32))] []))
        refine go (fun t k => XS.goto X5.here hx rfl (pc0 := 40) (pc' := 88) rfl (hb hby d5_40) (by decide) (by decide) k) ?_
        show Gl _ _ _ _ _ _ _ _ (T5.setTop (mkF m 88 #[.val (.ref a1), .val (.int p2), .val (.int p3), .val (.int (p2 + (44 : Int32))), .val (.int (1 : Int32))] []))
        exact J88 (1 : Int32) T5 _ X5 e5 N0
      · refine go (fun t k => XS.icmpYes X5.here hx rfl (pc0 := 34) (pc' := 43) rfl (hb hby d5_34) rfl (flt hc34).2.1 (by decide) (by decide) k) ?_
        show Gl _ _ _ _ _ _ _ _ (T5.setTop (mkF m 43 #[.val (.ref a1), .val (.int p2), .val (.int p3), .val (.int (p2 + (44 : Int32))), .unset] []))
        refine go (fun t k => XS.aloadN X5.here hx rfl (hb hby d5_43) rfl rfl k) ?_
        show Gl _ _ _ _ _ _ _ _ (T5.setTop (mkF m 44 #[.val (.ref a1), .val (.int p2), .val (.int p3), .val (.int (p2 + (44 : Int32))), .unset] [(.ref a1)]))
        obtain ⟨T6, X6, e6, st6⟩ := getF X5 hx hZ hown (host := "") (Or.inl (hw _ (List.mem_of_getElem? (i := 23) rfl))) Via.refl e5 F_minor_a1 (g := (mkF m 44 #[.val (.ref a1), .val (.int p2), .val (.int p3), .val (.int (p2 + (44 : Int32))), .unset] [(.ref a1)])) rfl rfl (hb hby d5_44)
        refine go (fun t k => st6 _ k) ?_
        show Gl _ _ _ _ _ _ _ _ (T6.setTop (mkF m 47 #[.val (.ref a1), .val (.int p2), .val (.int p3), .val (.int (p2 + (44 : Int32))), .unset] [(.int w_minor_a1)]))
        refine go (fun t k => X6.ldcInt hx hown (mvT hZ (hw _ (List.mem_of_getElem? (i := 20) rfl))) (g := (mkF m 47 #[.val (.ref a1), .val (.int p2), .val (.int p3), .val (.int (p2 + (44 : Int32))), .unset] [(.int w_minor_a1)])) rfl (hb hby d5_47) _ k) ?_
        show Gl _ _ _ _ _ _ _ _ (T6.setTop (mkF m 49 #[.val (.ref a1), .val (.int p2), .val (.int p3), .val (.int (p2 + (44 : Int32))), .unset] [(.int (65535 : Int32)), (.int w_minor_a1)]))
        refine gI (c := w_minor_a1 = (65535 : Int32)) (fun hc49 => ?_) (fun hc49 => ?_)
        · refine go (fun t k => XS.icmpNo X6.here hx rfl (hb hby d5_49) rfl (teq hc49).2 k) ?_
          show Gl _ _ _ _ _ _ _ _ (T6.setTop (mkF m 52 #[.val (.ref a1), .val (.int p2), .val (.int p3), .val (.int (p2 + (44 : Int32))), .unset] []))
          refine go (fun t k => XS.aloadN X6.here hx rfl (hb hby d5_52) rfl rfl k) ?_
          show Gl _ _ _ _ _ _ _ _ (T6.setTop (mkF m 53 #[.val (.ref a1), .val (.int p2), .val (.int p3), .val (.int (p2 + (44 : Int32))), .unset] [(.ref a1)]))
          obtain ⟨T7, X7, e7, st7⟩ := getF X6 hx hZ hown (host := "") (Or.inl (hw _ (List.mem_of_getElem? (i := 21) rfl))) Via.refl e6 F_major_a1 (g := (mkF m 53 #[.val (.ref a1), .val (.int p2), .val (.int p3), .val (.int (p2 + (44 : Int32))), .unset] [(.ref a1)])) rfl rfl (hb hby d5_53)
          refine go (fun t k => st7 _ k) ?_
          show Gl _ _ _ _ _ _ _ _ (T7.setTop (mkF m 56 #[.val (.ref a1), .val (.int p2), .val (.int p3), .val (.int (p2 + (44 : Int32))), .unset] [(.int w_major_a1)]))
          refine go (fun t k => XS.iloadN X7.here hx rfl (hb hby d5_56) rfl  k) ?_
          show Gl _ _ _ _ _ _ _ _ (T7.setTop (mkF m 57 #[.val (.ref a1), .val (.int p2), .val (.int p3), .val (.int (p2 + (44 : Int32))), .unset] [(.int (p2 + (44 : Int32))), (.int w_major_a1)]))
          have J69 : ∀ (s0_69 : Int32) (TJ69 : State) (lJ69 : List Loc) (XJ69 : Stand p l e ({ frames := 0, cells := 0, slots := 0, locals := 0 } : Room) s m #[(.ref a1), (.int p2), (.int p3)] below meth c TJ69 lJ69 0 0) (eJ69 : TJ69.heap = h0) (NJ69 : Fr n0 lJ69), Gl p e below s n0 ({ frames := 0, cells := 0, slots := 0, locals := 0 } : Room).cells ({ frames := 0, cells := 0, slots := 0, locals := 0 } : Room).slots (Kv (some (.int (b5_69 s0_69))) (fun h => h = h0)) (TJ69.setTop (mkF m 69 #[.val (.ref a1), .val (.int p2), .val (.int p3), .val (.int (p2 + (44 : Int32))), .unset] [(.int s0_69)])) := by
            intro s0_69 TJ69 lJ69 XJ69 eJ69 NJ69
            show Gl _ _ _ _ _ _ _ (Kv (some (.int (b5_88 s0_69))) _) _
            refine go (fun t k => XS.istore XJ69.here hx rfl (hb hby d5_69) rfl (l' := #[.val (.ref a1), .val (.int p2), .val (.int p3), .val (.int (p2 + (44 : Int32))), .val (.int s0_69)]) rfl k) ?_
            show Gl _ _ _ _ _ _ _ _ (TJ69.setTop (mkF m 71 #[.val (.ref a1), .val (.int p2), .val (.int p3), .val (.int (p2 + (44 : Int32))), .val (.int s0_69)] []))
            refine go (fun t k => XS.goto XJ69.here hx rfl (pc0 := 71) (pc' := 88) rfl (hb hby d5_71) (by decide) (by decide) k) ?_
            show Gl _ _ _ _ _ _ _ _ (TJ69.setTop (mkF m 88 #[.val (.ref a1), .val (.int p2), .val (.int p3), .val (.int (p2 + (44 : Int32))), .val (.int s0_69)] []))
            exact J88 s0_69 TJ69 _ XJ69 eJ69 NJ69
          have J68 : ∀  (TJ68 : State) (lJ68 : List Loc) (XJ68 : Stand p l e ({ frames := 0, cells := 0, slots := 0, locals := 0 } : Room) s m #[(.ref a1), (.int p2), (.int p3)] below meth c TJ68 lJ68 0 0) (eJ68 : TJ68.heap = h0) (NJ68 : Fr n0 lJ68), Gl p e below s n0 ({ frames := 0, cells := 0, slots := 0, locals := 0 } : Room).cells ({ frames := 0, cells := 0, slots := 0, locals := 0 } : Room).slots (Kv (some (.int b5_68)) (fun h => h = h0)) (TJ68.setTop (mkF m 68 #[.val (.ref a1), .val (.int p2), .val (.int p3), .val (.int (p2 + (44 : Int32))), .unset] [])) := by
            intro  TJ68 lJ68 XJ68 eJ68 NJ68
            show Gl _ _ _ _ _ _ _ (Kv (some (.int (b5_69 (0 : Int32)))) _) _
            refine go (fun t k => XS.iconst XJ68.here hx rfl (hb hby d5_68) k) ?_
            show Gl _ _ _ _ _ _ _ _ (TJ68.setTop (mkF m 69 #[.val (.ref a1), .val (.int p2), .val (.int p3), .val (.int (p2 + (44 : Int32))), .unset] [(.int (0 : Int32))]))
            exact J69 (0 : Int32) TJ68 _ XJ68 eJ68 NJ68
          refine gI (c := w_major_a1 = (p2 + (44 : Int32))) (fun hc57 => ?_) (fun hc57 => ?_)
          · refine go (fun t k => XS.icmpNo X7.here hx rfl (hb hby d5_57) rfl (teq hc57).2 k) ?_
            show Gl _ _ _ _ _ _ _ _ (T7.setTop (mkF m 60 #[.val (.ref a1), .val (.int p2), .val (.int p3), .val (.int (p2 + (44 : Int32))), .unset] []))
            refine go (fun t k => XS.iloadN X7.here hx rfl (hb hby d5_60) rfl  k) ?_
            show Gl _ _ _ _ _ _ _ _ (T7.setTop (mkF m 61 #[.val (.ref a1), .val (.int p2), .val (.int p3), .val (.int (p2 + (44 : Int32))), .unset] [(.int p3)]))
            refine gI (c := p3 = (0 : Int32)) (fun hc61 => ?_) (fun hc61 => ?_)
            · refine go (fun t k => XS.ifYes X7.here hx rfl (pc0 := 61) (pc' := 68) rfl (hb hby d5_61) rfl ((if0 _ _).trans (teq hc61).1) (by decide) (by decide) k) ?_
              show Gl _ _ _ _ _ _ _ _ (T7.setTop (mkF m 68 #[.val (.ref a1), .val (.int p2), .val (.int p3), .val (.int (p2 + (44 : Int32))), .unset] []))
              exact J68  T7 _ X7 e7 N0
            · refine go (fun t k => XS.ifNo X7.here hx rfl (hb hby d5_61) rfl ((if0 _ _).trans (feq hc61).1) k) ?_
              show Gl _ _ _ _ _ _ _ _ (T7.setTop (mkF m 64 #[.val (.ref a1), .val (.int p2), .val (.int p3), .val (.int (p2 + (44 : Int32))), .unset] []))
              refine go (fun t k => XS.iconst X7.here hx rfl (hb hby d5_64) k) ?_
              show Gl _ _ _ _ _ _ _ _ (T7.setTop (mkF m 65 #[.val (.ref a1), .val (.int p2), .val (.int p3), .val (.int (p2 + (44 : Int32))), .unset] [(.int (1 : Int32))]))
              refine go (fun t k => XS.goto X7.here hx rfl (pc0 := 65) (pc' := 69) rfl (hb hby d5_65) (by decide) (by decide) k) ?_
              show Gl _ _ _ _ _ _ _ _ (T7.setTop (mkF m 69 #[.val (.ref a1), .val (.int p2), .val (.int p3), .val (.int (p2 + (44 : Int32))), .unset] [(.int (1 : Int32))]))
              exact J69 (1 : Int32) T7 _ X7 e7 N0
          · refine go (fun t k => XS.icmpYes X7.here hx rfl (pc0 := 57) (pc' := 68) rfl (hb hby d5_57) rfl (feq hc57).2 (by decide) (by decide) k) ?_
            show Gl _ _ _ _ _ _ _ _ (T7.setTop (mkF m 68 #[.val (.ref a1), .val (.int p2), .val (.int p3), .val (.int (p2 + (44 : Int32))), .unset] []))
            exact J68  T7 _ X7 e7 N0
        · refine go (fun t k => XS.icmpYes X6.here hx rfl (pc0 := 49) (pc' := 74) rfl (hb hby d5_49) rfl (feq hc49).2 (by decide) (by decide) k) ?_
          show Gl _ _ _ _ _ _ _ _ (T6.setTop (mkF m 74 #[.val (.ref a1), .val (.int p2), .val (.int p3), .val (.int (p2 + (44 : Int32))), .unset] []))
          refine go (fun t k => XS.aloadN X6.here hx rfl (hb hby d5_74) rfl rfl k) ?_
          show Gl _ _ _ _ _ _ _ _ (T6.setTop (mkF m 75 #[.val (.ref a1), .val (.int p2), .val (.int p3), .val (.int (p2 + (44 : Int32))), .unset] [(.ref a1)]))
          obtain ⟨T10, X10, e10, st10⟩ := getF X6 hx hZ hown (host := "") (Or.inl (hw _ (List.mem_of_getElem? (i := 23) rfl))) Via.refl e6 F_minor_a1 (g := (mkF m 75 #[.val (.ref a1), .val (.int p2), .val (.int p3), .val (.int (p2 + (44 : Int32))), .unset] [(.ref a1)])) rfl rfl (hb hby d5_75)
          refine go (fun t k => st10 _ k) ?_
          show Gl _ _ _ _ _ _ _ _ (T10.setTop (mkF m 78 #[.val (.ref a1), .val (.int p2), .val (.int p3), .val (.int (p2 + (44 : Int32))), .unset] [(.int w_minor_a1)]))
          have J86 : ∀ (s0_86 : Int32) (TJ86 : State) (lJ86 : List Loc) (XJ86 : Stand p l e ({ frames := 0, cells := 0, slots := 0, locals := 0 } : Room) s m #[(.ref a1), (.int p2), (.int p3)] below meth c TJ86 lJ86 0 0) (eJ86 : TJ86.heap = h0) (NJ86 : Fr n0 lJ86), Gl p e below s n0 ({ frames := 0, cells := 0, slots := 0, locals := 0 } : Room).cells ({ frames := 0, cells := 0, slots := 0, locals := 0 } : Room).slots (Kv (some (.int (b5_86 s0_86))) (fun h => h = h0)) (TJ86.setTop (mkF m 86 #[.val (.ref a1), .val (.int p2), .val (.int p3), .val (.int (p2 + (44 : Int32))), .unset] [(.int s0_86)])) := by
            intro s0_86 TJ86 lJ86 XJ86 eJ86 NJ86
            show Gl _ _ _ _ _ _ _ (Kv (some (.int (b5_88 s0_86))) _) _
            refine go (fun t k => XS.istore XJ86.here hx rfl (hb hby d5_86) rfl (l' := #[.val (.ref a1), .val (.int p2), .val (.int p3), .val (.int (p2 + (44 : Int32))), .val (.int s0_86)]) rfl k) ?_
            show Gl _ _ _ _ _ _ _ _ (TJ86.setTop (mkF m 88 #[.val (.ref a1), .val (.int p2), .val (.int p3), .val (.int (p2 + (44 : Int32))), .val (.int s0_86)] []))
            exact J88 s0_86 TJ86 _ XJ86 eJ86 NJ86
          refine gI (c := w_minor_a1 = (0 : Int32)) (fun hc78 => ?_) (fun hc78 => ?_)
          · refine go (fun t k => XS.ifNo X10.here hx rfl (hb hby d5_78) rfl ((if0 _ _).trans (teq hc78).2) k) ?_
            show Gl _ _ _ _ _ _ _ _ (T10.setTop (mkF m 81 #[.val (.ref a1), .val (.int p2), .val (.int p3), .val (.int (p2 + (44 : Int32))), .unset] []))
            refine go (fun t k => XS.iconst X10.here hx rfl (hb hby d5_81) k) ?_
            show Gl _ _ _ _ _ _ _ _ (T10.setTop (mkF m 82 #[.val (.ref a1), .val (.int p2), .val (.int p3), .val (.int (p2 + (44 : Int32))), .unset] [(.int (1 : Int32))]))
            refine go (fun t k => XS.goto X10.here hx rfl (pc0 := 82) (pc' := 86) rfl (hb hby d5_82) (by decide) (by decide) k) ?_
            show Gl _ _ _ _ _ _ _ _ (T10.setTop (mkF m 86 #[.val (.ref a1), .val (.int p2), .val (.int p3), .val (.int (p2 + (44 : Int32))), .unset] [(.int (1 : Int32))]))
            exact J86 (1 : Int32) T10 _ X10 e10 N0
          · refine go (fun t k => XS.ifYes X10.here hx rfl (pc0 := 78) (pc' := 85) rfl (hb hby d5_78) rfl ((if0 _ _).trans (feq hc78).2) (by decide) (by decide) k) ?_
            show Gl _ _ _ _ _ _ _ _ (T10.setTop (mkF m 85 #[.val (.ref a1), .val (.int p2), .val (.int p3), .val (.int (p2 + (44 : Int32))), .unset] []))
            refine go (fun t k => XS.iconst X10.here hx rfl (hb hby d5_85) k) ?_
            show Gl _ _ _ _ _ _ _ _ (T10.setTop (mkF m 86 #[.val (.ref a1), .val (.int p2), .val (.int p3), .val (.int (p2 + (44 : Int32))), .unset] [(.int (0 : Int32))]))
            exact J86 (0 : Int32) T10 _ X10 e10 N0
theorem own_m1 (a : Int32) : ¬ ((a &&& (65535 : Int32)) < 0) ∧ ¬ ((65535 : Int32) < (a &&& (65535 : Int32))) := by
  have e := Jvm.Kit.i32_mask a 65535 (k := 16) (by decide) (by decide)
  rw [Int32.lt_iff_toInt_lt, Int32.lt_iff_toInt_lt, e]; simp only [Int32.reduceToInt]; omega
theorem own_m2 (a : Int32) : ¬ (((44 : Int32) + (a &&& (15 : Int32))) < 0) ∧ ¬ ((65535 : Int32) < ((44 : Int32) + (a &&& (15 : Int32)))) := by
  have e := Jvm.Kit.i32_mask a 15 (k := 4) (by decide) (by decide)
  have e2 : ((44 : Int32) + (a &&& 15)).toInt = 44 + (a &&& 15).toInt := Jvm.Kit.i32_add (by rw [e]; simp only [Int32.reduceToInt]; omega) (by rw [e]; simp only [Int32.reduceToInt]; omega)
  rw [Int32.lt_iff_toInt_lt, Int32.lt_iff_toInt_lt, e2, e]; simp only [Int32.reduceToInt]; omega
theorem own_m3 (a : Int32) : ¬ (b1_0 a < 0) ∧ ¬ ((65535 : Int32) < b1_0 a) := by
  unfold b1_0
  split
  · decide
  split
  · decide
  split
  · decide
  exact own_m1 _
theorem pd_1 : parseMethodDescriptor "(I)I" = some ⟨[.int], some .int⟩ := by decide +kernel
theorem pd_2 : parseMethodDescriptor "(II)V" = some ⟨[.int, .int], none⟩ := by decide +kernel
theorem pd_3 : parseMethodDescriptor "(IZ)Z" = some ⟨[.int, .boolean], some .boolean⟩ := by decide +kernel
theorem ef_0 (m : MethodId) (p1 : Int32) (p2 : Int32) (p3 : Int32) (p4 : Int32) : entryFrame m #[(.int p1), (.int p2), (.int p3), (.int p4)] maxLocals = mkF m 0 #[.val (.int p1), .val (.int p2), .val (.int p3), .val (.int p4), .unset, .unset, .unset, .unset, .unset, .unset, .unset, .unset, .unset, .unset, .unset] [] := by first | (simp [entryFrame, mkF, argsToLocals, Value.category, maxLocals]; done) | rfl
def b0_197 (s0_197 : Int32) : Int32 := (nar .boolean s0_197)
def b0_183 (p2 : Int32) (s0_11 : Int32) (v5_37 : Int32) (v7_72 : Int32) (s0_183 : Int32) : Int32 := (if (b5_0 v7_72 s0_11 v5_37 (b1_0 p2)) = s0_183 then (b0_197 (1 : Int32)) else (b0_197 (0 : Int32)))
def b0_182 (p2 : Int32) (s0_11 : Int32) (v5_37 : Int32) (v7_72 : Int32) : Int32 := (b0_183 p2 s0_11 v5_37 v7_72 (0 : Int32))
def b0_166 (p2 : Int32) (s0_11 : Int32) (v5_37 : Int32) (v7_72 : Int32) (s0_126 : Int32) (s0_166 : Int32) : Int32 := (if s0_126 = (0 : Int32) then (b0_182 p2 s0_11 v5_37 v7_72) else (if s0_166 = (0 : Int32) then (b0_182 p2 s0_11 v5_37 v7_72) else (b0_183 p2 s0_11 v5_37 v7_72 (1 : Int32))))
def b0_161 (p2 : Int32) (s0_11 : Int32) (v5_37 : Int32) (v7_72 : Int32) (s0_126 : Int32) : Int32 := (b0_166 p2 s0_11 v5_37 v7_72 s0_126 (1 : Int32))
def b0_165 (p2 : Int32) (s0_11 : Int32) (v5_37 : Int32) (v7_72 : Int32) (s0_126 : Int32) : Int32 := (b0_166 p2 s0_11 v5_37 v7_72 s0_126 (0 : Int32))
def b0_126 (p2 : Int32) (s0_11 : Int32) (v5_37 : Int32) (v7_72 : Int32) (s0_126 : Int32) : Int32 := (if v5_37 < (56 : Int32) then (b0_161 p2 s0_11 v5_37 v7_72 s0_126) else (if (b1_0 p2) = (0 : Int32) then (b0_161 p2 s0_11 v5_37 v7_72 s0_126) else (if (b1_0 p2) = (65535 : Int32) then (if (v5_37.toInt64) = ((v7_72.toInt64) + (44 : Int64)) then (if s0_11 = (0 : Int32) then (b0_165 p2 s0_11 v5_37 v7_72 s0_126) else (b0_161 p2 s0_11 v5_37 v7_72 s0_126)) else (b0_165 p2 s0_11 v5_37 v7_72 s0_126)) else (b0_165 p2 s0_11 v5_37 v7_72 s0_126))))
def b0_125 (p2 : Int32) (s0_11 : Int32) (v5_37 : Int32) (v7_72 : Int32) : Int32 := (b0_126 p2 s0_11 v5_37 v7_72 (0 : Int32))
def b0_72 (p2 : Int32) (s0_11 : Int32) (v5_37 : Int32) (v7_72 : Int32) : Int32 := (if v5_37 < (45 : Int32) then (b0_125 p2 s0_11 v5_37 v7_72) else (if ((v7_72.toInt64) + (44 : Int64)) < (v5_37.toInt64) then (b0_125 p2 s0_11 v5_37 v7_72) else (b0_126 p2 s0_11 v5_37 v7_72 (1 : Int32))))
def b0_37 (p2 : Int32) (p3 : Int32) (p4 : Int32) (s0_11 : Int32) (v5_37 : Int32) : Int32 := (if (p4 &&& (4 : Int32)) = (0 : Int32) then (b0_72 p2 s0_11 v5_37 (p3 % (100000 : Int32))) else (b0_72 p2 s0_11 v5_37 ((v5_37 - (44 : Int32)) + ((p3 &&& (7 : Int32)) - (4 : Int32)))))
def b0_11 (p1 : Int32) (p2 : Int32) (p3 : Int32) (p4 : Int32) (s0_11 : Int32) : Int32 := (if (p4 &&& (2 : Int32)) = (0 : Int32) then (b0_37 p2 p3 p4 s0_11 (p1 &&& (65535 : Int32))) else (b0_37 p2 p3 p4 s0_11 ((44 : Int32) + (p1 &&& (15 : Int32)))))
def b0_0 (p1 : Int32) (p2 : Int32) (p3 : Int32) (p4 : Int32) : Int32 := (if (p4 &&& (1 : Int32)) = (0 : Int32) then (b0_11 p1 p2 p3 p4 (0 : Int32)) else (b0_11 p1 p2 p3 p4 (1 : Int32)))
set_option maxRecDepth 65536 in
set_option maxHeartbeats 40000000 in
theorem rm0 (l : Launch) (Z : State) (a0 : Array Value) (hw : ∀ d ∈ tables_1, d.before a0 Z = true) (ws : List Jvm.Cond) (p1 : Int32) (p2 : Int32) (p3 : Int32) (p4 : Int32) (h0 : Heap) (n0 : Nat) (Z0 : n0 ≤ h0.size) :
    MetFree l x (head1 (Jvm.Cond.code x code maxLocals ret :: ws) room_1) (fun a U => a = #[(.int p1), (.int p2), (.int p3), (.int p4)] ∧ Z.Warmed39 U.vm ∧ U.heap = h0) (fun _ _ _ _ _ => True) (fun _ U o U' => ∃ v L, o = .returned v ∧ QK n0 (Kv (some (.int (b0_0 p1 p2 p3 p4))) (fun _ => True)) v U'.heap L ∧ FrameEnd U o U' L room_1.cells room_1.slots) := by
  refine MetFree.of_bodySF (plainFor_of_name pn_0) hisR ?_
  intro p e s m args below meth c s₁ Bd hml0 hP hK
  obtain ⟨rfl, hZ, hh⟩ := hP
  have hx := Bd.exec
  have hby := Bd.bytes
  have hml : c.maxLocals = 15 := hml0
  have hown : s.vm.findClass "com/example/linkwright/linkwright/ClassFileVersionIsSupportedByPinLaw" = some m.cls := findClass_of_methodNamed Bd.named
  have hnm := (name_of_methodNamed Bd.named Bd.method).1
  have X0 : Stand p l e room_1 s m #[(.int p1), (.int p2), (.int p3), (.int p4)] below meth c s₁ [] 0 0 := Stand.of_body Bd
  have e0 : s₁.heap = h0 := by rw [← hh, Bd.state]; rfl
  have N0 := Fr.nil n0
  refine gl_start (ef_0 m p1 p2 p3 p4) ?_
  show Gl p e below s n0 room_1.cells room_1.slots (Kv (some (.int (if (p4 &&& (1 : Int32)) = (0 : Int32) then (b0_11 p1 p2 p3 p4 (0 : Int32)) else (b0_11 p1 p2 p3 p4 (1 : Int32))))) (fun _ => True)) (s₁.setTop (mkF m 0 #[.val (.int p1), .val (.int p2), .val (.int p3), .val (.int p4), .unset, .unset, .unset, .unset, .unset, .unset, .unset, .unset, .unset, .unset, .unset] []))
  refine go (fun t k => XS.iloadN X0.here hx rfl (hb hby at_0) rfl  k) ?_
  show Gl _ _ _ _ _ _ _ _ (s₁.setTop (mkF m 1 #[.val (.int p1), .val (.int p2), .val (.int p3), .val (.int p4), .unset, .unset, .unset, .unset, .unset, .unset, .unset, .unset, .unset, .unset, .unset] [(.int p4)]))
  refine go (fun t k => XS.iconst X0.here hx rfl (hb hby at_1) k) ?_
  show Gl _ _ _ _ _ _ _ _ (s₁.setTop (mkF m 2 #[.val (.int p1), .val (.int p2), .val (.int p3), .val (.int p4), .unset, .unset, .unset, .unset, .unset, .unset, .unset, .unset, .unset, .unset, .unset] [(.int (1 : Int32)), (.int p4)]))
  refine go (fun t k => XS.iand X0.here hx rfl (hb hby at_2) rfl k) ?_
  show Gl _ _ _ _ _ _ _ _ (s₁.setTop (mkF m 3 #[.val (.int p1), .val (.int p2), .val (.int p3), .val (.int p4), .unset, .unset, .unset, .unset, .unset, .unset, .unset, .unset, .unset, .unset, .unset] [(.int (p4 &&& (1 : Int32)))]))
  have J11 : ∀ (s0_11 : Int32) (TJ11 : State) (lJ11 : List Loc) (XJ11 : Stand p l e room_1 s m #[(.int p1), (.int p2), (.int p3), (.int p4)] below meth c TJ11 lJ11 0 0) (eJ11 : TJ11.heap = h0) (NJ11 : Fr n0 lJ11), Gl p e below s n0 room_1.cells room_1.slots (Kv (some (.int (b0_11 p1 p2 p3 p4 s0_11))) (fun _ => True)) (TJ11.setTop (mkF m 11 #[.val (.int p1), .val (.int p2), .val (.int p3), .val (.int p4), .unset, .unset, .unset, .unset, .unset, .unset, .unset, .unset, .unset, .unset, .unset] [(.int s0_11)])) := by
    intro s0_11 TJ11 lJ11 XJ11 eJ11 NJ11
    show Gl _ _ _ _ _ _ _ (Kv (some (.int (if (p4 &&& (2 : Int32)) = (0 : Int32) then (b0_37 p2 p3 p4 s0_11 (p1 &&& (65535 : Int32))) else (b0_37 p2 p3 p4 s0_11 ((44 : Int32) + (p1 &&& (15 : Int32))))))) _) _
    refine go (fun t k => XS.istore XJ11.here hx rfl (hb hby at_11) rfl (l' := #[.val (.int p1), .val (.int p2), .val (.int p3), .val (.int p4), .val (.int s0_11), .unset, .unset, .unset, .unset, .unset, .unset, .unset, .unset, .unset, .unset]) rfl k) ?_
    show Gl _ _ _ _ _ _ _ _ (TJ11.setTop (mkF m 13 #[.val (.int p1), .val (.int p2), .val (.int p3), .val (.int p4), .val (.int s0_11), .unset, .unset, .unset, .unset, .unset, .unset, .unset, .unset, .unset, .unset] []))
    refine go (fun t k => XS.iloadN XJ11.here hx rfl (hb hby at_13) rfl  k) ?_
    show Gl _ _ _ _ _ _ _ _ (TJ11.setTop (mkF m 14 #[.val (.int p1), .val (.int p2), .val (.int p3), .val (.int p4), .val (.int s0_11), .unset, .unset, .unset, .unset, .unset, .unset, .unset, .unset, .unset, .unset] [(.int p4)]))
    refine go (fun t k => XS.iconst XJ11.here hx rfl (hb hby at_14) k) ?_
    show Gl _ _ _ _ _ _ _ _ (TJ11.setTop (mkF m 15 #[.val (.int p1), .val (.int p2), .val (.int p3), .val (.int p4), .val (.int s0_11), .unset, .unset, .unset, .unset, .unset, .unset, .unset, .unset, .unset, .unset] [(.int (2 : Int32)), (.int p4)]))
    refine go (fun t k => XS.iand XJ11.here hx rfl (hb hby at_15) rfl k) ?_
    show Gl _ _ _ _ _ _ _ _ (TJ11.setTop (mkF m 16 #[.val (.int p1), .val (.int p2), .val (.int p3), .val (.int p4), .val (.int s0_11), .unset, .unset, .unset, .unset, .unset, .unset, .unset, .unset, .unset, .unset] [(.int (p4 &&& (2 : Int32)))]))
    have J37 : ∀ (v5_37 : Int32) (hv5 : ¬ (v5_37 < (0 : Int32)) ∧ ¬ ((65535 : Int32) < v5_37)) (TJ37 : State) (lJ37 : List Loc) (XJ37 : Stand p l e room_1 s m #[(.int p1), (.int p2), (.int p3), (.int p4)] below meth c TJ37 lJ37 0 0) (eJ37 : TJ37.heap = h0) (NJ37 : Fr n0 lJ37), Gl p e below s n0 room_1.cells room_1.slots (Kv (some (.int (b0_37 p2 p3 p4 s0_11 v5_37))) (fun _ => True)) (TJ37.setTop (mkF m 37 #[.val (.int p1), .val (.int p2), .val (.int p3), .val (.int p4), .val (.int s0_11), .val (.int v5_37), .unset, .unset, .unset, .unset, .unset, .unset, .unset, .unset, .unset] [])) := by
      intro v5_37 hv5 TJ37 lJ37 XJ37 eJ37 NJ37
      show Gl _ _ _ _ _ _ _ (Kv (some (.int (if (p4 &&& (4 : Int32)) = (0 : Int32) then (b0_72 p2 s0_11 v5_37 (p3 % (100000 : Int32))) else (b0_72 p2 s0_11 v5_37 ((v5_37 - (44 : Int32)) + ((p3 &&& (7 : Int32)) - (4 : Int32))))))) _) _
      refine go (fun t k => XS.iloadN XJ37.here hx rfl (hb hby at_37) rfl  k) ?_
      show Gl _ _ _ _ _ _ _ _ (TJ37.setTop (mkF m 38 #[.val (.int p1), .val (.int p2), .val (.int p3), .val (.int p4), .val (.int s0_11), .val (.int v5_37), .unset, .unset, .unset, .unset, .unset, .unset, .unset, .unset, .unset] [(.int p2)]))
      obtain ⟨_, _, ⟨T3, L3, k3, n3⟩, -, X3, ⟨Lc3, hQ3, l3, y3, z3⟩, st3⟩ := Jvm.LawKit.callS XJ37 hx (y := (⟨"com/example/linkwright/linkwright/ClassFileVersionIsSupportedByPinLaw", "pickMinor", "(I)I"⟩ : MethodName)) hown (mvT hZ (hw _ (List.mem_of_getElem? (i := 1) rfl))) (mvT hZ (hw _ (List.mem_of_getElem? (i := 2) rfl))) (mvT hZ (hw _ (List.mem_of_getElem? (i := 3) rfl))) (mvT hZ (hw _ (List.mem_of_getElem? (i := 4) rfl))) (by decide) (backOf (W := 0) (rm1 l Z a0 hw [] p2 h0 n0 Z0 ) hZ (hw _ (List.mem_of_getElem? (i := 4) rfl)) (hw _ (List.mem_of_getElem? (i := 3) rfl)) (by decide) (by decide)) (g := (mkF m 38 #[.val (.int p1), .val (.int p2), .val (.int p3), .val (.int p4), .val (.int s0_11), .val (.int v5_37), .unset, .unset, .unset, .unset, .unset, .unset, .unset, .unset, .unset] [(.int p2)])) rfl (by rw [hml]; rfl) (argsL := [(.int p2)]) (rest := []) (lenOf pd_1 rfl) rfl (by show 2 * 0 + _ ≤ _; exact Nat.le_of_eq rfl) (hb hby at_38) (fun _ _ => ⟨rfl, eJ37, (by decide : 0 + 0 ≤ _), (by decide : 0 + 0 ≤ _)⟩)
      dsimp only [Pt.U, Pt.locs, Pt.cells, Pt.slots] at X3 l3 y3 z3 st3 hQ3
      subst l3 y3 z3
      have X3 : Stand p l e room_1 s m #[(.int p1), (.int p2), (.int p3), (.int p4)] below meth c T3 _ 0 0 := X3
      obtain ⟨⟨rfl, e3'⟩, N3q⟩ := hQ3
      have e3 : T3.heap = h0 := e3'
      have N3 := Fr.app NJ37 N3q
      refine go (fun t k => st3 _ k) ?_
      show Gl _ _ _ _ _ _ _ _ (T3.setTop (mkF m 41 #[.val (.int p1), .val (.int p2), .val (.int p3), .val (.int p4), .val (.int s0_11), .val (.int v5_37), .unset, .unset, .unset, .unset, .unset, .unset, .unset, .unset, .unset] [(.int (b1_0 p2))]))
      refine go (fun t k => XS.istore X3.here hx rfl (hb hby at_41) rfl (l' := #[.val (.int p1), .val (.int p2), .val (.int p3), .val (.int p4), .val (.int s0_11), .val (.int v5_37), .val (.int (b1_0 p2)), .unset, .unset, .unset, .unset, .unset, .unset, .unset, .unset]) rfl k) ?_
      show Gl _ _ _ _ _ _ _ _ (T3.setTop (mkF m 43 #[.val (.int p1), .val (.int p2), .val (.int p3), .val (.int p4), .val (.int s0_11), .val (.int v5_37), .val (.int (b1_0 p2)), .unset, .unset, .unset, .unset, .unset, .unset, .unset, .unset] []))
      refine go (fun t k => XS.iloadN X3.here hx rfl (hb hby at_43) rfl  k) ?_
      show Gl _ _ _ _ _ _ _ _ (T3.setTop (mkF m 44 #[.val (.int p1), .val (.int p2), .val (.int p3), .val (.int p4), .val (.int s0_11), .val (.int v5_37), .val (.int (b1_0 p2)), .unset, .unset, .unset, .unset, .unset, .unset, .unset, .unset] [(.int p4)]))
      refine go (fun t k => XS.iconst X3.here hx rfl (hb hby at_44) k) ?_
      show Gl _ _ _ _ _ _ _ _ (T3.setTop (mkF m 45 #[.val (.int p1), .val (.int p2), .val (.int p3), .val (.int p4), .val (.int s0_11), .val (.int v5_37), .val (.int (b1_0 p2)), .unset, .unset, .unset, .unset, .unset, .unset, .unset, .unset] [(.int (4 : Int32)), (.int p4)]))
      refine go (fun t k => XS.iand X3.here hx rfl (hb hby at_45) rfl k) ?_
      show Gl _ _ _ _ _ _ _ _ (T3.setTop (mkF m 46 #[.val (.int p1), .val (.int p2), .val (.int p3), .val (.int p4), .val (.int s0_11), .val (.int v5_37), .val (.int (b1_0 p2)), .unset, .unset, .unset, .unset, .unset, .unset, .unset, .unset] [(.int (p4 &&& (4 : Int32)))]))
      have J72 : ∀ (v7_72 : Int32) (TJ72 : State) (lJ72 : List Loc) (XJ72 : Stand p l e room_1 s m #[(.int p1), (.int p2), (.int p3), (.int p4)] below meth c TJ72 lJ72 0 0) (eJ72 : TJ72.heap = h0) (NJ72 : Fr n0 lJ72), Gl p e below s n0 room_1.cells room_1.slots (Kv (some (.int (b0_72 p2 s0_11 v5_37 v7_72))) (fun _ => True)) (TJ72.setTop (mkF m 72 #[.val (.int p1), .val (.int p2), .val (.int p3), .val (.int p4), .val (.int s0_11), .val (.int v5_37), .val (.int (b1_0 p2)), .val (.int v7_72), .unset, .unset, .unset, .unset, .unset, .unset, .unset] [])) := by
        intro v7_72 TJ72 lJ72 XJ72 eJ72 NJ72
        show Gl _ _ _ _ _ _ _ (Kv (some (.int (if v5_37 < (45 : Int32) then (b0_125 p2 s0_11 v5_37 v7_72) else (if ((v7_72.toInt64) + (44 : Int64)) < (v5_37.toInt64) then (b0_125 p2 s0_11 v5_37 v7_72) else (b0_126 p2 s0_11 v5_37 v7_72 (1 : Int32)))))) _) _
        obtain ⟨T5, h5, X5, e5, E5, A5, D5, -, st5⟩ := newO XJ72 hx hZ hown (hw _ (List.mem_of_getElem? (i := 6) rfl)) (hw _ (List.mem_of_getElem? (i := 7) rfl)) (hw _ (List.mem_of_getElem? (i := 8) rfl)) eJ72 (g := (mkF m 72 #[.val (.int p1), .val (.int p2), .val (.int p3), .val (.int p4), .val (.int s0_11), .val (.int v5_37), .val (.int (b1_0 p2)), .val (.int v7_72), .unset, .unset, .unset, .unset, .unset, .unset, .unset] [])) rfl (hb hby at_72) (by decide) (by decide)
        obtain ⟨o5, gq5⟩ : ∃ z, z = h0.size := ⟨_, rfl⟩
        rw [← gq5] at A5 D5 st5
        have g_o5 : n0 ≤ o5 := Nat.le_trans Z0 (Nat.le_of_eq gq5.symm)
        have F_major_o5 : Fld Z h5 o5 "com/example/linkwright/linkwright/ClassFileVersion" "major" "I" (.int (0 : Int32)) := D5 (Or.inr (hw _ (List.mem_of_getElem? (i := 22) rfl))) (ty := .int) (by decide)
        have F_minor_o5 : Fld Z h5 o5 "com/example/linkwright/linkwright/ClassFileVersion" "minor" "I" (.int (0 : Int32)) := D5 (Or.inr (hw _ (List.mem_of_getElem? (i := 24) rfl))) (ty := .int) (by decide)
        have K5 : Keep h0 h5 [] := (Keep.refl h0 []).ext E5
        have sz_o5 : h0.size ≤ o5 := Nat.le_trans (Keep.refl h0 []).1 (Nat.le_of_eq gq5.symm)
        refine go (fun t k => st5 _ k) ?_
        show Gl _ _ _ _ _ _ _ _ (T5.setTop (mkF m 75 #[.val (.int p1), .val (.int p2), .val (.int p3), .val (.int p4), .val (.int s0_11), .val (.int v5_37), .val (.int (b1_0 p2)), .val (.int v7_72), .unset, .unset, .unset, .unset, .unset, .unset, .unset] [(.ref o5)]))
        refine go (fun t k => XS.dup X5.here hx rfl (hb hby at_75) rfl rfl k) ?_
        show Gl _ _ _ _ _ _ _ _ (T5.setTop (mkF m 76 #[.val (.int p1), .val (.int p2), .val (.int p3), .val (.int p4), .val (.int s0_11), .val (.int v5_37), .val (.int (b1_0 p2)), .val (.int v7_72), .unset, .unset, .unset, .unset, .unset, .unset, .unset] [(.ref o5), (.ref o5)]))
        refine go (fun t k => XS.iload X5.here hx rfl (hb hby at_76) rfl  k) ?_
        show Gl _ _ _ _ _ _ _ _ (T5.setTop (mkF m 78 #[.val (.int p1), .val (.int p2), .val (.int p3), .val (.int p4), .val (.int s0_11), .val (.int v5_37), .val (.int (b1_0 p2)), .val (.int v7_72), .unset, .unset, .unset, .unset, .unset, .unset, .unset] [(.int v5_37), (.ref o5), (.ref o5)]))
        refine go (fun t k => XS.iload X5.here hx rfl (hb hby at_78) rfl  k) ?_
        show Gl _ _ _ _ _ _ _ _ (T5.setTop (mkF m 80 #[.val (.int p1), .val (.int p2), .val (.int p3), .val (.int p4), .val (.int s0_11), .val (.int v5_37), .val (.int (b1_0 p2)), .val (.int v7_72), .unset, .unset, .unset, .unset, .unset, .unset, .unset] [(.int (b1_0 p2)), (.int v5_37), (.ref o5), (.ref o5)]))
        obtain ⟨_, _, ⟨T6, L6, k6, n6⟩, -, X6, ⟨Lc6, hQ6, l6, y6, z6⟩, st6⟩ := X5.specialBack hx (y := (⟨"com/example/linkwright/linkwright/ClassFileVersion", "<init>", "(II)V"⟩ : MethodName)) rfl hown (mvT hZ (hw _ (List.mem_of_getElem? (i := 9) rfl))) (mvT hZ (hw _ (List.mem_of_getElem? (i := 10) rfl))) (mvT hZ (hw _ (List.mem_of_getElem? (i := 11) rfl))) (by decide) (backOf (W := 1) (rm2 l Z a0 hw [] o5 v5_37 (b1_0 p2) ((.int (0 : Int32))) ((.int (0 : Int32))) h5 n0 (Nat.le_trans Z0 E5.1) A5 g_o5 F_major_o5 F_minor_o5 hv5.1 hv5.2 (own_m3 _).1 (own_m3 _).2) hZ (hw _ (List.mem_of_getElem? (i := 11) rfl)) (hw _ (List.mem_of_getElem? (i := 8) rfl)) (by decide) (by decide)) (g := (mkF m 80 #[.val (.int p1), .val (.int p2), .val (.int p3), .val (.int p4), .val (.int s0_11), .val (.int v5_37), .val (.int (b1_0 p2)), .val (.int v7_72), .unset, .unset, .unset, .unset, .unset, .unset, .unset] [(.int (b1_0 p2)), (.int v5_37), (.ref o5), (.ref o5)])) rfl (by rw [hml]; rfl) (Steps.refl _) (a := o5) (argsL := [(.int v5_37), (.int (b1_0 p2))]) (rest := [(.ref o5)]) (lenOf pd_2 rfl) rfl (by show 2 * 0 + _ ≤ _; exact Nat.le_of_eq rfl) (hb hby at_80) (fun _ _ => ⟨rfl, e5, (by decide : 1 + 0 ≤ _), (by decide : 2 + 0 ≤ _)⟩)
        dsimp only [Pt.U, Pt.locs, Pt.cells, Pt.slots] at X6 l6 y6 z6 st6 hQ6
        subst l6 y6 z6
        have X6 : Stand p l e room_1 s m #[(.int p1), (.int p2), (.int p3), (.int p4)] below meth c T6 _ 1 2 := X6
        obtain ⟨⟨rfl, K6q, Ex6, Fq6_major, Fq6_minor⟩, N6q⟩ := hQ6
        obtain ⟨h6, e6⟩ : ∃ z, T6.heap = z := ⟨_, rfl⟩
        rw [e6] at K6q Ex6 Fq6_major Fq6_minor
        have K6 : Keep h0 h6 [] := K5.trans K6q (allS (Or.inr sz_o5) all0)
        have N6 := Fr.app NJ72 N6q
        refine go (fun t k => st6.trans k) ?_
        show Gl _ _ _ _ _ _ _ _ (T6.setTop (mkF m 83 #[.val (.int p1), .val (.int p2), .val (.int p3), .val (.int p4), .val (.int s0_11), .val (.int v5_37), .val (.int (b1_0 p2)), .val (.int v7_72), .unset, .unset, .unset, .unset, .unset, .unset, .unset] [(.ref o5)]))
        refine go (fun t k => XS.astore X6.here hx rfl (hb hby at_83) rfl rfl (l' := #[.val (.int p1), .val (.int p2), .val (.int p3), .val (.int p4), .val (.int s0_11), .val (.int v5_37), .val (.int (b1_0 p2)), .val (.int v7_72), .val (.ref o5), .unset, .unset, .unset, .unset, .unset, .unset]) rfl k) ?_
        show Gl _ _ _ _ _ _ _ _ (T6.setTop (mkF m 85 #[.val (.int p1), .val (.int p2), .val (.int p3), .val (.int p4), .val (.int s0_11), .val (.int v5_37), .val (.int (b1_0 p2)), .val (.int v7_72), .val (.ref o5), .unset, .unset, .unset, .unset, .unset, .unset] []))
        refine go (fun t k => XS.aload X6.here hx rfl (hb hby at_85) rfl rfl k) ?_
        show Gl _ _ _ _ _ _ _ _ (T6.setTop (mkF m 87 #[.val (.int p1), .val (.int p2), .val (.int p3), .val (.int p4), .val (.int s0_11), .val (.int v5_37), .val (.int (b1_0 p2)), .val (.int v7_72), .val (.ref o5), .unset, .unset, .unset, .unset, .unset, .unset] [(.ref o5)]))
        refine go (fun t k => XS.iload X6.here hx rfl (hb hby at_87) rfl  k) ?_
        show Gl _ _ _ _ _ _ _ _ (T6.setTop (mkF m 89 #[.val (.int p1), .val (.int p2), .val (.int p3), .val (.int p4), .val (.int s0_11), .val (.int v5_37), .val (.int (b1_0 p2)), .val (.int v7_72), .val (.ref o5), .unset, .unset, .unset, .unset, .unset, .unset] [(.int v7_72), (.ref o5)]))
        refine go (fun t k => XS.iload X6.here hx rfl (hb hby at_89) rfl  k) ?_
        show Gl _ _ _ _ _ _ _ _ (T6.setTop (mkF m 91 #[.val (.int p1), .val (.int p2), .val (.int p3), .val (.int p4), .val (.int s0_11), .val (.int v5_37), .val (.int (b1_0 p2)), .val (.int v7_72), .val (.ref o5), .unset, .unset, .unset, .unset, .unset, .unset] [(.int s0_11), (.int v7_72), (.ref o5)]))
        obtain ⟨cq7, kq7, q7a, q7b, q7c⟩ := isOf hZ e6 Ex6
        obtain ⟨_, _, ⟨T7, L7, k7, n7⟩, -, X7, ⟨Lc7, hQ7, l7, y7, z7⟩, st7⟩ := X6.virtualBack hx (y := (⟨"com/example/linkwright/linkwright/ClassFileVersion", "isSupportedBy", "(IZ)Z"⟩ : MethodName)) (z := (⟨"com/example/linkwright/linkwright/ClassFileVersion", "isSupportedBy", "(IZ)Z"⟩ : MethodName)) hown (mvT hZ (hw _ (List.mem_of_getElem? (i := 25) rfl))) (mvT hZ (hw _ (List.mem_of_getElem? (i := 26) rfl))) (notFace_of_selects (args := #[]) (mvT hZ (hw _ (List.mem_of_getElem? (i := 28) rfl)))) (mvT hZ (hw _ (List.mem_of_getElem? (i := 28) rfl))) (mvT hZ (hw _ (List.mem_of_getElem? (i := 27) rfl))) (by decide) (backOf (W := 0) (rm5 l Z a0 hw [] o5 v7_72 s0_11 v5_37 (b1_0 p2) h6 n0 (Nat.le_trans (Nat.le_trans Z0 E5.1) K6q.1) Fq6_major Fq6_minor) hZ (hw _ (List.mem_of_getElem? (i := 29) rfl)) (hw _ (List.mem_of_getElem? (i := 8) rfl)) (by decide) (by decide)) q7a q7c (g := (mkF m 91 #[.val (.int p1), .val (.int p2), .val (.int p3), .val (.int p4), .val (.int s0_11), .val (.int v5_37), .val (.int (b1_0 p2)), .val (.int v7_72), .val (.ref o5), .unset, .unset, .unset, .unset, .unset, .unset] [(.int s0_11), (.int v7_72), (.ref o5)])) rfl (by rw [hml]; rfl) (Steps.refl _) (argsL := [(.int v7_72), (.int s0_11)]) (rest := []) (lenOf pd_3 rfl) rfl (by show 2 * 0 + _ ≤ _; exact Nat.le_of_eq rfl) (hb hby at_91) (fun _ _ => ⟨rfl, e6, (by decide : 1 + 0 ≤ _), (by decide : 2 + 0 ≤ _)⟩)
        dsimp only [Pt.U, Pt.locs, Pt.cells, Pt.slots] at X7 l7 y7 z7 st7 hQ7
        subst l7 y7 z7
        have X7 : Stand p l e room_1 s m #[(.int p1), (.int p2), (.int p3), (.int p4)] below meth c T7 _ 1 2 := X7
        obtain ⟨⟨rfl, e7'⟩, N7q⟩ := hQ7
        have e7 : T7.heap = h6 := e7'
        have N7 := Fr.app N6 N7q
        refine go (fun t k => st7.trans k) ?_
        show Gl _ _ _ _ _ _ _ _ (T7.setTop (mkF m 94 #[.val (.int p1), .val (.int p2), .val (.int p3), .val (.int p4), .val (.int s0_11), .val (.int v5_37), .val (.int (b1_0 p2)), .val (.int v7_72), .val (.ref o5), .unset, .unset, .unset, .unset, .unset, .unset] [(.int (b5_0 v7_72 s0_11 v5_37 (b1_0 p2)))]))
        refine go (fun t k => XS.istore X7.here hx rfl (hb hby at_94) rfl (l' := #[.val (.int p1), .val (.int p2), .val (.int p3), .val (.int p4), .val (.int s0_11), .val (.int v5_37), .val (.int (b1_0 p2)), .val (.int v7_72), .val (.ref o5), .val (.int (b5_0 v7_72 s0_11 v5_37 (b1_0 p2))), .unset, .unset, .unset, .unset, .unset]) rfl k) ?_
        show Gl _ _ _ _ _ _ _ _ (T7.setTop (mkF m 96 #[.val (.int p1), .val (.int p2), .val (.int p3), .val (.int p4), .val (.int s0_11), .val (.int v5_37), .val (.int (b1_0 p2)), .val (.int v7_72), .val (.ref o5), .val (.int (b5_0 v7_72 s0_11 v5_37 (b1_0 p2))), .unset, .unset, .unset, .unset, .unset] []))
        refine go (fun t k => XS.iload X7.here hx rfl (hb hby at_96) rfl  k) ?_
        show Gl _ _ _ _ _ _ _ _ (T7.setTop (mkF m 98 #[.val (.int p1), .val (.int p2), .val (.int p3), .val (.int p4), .val (.int s0_11), .val (.int v5_37), .val (.int (b1_0 p2)), .val (.int v7_72), .val (.ref o5), .val (.int (b5_0 v7_72 s0_11 v5_37 (b1_0 p2))), .unset, .unset, .unset, .unset, .unset] [(.int v7_72)]))
        refine go (fun t k => XS.i2l X7.here hx rfl (hb hby at_98) rfl k) ?_
        show Gl _ _ _ _ _ _ _ _ (T7.setTop (mkF m 99 #[.val (.int p1), .val (.int p2), .val (.int p3), .val (.int p4), .val (.int s0_11), .val (.int v5_37), .val (.int (b1_0 p2)), .val (.int v7_72), .val (.ref o5), .val (.int (b5_0 v7_72 s0_11 v5_37 (b1_0 p2))), .unset, .unset, .unset, .unset, .unset] [(.long (v7_72.toInt64))]))
        refine go (fun t k => X7.ldc2Long hx hown (mvT hZ (hw _ (List.mem_of_getElem? (i := 30) rfl))) (g := (mkF m 99 #[.val (.int p1), .val (.int p2), .val (.int p3), .val (.int p4), .val (.int s0_11), .val (.int v5_37), .val (.int (b1_0 p2)), .val (.int v7_72), .val (.ref o5), .val (.int (b5_0 v7_72 s0_11 v5_37 (b1_0 p2))), .unset, .unset, .unset, .unset, .unset] [(.long (v7_72.toInt64))])) rfl (hb hby at_99) _ k) ?_
        show Gl _ _ _ _ _ _ _ _ (T7.setTop (mkF m 102 #[.val (.int p1), .val (.int p2), .val (.int p3), .val (.int p4), .val (.int s0_11), .val (.int v5_37), .val (.int (b1_0 p2)), .val (.int v7_72), .val (.ref o5), .val (.int (b5_0 v7_72 s0_11 v5_37 (b1_0 p2))), .unset, .unset, .unset, .unset, .unset] [(.long (44 : Int64)), (.long (v7_72.toInt64))]))
        refine go (fun t k => XS.ladd X7.here hx rfl (hb hby at_102) rfl k) ?_
        show Gl _ _ _ _ _ _ _ _ (T7.setTop (mkF m 103 #[.val (.int p1), .val (.int p2), .val (.int p3), .val (.int p4), .val (.int s0_11), .val (.int v5_37), .val (.int (b1_0 p2)), .val (.int v7_72), .val (.ref o5), .val (.int (b5_0 v7_72 s0_11 v5_37 (b1_0 p2))), .unset, .unset, .unset, .unset, .unset] [(.long ((v7_72.toInt64) + (44 : Int64)))]))
        refine go (fun t k => XS.lstore X7.here hx rfl (hb hby at_103) rfl (l' := #[.val (.int p1), .val (.int p2), .val (.int p3), .val (.int p4), .val (.int s0_11), .val (.int v5_37), .val (.int (b1_0 p2)), .val (.int v7_72), .val (.ref o5), .val (.int (b5_0 v7_72 s0_11 v5_37 (b1_0 p2))), .val (.long ((v7_72.toInt64) + (44 : Int64))), .second, .unset, .unset, .unset]) rfl k) ?_
        show Gl _ _ _ _ _ _ _ _ (T7.setTop (mkF m 105 #[.val (.int p1), .val (.int p2), .val (.int p3), .val (.int p4), .val (.int s0_11), .val (.int v5_37), .val (.int (b1_0 p2)), .val (.int v7_72), .val (.ref o5), .val (.int (b5_0 v7_72 s0_11 v5_37 (b1_0 p2))), .val (.long ((v7_72.toInt64) + (44 : Int64))), .second, .unset, .unset, .unset] []))
        refine go (fun t k => XS.iload X7.here hx rfl (hb hby at_105) rfl  k) ?_
        show Gl _ _ _ _ _ _ _ _ (T7.setTop (mkF m 107 #[.val (.int p1), .val (.int p2), .val (.int p3), .val (.int p4), .val (.int s0_11), .val (.int v5_37), .val (.int (b1_0 p2)), .val (.int v7_72), .val (.ref o5), .val (.int (b5_0 v7_72 s0_11 v5_37 (b1_0 p2))), .val (.long ((v7_72.toInt64) + (44 : Int64))), .second, .unset, .unset, .unset] [(.int v5_37)]))
        refine go (fun t k => XS.bipush X7.here hx rfl (hb hby at_107) k) ?_
        show Gl _ _ _ _ _ _ _ _ (T7.setTop (mkF m 109 #[.val (.int p1), .val (.int p2), .val (.int p3), .val (.int p4), .val (.int s0_11), .val (.int v5_37), .val (.int (b1_0 p2)), .val (.int v7_72), .val (.ref o5), .val (.int (b5_0 v7_72 s0_11 v5_37 (b1_0 p2))), .val (.long ((v7_72.toInt64) + (44 : Int64))), .second, .unset, .unset, .unset] [(.int (45 : Int32)), (.int v5_37)]))
        have J126 : ∀ (s0_126 : Int32) (TJ126 : State) (lJ126 : List Loc) (XJ126 : Stand p l e room_1 s m #[(.int p1), (.int p2), (.int p3), (.int p4)] below meth c TJ126 lJ126 1 2) (eJ126 : TJ126.heap = h6) (NJ126 : Fr n0 lJ126), Gl p e below s n0 room_1.cells room_1.slots (Kv (some (.int (b0_126 p2 s0_11 v5_37 v7_72 s0_126))) (fun _ => True)) (TJ126.setTop (mkF m 126 #[.val (.int p1), .val (.int p2), .val (.int p3), .val (.int p4), .val (.int s0_11), .val (.int v5_37), .val (.int (b1_0 p2)), .val (.int v7_72), .val (.ref o5), .val (.int (b5_0 v7_72 s0_11 v5_37 (b1_0 p2))), .val (.long ((v7_72.toInt64) + (44 : Int64))), .second, .unset, .unset, .unset] [(.int s0_126)])) := by
          intro s0_126 TJ126 lJ126 XJ126 eJ126 NJ126
          show Gl _ _ _ _ _ _ _ (Kv (some (.int (if v5_37 < (56 : Int32) then (b0_161 p2 s0_11 v5_37 v7_72 s0_126) else (if (b1_0 p2) = (0 : Int32) then (b0_161 p2 s0_11 v5_37 v7_72 s0_126) else (if (b1_0 p2) = (65535 : Int32) then (if (v5_37.toInt64) = ((v7_72.toInt64) + (44 : Int64)) then (if s0_11 = (0 : Int32) then (b0_165 p2 s0_11 v5_37 v7_72 s0_126) else (b0_161 p2 s0_11 v5_37 v7_72 s0_126)) else (b0_165 p2 s0_11 v5_37 v7_72 s0_126)) else (b0_165 p2 s0_11 v5_37 v7_72 s0_126)))))) _) _
          refine go (fun t k => XS.istore XJ126.here hx rfl (hb hby at_126) rfl (l' := #[.val (.int p1), .val (.int p2), .val (.int p3), .val (.int p4), .val (.int s0_11), .val (.int v5_37), .val (.int (b1_0 p2)), .val (.int v7_72), .val (.ref o5), .val (.int (b5_0 v7_72 s0_11 v5_37 (b1_0 p2))), .val (.long ((v7_72.toInt64) + (44 : Int64))), .second, .val (.int s0_126), .unset, .unset]) rfl k) ?_
          show Gl _ _ _ _ _ _ _ _ (TJ126.setTop (mkF m 128 #[.val (.int p1), .val (.int p2), .val (.int p3), .val (.int p4), .val (.int s0_11), .val (.int v5_37), .val (.int (b1_0 p2)), .val (.int v7_72), .val (.ref o5), .val (.int (b5_0 v7_72 s0_11 v5_37 (b1_0 p2))), .val (.long ((v7_72.toInt64) + (44 : Int64))), .second, .val (.int s0_126), .unset, .unset] []))
          refine go (fun t k => XS.iload XJ126.here hx rfl (hb hby at_128) rfl  k) ?_
          show Gl _ _ _ _ _ _ _ _ (TJ126.setTop (mkF m 130 #[.val (.int p1), .val (.int p2), .val (.int p3), .val (.int p4), .val (.int s0_11), .val (.int v5_37), .val (.int (b1_0 p2)), .val (.int v7_72), .val (.ref o5), .val (.int (b5_0 v7_72 s0_11 v5_37 (b1_0 p2))), .val (.long ((v7_72.toInt64) + (44 : Int64))), .second, .val (.int s0_126), .unset, .unset] [(.int v5_37)]))
          refine go (fun t k => XS.bipush XJ126.here hx rfl (hb hby at_130) k) ?_
          show Gl _ _ _ _ _ _ _ _ (TJ126.setTop (mkF m 132 #[.val (.int p1), .val (.int p2), .val (.int p3), .val (.int p4), .val (.int s0_11), .val (.int v5_37), .val (.int (b1_0 p2)), .val (.int v7_72), .val (.ref o5), .val (.int (b5_0 v7_72 s0_11 v5_37 (b1_0 p2))), .val (.long ((v7_72.toInt64) + (44 : Int64))), .second, .val (.int s0_126), .unset, .unset] [(.int (56 : Int32)), (.int v5_37)]))
          have J166 : ∀ (s0_166 : Int32) (TJ166 : State) (lJ166 : List Loc) (XJ166 : Stand p l e room_1 s m #[(.int p1), (.int p2), (.int p3), (.int p4)] below meth c TJ166 lJ166 1 2) (eJ166 : TJ166.heap = h6) (NJ166 : Fr n0 lJ166), Gl p e below s n0 room_1.cells room_1.slots (Kv (some (.int (b0_166 p2 s0_11 v5_37 v7_72 s0_126 s0_166))) (fun _ => True)) (TJ166.setTop (mkF m 166 #[.val (.int p1), .val (.int p2), .val (.int p3), .val (.int p4), .val (.int s0_11), .val (.int v5_37), .val (.int (b1_0 p2)), .val (.int v7_72), .val (.ref o5), .val (.int (b5_0 v7_72 s0_11 v5_37 (b1_0 p2))), .val (.long ((v7_72.toInt64) + (44 : Int64))), .second, .val (.int s0_126), .unset, .unset] [(.int s0_166)])) := by
            intro s0_166 TJ166 lJ166 XJ166 eJ166 NJ166
            show Gl _ _ _ _ _ _ _ (Kv (some (.int (if s0_126 = (0 : Int32) then (b0_182 p2 s0_11 v5_37 v7_72) else (if s0_166 = (0 : Int32) then (b0_182 p2 s0_11 v5_37 v7_72) else (b0_183 p2 s0_11 v5_37 v7_72 (1 : Int32)))))) _) _
            refine go (fun t k => XS.istore XJ166.here hx rfl (hb hby at_166) rfl (l' := #[.val (.int p1), .val (.int p2), .val (.int p3), .val (.int p4), .val (.int s0_11), .val (.int v5_37), .val (.int (b1_0 p2)), .val (.int v7_72), .val (.ref o5), .val (.int (b5_0 v7_72 s0_11 v5_37 (b1_0 p2))), .val (.long ((v7_72.toInt64) + (44 : Int64))), .second, .val (.int s0_126), .val (.int s0_166), .unset]) rfl k) ?_
            show Gl _ _ _ _ _ _ _ _ (TJ166.setTop (mkF m 168 #[.val (.int p1), .val (.int p2), .val (.int p3), .val (.int p4), .val (.int s0_11), .val (.int v5_37), .val (.int (b1_0 p2)), .val (.int v7_72), .val (.ref o5), .val (.int (b5_0 v7_72 s0_11 v5_37 (b1_0 p2))), .val (.long ((v7_72.toInt64) + (44 : Int64))), .second, .val (.int s0_126), .val (.int s0_166), .unset] []))
            refine go (fun t k => XS.iload XJ166.here hx rfl (hb hby at_168) rfl  k) ?_
            show Gl _ _ _ _ _ _ _ _ (TJ166.setTop (mkF m 170 #[.val (.int p1), .val (.int p2), .val (.int p3), .val (.int p4), .val (.int s0_11), .val (.int v5_37), .val (.int (b1_0 p2)), .val (.int v7_72), .val (.ref o5), .val (.int (b5_0 v7_72 s0_11 v5_37 (b1_0 p2))), .val (.long ((v7_72.toInt64) + (44 : Int64))), .second, .val (.int s0_126), .val (.int s0_166), .unset] [(.int s0_126)]))
            have J183 : ∀ (s0_183 : Int32) (TJ183 : State) (lJ183 : List Loc) (XJ183 : Stand p l e room_1 s m #[(.int p1), (.int p2), (.int p3), (.int p4)] below meth c TJ183 lJ183 1 2) (eJ183 : TJ183.heap = h6) (NJ183 : Fr n0 lJ183), Gl p e below s n0 room_1.cells room_1.slots (Kv (some (.int (b0_183 p2 s0_11 v5_37 v7_72 s0_183))) (fun _ => True)) (TJ183.setTop (mkF m 183 #[.val (.int p1), .val (.int p2), .val (.int p3), .val (.int p4), .val (.int s0_11), .val (.int v5_37), .val (.int (b1_0 p2)), .val (.int v7_72), .val (.ref o5), .val (.int (b5_0 v7_72 s0_11 v5_37 (b1_0 p2))), .val (.long ((v7_72.toInt64) + (44 : Int64))), .second, .val (.int s0_126), .val (.int s0_166), .unset] [(.int s0_183)])) := by
              intro s0_183 TJ183 lJ183 XJ183 eJ183 NJ183
              show Gl _ _ _ _ _ _ _ (Kv (some (.int (if (b5_0 v7_72 s0_11 v5_37 (b1_0 p2)) = s0_183 then (b0_197 (1 : Int32)) else (b0_197 (0 : Int32))))) _) _
              refine go (fun t k => XS.istore XJ183.here hx rfl (hb hby at_183) rfl (l' := #[.val (.int p1), .val (.int p2), .val (.int p3), .val (.int p4), .val (.int s0_11), .val (.int v5_37), .val (.int (b1_0 p2)), .val (.int v7_72), .val (.ref o5), .val (.int (b5_0 v7_72 s0_11 v5_37 (b1_0 p2))), .val (.long ((v7_72.toInt64) + (44 : Int64))), .second, .val (.int s0_126), .val (.int s0_166), .val (.int s0_183)]) rfl k) ?_
              show Gl _ _ _ _ _ _ _ _ (TJ183.setTop (mkF m 185 #[.val (.int p1), .val (.int p2), .val (.int p3), .val (.int p4), .val (.int s0_11), .val (.int v5_37), .val (.int (b1_0 p2)), .val (.int v7_72), .val (.ref o5), .val (.int (b5_0 v7_72 s0_11 v5_37 (b1_0 p2))), .val (.long ((v7_72.toInt64) + (44 : Int64))), .second, .val (.int s0_126), .val (.int s0_166), .val (.int s0_183)] []))
              refine go (fun t k => XS.iload XJ183.here hx rfl (hb hby at_185) rfl  k) ?_
              show Gl _ _ _ _ _ _ _ _ (TJ183.setTop (mkF m 187 #[.val (.int p1), .val (.int p2), .val (.int p3), .val (.int p4), .val (.int s0_11), .val (.int v5_37), .val (.int (b1_0 p2)), .val (.int v7_72), .val (.ref o5), .val (.int (b5_0 v7_72 s0_11 v5_37 (b1_0 p2))), .val (.long ((v7_72.toInt64) + (44 : Int64))), .second, .val (.int s0_126), .val (.int s0_166), .val (.int s0_183)] [(.int (b5_0 v7_72 s0_11 v5_37 (b1_0 p2)))]))
              refine go (fun t k => XS.iload XJ183.here hx rfl (hb hby at_187) rfl  k) ?_
              show Gl _ _ _ _ _ _ _ _ (TJ183.setTop (mkF m 189 #[.val (.int p1), .val (.int p2), .val (.int p3), .val (.int p4), .val (.int s0_11), .val (.int v5_37), .val (.int (b1_0 p2)), .val (.int v7_72), .val (.ref o5), .val (.int (b5_0 v7_72 s0_11 v5_37 (b1_0 p2))), .val (.long ((v7_72.toInt64) + (44 : Int64))), .second, .val (.int s0_126), .val (.int s0_166), .val (.int s0_183)] [(.int s0_183), (.int (b5_0 v7_72 s0_11 v5_37 (b1_0 p2)))]))
              have J197 : ∀ (s0_197 : Int32) (TJ197 : State) (lJ197 : List Loc) (XJ197 : Stand p l e room_1 s m #[(.int p1), (.int p2), (.int p3), (.int p4)] below meth c TJ197 lJ197 1 2) (eJ197 : TJ197.heap = h6) (NJ197 : Fr n0 lJ197), Gl p e below s n0 room_1.cells room_1.slots (Kv (some (.int (b0_197 s0_197))) (fun _ => True)) (TJ197.setTop (mkF m 197 #[.val (.int p1), .val (.int p2), .val (.int p3), .val (.int p4), .val (.int s0_11), .val (.int v5_37), .val (.int (b1_0 p2)), .val (.int v7_72), .val (.ref o5), .val (.int (b5_0 v7_72 s0_11 v5_37 (b1_0 p2))), .val (.long ((v7_72.toInt64) + (44 : Int64))), .second, .val (.int s0_126), .val (.int s0_166), .val (.int s0_183)] [(.int s0_197)])) := by
                intro s0_197 TJ197 lJ197 XJ197 eJ197 NJ197
                show Gl _ _ _ _ _ _ _ (Kv (some (.int (nar .boolean s0_197))) _) _
                exact endN XJ197 hx Bd (t := .boolean) (by simp) (hb hby at_197) ⟨rfl, trivial⟩ NJ197 (by decide) (by decide)
              refine gI (c := (b5_0 v7_72 s0_11 v5_37 (b1_0 p2)) = s0_183) (fun hc189 => ?_) (fun hc189 => ?_)
              · refine go (fun t k => XS.icmpNo XJ183.here hx rfl (hb hby at_189) rfl (teq hc189).2 k) ?_
                show Gl _ _ _ _ _ _ _ _ (TJ183.setTop (mkF m 192 #[.val (.int p1), .val (.int p2), .val (.int p3), .val (.int p4), .val (.int s0_11), .val (.int v5_37), .val (.int (b1_0 p2)), .val (.int v7_72), .val (.ref o5), .val (.int (b5_0 v7_72 s0_11 v5_37 (b1_0 p2))), .val (.long ((v7_72.toInt64) + (44 : Int64))), .second, .val (.int s0_126), .val (.int s0_166), .val (.int s0_183)] []))
                refine go (fun t k => XS.iconst XJ183.here hx rfl (hb hby at_192) k) ?_
                show Gl _ _ _ _ _ _ _ _ (TJ183.setTop (mkF m 193 #[.val (.int p1), .val (.int p2), .val (.int p3), .val (.int p4), .val (.int s0_11), .val (.int v5_37), .val (.int (b1_0 p2)), .val (.int v7_72), .val (.ref o5), .val (.int (b5_0 v7_72 s0_11 v5_37 (b1_0 p2))), .val (.long ((v7_72.toInt64) + (44 : Int64))), .second, .val (.int s0_126), .val (.int s0_166), .val (.int s0_183)] [(.int (1 : Int32))]))
                refine go (fun t k => XS.goto XJ183.here hx rfl (pc0 := 193) (pc' := 197) rfl (hb hby at_193) (by decide) (by decide) k) ?_
                show Gl _ _ _ _ _ _ _ _ (TJ183.setTop (mkF m 197 #[.val (.int p1), .val (.int p2), .val (.int p3), .val (.int p4), .val (.int s0_11), .val (.int v5_37), .val (.int (b1_0 p2)), .val (.int v7_72), .val (.ref o5), .val (.int (b5_0 v7_72 s0_11 v5_37 (b1_0 p2))), .val (.long ((v7_72.toInt64) + (44 : Int64))), .second, .val (.int s0_126), .val (.int s0_166), .val (.int s0_183)] [(.int (1 : Int32))]))
                exact J197 (1 : Int32) TJ183 _ XJ183 eJ183 NJ183
              · refine go (fun t k => XS.icmpYes XJ183.here hx rfl (pc0 := 189) (pc' := 196) rfl (hb hby at_189) rfl (feq hc189).2 (by decide) (by decide) k) ?_
                show Gl _ _ _ _ _ _ _ _ (TJ183.setTop (mkF m 196 #[.val (.int p1), .val (.int p2), .val (.int p3), .val (.int p4), .val (.int s0_11), .val (.int v5_37), .val (.int (b1_0 p2)), .val (.int v7_72), .val (.ref o5), .val (.int (b5_0 v7_72 s0_11 v5_37 (b1_0 p2))), .val (.long ((v7_72.toInt64) + (44 : Int64))), .second, .val (.int s0_126), .val (.int s0_166), .val (.int s0_183)] []))
                refine go (fun t k => XS.iconst XJ183.here hx rfl (hb hby at_196) k) ?_
                show Gl _ _ _ _ _ _ _ _ (TJ183.setTop (mkF m 197 #[.val (.int p1), .val (.int p2), .val (.int p3), .val (.int p4), .val (.int s0_11), .val (.int v5_37), .val (.int (b1_0 p2)), .val (.int v7_72), .val (.ref o5), .val (.int (b5_0 v7_72 s0_11 v5_37 (b1_0 p2))), .val (.long ((v7_72.toInt64) + (44 : Int64))), .second, .val (.int s0_126), .val (.int s0_166), .val (.int s0_183)] [(.int (0 : Int32))]))
                exact J197 (0 : Int32) TJ183 _ XJ183 eJ183 NJ183
            have J182 : ∀  (TJ182 : State) (lJ182 : List Loc) (XJ182 : Stand p l e room_1 s m #[(.int p1), (.int p2), (.int p3), (.int p4)] below meth c TJ182 lJ182 1 2) (eJ182 : TJ182.heap = h6) (NJ182 : Fr n0 lJ182), Gl p e below s n0 room_1.cells room_1.slots (Kv (some (.int (b0_182 p2 s0_11 v5_37 v7_72))) (fun _ => True)) (TJ182.setTop (mkF m 182 #[.val (.int p1), .val (.int p2), .val (.int p3), .val (.int p4), .val (.int s0_11), .val (.int v5_37), .val (.int (b1_0 p2)), .val (.int v7_72), .val (.ref o5), .val (.int (b5_0 v7_72 s0_11 v5_37 (b1_0 p2))), .val (.long ((v7_72.toInt64) + (44 : Int64))), .second, .val (.int s0_126), .val (.int s0_166), .unset] [])) := by
              intro  TJ182 lJ182 XJ182 eJ182 NJ182
              show Gl _ _ _ _ _ _ _ (Kv (some (.int (b0_183 p2 s0_11 v5_37 v7_72 (0 : Int32)))) _) _
              refine go (fun t k => XS.iconst XJ182.here hx rfl (hb hby at_182) k) ?_
              show Gl _ _ _ _ _ _ _ _ (TJ182.setTop (mkF m 183 #[.val (.int p1), .val (.int p2), .val (.int p3), .val (.int p4), .val (.int s0_11), .val (.int v5_37), .val (.int (b1_0 p2)), .val (.int v7_72), .val (.ref o5), .val (.int (b5_0 v7_72 s0_11 v5_37 (b1_0 p2))), .val (.long ((v7_72.toInt64) + (44 : Int64))), .second, .val (.int s0_126), .val (.int s0_166), .unset] [(.int (0 : Int32))]))
              exact J183 (0 : Int32) TJ182 _ XJ182 eJ182 NJ182
            refine gI (c := s0_126 = (0 : Int32)) (fun hc170 => ?_) (fun hc170 => ?_)
            · refine go (fun t k => XS.ifYes XJ166.here hx rfl (pc0 := 170) (pc' := 182) rfl (hb hby at_170) rfl ((if0 _ _).trans (teq hc170).1) (by decide) (by decide) k) ?_
              show Gl _ _ _ _ _ _ _ _ (TJ166.setTop (mkF m 182 #[.val (.int p1), .val (.int p2), .val (.int p3), .val (.int p4), .val (.int s0_11), .val (.int v5_37), .val (.int (b1_0 p2)), .val (.int v7_72), .val (.ref o5), .val (.int (b5_0 v7_72 s0_11 v5_37 (b1_0 p2))), .val (.long ((v7_72.toInt64) + (44 : Int64))), .second, .val (.int s0_126), .val (.int s0_166), .unset] []))
              exact J182  TJ166 _ XJ166 eJ166 NJ166
            · refine go (fun t k => XS.ifNo XJ166.here hx rfl (hb hby at_170) rfl ((if0 _ _).trans (feq hc170).1) k) ?_
              show Gl _ _ _ _ _ _ _ _ (TJ166.setTop (mkF m 173 #[.val (.int p1), .val (.int p2), .val (.int p3), .val (.int p4), .val (.int s0_11), .val (.int v5_37), .val (.int (b1_0 p2)), .val (.int v7_72), .val (.ref o5), .val (.int (b5_0 v7_72 s0_11 v5_37 (b1_0 p2))), .val (.long ((v7_72.toInt64) + (44 : Int64))), .second, .val (.int s0_126), .val (.int s0_166), .unset] []))
              refine go (fun t k => XS.iload XJ166.here hx rfl (hb hby at_173) rfl  k) ?_
              show Gl _ _ _ _ _ _ _ _ (TJ166.setTop (mkF m 175 #[.val (.int p1), .val (.int p2), .val (.int p3), .val (.int p4), .val (.int s0_11), .val (.int v5_37), .val (.int (b1_0 p2)), .val (.int v7_72), .val (.ref o5), .val (.int (b5_0 v7_72 s0_11 v5_37 (b1_0 p2))), .val (.long ((v7_72.toInt64) + (44 : Int64))), .second, .val (.int s0_126), .val (.int s0_166), .unset] [(.int s0_166)]))
              refine gI (c := s0_166 = (0 : Int32)) (fun hc175 => ?_) (fun hc175 => ?_)
              · refine go (fun t k => XS.ifYes XJ166.here hx rfl (pc0 := 175) (pc' := 182) rfl (hb hby at_175) rfl ((if0 _ _).trans (teq hc175).1) (by decide) (by decide) k) ?_
                show Gl _ _ _ _ _ _ _ _ (TJ166.setTop (mkF m 182 #[.val (.int p1), .val (.int p2), .val (.int p3), .val (.int p4), .val (.int s0_11), .val (.int v5_37), .val (.int (b1_0 p2)), .val (.int v7_72), .val (.ref o5), .val (.int (b5_0 v7_72 s0_11 v5_37 (b1_0 p2))), .val (.long ((v7_72.toInt64) + (44 : Int64))), .second, .val (.int s0_126), .val (.int s0_166), .unset] []))
                exact J182  TJ166 _ XJ166 eJ166 NJ166
              · refine go (fun t k => XS.ifNo XJ166.here hx rfl (hb hby at_175) rfl ((if0 _ _).trans (feq hc175).1) k) ?_
                show Gl _ _ _ _ _ _ _ _ (TJ166.setTop (mkF m 178 #[.val (.int p1), .val (.int p2), .val (.int p3), .val (.int p4), .val (.int s0_11), .val (.int v5_37), .val (.int (b1_0 p2)), .val (.int v7_72), .val (.ref o5), .val (.int (b5_0 v7_72 s0_11 v5_37 (b1_0 p2))), .val (.long ((v7_72.toInt64) + (44 : Int64))), .second, .val (.int s0_126), .val (.int s0_166), .unset] []))
                refine go (fun t k => XS.iconst XJ166.here hx rfl (hb hby at_178) k) ?_
                show Gl _ _ _ _ _ _ _ _ (TJ166.setTop (mkF m 179 #[.val (.int p1), .val (.int p2), .val (.int p3), .val (.int p4), .val (.int s0_11), .val (.int v5_37), .val (.int (b1_0 p2)), .val (.int v7_72), .val (.ref o5), .val (.int (b5_0 v7_72 s0_11 v5_37 (b1_0 p2))), .val (.long ((v7_72.toInt64) + (44 : Int64))), .second, .val (.int s0_126), .val (.int s0_166), .unset] [(.int (1 : Int32))]))
                refine go (fun t k => XS.goto XJ166.here hx rfl (pc0 := 179) (pc' := 183) rfl (hb hby at_179) (by decide) (by decide) k) ?_
                show Gl _ _ _ _ _ _ _ _ (TJ166.setTop (mkF m 183 #[.val (.int p1), .val (.int p2), .val (.int p3), .val (.int p4), .val (.int s0_11), .val (.int v5_37), .val (.int (b1_0 p2)), .val (.int v7_72), .val (.ref o5), .val (.int (b5_0 v7_72 s0_11 v5_37 (b1_0 p2))), .val (.long ((v7_72.toInt64) + (44 : Int64))), .second, .val (.int s0_126), .val (.int s0_166), .unset] [(.int (1 : Int32))]))
                exact J183 (1 : Int32) TJ166 _ XJ166 eJ166 NJ166
          have J161 : ∀  (TJ161 : State) (lJ161 : List Loc) (XJ161 : Stand p l e room_1 s m #[(.int p1), (.int p2), (.int p3), (.int p4)] below meth c TJ161 lJ161 1 2) (eJ161 : TJ161.heap = h6) (NJ161 : Fr n0 lJ161), Gl p e below s n0 room_1.cells room_1.slots (Kv (some (.int (b0_161 p2 s0_11 v5_37 v7_72 s0_126))) (fun _ => True)) (TJ161.setTop (mkF m 161 #[.val (.int p1), .val (.int p2), .val (.int p3), .val (.int p4), .val (.int s0_11), .val (.int v5_37), .val (.int (b1_0 p2)), .val (.int v7_72), .val (.ref o5), .val (.int (b5_0 v7_72 s0_11 v5_37 (b1_0 p2))), .val (.long ((v7_72.toInt64) + (44 : Int64))), .second, .val (.int s0_126), .unset, .unset] [])) := by
            intro  TJ161 lJ161 XJ161 eJ161 NJ161
            show Gl _ _ _ _ _ _ _ (Kv (some (.int (b0_166 p2 s0_11 v5_37 v7_72 s0_126 (1 : Int32)))) _) _
            refine go (fun t k => XS.iconst XJ161.here hx rfl (hb hby at_161) k) ?_
            show Gl _ _ _ _ _ _ _ _ (TJ161.setTop (mkF m 162 #[.val (.int p1), .val (.int p2), .val (.int p3), .val (.int p4), .val (.int s0_11), .val (.int v5_37), .val (.int (b1_0 p2)), .val (.int v7_72), .val (.ref o5), .val (.int (b5_0 v7_72 s0_11 v5_37 (b1_0 p2))), .val (.long ((v7_72.toInt64) + (44 : Int64))), .second, .val (.int s0_126), .unset, .unset] [(.int (1 : Int32))]))
            refine go (fun t k => XS.goto XJ161.here hx rfl (pc0 := 162) (pc' := 166) rfl (hb hby at_162) (by decide) (by decide) k) ?_
            show Gl _ _ _ _ _ _ _ _ (TJ161.setTop (mkF m 166 #[.val (.int p1), .val (.int p2), .val (.int p3), .val (.int p4), .val (.int s0_11), .val (.int v5_37), .val (.int (b1_0 p2)), .val (.int v7_72), .val (.ref o5), .val (.int (b5_0 v7_72 s0_11 v5_37 (b1_0 p2))), .val (.long ((v7_72.toInt64) + (44 : Int64))), .second, .val (.int s0_126), .unset, .unset] [(.int (1 : Int32))]))
            exact J166 (1 : Int32) TJ161 _ XJ161 eJ161 NJ161
          refine gI (c := v5_37 < (56 : Int32)) (fun hc132 => ?_) (fun hc132 => ?_)
          · refine go (fun t k => XS.icmpYes XJ126.here hx rfl (pc0 := 132) (pc' := 161) rfl (hb hby at_132) rfl (tlt hc132).1 (by decide) (by decide) k) ?_
            show Gl _ _ _ _ _ _ _ _ (TJ126.setTop (mkF m 161 #[.val (.int p1), .val (.int p2), .val (.int p3), .val (.int p4), .val (.int s0_11), .val (.int v5_37), .val (.int (b1_0 p2)), .val (.int v7_72), .val (.ref o5), .val (.int (b5_0 v7_72 s0_11 v5_37 (b1_0 p2))), .val (.long ((v7_72.toInt64) + (44 : Int64))), .second, .val (.int s0_126), .unset, .unset] []))
            exact J161  TJ126 _ XJ126 eJ126 NJ126
          · refine go (fun t k => XS.icmpNo XJ126.here hx rfl (hb hby at_132) rfl (flt hc132).1 k) ?_
            show Gl _ _ _ _ _ _ _ _ (TJ126.setTop (mkF m 135 #[.val (.int p1), .val (.int p2), .val (.int p3), .val (.int p4), .val (.int s0_11), .val (.int v5_37), .val (.int (b1_0 p2)), .val (.int v7_72), .val (.ref o5), .val (.int (b5_0 v7_72 s0_11 v5_37 (b1_0 p2))), .val (.long ((v7_72.toInt64) + (44 : Int64))), .second, .val (.int s0_126), .unset, .unset] []))
            refine go (fun t k => XS.iload XJ126.here hx rfl (hb hby at_135) rfl  k) ?_
            show Gl _ _ _ _ _ _ _ _ (TJ126.setTop (mkF m 137 #[.val (.int p1), .val (.int p2), .val (.int p3), .val (.int p4), .val (.int s0_11), .val (.int v5_37), .val (.int (b1_0 p2)), .val (.int v7_72), .val (.ref o5), .val (.int (b5_0 v7_72 s0_11 v5_37 (b1_0 p2))), .val (.long ((v7_72.toInt64) + (44 : Int64))), .second, .val (.int s0_126), .unset, .unset] [(.int (b1_0 p2))]))
            refine gI (c := (b1_0 p2) = (0 : Int32)) (fun hc137 => ?_) (fun hc137 => ?_)
            · refine go (fun t k => XS.ifYes XJ126.here hx rfl (pc0 := 137) (pc' := 161) rfl (hb hby at_137) rfl ((if0 _ _).trans (teq hc137).1) (by decide) (by decide) k) ?_
              show Gl _ _ _ _ _ _ _ _ (TJ126.setTop (mkF m 161 #[.val (.int p1), .val (.int p2), .val (.int p3), .val (.int p4), .val (.int s0_11), .val (.int v5_37), .val (.int (b1_0 p2)), .val (.int v7_72), .val (.ref o5), .val (.int (b5_0 v7_72 s0_11 v5_37 (b1_0 p2))), .val (.long ((v7_72.toInt64) + (44 : Int64))), .second, .val (.int s0_126), .unset, .unset] []))
              exact J161  TJ126 _ XJ126 eJ126 NJ126
            · refine go (fun t k => XS.ifNo XJ126.here hx rfl (hb hby at_137) rfl ((if0 _ _).trans (feq hc137).1) k) ?_
              show Gl _ _ _ _ _ _ _ _ (TJ126.setTop (mkF m 140 #[.val (.int p1), .val (.int p2), .val (.int p3), .val (.int p4), .val (.int s0_11), .val (.int v5_37), .val (.int (b1_0 p2)), .val (.int v7_72), .val (.ref o5), .val (.int (b5_0 v7_72 s0_11 v5_37 (b1_0 p2))), .val (.long ((v7_72.toInt64) + (44 : Int64))), .second, .val (.int s0_126), .unset, .unset] []))
              refine go (fun t k => XS.iload XJ126.here hx rfl (hb hby at_140) rfl  k) ?_
              show Gl _ _ _ _ _ _ _ _ (TJ126.setTop (mkF m 142 #[.val (.int p1), .val (.int p2), .val (.int p3), .val (.int p4), .val (.int s0_11), .val (.int v5_37), .val (.int (b1_0 p2)), .val (.int v7_72), .val (.ref o5), .val (.int (b5_0 v7_72 s0_11 v5_37 (b1_0 p2))), .val (.long ((v7_72.toInt64) + (44 : Int64))), .second, .val (.int s0_126), .unset, .unset] [(.int (b1_0 p2))]))
              refine go (fun t k => XJ126.ldcInt hx hown (mvT hZ (hw _ (List.mem_of_getElem? (i := 0) rfl))) (g := (mkF m 142 #[.val (.int p1), .val (.int p2), .val (.int p3), .val (.int p4), .val (.int s0_11), .val (.int v5_37), .val (.int (b1_0 p2)), .val (.int v7_72), .val (.ref o5), .val (.int (b5_0 v7_72 s0_11 v5_37 (b1_0 p2))), .val (.long ((v7_72.toInt64) + (44 : Int64))), .second, .val (.int s0_126), .unset, .unset] [(.int (b1_0 p2))])) rfl (hb hby at_142) _ k) ?_
              show Gl _ _ _ _ _ _ _ _ (TJ126.setTop (mkF m 144 #[.val (.int p1), .val (.int p2), .val (.int p3), .val (.int p4), .val (.int s0_11), .val (.int v5_37), .val (.int (b1_0 p2)), .val (.int v7_72), .val (.ref o5), .val (.int (b5_0 v7_72 s0_11 v5_37 (b1_0 p2))), .val (.long ((v7_72.toInt64) + (44 : Int64))), .second, .val (.int s0_126), .unset, .unset] [(.int (65535 : Int32)), (.int (b1_0 p2))]))
              have J165 : ∀  (TJ165 : State) (lJ165 : List Loc) (XJ165 : Stand p l e room_1 s m #[(.int p1), (.int p2), (.int p3), (.int p4)] below meth c TJ165 lJ165 1 2) (eJ165 : TJ165.heap = h6) (NJ165 : Fr n0 lJ165), Gl p e below s n0 room_1.cells room_1.slots (Kv (some (.int (b0_165 p2 s0_11 v5_37 v7_72 s0_126))) (fun _ => True)) (TJ165.setTop (mkF m 165 #[.val (.int p1), .val (.int p2), .val (.int p3), .val (.int p4), .val (.int s0_11), .val (.int v5_37), .val (.int (b1_0 p2)), .val (.int v7_72), .val (.ref o5), .val (.int (b5_0 v7_72 s0_11 v5_37 (b1_0 p2))), .val (.long ((v7_72.toInt64) + (44 : Int64))), .second, .val (.int s0_126), .unset, .unset] [])) := by
                intro  TJ165 lJ165 XJ165 eJ165 NJ165
                show Gl _ _ _ _ _ _ _ (Kv (some (.int (b0_166 p2 s0_11 v5_37 v7_72 s0_126 (0 : Int32)))) _) _
                refine go (fun t k => XS.iconst XJ165.here hx rfl (hb hby at_165) k) ?_
                show Gl _ _ _ _ _ _ _ _ (TJ165.setTop (mkF m 166 #[.val (.int p1), .val (.int p2), .val (.int p3), .val (.int p4), .val (.int s0_11), .val (.int v5_37), .val (.int (b1_0 p2)), .val (.int v7_72), .val (.ref o5), .val (.int (b5_0 v7_72 s0_11 v5_37 (b1_0 p2))), .val (.long ((v7_72.toInt64) + (44 : Int64))), .second, .val (.int s0_126), .unset, .unset] [(.int (0 : Int32))]))
                exact J166 (0 : Int32) TJ165 _ XJ165 eJ165 NJ165
              refine gI (c := (b1_0 p2) = (65535 : Int32)) (fun hc144 => ?_) (fun hc144 => ?_)
              · refine go (fun t k => XS.icmpNo XJ126.here hx rfl (hb hby at_144) rfl (teq hc144).2 k) ?_
                show Gl _ _ _ _ _ _ _ _ (TJ126.setTop (mkF m 147 #[.val (.int p1), .val (.int p2), .val (.int p3), .val (.int p4), .val (.int s0_11), .val (.int v5_37), .val (.int (b1_0 p2)), .val (.int v7_72), .val (.ref o5), .val (.int (b5_0 v7_72 s0_11 v5_37 (b1_0 p2))), .val (.long ((v7_72.toInt64) + (44 : Int64))), .second, .val (.int s0_126), .unset, .unset] []))
                refine go (fun t k => XS.iload XJ126.here hx rfl (hb hby at_147) rfl  k) ?_
                show Gl _ _ _ _ _ _ _ _ (TJ126.setTop (mkF m 149 #[.val (.int p1), .val (.int p2), .val (.int p3), .val (.int p4), .val (.int s0_11), .val (.int v5_37), .val (.int (b1_0 p2)), .val (.int v7_72), .val (.ref o5), .val (.int (b5_0 v7_72 s0_11 v5_37 (b1_0 p2))), .val (.long ((v7_72.toInt64) + (44 : Int64))), .second, .val (.int s0_126), .unset, .unset] [(.int v5_37)]))
                refine go (fun t k => XS.i2l XJ126.here hx rfl (hb hby at_149) rfl k) ?_
                show Gl _ _ _ _ _ _ _ _ (TJ126.setTop (mkF m 150 #[.val (.int p1), .val (.int p2), .val (.int p3), .val (.int p4), .val (.int s0_11), .val (.int v5_37), .val (.int (b1_0 p2)), .val (.int v7_72), .val (.ref o5), .val (.int (b5_0 v7_72 s0_11 v5_37 (b1_0 p2))), .val (.long ((v7_72.toInt64) + (44 : Int64))), .second, .val (.int s0_126), .unset, .unset] [(.long (v5_37.toInt64))]))
                refine go (fun t k => XS.lload XJ126.here hx rfl (hb hby at_150) rfl  k) ?_
                show Gl _ _ _ _ _ _ _ _ (TJ126.setTop (mkF m 152 #[.val (.int p1), .val (.int p2), .val (.int p3), .val (.int p4), .val (.int s0_11), .val (.int v5_37), .val (.int (b1_0 p2)), .val (.int v7_72), .val (.ref o5), .val (.int (b5_0 v7_72 s0_11 v5_37 (b1_0 p2))), .val (.long ((v7_72.toInt64) + (44 : Int64))), .second, .val (.int s0_126), .unset, .unset] [(.long ((v7_72.toInt64) + (44 : Int64))), (.long (v5_37.toInt64))]))
                refine go (fun t k => XS.lcmp XJ126.here hx rfl (hb hby at_152) rfl k) ?_
                show Gl _ _ _ _ _ _ _ _ (TJ126.setTop (mkF m 153 #[.val (.int p1), .val (.int p2), .val (.int p3), .val (.int p4), .val (.int s0_11), .val (.int v5_37), .val (.int (b1_0 p2)), .val (.int v7_72), .val (.ref o5), .val (.int (b5_0 v7_72 s0_11 v5_37 (b1_0 p2))), .val (.long ((v7_72.toInt64) + (44 : Int64))), .second, .val (.int s0_126), .unset, .unset] [(.int (lcmpW (v5_37.toInt64) ((v7_72.toInt64) + (44 : Int64))))]))
                refine gI (c := (v5_37.toInt64) = ((v7_72.toInt64) + (44 : Int64))) (fun hc153 => ?_) (fun hc153 => ?_)
                · refine go (fun t k => XS.ifNo XJ126.here hx rfl (hb hby at_153) rfl ((if0 _ _).trans (teq ((lw_eq (v5_37.toInt64) ((v7_72.toInt64) + (44 : Int64))).mpr hc153)).2) k) ?_
                  show Gl _ _ _ _ _ _ _ _ (TJ126.setTop (mkF m 156 #[.val (.int p1), .val (.int p2), .val (.int p3), .val (.int p4), .val (.int s0_11), .val (.int v5_37), .val (.int (b1_0 p2)), .val (.int v7_72), .val (.ref o5), .val (.int (b5_0 v7_72 s0_11 v5_37 (b1_0 p2))), .val (.long ((v7_72.toInt64) + (44 : Int64))), .second, .val (.int s0_126), .unset, .unset] []))
                  refine go (fun t k => XS.iload XJ126.here hx rfl (hb hby at_156) rfl  k) ?_
                  show Gl _ _ _ _ _ _ _ _ (TJ126.setTop (mkF m 158 #[.val (.int p1), .val (.int p2), .val (.int p3), .val (.int p4), .val (.int s0_11), .val (.int v5_37), .val (.int (b1_0 p2)), .val (.int v7_72), .val (.ref o5), .val (.int (b5_0 v7_72 s0_11 v5_37 (b1_0 p2))), .val (.long ((v7_72.toInt64) + (44 : Int64))), .second, .val (.int s0_126), .unset, .unset] [(.int s0_11)]))
                  refine gI (c := s0_11 = (0 : Int32)) (fun hc158 => ?_) (fun hc158 => ?_)
                  · refine go (fun t k => XS.ifYes XJ126.here hx rfl (pc0 := 158) (pc' := 165) rfl (hb hby at_158) rfl ((if0 _ _).trans (teq hc158).1) (by decide) (by decide) k) ?_
                    show Gl _ _ _ _ _ _ _ _ (TJ126.setTop (mkF m 165 #[.val (.int p1), .val (.int p2), .val (.int p3), .val (.int p4), .val (.int s0_11), .val (.int v5_37), .val (.int (b1_0 p2)), .val (.int v7_72), .val (.ref o5), .val (.int (b5_0 v7_72 s0_11 v5_37 (b1_0 p2))), .val (.long ((v7_72.toInt64) + (44 : Int64))), .second, .val (.int s0_126), .unset, .unset] []))
                    exact J165  TJ126 _ XJ126 eJ126 NJ126
                  · refine go (fun t k => XS.ifNo XJ126.here hx rfl (hb hby at_158) rfl ((if0 _ _).trans (feq hc158).1) k) ?_
                    show Gl _ _ _ _ _ _ _ _ (TJ126.setTop (mkF m 161 #[.val (.int p1), .val (.int p2), .val (.int p3), .val (.int p4), .val (.int s0_11), .val (.int v5_37), .val (.int (b1_0 p2)), .val (.int v7_72), .val (.ref o5), .val (.int (b5_0 v7_72 s0_11 v5_37 (b1_0 p2))), .val (.long ((v7_72.toInt64) + (44 : Int64))), .second, .val (.int s0_126), .unset, .unset] []))
                    exact J161  TJ126 _ XJ126 eJ126 NJ126
                · refine go (fun t k => XS.ifYes XJ126.here hx rfl (pc0 := 153) (pc' := 165) rfl (hb hby at_153) rfl ((if0 _ _).trans (feq (mt (lw_eq (v5_37.toInt64) ((v7_72.toInt64) + (44 : Int64))).mp hc153)).2) (by decide) (by decide) k) ?_
                  show Gl _ _ _ _ _ _ _ _ (TJ126.setTop (mkF m 165 #[.val (.int p1), .val (.int p2), .val (.int p3), .val (.int p4), .val (.int s0_11), .val (.int v5_37), .val (.int (b1_0 p2)), .val (.int v7_72), .val (.ref o5), .val (.int (b5_0 v7_72 s0_11 v5_37 (b1_0 p2))), .val (.long ((v7_72.toInt64) + (44 : Int64))), .second, .val (.int s0_126), .unset, .unset] []))
                  exact J165  TJ126 _ XJ126 eJ126 NJ126
              · refine go (fun t k => XS.icmpYes XJ126.here hx rfl (pc0 := 144) (pc' := 165) rfl (hb hby at_144) rfl (feq hc144).2 (by decide) (by decide) k) ?_
                show Gl _ _ _ _ _ _ _ _ (TJ126.setTop (mkF m 165 #[.val (.int p1), .val (.int p2), .val (.int p3), .val (.int p4), .val (.int s0_11), .val (.int v5_37), .val (.int (b1_0 p2)), .val (.int v7_72), .val (.ref o5), .val (.int (b5_0 v7_72 s0_11 v5_37 (b1_0 p2))), .val (.long ((v7_72.toInt64) + (44 : Int64))), .second, .val (.int s0_126), .unset, .unset] []))
                exact J165  TJ126 _ XJ126 eJ126 NJ126
        have J125 : ∀  (TJ125 : State) (lJ125 : List Loc) (XJ125 : Stand p l e room_1 s m #[(.int p1), (.int p2), (.int p3), (.int p4)] below meth c TJ125 lJ125 1 2) (eJ125 : TJ125.heap = h6) (NJ125 : Fr n0 lJ125), Gl p e below s n0 room_1.cells room_1.slots (Kv (some (.int (b0_125 p2 s0_11 v5_37 v7_72))) (fun _ => True)) (TJ125.setTop (mkF m 125 #[.val (.int p1), .val (.int p2), .val (.int p3), .val (.int p4), .val (.int s0_11), .val (.int v5_37), .val (.int (b1_0 p2)), .val (.int v7_72), .val (.ref o5), .val (.int (b5_0 v7_72 s0_11 v5_37 (b1_0 p2))), .val (.long ((v7_72.toInt64) + (44 : Int64))), .second, .unset, .unset, .unset] [])) := by
          intro  TJ125 lJ125 XJ125 eJ125 NJ125
          show Gl _ _ _ _ _ _ _ (Kv (some (.int (b0_126 p2 s0_11 v5_37 v7_72 (0 : Int32)))) _) _
          refine go (fun t k => XS.iconst XJ125.here hx rfl (hb hby at_125) k) ?_
          show Gl _ _ _ _ _ _ _ _ (TJ125.setTop (mkF m 126 #[.val (.int p1), .val (.int p2), .val (.int p3), .val (.int p4), .val (.int s0_11), .val (.int v5_37), .val (.int (b1_0 p2)), .val (.int v7_72), .val (.ref o5), .val (.int (b5_0 v7_72 s0_11 v5_37 (b1_0 p2))), .val (.long ((v7_72.toInt64) + (44 : Int64))), .second, .unset, .unset, .unset] [(.int (0 : Int32))]))
          exact J126 (0 : Int32) TJ125 _ XJ125 eJ125 NJ125
        refine gI (c := v5_37 < (45 : Int32)) (fun hc109 => ?_) (fun hc109 => ?_)
        · refine go (fun t k => XS.icmpYes X7.here hx rfl (pc0 := 109) (pc' := 125) rfl (hb hby at_109) rfl (tlt hc109).1 (by decide) (by decide) k) ?_
          show Gl _ _ _ _ _ _ _ _ (T7.setTop (mkF m 125 #[.val (.int p1), .val (.int p2), .val (.int p3), .val (.int p4), .val (.int s0_11), .val (.int v5_37), .val (.int (b1_0 p2)), .val (.int v7_72), .val (.ref o5), .val (.int (b5_0 v7_72 s0_11 v5_37 (b1_0 p2))), .val (.long ((v7_72.toInt64) + (44 : Int64))), .second, .unset, .unset, .unset] []))
          exact J125  T7 _ X7 e7 N7
        · refine go (fun t k => XS.icmpNo X7.here hx rfl (hb hby at_109) rfl (flt hc109).1 k) ?_
          show Gl _ _ _ _ _ _ _ _ (T7.setTop (mkF m 112 #[.val (.int p1), .val (.int p2), .val (.int p3), .val (.int p4), .val (.int s0_11), .val (.int v5_37), .val (.int (b1_0 p2)), .val (.int v7_72), .val (.ref o5), .val (.int (b5_0 v7_72 s0_11 v5_37 (b1_0 p2))), .val (.long ((v7_72.toInt64) + (44 : Int64))), .second, .unset, .unset, .unset] []))
          refine go (fun t k => XS.iload X7.here hx rfl (hb hby at_112) rfl  k) ?_
          show Gl _ _ _ _ _ _ _ _ (T7.setTop (mkF m 114 #[.val (.int p1), .val (.int p2), .val (.int p3), .val (.int p4), .val (.int s0_11), .val (.int v5_37), .val (.int (b1_0 p2)), .val (.int v7_72), .val (.ref o5), .val (.int (b5_0 v7_72 s0_11 v5_37 (b1_0 p2))), .val (.long ((v7_72.toInt64) + (44 : Int64))), .second, .unset, .unset, .unset] [(.int v5_37)]))
          refine go (fun t k => XS.i2l X7.here hx rfl (hb hby at_114) rfl k) ?_
          show Gl _ _ _ _ _ _ _ _ (T7.setTop (mkF m 115 #[.val (.int p1), .val (.int p2), .val (.int p3), .val (.int p4), .val (.int s0_11), .val (.int v5_37), .val (.int (b1_0 p2)), .val (.int v7_72), .val (.ref o5), .val (.int (b5_0 v7_72 s0_11 v5_37 (b1_0 p2))), .val (.long ((v7_72.toInt64) + (44 : Int64))), .second, .unset, .unset, .unset] [(.long (v5_37.toInt64))]))
          refine go (fun t k => XS.lload X7.here hx rfl (hb hby at_115) rfl  k) ?_
          show Gl _ _ _ _ _ _ _ _ (T7.setTop (mkF m 117 #[.val (.int p1), .val (.int p2), .val (.int p3), .val (.int p4), .val (.int s0_11), .val (.int v5_37), .val (.int (b1_0 p2)), .val (.int v7_72), .val (.ref o5), .val (.int (b5_0 v7_72 s0_11 v5_37 (b1_0 p2))), .val (.long ((v7_72.toInt64) + (44 : Int64))), .second, .unset, .unset, .unset] [(.long ((v7_72.toInt64) + (44 : Int64))), (.long (v5_37.toInt64))]))
          refine go (fun t k => XS.lcmp X7.here hx rfl (hb hby at_117) rfl k) ?_
          show Gl _ _ _ _ _ _ _ _ (T7.setTop (mkF m 118 #[.val (.int p1), .val (.int p2), .val (.int p3), .val (.int p4), .val (.int s0_11), .val (.int v5_37), .val (.int (b1_0 p2)), .val (.int v7_72), .val (.ref o5), .val (.int (b5_0 v7_72 s0_11 v5_37 (b1_0 p2))), .val (.long ((v7_72.toInt64) + (44 : Int64))), .second, .unset, .unset, .unset] [(.int (lcmpW (v5_37.toInt64) ((v7_72.toInt64) + (44 : Int64))))]))
          refine gI (c := ((v7_72.toInt64) + (44 : Int64)) < (v5_37.toInt64)) (fun hc118 => ?_) (fun hc118 => ?_)
          · refine go (fun t k => XS.ifYes X7.here hx rfl (pc0 := 118) (pc' := 125) rfl (hb hby at_118) rfl ((if0 _ _).trans (tlt ((lw_gt (v5_37.toInt64) ((v7_72.toInt64) + (44 : Int64))).mpr hc118)).2.2.1) (by decide) (by decide) k) ?_
            show Gl _ _ _ _ _ _ _ _ (T7.setTop (mkF m 125 #[.val (.int p1), .val (.int p2), .val (.int p3), .val (.int p4), .val (.int s0_11), .val (.int v5_37), .val (.int (b1_0 p2)), .val (.int v7_72), .val (.ref o5), .val (.int (b5_0 v7_72 s0_11 v5_37 (b1_0 p2))), .val (.long ((v7_72.toInt64) + (44 : Int64))), .second, .unset, .unset, .unset] []))
            exact J125  T7 _ X7 e7 N7
          · refine go (fun t k => XS.ifNo X7.here hx rfl (hb hby at_118) rfl ((if0 _ _).trans (flt (mt (lw_gt (v5_37.toInt64) ((v7_72.toInt64) + (44 : Int64))).mp hc118)).2.2.1) k) ?_
            show Gl _ _ _ _ _ _ _ _ (T7.setTop (mkF m 121 #[.val (.int p1), .val (.int p2), .val (.int p3), .val (.int p4), .val (.int s0_11), .val (.int v5_37), .val (.int (b1_0 p2)), .val (.int v7_72), .val (.ref o5), .val (.int (b5_0 v7_72 s0_11 v5_37 (b1_0 p2))), .val (.long ((v7_72.toInt64) + (44 : Int64))), .second, .unset, .unset, .unset] []))
            refine go (fun t k => XS.iconst X7.here hx rfl (hb hby at_121) k) ?_
            show Gl _ _ _ _ _ _ _ _ (T7.setTop (mkF m 122 #[.val (.int p1), .val (.int p2), .val (.int p3), .val (.int p4), .val (.int s0_11), .val (.int v5_37), .val (.int (b1_0 p2)), .val (.int v7_72), .val (.ref o5), .val (.int (b5_0 v7_72 s0_11 v5_37 (b1_0 p2))), .val (.long ((v7_72.toInt64) + (44 : Int64))), .second, .unset, .unset, .unset] [(.int (1 : Int32))]))
            refine go (fun t k => XS.goto X7.here hx rfl (pc0 := 122) (pc' := 126) rfl (hb hby at_122) (by decide) (by decide) k) ?_
            show Gl _ _ _ _ _ _ _ _ (T7.setTop (mkF m 126 #[.val (.int p1), .val (.int p2), .val (.int p3), .val (.int p4), .val (.int s0_11), .val (.int v5_37), .val (.int (b1_0 p2)), .val (.int v7_72), .val (.ref o5), .val (.int (b5_0 v7_72 s0_11 v5_37 (b1_0 p2))), .val (.long ((v7_72.toInt64) + (44 : Int64))), .second, .unset, .unset, .unset] [(.int (1 : Int32))]))
            exact J126 (1 : Int32) T7 _ X7 e7 N7
      refine gI (c := (p4 &&& (4 : Int32)) = (0 : Int32)) (fun hc46 => ?_) (fun hc46 => ?_)
      · refine go (fun t k => XS.ifYes X3.here hx rfl (pc0 := 46) (pc' := 66) rfl (hb hby at_46) rfl ((if0 _ _).trans (teq hc46).1) (by decide) (by decide) k) ?_
        show Gl _ _ _ _ _ _ _ _ (T3.setTop (mkF m 66 #[.val (.int p1), .val (.int p2), .val (.int p3), .val (.int p4), .val (.int s0_11), .val (.int v5_37), .val (.int (b1_0 p2)), .unset, .unset, .unset, .unset, .unset, .unset, .unset, .unset] []))
        refine go (fun t k => XS.iloadN X3.here hx rfl (hb hby at_66) rfl  k) ?_
        show Gl _ _ _ _ _ _ _ _ (T3.setTop (mkF m 67 #[.val (.int p1), .val (.int p2), .val (.int p3), .val (.int p4), .val (.int s0_11), .val (.int v5_37), .val (.int (b1_0 p2)), .unset, .unset, .unset, .unset, .unset, .unset, .unset, .unset] [(.int p3)]))
        refine go (fun t k => X3.ldcInt hx hown (mvT hZ (hw _ (List.mem_of_getElem? (i := 5) rfl))) (g := (mkF m 67 #[.val (.int p1), .val (.int p2), .val (.int p3), .val (.int p4), .val (.int s0_11), .val (.int v5_37), .val (.int (b1_0 p2)), .unset, .unset, .unset, .unset, .unset, .unset, .unset, .unset] [(.int p3)])) rfl (hb hby at_67) _ k) ?_
        show Gl _ _ _ _ _ _ _ _ (T3.setTop (mkF m 69 #[.val (.int p1), .val (.int p2), .val (.int p3), .val (.int p4), .val (.int s0_11), .val (.int v5_37), .val (.int (b1_0 p2)), .unset, .unset, .unset, .unset, .unset, .unset, .unset, .unset] [(.int (100000 : Int32)), (.int p3)]))
        refine go (fun t k => iremM X3 hx rfl (hb hby at_69) rfl (by decide) k) ?_
        show Gl _ _ _ _ _ _ _ _ (T3.setTop (mkF m 70 #[.val (.int p1), .val (.int p2), .val (.int p3), .val (.int p4), .val (.int s0_11), .val (.int v5_37), .val (.int (b1_0 p2)), .unset, .unset, .unset, .unset, .unset, .unset, .unset, .unset] [(.int (p3 % (100000 : Int32)))]))
        refine go (fun t k => XS.istore X3.here hx rfl (hb hby at_70) rfl (l' := #[.val (.int p1), .val (.int p2), .val (.int p3), .val (.int p4), .val (.int s0_11), .val (.int v5_37), .val (.int (b1_0 p2)), .val (.int (p3 % (100000 : Int32))), .unset, .unset, .unset, .unset, .unset, .unset, .unset]) rfl k) ?_
        show Gl _ _ _ _ _ _ _ _ (T3.setTop (mkF m 72 #[.val (.int p1), .val (.int p2), .val (.int p3), .val (.int p4), .val (.int s0_11), .val (.int v5_37), .val (.int (b1_0 p2)), .val (.int (p3 % (100000 : Int32))), .unset, .unset, .unset, .unset, .unset, .unset, .unset] []))
        exact J72 (p3 % (100000 : Int32)) T3 _ X3 e3 N3
      · refine go (fun t k => XS.ifNo X3.here hx rfl (hb hby at_46) rfl ((if0 _ _).trans (feq hc46).1) k) ?_
        show Gl _ _ _ _ _ _ _ _ (T3.setTop (mkF m 49 #[.val (.int p1), .val (.int p2), .val (.int p3), .val (.int p4), .val (.int s0_11), .val (.int v5_37), .val (.int (b1_0 p2)), .unset, .unset, .unset, .unset, .unset, .unset, .unset, .unset] []))
        refine go (fun t k => XS.iload X3.here hx rfl (hb hby at_49) rfl  k) ?_
        show Gl _ _ _ _ _ _ _ _ (T3.setTop (mkF m 51 #[.val (.int p1), .val (.int p2), .val (.int p3), .val (.int p4), .val (.int s0_11), .val (.int v5_37), .val (.int (b1_0 p2)), .unset, .unset, .unset, .unset, .unset, .unset, .unset, .unset] [(.int v5_37)]))
        refine go (fun t k => XS.bipush X3.here hx rfl (hb hby at_51) k) ?_
        show Gl _ _ _ _ _ _ _ _ (T3.setTop (mkF m 53 #[.val (.int p1), .val (.int p2), .val (.int p3), .val (.int p4), .val (.int s0_11), .val (.int v5_37), .val (.int (b1_0 p2)), .unset, .unset, .unset, .unset, .unset, .unset, .unset, .unset] [(.int (44 : Int32)), (.int v5_37)]))
        refine go (fun t k => XS.isub X3.here hx rfl (hb hby at_53) rfl k) ?_
        show Gl _ _ _ _ _ _ _ _ (T3.setTop (mkF m 54 #[.val (.int p1), .val (.int p2), .val (.int p3), .val (.int p4), .val (.int s0_11), .val (.int v5_37), .val (.int (b1_0 p2)), .unset, .unset, .unset, .unset, .unset, .unset, .unset, .unset] [(.int (v5_37 - (44 : Int32)))]))
        refine go (fun t k => XS.iloadN X3.here hx rfl (hb hby at_54) rfl  k) ?_
        show Gl _ _ _ _ _ _ _ _ (T3.setTop (mkF m 55 #[.val (.int p1), .val (.int p2), .val (.int p3), .val (.int p4), .val (.int s0_11), .val (.int v5_37), .val (.int (b1_0 p2)), .unset, .unset, .unset, .unset, .unset, .unset, .unset, .unset] [(.int p3), (.int (v5_37 - (44 : Int32)))]))
        refine go (fun t k => XS.bipush X3.here hx rfl (hb hby at_55) k) ?_
        show Gl _ _ _ _ _ _ _ _ (T3.setTop (mkF m 57 #[.val (.int p1), .val (.int p2), .val (.int p3), .val (.int p4), .val (.int s0_11), .val (.int v5_37), .val (.int (b1_0 p2)), .unset, .unset, .unset, .unset, .unset, .unset, .unset, .unset] [(.int (7 : Int32)), (.int p3), (.int (v5_37 - (44 : Int32)))]))
        refine go (fun t k => XS.iand X3.here hx rfl (hb hby at_57) rfl k) ?_
        show Gl _ _ _ _ _ _ _ _ (T3.setTop (mkF m 58 #[.val (.int p1), .val (.int p2), .val (.int p3), .val (.int p4), .val (.int s0_11), .val (.int v5_37), .val (.int (b1_0 p2)), .unset, .unset, .unset, .unset, .unset, .unset, .unset, .unset] [(.int (p3 &&& (7 : Int32))), (.int (v5_37 - (44 : Int32)))]))
        refine go (fun t k => XS.iconst X3.here hx rfl (hb hby at_58) k) ?_
        show Gl _ _ _ _ _ _ _ _ (T3.setTop (mkF m 59 #[.val (.int p1), .val (.int p2), .val (.int p3), .val (.int p4), .val (.int s0_11), .val (.int v5_37), .val (.int (b1_0 p2)), .unset, .unset, .unset, .unset, .unset, .unset, .unset, .unset] [(.int (4 : Int32)), (.int (p3 &&& (7 : Int32))), (.int (v5_37 - (44 : Int32)))]))
        refine go (fun t k => XS.isub X3.here hx rfl (hb hby at_59) rfl k) ?_
        show Gl _ _ _ _ _ _ _ _ (T3.setTop (mkF m 60 #[.val (.int p1), .val (.int p2), .val (.int p3), .val (.int p4), .val (.int s0_11), .val (.int v5_37), .val (.int (b1_0 p2)), .unset, .unset, .unset, .unset, .unset, .unset, .unset, .unset] [(.int ((p3 &&& (7 : Int32)) - (4 : Int32))), (.int (v5_37 - (44 : Int32)))]))
        refine go (fun t k => XS.iadd X3.here hx rfl (hb hby at_60) rfl k) ?_
        show Gl _ _ _ _ _ _ _ _ (T3.setTop (mkF m 61 #[.val (.int p1), .val (.int p2), .val (.int p3), .val (.int p4), .val (.int s0_11), .val (.int v5_37), .val (.int (b1_0 p2)), .unset, .unset, .unset, .unset, .unset, .unset, .unset, .unset] [(.int ((v5_37 - (44 : Int32)) + ((p3 &&& (7 : Int32)) - (4 : Int32))))]))
        refine go (fun t k => XS.istore X3.here hx rfl (hb hby at_61) rfl (l' := #[.val (.int p1), .val (.int p2), .val (.int p3), .val (.int p4), .val (.int s0_11), .val (.int v5_37), .val (.int (b1_0 p2)), .val (.int ((v5_37 - (44 : Int32)) + ((p3 &&& (7 : Int32)) - (4 : Int32)))), .unset, .unset, .unset, .unset, .unset, .unset, .unset]) rfl k) ?_
        show Gl _ _ _ _ _ _ _ _ (T3.setTop (mkF m 63 #[.val (.int p1), .val (.int p2), .val (.int p3), .val (.int p4), .val (.int s0_11), .val (.int v5_37), .val (.int (b1_0 p2)), .val (.int ((v5_37 - (44 : Int32)) + ((p3 &&& (7 : Int32)) - (4 : Int32)))), .unset, .unset, .unset, .unset, .unset, .unset, .unset] []))
        refine go (fun t k => XS.goto X3.here hx rfl (pc0 := 63) (pc' := 72) rfl (hb hby at_63) (by decide) (by decide) k) ?_
        show Gl _ _ _ _ _ _ _ _ (T3.setTop (mkF m 72 #[.val (.int p1), .val (.int p2), .val (.int p3), .val (.int p4), .val (.int s0_11), .val (.int v5_37), .val (.int (b1_0 p2)), .val (.int ((v5_37 - (44 : Int32)) + ((p3 &&& (7 : Int32)) - (4 : Int32)))), .unset, .unset, .unset, .unset, .unset, .unset, .unset] []))
        exact J72 ((v5_37 - (44 : Int32)) + ((p3 &&& (7 : Int32)) - (4 : Int32))) T3 _ X3 e3 N3
    refine gI (c := (p4 &&& (2 : Int32)) = (0 : Int32)) (fun hc16 => ?_) (fun hc16 => ?_)
    · refine go (fun t k => XS.ifYes XJ11.here hx rfl (pc0 := 16) (pc' := 31) rfl (hb hby at_16) rfl ((if0 _ _).trans (teq hc16).1) (by decide) (by decide) k) ?_
      show Gl _ _ _ _ _ _ _ _ (TJ11.setTop (mkF m 31 #[.val (.int p1), .val (.int p2), .val (.int p3), .val (.int p4), .val (.int s0_11), .unset, .unset, .unset, .unset, .unset, .unset, .unset, .unset, .unset, .unset] []))
      refine go (fun t k => XS.iloadN XJ11.here hx rfl (hb hby at_31) rfl  k) ?_
      show Gl _ _ _ _ _ _ _ _ (TJ11.setTop (mkF m 32 #[.val (.int p1), .val (.int p2), .val (.int p3), .val (.int p4), .val (.int s0_11), .unset, .unset, .unset, .unset, .unset, .unset, .unset, .unset, .unset, .unset] [(.int p1)]))
      refine go (fun t k => XJ11.ldcInt hx hown (mvT hZ (hw _ (List.mem_of_getElem? (i := 0) rfl))) (g := (mkF m 32 #[.val (.int p1), .val (.int p2), .val (.int p3), .val (.int p4), .val (.int s0_11), .unset, .unset, .unset, .unset, .unset, .unset, .unset, .unset, .unset, .unset] [(.int p1)])) rfl (hb hby at_32) _ k) ?_
      show Gl _ _ _ _ _ _ _ _ (TJ11.setTop (mkF m 34 #[.val (.int p1), .val (.int p2), .val (.int p3), .val (.int p4), .val (.int s0_11), .unset, .unset, .unset, .unset, .unset, .unset, .unset, .unset, .unset, .unset] [(.int (65535 : Int32)), (.int p1)]))
      refine go (fun t k => XS.iand XJ11.here hx rfl (hb hby at_34) rfl k) ?_
      show Gl _ _ _ _ _ _ _ _ (TJ11.setTop (mkF m 35 #[.val (.int p1), .val (.int p2), .val (.int p3), .val (.int p4), .val (.int s0_11), .unset, .unset, .unset, .unset, .unset, .unset, .unset, .unset, .unset, .unset] [(.int (p1 &&& (65535 : Int32)))]))
      refine go (fun t k => XS.istore XJ11.here hx rfl (hb hby at_35) rfl (l' := #[.val (.int p1), .val (.int p2), .val (.int p3), .val (.int p4), .val (.int s0_11), .val (.int (p1 &&& (65535 : Int32))), .unset, .unset, .unset, .unset, .unset, .unset, .unset, .unset, .unset]) rfl k) ?_
      show Gl _ _ _ _ _ _ _ _ (TJ11.setTop (mkF m 37 #[.val (.int p1), .val (.int p2), .val (.int p3), .val (.int p4), .val (.int s0_11), .val (.int (p1 &&& (65535 : Int32))), .unset, .unset, .unset, .unset, .unset, .unset, .unset, .unset, .unset] []))
      exact J37 (p1 &&& (65535 : Int32)) (own_m1 _) TJ11 _ XJ11 eJ11 NJ11
    · refine go (fun t k => XS.ifNo XJ11.here hx rfl (hb hby at_16) rfl ((if0 _ _).trans (feq hc16).1) k) ?_
      show Gl _ _ _ _ _ _ _ _ (TJ11.setTop (mkF m 19 #[.val (.int p1), .val (.int p2), .val (.int p3), .val (.int p4), .val (.int s0_11), .unset, .unset, .unset, .unset, .unset, .unset, .unset, .unset, .unset, .unset] []))
      refine go (fun t k => XS.bipush XJ11.here hx rfl (hb hby at_19) k) ?_
      show Gl _ _ _ _ _ _ _ _ (TJ11.setTop (mkF m 21 #[.val (.int p1), .val (.int p2), .val (.int p3), .val (.int p4), .val (.int s0_11), .unset, .unset, .unset, .unset, .unset, .unset, .unset, .unset, .unset, .unset] [(.int (44 : Int32))]))
      refine go (fun t k => XS.iloadN XJ11.here hx rfl (hb hby at_21) rfl  k) ?_
      show Gl _ _ _ _ _ _ _ _ (TJ11.setTop (mkF m 22 #[.val (.int p1), .val (.int p2), .val (.int p3), .val (.int p4), .val (.int s0_11), .unset, .unset, .unset, .unset, .unset, .unset, .unset, .unset, .unset, .unset] [(.int p1), (.int (44 : Int32))]))
      refine go (fun t k => XS.bipush XJ11.here hx rfl (hb hby at_22) k) ?_
      show Gl _ _ _ _ _ _ _ _ (TJ11.setTop (mkF m 24 #[.val (.int p1), .val (.int p2), .val (.int p3), .val (.int p4), .val (.int s0_11), .unset, .unset, .unset, .unset, .unset, .unset, .unset, .unset, .unset, .unset] [(.int (15 : Int32)), (.int p1), (.int (44 : Int32))]))
      refine go (fun t k => XS.iand XJ11.here hx rfl (hb hby at_24) rfl k) ?_
      show Gl _ _ _ _ _ _ _ _ (TJ11.setTop (mkF m 25 #[.val (.int p1), .val (.int p2), .val (.int p3), .val (.int p4), .val (.int s0_11), .unset, .unset, .unset, .unset, .unset, .unset, .unset, .unset, .unset, .unset] [(.int (p1 &&& (15 : Int32))), (.int (44 : Int32))]))
      refine go (fun t k => XS.iadd XJ11.here hx rfl (hb hby at_25) rfl k) ?_
      show Gl _ _ _ _ _ _ _ _ (TJ11.setTop (mkF m 26 #[.val (.int p1), .val (.int p2), .val (.int p3), .val (.int p4), .val (.int s0_11), .unset, .unset, .unset, .unset, .unset, .unset, .unset, .unset, .unset, .unset] [(.int ((44 : Int32) + (p1 &&& (15 : Int32))))]))
      refine go (fun t k => XS.istore XJ11.here hx rfl (hb hby at_26) rfl (l' := #[.val (.int p1), .val (.int p2), .val (.int p3), .val (.int p4), .val (.int s0_11), .val (.int ((44 : Int32) + (p1 &&& (15 : Int32)))), .unset, .unset, .unset, .unset, .unset, .unset, .unset, .unset, .unset]) rfl k) ?_
      show Gl _ _ _ _ _ _ _ _ (TJ11.setTop (mkF m 28 #[.val (.int p1), .val (.int p2), .val (.int p3), .val (.int p4), .val (.int s0_11), .val (.int ((44 : Int32) + (p1 &&& (15 : Int32)))), .unset, .unset, .unset, .unset, .unset, .unset, .unset, .unset, .unset] []))
      refine go (fun t k => XS.goto XJ11.here hx rfl (pc0 := 28) (pc' := 37) rfl (hb hby at_28) (by decide) (by decide) k) ?_
      show Gl _ _ _ _ _ _ _ _ (TJ11.setTop (mkF m 37 #[.val (.int p1), .val (.int p2), .val (.int p3), .val (.int p4), .val (.int s0_11), .val (.int ((44 : Int32) + (p1 &&& (15 : Int32)))), .unset, .unset, .unset, .unset, .unset, .unset, .unset, .unset, .unset] []))
      exact J37 ((44 : Int32) + (p1 &&& (15 : Int32))) (own_m2 _) TJ11 _ XJ11 eJ11 NJ11
  refine gI (c := (p4 &&& (1 : Int32)) = (0 : Int32)) (fun hc3 => ?_) (fun hc3 => ?_)
  · refine go (fun t k => XS.ifYes X0.here hx rfl (pc0 := 3) (pc' := 10) rfl (hb hby at_3) rfl ((if0 _ _).trans (teq hc3).1) (by decide) (by decide) k) ?_
    show Gl _ _ _ _ _ _ _ _ (s₁.setTop (mkF m 10 #[.val (.int p1), .val (.int p2), .val (.int p3), .val (.int p4), .unset, .unset, .unset, .unset, .unset, .unset, .unset, .unset, .unset, .unset, .unset] []))
    refine go (fun t k => XS.iconst X0.here hx rfl (hb hby at_10) k) ?_
    show Gl _ _ _ _ _ _ _ _ (s₁.setTop (mkF m 11 #[.val (.int p1), .val (.int p2), .val (.int p3), .val (.int p4), .unset, .unset, .unset, .unset, .unset, .unset, .unset, .unset, .unset, .unset, .unset] [(.int (0 : Int32))]))
    exact J11 (0 : Int32) s₁ _ X0 e0 N0
  · refine go (fun t k => XS.ifNo X0.here hx rfl (hb hby at_3) rfl ((if0 _ _).trans (feq hc3).1) k) ?_
    show Gl _ _ _ _ _ _ _ _ (s₁.setTop (mkF m 6 #[.val (.int p1), .val (.int p2), .val (.int p3), .val (.int p4), .unset, .unset, .unset, .unset, .unset, .unset, .unset, .unset, .unset, .unset, .unset] []))
    refine go (fun t k => XS.iconst X0.here hx rfl (hb hby at_6) k) ?_
    show Gl _ _ _ _ _ _ _ _ (s₁.setTop (mkF m 7 #[.val (.int p1), .val (.int p2), .val (.int p3), .val (.int p4), .unset, .unset, .unset, .unset, .unset, .unset, .unset, .unset, .unset, .unset, .unset] [(.int (1 : Int32))]))
    refine go (fun t k => XS.goto X0.here hx rfl (pc0 := 7) (pc' := 11) rfl (hb hby at_7) (by decide) (by decide) k) ?_
    show Gl _ _ _ _ _ _ _ _ (s₁.setTop (mkF m 11 #[.val (.int p1), .val (.int p2), .val (.int p3), .val (.int p4), .unset, .unset, .unset, .unset, .unset, .unset, .unset, .unset, .unset, .unset, .unset] [(.int (1 : Int32))]))
    exact J11 (1 : Int32) s₁ _ X0 e0 N0
theorem own_sup (v7 s0 v5 n : Int32) (h1 : -2 ^ 31 ≤ v7.toInt + 44) (h2 : v7.toInt + 44 < 2 ^ 31) :
    b5_0 v7 s0 v5 n = if 45 ≤ v5.toInt ∧ v5.toInt ≤ v7.toInt + 44 ∧ (v5.toInt < 56 ∨ n = 0 ∨ (n = 65535 ∧ v5.toInt = v7.toInt + 44 ∧ ¬ s0 = 0)) then 1 else 0 := by
  have e : (v7 + 44).toInt = v7.toInt + 44 := Jvm.Kit.i32_add h1 h2
  have k1 : b5_22 = 0 := rfl
  have k2 : b5_88 1 = 1 := rfl
  have k3 : b5_68 = 0 := rfl
  have k4 : b5_69 1 = 1 := rfl
  have k5 : b5_86 1 = 1 := rfl
  have k6 : b5_86 0 = 0 := rfl
  have z : ¬ ((65535 : Int32) = 0) := by decide
  have t1 : v5 < 45 ↔ v5.toInt < 45 := by rw [Int32.lt_iff_toInt_lt]; rfl
  have t2 : v5 < 56 ↔ v5.toInt < 56 := by rw [Int32.lt_iff_toInt_lt]; rfl
  have t3 : v7 + 44 < v5 ↔ v7.toInt + 44 < v5.toInt := by rw [Int32.lt_iff_toInt_lt, e]
  have t4 : v5 = v7 + 44 ↔ v5.toInt = v7.toInt + 44 := by rw [← Int32.toInt_inj, e]
  unfold b5_0
  simp only [k1, k2, k3, k4, k5, k6, t1, t2, t3, t4]
  by_cases n1 : n = 65535
  · subst n1
    simp only [z, if_true, false_or, true_and]
    by_cases hs : s0 = 0
    · simp only [hs, if_true, not_true, and_false, or_false]
      (repeat' split) <;> first | rfl | (exfalso; omega)
    · simp only [hs, if_false, not_false_eq_true, and_true]
      (repeat' split) <;> first | rfl | (exfalso; omega)
  · by_cases n0 : n = 0
    · subst n0
      simp only [if_true, n1, if_false, true_or, or_true, and_true]
      (repeat' split) <;> first | rfl | (exfalso; omega)
    · simp only [n1, n0, if_false, false_and, or_false]
      (repeat' split) <;> first | rfl | (exfalso; omega)
theorem own_end (p2 s0 v5 v7 : Int32) (h1 : -2 ^ 31 ≤ v7.toInt + 44) (h2 : v7.toInt + 44 < 2 ^ 31) : b0_72 p2 s0 v5 v7 = 1 := by
  have a5 := Jvm.Kit.i64_of_i32 v5
  have a7 := Jvm.Kit.i64_of_i32 v7
  have e : (v7.toInt64 + 44).toInt = v7.toInt + 44 := by
    rw [Jvm.Kit.i64_add (by rw [a7]; simp only [Int64.reduceToInt]; omega) (by rw [a7]; simp only [Int64.reduceToInt]; omega), a7]; rfl
  have t1 : v5 < 45 ↔ v5.toInt < 45 := by rw [Int32.lt_iff_toInt_lt]; rfl
  have t2 : v5 < 56 ↔ v5.toInt < 56 := by rw [Int32.lt_iff_toInt_lt]; rfl
  have t3 : v7.toInt64 + 44 < v5.toInt64 ↔ v7.toInt + 44 < v5.toInt := by rw [Int64.lt_iff_toInt_lt, e, a5]
  have t4 : v5.toInt64 = v7.toInt64 + 44 ↔ v5.toInt = v7.toInt + 44 := by rw [← Int64.toInt_inj, e, a5]
  have k0 : b0_197 0 = 0 := rfl
  have k1 : b0_197 1 = 1 := rfl
  have z10 : ¬ ((1 : Int32) = 0) := by decide
  have z01 : ¬ ((0 : Int32) = 1) := by decide
  have z : ¬ ((65535 : Int32) = 0) := by decide
  unfold b0_72 b0_125 b0_126 b0_161 b0_165 b0_166 b0_182 b0_183
  rw [own_sup v7 s0 v5 (b1_0 p2) h1 h2]
  simp only [k0, k1, t1, t2, t3, t4, z10, if_true, if_false]
  generalize b1_0 p2 = n
  by_cases n1 : n = 65535
  · subst n1
    simp only [z, if_true, if_false, false_or, true_and]
    by_cases hs : s0 = 0
    · simp only [hs, if_true, not_true, and_false, or_false]
      (repeat' split) <;> first | rfl | (exfalso; omega) | (exfalso; simp_all; done) | (exfalso; simp_all; omega)
    · simp only [hs, if_false, not_false_eq_true, and_true]
      (repeat' split) <;> first | rfl | (exfalso; omega) | (exfalso; simp_all; done) | (exfalso; simp_all; omega)
  · by_cases n0 : n = 0
    · subst n0
      simp only [if_true, n1, if_false, true_or, or_true, and_true]
      (repeat' split) <;> first | rfl | (exfalso; omega) | (exfalso; simp_all; done) | (exfalso; simp_all; omega)
    · simp only [n1, n0, if_false, false_and, or_false]
      (repeat' split) <;> first | rfl | (exfalso; omega) | (exfalso; simp_all; done) | (exfalso; simp_all; omega)
theorem own_mid (p2 p3 p4 s0 v5 : Int32) (h : ¬ (v5 < 0) ∧ ¬ (65535 < v5)) : b0_37 p2 p3 p4 s0 v5 = 1 := by
  have h5 : ¬ v5.toInt < 0 ∧ ¬ 65535 < v5.toInt := by simpa only [Int32.lt_iff_toInt_lt, Int32.reduceToInt] using h
  unfold b0_37
  split
  · have e : (p3 % 100000).toInt = _ := Jvm.Kit.i32_rem p3 100000
    have b1 := p3.toInt_lt
    have b2 := p3.le_toInt
    have c1 : -100000 < p3.toInt.tmod 100000 := Int.lt_tmod_of_pos _ (by decide)
    have c2 : p3.toInt.tmod 100000 < 100000 := Int.tmod_lt_of_pos _ (by decide)
    rw [show (100000 : Int32).toInt = 100000 from rfl] at e
    exact own_end _ _ _ _ (by rw [e]; omega) (by rw [e]; omega)
  · have e := Jvm.Kit.i32_mask p3 7 (k := 3) (by decide) (by decide)
    have e2 : ((p3 &&& 7) - 4).toInt = (p3 &&& 7).toInt - 4 := Jvm.Kit.i32_sub (by rw [e]; simp only [Int32.reduceToInt]; omega) (by rw [e]; simp only [Int32.reduceToInt]; omega)
    have e3 : (v5 - 44).toInt = v5.toInt - 44 := Jvm.Kit.i32_sub (by simp only [Int32.reduceToInt]; omega) (by simp only [Int32.reduceToInt]; omega)
    have e4 : ((v5 - 44) + ((p3 &&& 7) - 4)).toInt = (v5 - 44).toInt + ((p3 &&& 7) - 4).toInt := Jvm.Kit.i32_add (by rw [e3, e2, e]; omega) (by rw [e3, e2, e]; omega)
    exact own_end _ _ _ _ (by rw [e4, e3, e2, e]; omega) (by rw [e4, e3, e2, e]; omega)
theorem law_eq (p1 p2 p3 p4 : Int32) : b0_0 p1 p2 p3 p4 = 1 := by
  have h : ∀ s, b0_11 p1 p2 p3 p4 s = 1 := by
    intro s
    unfold b0_11
    split
    · exact own_mid p2 p3 p4 s _ (own_m1 p1)
    · exact own_mid p2 p3 p4 s _ (own_m2 p1)
  unfold b0_0
  rw [h, h, ite_self]
set_option maxRecDepth 65536 in
set_option maxHeartbeats 40000000 in
theorem comes_1 {Post : Tables → Env → Array Value → State → Outcome → State → Prop} (hpost : ∀ tb e args s v u, (limb_1_1.after args s (.returned v) u = true ∧ limb_1_2.after args s (.returned v) u = true ∧ True) → FrameEnd s (.returned v) u (Jvm.fieldLocs frame_1_writes args s ++ Jvm.arrayLocs frame_1_arrays args s ++ Jvm.staticLocs frame_1_statics s) 16 128 → Post tb e args s (.returned v) u) :
    ArmFor flags0 classFile x code maxLocals ret World_1 tables_1 room_1 Calls_1 rest_1 Pre_1 Post := by
  intro l hfl _ _ p e ha hc hk s m args below hf hA hF happ hP
  obtain ⟨hcalls, hrest, hpre⟩ := hP
  obtain ⟨-, -, -, hnamed, -, -, -, hat⟩ := (Spec.applies_iff hf).mp happ
  obtain ⟨hg, hn⟩ := and_e (Cond.before_iff.mp (show (Jvm.Cond.and given_1 narrow_1).before args s = true from hpre))
  obtain ⟨g1, g2⟩ := and_e hg
  obtain ⟨g3, g4⟩ := and_e g2
  obtain ⟨g5, g6⟩ := and_e g4
  obtain ⟨g7, g8⟩ := and_e g6
  obtain ⟨w0, w1, w2, w3, rfl⟩ : ∃ w0 w1 w2 w3 : Value, args = #[w0, w1, w2, w3] := by
    have hs : args.size = 4 := by simpa [Cond.value, given_1] using g1
    obtain ⟨L⟩ := args
    match L, hs with
    | [w0, w1, w2, w3], _ => exact ⟨w0, w1, w2, w3, rfl⟩
  have hw := fun d (hd : d ∈ tables_1) => atoms_spec (ws := Jvm.Cond.code x code maxLocals ret :: tables_1) hat d (List.mem_cons_of_mem _ hd)
  have hfit : Fit s := fun {y c} hc i hi => by
    obtain ⟨ha, rfl⟩ := Array.getElem?_eq_some_iff.mp hc
    have q := List.all_eq_true.mp ((Array.all_eq_true_iff_forall_mem.mp hF) _ (Array.getElem_mem ha)) i (List.mem_range.mpr hi)
    simpa [Array.getElem?_eq_getElem hi] using q
  obtain ⟨i0, ei0⟩ := is_v g3
  obtain rfl : w0 = (.int i0) := Option.some.inj ei0
  obtain ⟨i1, ei1⟩ := is_v g5
  obtain rfl : w1 = (.int i1) := Option.some.inj ei1
  obtain ⟨i2, ei2⟩ := is_v g7
  obtain rfl : w2 = (.int i2) := Option.some.inj ei2
  obtain ⟨i3, ei3⟩ := is_v g8
  obtain rfl : w3 = (.int i3) := Option.some.inj ei3
  obtain ⟨n, o, h1, h2, h3, _, L, rfl, ⟨⟨hv, -⟩, N⟩, hq⟩ := rm0 l s _ hw tables_1 i0 i1 i2 i3  s.heap s.heap.size (Nat.le_refl _)  p e ha hc hk s m _ below hf ((Spec.applies_iff_loose hf).mp happ).1 ⟨rfl, State.Warmed39.refl s, rfl⟩ trivial
  rw [law_eq] at hv
  subst hv
  refine ⟨n, _, h1, h2, h3, hpost _ _ _ _ _ _ ⟨Cond.after_iff.mpr rfl, Cond.after_iff.mpr (eq_i res_at (Term.int_eval (1)) rfl), trivial⟩ ⟨hq.1, hq.2.1, (hq.2.2.sift fun y hy => Or.inr (N y hy)).mono (by decide) (by decide)⟩⟩
theorem main_1_1 : Claimed_1_1 := comes_1 fun _ _ _ _ _ _ h hF => ⟨h.1, hF⟩
theorem main_1_2 : Claimed_1_2 := comes_1 fun _ _ _ _ _ _ h hF => ⟨h.2.1, hF⟩
end Jvm.Pilot.@@N@@
namespace Jvm.Pilot.@@N@@
open Jvm Jvm.ClassFile Sem Op Lib Jvm.Free Jvm.Stand Jvm.Pilot.@@N@@.Jvm.D
/-! MADE BY PROGRAM (witnessworld.py) out of the Statement's table words and the real class files: 8 classes; the members and pool entries that the words name. The judged class is class 1, her method 2. -/
namespace start1
open Jvm.ClassFile
def u (s : String) : CpInfo := .utf8 (stringToUtf16 s)
/-- a pool by its gaps: so many unusable entries, then the entry; so many at the end -/
def gap : Nat → List CpInfo → List CpInfo
  | 0, r => r
  | n + 1, r => .unusable :: gap n r
def poolList (es : List (Nat × CpInfo)) (last : Nat) : List CpInfo := es.foldr (fun e r => gap e.1 (e.2 :: r)) (gap last [])
def pool (es : List (Nat × CpInfo)) (last : Nat) : Array CpInfo := ⟨poolList es last⟩
def fileOf (pool : Array CpInfo) (this : Nat) (attrs : Array Attribute := #[]) (ms : Array MethodInfo := #[]) (fl : Nat := 33) (sup : Nat := 0) (ifs : Array Nat := #[]) (fds : Array FieldInfo := #[]) : ClassFile where
  minorVersion := 0
  majorVersion := 65
  constantPool := pool
  accessFlags := fl
  thisClass := this
  superClass := sup
  interfaces := ifs
  fields := fds
  methods := ms
  attributes := attrs
def plain (name : String) (sup : Option ClassId) : Class where
  name := name
  kind := .ordinary
  loader := none
  accessFlags := 33
  super := sup
  interfaces := #[]
  cf := none
  fields := #[]
  methods := #[]
  instanceTypes := #[]
  staticTypes := #[]
  resolved := #[]
  callSites := []
  init := .initialized
  statics := none
  mirror := none

def pool0 : Array CpInfo := pool [(5, u "<init>"), (0, u "()V"), (1, .class_ 10), (1, u "java/lang/Object")] 113

def k0c0 : Code := { maxStack := 0, maxLocals := 1, code := object_method_1_code, exceptionTable := #[], attributes := #[] }
def k0m0 : Method := { name := "<init>", desc := "()V", sig := { parameters := [], returnType := none }, accessFlags := 1, code := some k0c0 }
/-- java/lang/Object -/
def k0 : Class := { plain "java/lang/Object" none with
  accessFlags := 33
  interfaces := #[]
  cf := some (fileOf pool0 8 #[] #[{ accessFlags := 1, nameIndex := 5, descriptorIndex := 6, attributes := #[] }] 33 0 #[] #[])
  fields := #[]
  methods := #[k0m0]
  instanceTypes := #[]
  staticTypes := #[]
  resolved := Array.replicate 124 none
  statics := none }

def pool1 : Array CpInfo := pool [(2, .class_ 4), (1, u "java/lang/Object"), (0, u "<init>"), (0, u "()V"), (0, .integer 65535), (0, .integer 65534), (0, .methodref 10 11), (0, .class_ 12), (0, .nameAndType 13 14), (0, u "com/example/linkwright/linkwright/ClassFileVersionIsSupportedByPinLaw"), (0, u "pickMinor"), (0, u "(I)I"), (0, .integer 100000), (0, .class_ 17), (0, u "com/example/linkwright/linkwright/ClassFileVersion"), (0, .methodref 16 19), (0, .nameAndType 5 20), (0, u "(II)V"), (0, .methodref 16 22), (0, .nameAndType 23 24), (0, u "isSupportedBy"), (0, u "(IZ)Z"), (0, .long 44), (4, u "law"), (0, u "(IIII)Z")] 2

def k1m0 : Method := { name := "<init>", desc := "()V", sig := { parameters := [], returnType := none }, accessFlags := 2, code := none }
def k1c1 : Code := { maxStack := 2, maxLocals := 2, code := method_2_code, exceptionTable := #[], attributes := #[] }
def k1m1 : Method := { name := "pickMinor", desc := "(I)I", sig := { parameters := [.int], returnType := some .int }, accessFlags := 10, code := some k1c1 }
def k1c2 : Code := { maxStack := 4, maxLocals := 15, code := code, exceptionTable := #[], attributes := #[] }
def k1m2 : Method := { name := "law", desc := "(IIII)Z", sig := { parameters := [.int, .int, .int, .int], returnType := some .boolean }, accessFlags := 9, code := some k1c2 }
/-- com/example/linkwright/linkwright/ClassFileVersionIsSupportedByPinLaw -/
def k1 : Class := { plain "com/example/linkwright/linkwright/ClassFileVersionIsSupportedByPinLaw" (some 0) with
  accessFlags := 49
  interfaces := #[]
  cf := some (fileOf pool1 10 #[] #[{ accessFlags := 2, nameIndex := 5, descriptorIndex := 6, attributes := #[] }, { accessFlags := 10, nameIndex := 13, descriptorIndex := 14, attributes := #[] }, { accessFlags := 9, nameIndex := 30, descriptorIndex := 31, attributes := #[] }] 49 2 #[] #[])
  fields := #[]
  methods := #[k1m0, k1m1, k1m2]
  instanceTypes := #[]
  staticTypes := #[]
  resolved := Array.replicate 34 none
  statics := none }

def pool2 : Array CpInfo := pool [(1, .methodref 2 3), (0, .class_ 4), (0, .nameAndType 5 6), (0, u "java/lang/Object"), (0, u "<init>"), (0, u "()V"), (0, .class_ 8), (0, u "java/lang/Record")] 13

def k2c0 : Code := { maxStack := 1, maxLocals := 1, code := jdk_30_method_1_code, exceptionTable := #[], attributes := #[] }
def k2m0 : Method := { name := "<init>", desc := "()V", sig := { parameters := [], returnType := none }, accessFlags := 4, code := some k2c0 }
/-- java/lang/Record -/
def k2 : Class := { plain "java/lang/Record" (some 0) with
  accessFlags := 1057
  interfaces := #[]
  cf := some (fileOf pool2 7 #[] #[{ accessFlags := 4, nameIndex := 5, descriptorIndex := 6, attributes := #[] }] 1057 2 #[] #[])
  fields := #[]
  methods := #[k2m0]
  instanceTypes := #[]
  staticTypes := #[]
  resolved := Array.replicate 22 none
  statics := none }

def pool3 : Array CpInfo := pool [(1, .methodref 2 3), (0, .class_ 4), (0, .nameAndType 5 6), (0, u "java/lang/Record"), (0, u "<init>"), (0, u "()V"), (0, .class_ 8), (0, u "com/example/linkwright/linkwright/ClassFileVersion"), (0, .integer 65535), (9, .fieldref 7 20), (0, .nameAndType 21 22), (0, u "major"), (0, u "I"), (0, .fieldref 7 24), (0, .nameAndType 25 22), (0, u "minor"), (12, u "U2_MAX"), (1, u "PREVIEW_MINOR"), (0, u "OLDEST_MAJOR"), (1, u "STRICT_MINOR_MAJOR"), (1, u "RELEASE_TO_MAJOR"), (1, u "(II)V"), (8, u "isSupportedBy"), (0, u "(IZ)Z")] 31

def k3c0 : Code := { maxStack := 4, maxLocals := 3, code := prog_1_method_1_code, exceptionTable := #[], attributes := #[] }
def k3m0 : Method := { name := "<init>", desc := "(II)V", sig := { parameters := [.int, .int], returnType := none }, accessFlags := 1, code := some k3c0 }
def k3c1 : Code := { maxStack := 2, maxLocals := 5, code := prog_1_method_4_code, exceptionTable := #[], attributes := #[] }
def k3m1 : Method := { name := "isSupportedBy", desc := "(IZ)Z", sig := { parameters := [.int, .boolean], returnType := some .boolean }, accessFlags := 1, code := some k3c1 }
/-- com/example/linkwright/linkwright/ClassFileVersion -/
def k3 : Class := { plain "com/example/linkwright/linkwright/ClassFileVersion" (some 2) with
  accessFlags := 49
  interfaces := #[]
  cf := some (fileOf pool3 7 #[] #[{ accessFlags := 1, nameIndex := 5, descriptorIndex := 47, attributes := #[] }, { accessFlags := 1, nameIndex := 56, descriptorIndex := 57, attributes := #[] }] 49 2 #[] #[{ accessFlags := 18, nameIndex := 21, descriptorIndex := 22, attributes := #[] }, { accessFlags := 18, nameIndex := 25, descriptorIndex := 22, attributes := #[] }, { accessFlags := 26, nameIndex := 38, descriptorIndex := 22, attributes := #[] }, { accessFlags := 26, nameIndex := 40, descriptorIndex := 22, attributes := #[] }, { accessFlags := 26, nameIndex := 41, descriptorIndex := 22, attributes := #[] }, { accessFlags := 26, nameIndex := 43, descriptorIndex := 22, attributes := #[] }, { accessFlags := 26, nameIndex := 45, descriptorIndex := 22, attributes := #[] }])
  fields := #[{ name := "major", type := .int, accessFlags := 18, slot := 0, constantValue := 0 }, { name := "minor", type := .int, accessFlags := 18, slot := 1, constantValue := 0 }, { name := "U2_MAX", type := .int, accessFlags := 26, slot := 0, constantValue := 0 }, { name := "PREVIEW_MINOR", type := .int, accessFlags := 26, slot := 1, constantValue := 0 }, { name := "OLDEST_MAJOR", type := .int, accessFlags := 26, slot := 2, constantValue := 0 }, { name := "STRICT_MINOR_MAJOR", type := .int, accessFlags := 26, slot := 3, constantValue := 0 }, { name := "RELEASE_TO_MAJOR", type := .int, accessFlags := 26, slot := 4, constantValue := 0 }]
  methods := #[k3m0, k3m1]
  instanceTypes := #[.int, .int]
  staticTypes := #[.int, .int, .int, .int, .int]
  resolved := Array.replicate 89 none
  statics := none }

def pool4 : Array CpInfo := pool [(1, u "java/lang/Cloneable"), (0, .class_ 1), (0, u "java/lang/Object"), (0, .class_ 3)] 3

/-- java/lang/Cloneable -/
def k4 : Class := { plain "java/lang/Cloneable" (some 0) with
  accessFlags := 1537
  interfaces := #[]
  cf := some (fileOf pool4 2 #[] #[] 1537 4 #[] #[])
  fields := #[]
  methods := #[]
  instanceTypes := #[]
  staticTypes := #[]
  resolved := Array.replicate 8 none
  statics := none }

def pool5 : Array CpInfo := pool [(1, u "java/io/Serializable"), (0, .class_ 1), (0, u "java/lang/Object"), (0, .class_ 3)] 3

/-- java/io/Serializable -/
def k5 : Class := { plain "java/io/Serializable" (some 0) with
  accessFlags := 1537
  interfaces := #[]
  cf := some (fileOf pool5 2 #[] #[] 1537 4 #[] #[])
  fields := #[]
  methods := #[]
  instanceTypes := #[]
  staticTypes := #[]
  resolved := Array.replicate 8 none
  statics := none }

/-- the primitive byte -/
def k6 : Class := { plain "byte" none with kind := .primitive 'B', accessFlags := 0x411 }
/-- [B -/
def k7 : Class := { plain "[B" (some 0) with kind := .array 6 .byte, interfaces := #[4, 5], accessFlags := 1041 }

def heap : Heap := #[]
def classes : Array Class := #[k0, k1, k2, k3, k4, k5, k6, k7]
def interned : List (Array UInt16 × Addr) := []
def slotsUsed : Nat := 0
def theMethod : MethodId := ⟨1, 2⟩
def args0 : Array Value := #[.int 5, .int 6, .int 7, .int 8]
def aboutOver (below : List Frame) : State where
  vm := { classes := classes, interned := interned.toArray }
  heap := heap
  slotsUsed := slotsUsed
  threads := #[{ frames := .invoking theMethod args0 :: below }]
def below0 : List Frame := [.native { method := ⟨0, 0⟩, args := #[] }]
def about1 : State := aboutOver below0
def p0 : Program := .bare "" "" ""
def e0 : Env := launch0.env 0 0 0
theorem w_frames : about1.frames = Frame.invoking theMethod args0 :: below0 := rfl
set_option maxRecDepth 65536 in
theorem w_args : argsFit about1.vm theMethod args0 = true := by decide +kernel
set_option maxRecDepth 65536 in
theorem w_heap : heapFits about1 = true := by decide +kernel
set_option maxRecDepth 65536 in
theorem w_runnable : about1.curStatus? = some .runnable := by decide +kernel
set_option maxRecDepth 65536 in
theorem w_alone : about1.alone = true := by decide +kernel
set_option maxRecDepth 65536 in
theorem w_named : about1.methodNamed? x = some theMethod := by decide +kernel
set_option maxRecDepth 65536 in
theorem w_hears : about1.hears theMethod below0 = true := by decide +kernel
set_option maxRecDepth 65536 in
theorem w_ripe : about1.ripe theMethod args0 below0 = true := by decide +kernel
theorem w_running : about1.status = .running := rfl
set_option maxRecDepth 65536 in
theorem w_room : about1.hasRoom e0.platform room_1 = true :=
  launch0.hasRoom_least _ room_1 (by decide +kernel) (by decide +kernel) (by decide +kernel) (by decide +kernel) (by decide +kernel) (by decide +kernel)
theorem allAtoms_all (ts : List Jvm.Cond) (a : Array Jvm.Value) (st : Jvm.State) : (allAtoms ts).before a st = ts.all (fun c => c.before a st) := by
  induction ts with
  | nil => rfl
  | cons c t ih =>
    show (Jvm.Cond.and c (allAtoms t)).before a st = _
    rw [Jvm.Cond.before_and, ih, List.all_cons]
def words1 : List Jvm.Cond := Jvm.Cond.code x code maxLocals ret :: tables_1
/-- a 'code' word, met by the world's own term for the bytes: nothing is compared byte by byte -/
theorem code_word {y : MethodName} {bytes : ByteArray} {mx : Nat} {rt : Option FieldType} {a : Array Value} {s : State} {m : MethodId} {meth : Method} {c : Code} (h1 : s.methodNamed? y = some m) (h2 : s.vm.method? m = some meth) (h3 : meth.code = some c) (h4 : c.code = bytes)
    (h5 : (c.maxLocals == mx && c.exceptionTable.isEmpty && decide (c.maxStack ≤ mostOperands) && decide (meth.sig.returnType = rt) && !meth.locks && decide (parseMethodDescriptor y.desc = some meth.sig)) = true) : (Jvm.Cond.code y bytes mx rt).before a s = true := by
  simp only [Bool.and_eq_true, beq_iff_eq, Bool.not_eq_true', decide_eq_true_eq] at h5
  obtain ⟨⟨⟨⟨⟨g1, g2⟩, g3⟩, g4⟩, g5⟩, g6⟩ := h5
  simp [Cond.before, Cond.holds, Cond.value, h1, h2, h3, h4, g1, g2, g3, g4, g5, g6]
def isCode : Jvm.Cond → Bool
  | .code _ _ _ _ => true
  | _ => false
theorem all_split {L : List Jvm.Cond} {P : Jvm.Cond → Bool} (h1 : L.all (fun c => isCode c || P c) = true) (h2 : ∀ c ∈ L.filter isCode, P c = true) : L.all P = true := by
  refine List.all_eq_true.mpr fun c hc => ?_
  have h := List.all_eq_true.mp h1 c hc
  rcases Bool.eq_false_or_eq_true (isCode c) with hi | hi
  · exact h2 c (List.mem_filter.mpr ⟨hc, hi⟩)
  · simpa [hi] using h
set_option maxRecDepth 65536 in
theorem w_c0 : (Jvm.Cond.code x code maxLocals ret).before args0 about1 = true := code_word (m := ⟨1, 2⟩) (meth := k1m2) (c := k1c2) (by decide +kernel) rfl rfl rfl (by decide +kernel)
set_option maxRecDepth 65536 in
theorem w_c1 : (Jvm.Cond.code ({ cls := "com/example/linkwright/linkwright/ClassFileVersionIsSupportedByPinLaw", name := "pickMinor", desc := "(I)I" } : Jvm.MethodName) method_2_code (2 : Nat) (Option.some Jvm.ClassFile.FieldType.int)).before args0 about1 = true := code_word (m := ⟨1, 1⟩) (meth := k1m1) (c := k1c1) (by decide +kernel) rfl rfl rfl (by decide +kernel)
set_option maxRecDepth 65536 in
theorem w_c2 : (Jvm.Cond.code ({ cls := "com/example/linkwright/linkwright/ClassFileVersion", name := "<init>", desc := "(II)V" } : Jvm.MethodName) prog_1_method_1_code (3 : Nat) (Option.none : Option Jvm.ClassFile.FieldType)).before args0 about1 = true := code_word (m := ⟨3, 0⟩) (meth := k3m0) (c := k3c0) (by decide +kernel) rfl rfl rfl (by decide +kernel)
set_option maxRecDepth 65536 in
theorem w_c3 : (Jvm.Cond.code ({ cls := "java/lang/Record", name := "<init>", desc := "()V" } : Jvm.MethodName) jdk_30_method_1_code (1 : Nat) (Option.none : Option Jvm.ClassFile.FieldType)).before args0 about1 = true := code_word (m := ⟨2, 0⟩) (meth := k2m0) (c := k2c0) (by decide +kernel) rfl rfl rfl (by decide +kernel)
set_option maxRecDepth 65536 in
theorem w_c4 : (Jvm.Cond.code ({ cls := "java/lang/Object", name := "<init>", desc := "()V" } : Jvm.MethodName) object_method_1_code (1 : Nat) (Option.none : Option Jvm.ClassFile.FieldType)).before args0 about1 = true := code_word (m := ⟨0, 0⟩) (meth := k0m0) (c := k0c0) (by decide +kernel) rfl rfl rfl (by decide +kernel)
set_option maxRecDepth 65536 in
theorem w_c5 : (Jvm.Cond.code ({ cls := "com/example/linkwright/linkwright/ClassFileVersion", name := "isSupportedBy", desc := "(IZ)Z" } : Jvm.MethodName) prog_1_method_4_code (5 : Nat) (Option.some Jvm.ClassFile.FieldType.boolean)).before args0 about1 = true := code_word (m := ⟨3, 1⟩) (meth := k3m1) (c := k3c1) (by decide +kernel) rfl rfl rfl (by decide +kernel)
def codes1 : List Jvm.Cond := [Jvm.Cond.code x code maxLocals ret, Jvm.Cond.code ({ cls := "com/example/linkwright/linkwright/ClassFileVersionIsSupportedByPinLaw", name := "pickMinor", desc := "(I)I" } : Jvm.MethodName) method_2_code (2 : Nat) (Option.some Jvm.ClassFile.FieldType.int), Jvm.Cond.code ({ cls := "com/example/linkwright/linkwright/ClassFileVersion", name := "<init>", desc := "(II)V" } : Jvm.MethodName) prog_1_method_1_code (3 : Nat) (Option.none : Option Jvm.ClassFile.FieldType), Jvm.Cond.code ({ cls := "java/lang/Record", name := "<init>", desc := "()V" } : Jvm.MethodName) jdk_30_method_1_code (1 : Nat) (Option.none : Option Jvm.ClassFile.FieldType), Jvm.Cond.code ({ cls := "java/lang/Object", name := "<init>", desc := "()V" } : Jvm.MethodName) object_method_1_code (1 : Nat) (Option.none : Option Jvm.ClassFile.FieldType), Jvm.Cond.code ({ cls := "com/example/linkwright/linkwright/ClassFileVersion", name := "isSupportedBy", desc := "(IZ)Z" } : Jvm.MethodName) prog_1_method_4_code (5 : Nat) (Option.some Jvm.ClassFile.FieldType.boolean)]
set_option maxRecDepth 65536 in
theorem codes_eq : words1.filter isCode = codes1 := rfl
theorem w_codes : ∀ c ∈ words1.filter isCode, c.before args0 about1 = true := by
  rw [codes_eq]
  intro c hc
  simp only [codes1, List.mem_cons, List.not_mem_nil, or_false] at hc
  rcases hc with rfl | rfl | rfl | rfl | rfl | rfl
  · exact w_c0
  · exact w_c1
  · exact w_c2
  · exact w_c3
  · exact w_c4
  · exact w_c5
set_option maxRecDepth 65536 in
theorem w_t1 : (words1.take 24).all (fun c => isCode c || c.before args0 about1) = true := by decide +kernel
set_option maxRecDepth 65536 in
theorem w_t2 : (words1.drop 24).all (fun c => isCode c || c.before args0 about1) = true := by decide +kernel
theorem w_tables : (allAtoms (Jvm.Cond.code x code maxLocals ret :: tables_1)).before args0 about1 = true := by
  rw [allAtoms_all]
  show words1.all (fun c => c.before args0 about1) = true
  refine all_split ?_ w_codes
  rw [← List.take_append_drop 24 words1, List.all_append, w_t1, w_t2]
  rfl
set_option maxRecDepth 65536 in
theorem w_case : (Jvm.Cond.and given_1 narrow_1).before args0 about1 = true := by decide +kernel
theorem w_applies : (headSpec (Jvm.Cond.code x code maxLocals ret :: tables_1) room_1).applies x e0.platform about1 = true :=
  (Spec.applies_iff w_frames).mpr ⟨w_running, w_runnable, w_alone, w_named, w_hears, w_ripe, w_room, w_tables⟩
theorem atStart : AtStart classFile x code maxLocals ret World_1 tables_1 room_1 Calls_1 rest_1 Pre_1 launch0 p0 e0 about1 theMethod args0 below0 :=
  ⟨lists_1, trivial, launch0.admits_env _ _ _, launch0.least_env, fairChoices_fair.cas, fairChoices_fair.clock, w_frames, w_args, w_heap, w_applies, trivial, trivial, w_case⟩
end start1
theorem witness_1 : WitnessClaimed_1 := ⟨start1.p0, start1.e0, start1.about1, start1.theMethod, start1.args0, start1.below0, start1.atStart⟩
end Jvm.Pilot.@@N@@
