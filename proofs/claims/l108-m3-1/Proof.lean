import JvmDerived
import JvmDerived.Pilot.@@N@@Statement
import JvmDerived.Pilot.@@N@@Code
set_option linter.unusedVariables false
set_option linter.unusedSimpArgs false
@@BLOCK:NumsL.lean.txt@@
namespace Jvm.Pilot.@@N@@
open Jvm Jvm.ClassFile Sem Op Lib Jvm.Free Jvm.Stand Jvm.LawKit Jvm.RoadKit Bundle Jvm.Pilot.@@N@@.Jvm.D
section OwnKit
variable {p : Program} {l : Launch} {e : Env} {R : Room} {s : State} {m : MethodId} {args : Array Value} {below : List Frame} {meth : Method} {c : Code} {T : State} {locs : List Loc} {cells slots : Nat} {n0 cc nn : Nat} {K : Option Value → Heap → Prop} {P : Heap → Prop} {A B : State}
/-- what a contract says of the value, the heap and the places written -/
def QK (n0 : Nat) (K : Option Value → Heap → Prop) (v : Option Value) (h : Heap) (L : List Loc) : Prop := K v h ∧ Fr n0 L
def Kv (w : Option Value) (P : Heap → Prop) (v : Option Value) (h : Heap) : Prop := v = w ∧ P h
/-- from A the run comes to this body's end, and K holds there -/
def Gl (p : Program) (e : Env) (below : List Frame) (s : State) (n0 cc nn : Nat) (K : Option Value → Heap → Prop) (A : State) : Prop :=
  ∃ t o, Steps p.tables e below A t ∧ t.status = .running ∧ Ended t below o ∧ ∃ v L, o = .returned v ∧ QK n0 K v t.heap L ∧ FrameEnd s o t L cc nn
theorem go (st : ∀ t, Steps p.tables e below B t → Steps p.tables e below A t) (h : Gl p e below s n0 cc nn K B) : Gl p e below s n0 cc nn K A := by
  obtain ⟨t, o, h1, h2⟩ := h; exact ⟨t, o, st t h1, h2⟩
theorem gl_start {g g' : JFrame} (q : g = g') (h : Gl p e below s n0 cc nn K (T.setTop g')) :
    ∃ t o, Steps p.tables e below (T.setTop g) t ∧ t.status = .running ∧ Ended t below o ∧ ∃ v L, o = .returned v ∧ QK n0 K v t.heap L ∧ FrameEnd s o t L cc nn := by
  subst q; exact h
theorem gI {c : Prop} [Decidable c] {a b : Int32} (h1 : c → Gl p e below s n0 cc nn (Kv (some (.int a)) P) A) (h2 : ¬ c → Gl p e below s n0 cc nn (Kv (some (.int b)) P) A) : Gl p e below s n0 cc nn (Kv (some (.int (if c then a else b))) P) A := by
  by_cases h : c
  · rw [if_pos h]; exact h1 h
  · rw [if_neg h]; exact h2 h
theorem gJ {c : Prop} [Decidable c] {a b : Int64} (h1 : c → Gl p e below s n0 cc nn (Kv (some (.long a)) P) A) (h2 : ¬ c → Gl p e below s n0 cc nn (Kv (some (.long b)) P) A) : Gl p e below s n0 cc nn (Kv (some (.long (if c then a else b))) P) A := by
  by_cases h : c
  · rw [if_pos h]; exact h1 h
  · rw [if_neg h]; exact h2 h
theorem gR {c : Prop} [Decidable c] {a b : Addr} (h1 : c → Gl p e below s n0 cc nn (Kv (some (.ref a)) P) A) (h2 : ¬ c → Gl p e below s n0 cc nn (Kv (some (.ref b)) P) A) : Gl p e below s n0 cc nn (Kv (some (.ref (if c then a else b))) P) A := by
  by_cases h : c
  · rw [if_pos h]; exact h1 h
  · rw [if_neg h]; exact h2 h
theorem gV {c : Prop} [Decidable c] (h1 : c → Gl p e below s n0 cc nn K A) (h2 : ¬ c → Gl p e below s n0 cc nn K A) : Gl p e below s n0 cc nn K A := by
  by_cases h : c
  · exact h1 h
  · exact h2 h
variable {x : MethodName} {S : Spec} {code' : ByteArray} {ml : Nat} {s₁ : State} {pc : Nat} {Ls : Array Slot} {rest : List Value}
theorem endN (X : Stand p l e R s m args below meth c T locs cells slots) (hx : p.tables.exec = Jvm.exec) {t : FieldType} (Bd : BodyLoose p l x S code' ml (some t) e s m args below meth c s₁) (ht : t = .boolean ∨ t = .byte ∨ t = .char ∨ t = .short) {z : Int32}
    (hd : decode c.code pc = .ok (.ireturn, 1)) (hK : K (some (.int (nar t z))) T.heap) (N : Fr n0 locs) (hc : cells ≤ cc) (hs : slots ≤ nn) : Gl p e below s n0 cc nn K (T.setTop (mkF m pc Ls (.int z :: rest))) := by
  obtain ⟨fs, hr, hrun, hended, hW, hsame⟩ := X.leave (v := some (.int (nar t z))) (fun h => by rw [Bd.returns] at h; cases h)
  exact ⟨_, _, retN X hx Bd.returns ht hd hr, hrun, hended, _, _, rfl, ⟨hK, N⟩, ⟨_, rfl⟩, hW, hsame.mono hc hs⟩
theorem endO (X : Stand p l e R s m args below meth c T locs cells slots) (hx : p.tables.exec = Jvm.exec) {t : FieldType} (Bd : BodyLoose p l x S code' ml (some t) e s m args below meth c s₁) {w : Value} {i : Instr} (hn : narrow t w = w)
    (hi : (i = .ireturn ∧ (t = .int ∨ t = .boolean ∨ t = .byte ∨ t = .char ∨ t = .short) ∧ ∃ z, w = .int z) ∨ (i = .lreturn ∧ t = .long ∧ ∃ z, w = .long z) ∨ (i = .dreturn ∧ t = .double ∧ ∃ z, w = .double z) ∨ (i = .freturn ∧ t = .float ∧ ∃ z, w = .float z) ∨ (i = .areturn ∧ t.isReference = true ∧ w.isRef = true))
    (hd : decode c.code pc = .ok (i, 1)) (hK : K (some w) T.heap) (N : Fr n0 locs) (hc : cells ≤ cc) (hs : slots ≤ nn) : Gl p e below s n0 cc nn K (T.setTop (mkF m pc Ls (w :: rest))) := by
  obtain ⟨fs, hr, hrun, hended, hW, hsame⟩ := X.leave (v := some w) (fun h => by rw [Bd.returns] at h; cases h)
  exact ⟨_, _, retOut X hx Bd.returns hn hi hd hr, hrun, hended, _, _, rfl, ⟨hK, N⟩, ⟨_, rfl⟩, hW, hsame.mono hc hs⟩
theorem endI (X : Stand p l e R s m args below meth c T locs cells slots) (hx : p.tables.exec = Jvm.exec) (Bd : BodyLoose p l x S code' ml (some .int) e s m args below meth c s₁) {z : Int32}
    (hd : decode c.code pc = .ok (.ireturn, 1)) (hK : K (some (.int z)) T.heap) (N : Fr n0 locs) (hc : cells ≤ cc) (hs : slots ≤ nn) : Gl p e below s n0 cc nn K (T.setTop (mkF m pc Ls (.int z :: rest))) :=
  endO X hx Bd rfl (Or.inl ⟨rfl, Or.inl rfl, z, rfl⟩) hd hK N hc hs
theorem endJ (X : Stand p l e R s m args below meth c T locs cells slots) (hx : p.tables.exec = Jvm.exec) (Bd : BodyLoose p l x S code' ml (some .long) e s m args below meth c s₁) {z : Int64}
    (hd : decode c.code pc = .ok (.lreturn, 1)) (hK : K (some (.long z)) T.heap) (N : Fr n0 locs) (hc : cells ≤ cc) (hs : slots ≤ nn) : Gl p e below s n0 cc nn K (T.setTop (mkF m pc Ls (.long z :: rest))) :=
  endO X hx Bd rfl (Or.inr (Or.inl ⟨rfl, rfl, z, rfl⟩)) hd hK N hc hs
theorem endR (X : Stand p l e R s m args below meth c T locs cells slots) (hx : p.tables.exec = Jvm.exec) {t : FieldType} (Bd : BodyLoose p l x S code' ml (some t) e s m args below meth c s₁) (ht : t.isReference = true) {a : Addr}
    (hd : decode c.code pc = .ok (.areturn, 1)) (hK : K (some (.ref a)) T.heap) (N : Fr n0 locs) (hc : cells ≤ cc) (hs : slots ≤ nn) : Gl p e below s n0 cc nn K (T.setTop (mkF m pc Ls (.ref a :: rest))) :=
  endO X hx Bd (by cases t <;> first | rfl | cases ht) (Or.inr (Or.inr (Or.inr (Or.inr ⟨rfl, ht, rfl⟩)))) hd hK N hc hs
theorem endV (X : Stand p l e R s m args below meth c T locs cells slots) (hx : p.tables.exec = Jvm.exec) (Bd : BodyLoose p l x S code' ml none e s m args below meth c s₁)
    (hd : decode c.code pc = .ok (.return_, 1)) (hK : K none T.heap) (N : Fr n0 locs) (hc : cells ≤ cc) (hs : slots ≤ nn) : Gl p e below s n0 cc nn K (T.setTop (mkF m pc Ls [])) := by
  obtain ⟨fs, hr, hrun, hended, hW, hsame⟩ := X.leave (v := none) (fun _ => rfl)
  exact ⟨_, _, X.returnOut hx Bd.returns hd hr, hrun, hended, _, _, rfl, ⟨hK, N⟩, ⟨_, rfl⟩, hW, hsame.mono hc hs⟩
theorem lremM {g : JFrame} {target : State} (X : Stand p l e R s m args below meth c T locs cells slots) (hx : p.tables.exec = Jvm.exec) (hg : g.method = m) {x y : Int64} {rest : List Value} (hd : decode c.code g.pc = .ok (.lrem, 1)) (hs : g.stack = .long y :: .long x :: rest) (hy : y ≠ 0)
    (hr : Steps p.tables e below (T.setTop { g with pc := g.pc + 1, stack := .long (x % y) :: rest }) target) : Steps p.tables e below (T.setTop g) target := by
  have q := lrem_mod x y
  exact XS.lrem X.here hx hg hd hs hy (by rw [q]; exact hr)
theorem sta_keep {Z : State} {h h' : Heap} {a : Addr} {C n d D : String} {w : Value} (F : Sta Z h C n d w) (Kp : Keep h h' [a]) (E : Exa Z h a D) : Sta Z h' C n d w := by
  obtain ⟨cf, i, k, f, st, cell, h1, h2, h3, h4, h5, h6, h7⟩ := F
  obtain ⟨cell', k', e1, -, -, e4, -⟩ := E
  refine ⟨cf, i, k, f, st, cell, h1, h2, h3, h4, Kp.2.1 st cell h5 (ninS (fun q => ?_) nin0), h6, h7⟩
  subst q; cases h5.symm.trans e1; rw [h6] at e4; cases e4
theorem sta_keepN {Z : State} {h h' : Heap} {ws : List Addr} {C n d : String} {w : Value} (F : Sta Z h C n d w) (Kp : Keep h h' ws) (hn : ∀ x ∈ ws, ∀ cell : Cell, h[x]? = some cell → cell.vm.isStatics = false) : Sta Z h' C n d w := by
  obtain ⟨cf, i, k, f, st, cell, h1, h2, h3, h4, h5, h6, h7⟩ := F
  refine ⟨cf, i, k, f, st, cell, h1, h2, h3, h4, Kp.2.1 st cell h5 (fun q => ?_), h6, h7⟩
  have := hn st q cell h5
  rw [h6] at this; cases this
theorem sta_keep0 {Z : State} {h h' : Heap} {C n d : String} {w : Value} (F : Sta Z h C n d w) (Kp : Keep h h' []) : Sta Z h' C n d w := by
  obtain ⟨cf, i, k, f, st, cell, h1, h2, h3, h4, h5, h6, h7⟩ := F
  exact ⟨cf, i, k, f, st, cell, h1, h2, h3, h4, Kp.2.1 st cell h5 nin0, h6, h7⟩
theorem sel_priv {Z s : State} {a0 args : Array Value} {y : MethodName} {n : Nat} (hZ : Z.Warmed39 s.vm) (wi : (Cond.instantiable y.cls n).before a0 Z = true) (wp : (Cond.privateMethod y).before a0 Z = true) (wm : (Cond.instanceMethod y).before a0 Z = true) (hy : y.cls ≠ "java/lang/invoke/MethodHandle" ∧ y.cls ≠ "java/lang/invoke/VarHandle") : (Cond.selects y.cls y y).before args s = true := by
  obtain ⟨c, k, h1, h2, -, h4, -⟩ := Cond.instantiable_spec (show (Cond.instantiable y.cls n).before args s = true from mvT hZ wi)
  exact Jvm.Stand.selects_self_of_private h1 h2 (by simp only [Bool.or_eq_false_iff] at h4; exact h4.1) (Cond.privateMethod_at (mvP hZ wp (args := args))) (mvT hZ wm) hy
theorem eqL_v {t : Term} {k : Int64} {a0 : Array Value} {first u : State} {o : Option Outcome} {idx : List Nat} (h : (Cond.eq t (.long k)).value a0 first o u idx = some true) : t.eval a0 first o idx u = some (.long k) := by
  simp only [Cond.value, Term.eval] at h
  cases ht : t.eval a0 first o idx u with
  | none => simp [ht] at h
  | some x => cases x <;> simp [ht] at h ⊢; exact h
theorem eqI_v {t : Term} {k : Int32} {a0 : Array Value} {first u : State} {o : Option Outcome} {idx : List Nat} (h : (Cond.eq t (.int k)).value a0 first o u idx = some true) : t.eval a0 first o idx u = some (.int k) := by
  simp only [Cond.value, Term.eval] at h
  cases ht : t.eval a0 first o idx u with
  | none => simp [ht] at h
  | some x => cases x <;> simp [ht] at h ⊢; exact h
end OwnKit
theorem d1_0 : decode method_2_code 0 = .ok (.iload_n 0, 1) := by decide +kernel
theorem d1_1 : decode method_2_code 1 = .ok (.ifCond .ne 6, 3) := by decide +kernel
theorem d1_4 : decode method_2_code 4 = .ok (.bipush 55, 2) := by decide +kernel
theorem d1_6 : decode method_2_code 6 = .ok (.ireturn, 1) := by decide +kernel
theorem d1_7 : decode method_2_code 7 = .ok (.iload_n 0, 1) := by decide +kernel
theorem d1_8 : decode method_2_code 8 = .ok (.iconst 1, 1) := by decide +kernel
theorem d1_9 : decode method_2_code 9 = .ok (.if_icmp .ne 6, 3) := by decide +kernel
theorem d1_12 : decode method_2_code 12 = .ok (.bipush 56, 2) := by decide +kernel
theorem d1_14 : decode method_2_code 14 = .ok (.ireturn, 1) := by decide +kernel
theorem d1_15 : decode method_2_code 15 = .ok (.iload_n 0, 1) := by decide +kernel
theorem d1_16 : decode method_2_code 16 = .ok (.iconst 2, 1) := by decide +kernel
theorem d1_17 : decode method_2_code 17 = .ok (.if_icmp .ne 6, 3) := by decide +kernel
theorem d1_20 : decode method_2_code 20 = .ok (.bipush 57, 2) := by decide +kernel
theorem d1_22 : decode method_2_code 22 = .ok (.ireturn, 1) := by decide +kernel
theorem d1_23 : decode method_2_code 23 = .ok (.iload_n 0, 1) := by decide +kernel
theorem d1_24 : decode method_2_code 24 = .ok (.iconst 3, 1) := by decide +kernel
theorem d1_25 : decode method_2_code 25 = .ok (.if_icmp .ne 6, 3) := by decide +kernel
theorem d1_28 : decode method_2_code 28 = .ok (.ldc 7, 2) := by decide +kernel
theorem d1_30 : decode method_2_code 30 = .ok (.ireturn, 1) := by decide +kernel
theorem d1_31 : decode method_2_code 31 = .ok (.iload_n 0, 1) := by decide +kernel
theorem d1_32 : decode method_2_code 32 = .ok (.iconst 4, 1) := by decide +kernel
theorem d1_33 : decode method_2_code 33 = .ok (.if_icmp .ne 5, 3) := by decide +kernel
theorem d1_36 : decode method_2_code 36 = .ok (.iconst 0, 1) := by decide +kernel
theorem d1_37 : decode method_2_code 37 = .ok (.ireturn, 1) := by decide +kernel
theorem d1_38 : decode method_2_code 38 = .ok (.iload_n 1, 1) := by decide +kernel
theorem d1_39 : decode method_2_code 39 = .ok (.ldc 7, 2) := by decide +kernel
theorem d1_41 : decode method_2_code 41 = .ok (.iand, 1) := by decide +kernel
theorem d1_42 : decode method_2_code 42 = .ok (.ireturn, 1) := by decide +kernel
theorem pn_0 : plainName "com/example/linkwright/linkwright/ClassFileVersionIsPreviewPinLaw" = true := by first | (simp [plainName, overriddenIn]; done) | decide +kernel
theorem ef_1 (m : MethodId) (p1 : Int32) (p2 : Int32) : entryFrame m #[(.int p1), (.int p2)] 2 = mkF m 0 #[.val (.int p1), .val (.int p2)] [] := by first | (simp [entryFrame, mkF, argsToLocals, Value.category]; done) | rfl
def b1_0 (p1 : Int32) (p2 : Int32) : Int32 := (if p1 = (0 : Int32) then (55 : Int32) else (if p1 = (1 : Int32) then (56 : Int32) else (if p1 = (2 : Int32) then (57 : Int32) else (if p1 = (3 : Int32) then (65535 : Int32) else (if p1 = (4 : Int32) then (0 : Int32) else (p2 &&& (65535 : Int32)))))))
set_option maxRecDepth 65536 in
set_option maxHeartbeats 40000000 in
theorem rm1 (l : Launch) (Z : State) (a0 : Array Value) (hw : ∀ d ∈ tables_1, d.before a0 Z = true) (ws : List Jvm.Cond) (p1 : Int32) (p2 : Int32) (h0 : Heap) (n0 : Nat) (Z0 : n0 ≤ h0.size) :
    MetFree l (⟨"com/example/linkwright/linkwright/ClassFileVersionIsPreviewPinLaw", "pickMajor", "(II)I"⟩ : MethodName) (head1 (Jvm.Cond.code (⟨"com/example/linkwright/linkwright/ClassFileVersionIsPreviewPinLaw", "pickMajor", "(II)I"⟩ : MethodName) method_2_code 2 (some .int) :: ws) ({ frames := 0, cells := 0, slots := 0, locals := 0 } : Room)) (fun a U => a = #[(.int p1), (.int p2)] ∧ Z.Warmed39 U.vm ∧ U.heap = h0) (fun _ _ _ _ _ => True) (fun _ U o U' => ∃ v L, o = .returned v ∧ QK n0 (Kv (some (.int (b1_0 p1 p2))) (fun h => h = h0)) v U'.heap L ∧ FrameEnd U o U' L ({ frames := 0, cells := 0, slots := 0, locals := 0 } : Room).cells ({ frames := 0, cells := 0, slots := 0, locals := 0 } : Room).slots) := by
  refine MetFree.of_bodySF (plainFor_of_name pn_0) hisR ?_
  intro p e s m args below meth c s₁ Bd hml0 hP hK
  obtain ⟨rfl, hZ, hh⟩ := hP
  have hx := Bd.exec
  have hby := Bd.bytes
  have hml : c.maxLocals = 2 := hml0
  have hown : s.vm.findClass "com/example/linkwright/linkwright/ClassFileVersionIsPreviewPinLaw" = some m.cls := findClass_of_methodNamed Bd.named
  have hnm := (name_of_methodNamed Bd.named Bd.method).1
  have X0 : Stand p l e ({ frames := 0, cells := 0, slots := 0, locals := 0 } : Room) s m #[(.int p1), (.int p2)] below meth c s₁ [] 0 0 := Stand.of_body Bd
  have e0 : s₁.heap = h0 := by rw [← hh, Bd.state]; rfl
  have N0 := Fr.nil n0
  refine gl_start (ef_1 m p1 p2) ?_
  show Gl p e below s n0 ({ frames := 0, cells := 0, slots := 0, locals := 0 } : Room).cells ({ frames := 0, cells := 0, slots := 0, locals := 0 } : Room).slots (Kv (some (.int (if p1 = (0 : Int32) then (55 : Int32) else (if p1 = (1 : Int32) then (56 : Int32) else (if p1 = (2 : Int32) then (57 : Int32) else (if p1 = (3 : Int32) then (65535 : Int32) else (if p1 = (4 : Int32) then (0 : Int32) else (p2 &&& (65535 : Int32))))))))) (fun h => h = h0)) (s₁.setTop (mkF m 0 #[.val (.int p1), .val (.int p2)] []))
  refine go (fun t k => XS.iloadN X0.here hx rfl (hb hby d1_0) rfl  k) ?_
  show Gl _ _ _ _ _ _ _ _ (s₁.setTop (mkF m 1 #[.val (.int p1), .val (.int p2)] [(.int p1)]))
  refine gI (c := p1 = (0 : Int32)) (fun hc1 => ?_) (fun hc1 => ?_)
  · refine go (fun t k => XS.ifNo X0.here hx rfl (hb hby d1_1) rfl ((if0 _ _).trans (teq hc1).2) k) ?_
    show Gl _ _ _ _ _ _ _ _ (s₁.setTop (mkF m 4 #[.val (.int p1), .val (.int p2)] []))
    refine go (fun t k => XS.bipush X0.here hx rfl (hb hby d1_4) k) ?_
    show Gl _ _ _ _ _ _ _ _ (s₁.setTop (mkF m 6 #[.val (.int p1), .val (.int p2)] [(.int (55 : Int32))]))
    exact endI X0 hx Bd (hb hby d1_6) ⟨rfl, e0⟩ N0 (by decide) (by decide)
  · refine go (fun t k => XS.ifYes X0.here hx rfl (pc0 := 1) (pc' := 7) rfl (hb hby d1_1) rfl ((if0 _ _).trans (feq hc1).2) (by decide) (by decide) k) ?_
    show Gl _ _ _ _ _ _ _ _ (s₁.setTop (mkF m 7 #[.val (.int p1), .val (.int p2)] []))
    refine go (fun t k => XS.iloadN X0.here hx rfl (hb hby d1_7) rfl  k) ?_
    show Gl _ _ _ _ _ _ _ _ (s₁.setTop (mkF m 8 #[.val (.int p1), .val (.int p2)] [(.int p1)]))
    refine go (fun t k => XS.iconst X0.here hx rfl (hb hby d1_8) k) ?_
    show Gl _ _ _ _ _ _ _ _ (s₁.setTop (mkF m 9 #[.val (.int p1), .val (.int p2)] [(.int (1 : Int32)), (.int p1)]))
    refine gI (c := p1 = (1 : Int32)) (fun hc9 => ?_) (fun hc9 => ?_)
    · refine go (fun t k => XS.icmpNo X0.here hx rfl (hb hby d1_9) rfl (teq hc9).2 k) ?_
      show Gl _ _ _ _ _ _ _ _ (s₁.setTop (mkF m 12 #[.val (.int p1), .val (.int p2)] []))
      refine go (fun t k => XS.bipush X0.here hx rfl (hb hby d1_12) k) ?_
      show Gl _ _ _ _ _ _ _ _ (s₁.setTop (mkF m 14 #[.val (.int p1), .val (.int p2)] [(.int (56 : Int32))]))
      exact endI X0 hx Bd (hb hby d1_14) ⟨rfl, e0⟩ N0 (by decide) (by decide)
    · refine go (fun t k => XS.icmpYes X0.here hx rfl (pc0 := 9) (pc' := 15) rfl (hb hby d1_9) rfl (feq hc9).2 (by decide) (by decide) k) ?_
      show Gl _ _ _ _ _ _ _ _ (s₁.setTop (mkF m 15 #[.val (.int p1), .val (.int p2)] []))
      refine go (fun t k => XS.iloadN X0.here hx rfl (hb hby d1_15) rfl  k) ?_
      show Gl _ _ _ _ _ _ _ _ (s₁.setTop (mkF m 16 #[.val (.int p1), .val (.int p2)] [(.int p1)]))
      refine go (fun t k => XS.iconst X0.here hx rfl (hb hby d1_16) k) ?_
      show Gl _ _ _ _ _ _ _ _ (s₁.setTop (mkF m 17 #[.val (.int p1), .val (.int p2)] [(.int (2 : Int32)), (.int p1)]))
      refine gI (c := p1 = (2 : Int32)) (fun hc17 => ?_) (fun hc17 => ?_)
      · refine go (fun t k => XS.icmpNo X0.here hx rfl (hb hby d1_17) rfl (teq hc17).2 k) ?_
        show Gl _ _ _ _ _ _ _ _ (s₁.setTop (mkF m 20 #[.val (.int p1), .val (.int p2)] []))
        refine go (fun t k => XS.bipush X0.here hx rfl (hb hby d1_20) k) ?_
        show Gl _ _ _ _ _ _ _ _ (s₁.setTop (mkF m 22 #[.val (.int p1), .val (.int p2)] [(.int (57 : Int32))]))
        exact endI X0 hx Bd (hb hby d1_22) ⟨rfl, e0⟩ N0 (by decide) (by decide)
      · refine go (fun t k => XS.icmpYes X0.here hx rfl (pc0 := 17) (pc' := 23) rfl (hb hby d1_17) rfl (feq hc17).2 (by decide) (by decide) k) ?_
        show Gl _ _ _ _ _ _ _ _ (s₁.setTop (mkF m 23 #[.val (.int p1), .val (.int p2)] []))
        refine go (fun t k => XS.iloadN X0.here hx rfl (hb hby d1_23) rfl  k) ?_
        show Gl _ _ _ _ _ _ _ _ (s₁.setTop (mkF m 24 #[.val (.int p1), .val (.int p2)] [(.int p1)]))
        refine go (fun t k => XS.iconst X0.here hx rfl (hb hby d1_24) k) ?_
        show Gl _ _ _ _ _ _ _ _ (s₁.setTop (mkF m 25 #[.val (.int p1), .val (.int p2)] [(.int (3 : Int32)), (.int p1)]))
        refine gI (c := p1 = (3 : Int32)) (fun hc25 => ?_) (fun hc25 => ?_)
        · refine go (fun t k => XS.icmpNo X0.here hx rfl (hb hby d1_25) rfl (teq hc25).2 k) ?_
          show Gl _ _ _ _ _ _ _ _ (s₁.setTop (mkF m 28 #[.val (.int p1), .val (.int p2)] []))
          refine go (fun t k => X0.ldcInt hx hown (mvT hZ (hw _ (List.mem_of_getElem? (i := 7) rfl))) (g := (mkF m 28 #[.val (.int p1), .val (.int p2)] [])) rfl (hb hby d1_28) _ k) ?_
          show Gl _ _ _ _ _ _ _ _ (s₁.setTop (mkF m 30 #[.val (.int p1), .val (.int p2)] [(.int (65535 : Int32))]))
          exact endI X0 hx Bd (hb hby d1_30) ⟨rfl, e0⟩ N0 (by decide) (by decide)
        · refine go (fun t k => XS.icmpYes X0.here hx rfl (pc0 := 25) (pc' := 31) rfl (hb hby d1_25) rfl (feq hc25).2 (by decide) (by decide) k) ?_
          show Gl _ _ _ _ _ _ _ _ (s₁.setTop (mkF m 31 #[.val (.int p1), .val (.int p2)] []))
          refine go (fun t k => XS.iloadN X0.here hx rfl (hb hby d1_31) rfl  k) ?_
          show Gl _ _ _ _ _ _ _ _ (s₁.setTop (mkF m 32 #[.val (.int p1), .val (.int p2)] [(.int p1)]))
          refine go (fun t k => XS.iconst X0.here hx rfl (hb hby d1_32) k) ?_
          show Gl _ _ _ _ _ _ _ _ (s₁.setTop (mkF m 33 #[.val (.int p1), .val (.int p2)] [(.int (4 : Int32)), (.int p1)]))
          refine gI (c := p1 = (4 : Int32)) (fun hc33 => ?_) (fun hc33 => ?_)
          · refine go (fun t k => XS.icmpNo X0.here hx rfl (hb hby d1_33) rfl (teq hc33).2 k) ?_
            show Gl _ _ _ _ _ _ _ _ (s₁.setTop (mkF m 36 #[.val (.int p1), .val (.int p2)] []))
            refine go (fun t k => XS.iconst X0.here hx rfl (hb hby d1_36) k) ?_
            show Gl _ _ _ _ _ _ _ _ (s₁.setTop (mkF m 37 #[.val (.int p1), .val (.int p2)] [(.int (0 : Int32))]))
            exact endI X0 hx Bd (hb hby d1_37) ⟨rfl, e0⟩ N0 (by decide) (by decide)
          · refine go (fun t k => XS.icmpYes X0.here hx rfl (pc0 := 33) (pc' := 38) rfl (hb hby d1_33) rfl (feq hc33).2 (by decide) (by decide) k) ?_
            show Gl _ _ _ _ _ _ _ _ (s₁.setTop (mkF m 38 #[.val (.int p1), .val (.int p2)] []))
            refine go (fun t k => XS.iloadN X0.here hx rfl (hb hby d1_38) rfl  k) ?_
            show Gl _ _ _ _ _ _ _ _ (s₁.setTop (mkF m 39 #[.val (.int p1), .val (.int p2)] [(.int p2)]))
            refine go (fun t k => X0.ldcInt hx hown (mvT hZ (hw _ (List.mem_of_getElem? (i := 7) rfl))) (g := (mkF m 39 #[.val (.int p1), .val (.int p2)] [(.int p2)])) rfl (hb hby d1_39) _ k) ?_
            show Gl _ _ _ _ _ _ _ _ (s₁.setTop (mkF m 41 #[.val (.int p1), .val (.int p2)] [(.int (65535 : Int32)), (.int p2)]))
            refine go (fun t k => XS.iand X0.here hx rfl (hb hby d1_41) rfl k) ?_
            show Gl _ _ _ _ _ _ _ _ (s₁.setTop (mkF m 42 #[.val (.int p1), .val (.int p2)] [(.int (p2 &&& (65535 : Int32)))]))
            exact endI X0 hx Bd (hb hby d1_42) ⟨rfl, e0⟩ N0 (by decide) (by decide)
theorem d2_0 : decode method_3_code 0 = .ok (.iload_n 0, 1) := by decide +kernel
theorem d2_1 : decode method_3_code 1 = .ok (.ifCond .ne 6, 3) := by decide +kernel
theorem d2_4 : decode method_3_code 4 = .ok (.ldc 7, 2) := by decide +kernel
theorem d2_6 : decode method_3_code 6 = .ok (.ireturn, 1) := by decide +kernel
theorem d2_7 : decode method_3_code 7 = .ok (.iload_n 0, 1) := by decide +kernel
theorem d2_8 : decode method_3_code 8 = .ok (.iconst 1, 1) := by decide +kernel
theorem d2_9 : decode method_3_code 9 = .ok (.if_icmp .ne 6, 3) := by decide +kernel
theorem d2_12 : decode method_3_code 12 = .ok (.ldc 8, 2) := by decide +kernel
theorem d2_14 : decode method_3_code 14 = .ok (.ireturn, 1) := by decide +kernel
theorem d2_15 : decode method_3_code 15 = .ok (.iload_n 0, 1) := by decide +kernel
theorem d2_16 : decode method_3_code 16 = .ok (.iconst 2, 1) := by decide +kernel
theorem d2_17 : decode method_3_code 17 = .ok (.if_icmp .ne 5, 3) := by decide +kernel
theorem d2_20 : decode method_3_code 20 = .ok (.iconst 0, 1) := by decide +kernel
theorem d2_21 : decode method_3_code 21 = .ok (.ireturn, 1) := by decide +kernel
theorem d2_22 : decode method_3_code 22 = .ok (.iload_n 1, 1) := by decide +kernel
theorem d2_23 : decode method_3_code 23 = .ok (.ldc 7, 2) := by decide +kernel
theorem d2_25 : decode method_3_code 25 = .ok (.iand, 1) := by decide +kernel
theorem d2_26 : decode method_3_code 26 = .ok (.ireturn, 1) := by decide +kernel
theorem ef_2 (m : MethodId) (p1 : Int32) (p2 : Int32) : entryFrame m #[(.int p1), (.int p2)] 2 = mkF m 0 #[.val (.int p1), .val (.int p2)] [] := by first | (simp [entryFrame, mkF, argsToLocals, Value.category]; done) | rfl
def b2_0 (p1 : Int32) (p2 : Int32) : Int32 := (if p1 = (0 : Int32) then (65535 : Int32) else (if p1 = (1 : Int32) then (65534 : Int32) else (if p1 = (2 : Int32) then (0 : Int32) else (p2 &&& (65535 : Int32)))))
set_option maxRecDepth 65536 in
set_option maxHeartbeats 40000000 in
theorem rm2 (l : Launch) (Z : State) (a0 : Array Value) (hw : ∀ d ∈ tables_1, d.before a0 Z = true) (ws : List Jvm.Cond) (p1 : Int32) (p2 : Int32) (h0 : Heap) (n0 : Nat) (Z0 : n0 ≤ h0.size) :
    MetFree l (⟨"com/example/linkwright/linkwright/ClassFileVersionIsPreviewPinLaw", "pickMinor", "(II)I"⟩ : MethodName) (head1 (Jvm.Cond.code (⟨"com/example/linkwright/linkwright/ClassFileVersionIsPreviewPinLaw", "pickMinor", "(II)I"⟩ : MethodName) method_3_code 2 (some .int) :: ws) ({ frames := 0, cells := 0, slots := 0, locals := 0 } : Room)) (fun a U => a = #[(.int p1), (.int p2)] ∧ Z.Warmed39 U.vm ∧ U.heap = h0) (fun _ _ _ _ _ => True) (fun _ U o U' => ∃ v L, o = .returned v ∧ QK n0 (Kv (some (.int (b2_0 p1 p2))) (fun h => h = h0)) v U'.heap L ∧ FrameEnd U o U' L ({ frames := 0, cells := 0, slots := 0, locals := 0 } : Room).cells ({ frames := 0, cells := 0, slots := 0, locals := 0 } : Room).slots) := by
  refine MetFree.of_bodySF (plainFor_of_name pn_0) hisR ?_
  intro p e s m args below meth c s₁ Bd hml0 hP hK
  obtain ⟨rfl, hZ, hh⟩ := hP
  have hx := Bd.exec
  have hby := Bd.bytes
  have hml : c.maxLocals = 2 := hml0
  have hown : s.vm.findClass "com/example/linkwright/linkwright/ClassFileVersionIsPreviewPinLaw" = some m.cls := findClass_of_methodNamed Bd.named
  have hnm := (name_of_methodNamed Bd.named Bd.method).1
  have X0 : Stand p l e ({ frames := 0, cells := 0, slots := 0, locals := 0 } : Room) s m #[(.int p1), (.int p2)] below meth c s₁ [] 0 0 := Stand.of_body Bd
  have e0 : s₁.heap = h0 := by rw [← hh, Bd.state]; rfl
  have N0 := Fr.nil n0
  refine gl_start (ef_2 m p1 p2) ?_
  show Gl p e below s n0 ({ frames := 0, cells := 0, slots := 0, locals := 0 } : Room).cells ({ frames := 0, cells := 0, slots := 0, locals := 0 } : Room).slots (Kv (some (.int (if p1 = (0 : Int32) then (65535 : Int32) else (if p1 = (1 : Int32) then (65534 : Int32) else (if p1 = (2 : Int32) then (0 : Int32) else (p2 &&& (65535 : Int32))))))) (fun h => h = h0)) (s₁.setTop (mkF m 0 #[.val (.int p1), .val (.int p2)] []))
  refine go (fun t k => XS.iloadN X0.here hx rfl (hb hby d2_0) rfl  k) ?_
  show Gl _ _ _ _ _ _ _ _ (s₁.setTop (mkF m 1 #[.val (.int p1), .val (.int p2)] [(.int p1)]))
  refine gI (c := p1 = (0 : Int32)) (fun hc1 => ?_) (fun hc1 => ?_)
  · refine go (fun t k => XS.ifNo X0.here hx rfl (hb hby d2_1) rfl ((if0 _ _).trans (teq hc1).2) k) ?_
    show Gl _ _ _ _ _ _ _ _ (s₁.setTop (mkF m 4 #[.val (.int p1), .val (.int p2)] []))
    refine go (fun t k => X0.ldcInt hx hown (mvT hZ (hw _ (List.mem_of_getElem? (i := 7) rfl))) (g := (mkF m 4 #[.val (.int p1), .val (.int p2)] [])) rfl (hb hby d2_4) _ k) ?_
    show Gl _ _ _ _ _ _ _ _ (s₁.setTop (mkF m 6 #[.val (.int p1), .val (.int p2)] [(.int (65535 : Int32))]))
    exact endI X0 hx Bd (hb hby d2_6) ⟨rfl, e0⟩ N0 (by decide) (by decide)
  · refine go (fun t k => XS.ifYes X0.here hx rfl (pc0 := 1) (pc' := 7) rfl (hb hby d2_1) rfl ((if0 _ _).trans (feq hc1).2) (by decide) (by decide) k) ?_
    show Gl _ _ _ _ _ _ _ _ (s₁.setTop (mkF m 7 #[.val (.int p1), .val (.int p2)] []))
    refine go (fun t k => XS.iloadN X0.here hx rfl (hb hby d2_7) rfl  k) ?_
    show Gl _ _ _ _ _ _ _ _ (s₁.setTop (mkF m 8 #[.val (.int p1), .val (.int p2)] [(.int p1)]))
    refine go (fun t k => XS.iconst X0.here hx rfl (hb hby d2_8) k) ?_
    show Gl _ _ _ _ _ _ _ _ (s₁.setTop (mkF m 9 #[.val (.int p1), .val (.int p2)] [(.int (1 : Int32)), (.int p1)]))
    refine gI (c := p1 = (1 : Int32)) (fun hc9 => ?_) (fun hc9 => ?_)
    · refine go (fun t k => XS.icmpNo X0.here hx rfl (hb hby d2_9) rfl (teq hc9).2 k) ?_
      show Gl _ _ _ _ _ _ _ _ (s₁.setTop (mkF m 12 #[.val (.int p1), .val (.int p2)] []))
      refine go (fun t k => X0.ldcInt hx hown (mvT hZ (hw _ (List.mem_of_getElem? (i := 37) rfl))) (g := (mkF m 12 #[.val (.int p1), .val (.int p2)] [])) rfl (hb hby d2_12) _ k) ?_
      show Gl _ _ _ _ _ _ _ _ (s₁.setTop (mkF m 14 #[.val (.int p1), .val (.int p2)] [(.int (65534 : Int32))]))
      exact endI X0 hx Bd (hb hby d2_14) ⟨rfl, e0⟩ N0 (by decide) (by decide)
    · refine go (fun t k => XS.icmpYes X0.here hx rfl (pc0 := 9) (pc' := 15) rfl (hb hby d2_9) rfl (feq hc9).2 (by decide) (by decide) k) ?_
      show Gl _ _ _ _ _ _ _ _ (s₁.setTop (mkF m 15 #[.val (.int p1), .val (.int p2)] []))
      refine go (fun t k => XS.iloadN X0.here hx rfl (hb hby d2_15) rfl  k) ?_
      show Gl _ _ _ _ _ _ _ _ (s₁.setTop (mkF m 16 #[.val (.int p1), .val (.int p2)] [(.int p1)]))
      refine go (fun t k => XS.iconst X0.here hx rfl (hb hby d2_16) k) ?_
      show Gl _ _ _ _ _ _ _ _ (s₁.setTop (mkF m 17 #[.val (.int p1), .val (.int p2)] [(.int (2 : Int32)), (.int p1)]))
      refine gI (c := p1 = (2 : Int32)) (fun hc17 => ?_) (fun hc17 => ?_)
      · refine go (fun t k => XS.icmpNo X0.here hx rfl (hb hby d2_17) rfl (teq hc17).2 k) ?_
        show Gl _ _ _ _ _ _ _ _ (s₁.setTop (mkF m 20 #[.val (.int p1), .val (.int p2)] []))
        refine go (fun t k => XS.iconst X0.here hx rfl (hb hby d2_20) k) ?_
        show Gl _ _ _ _ _ _ _ _ (s₁.setTop (mkF m 21 #[.val (.int p1), .val (.int p2)] [(.int (0 : Int32))]))
        exact endI X0 hx Bd (hb hby d2_21) ⟨rfl, e0⟩ N0 (by decide) (by decide)
      · refine go (fun t k => XS.icmpYes X0.here hx rfl (pc0 := 17) (pc' := 22) rfl (hb hby d2_17) rfl (feq hc17).2 (by decide) (by decide) k) ?_
        show Gl _ _ _ _ _ _ _ _ (s₁.setTop (mkF m 22 #[.val (.int p1), .val (.int p2)] []))
        refine go (fun t k => XS.iloadN X0.here hx rfl (hb hby d2_22) rfl  k) ?_
        show Gl _ _ _ _ _ _ _ _ (s₁.setTop (mkF m 23 #[.val (.int p1), .val (.int p2)] [(.int p2)]))
        refine go (fun t k => X0.ldcInt hx hown (mvT hZ (hw _ (List.mem_of_getElem? (i := 7) rfl))) (g := (mkF m 23 #[.val (.int p1), .val (.int p2)] [(.int p2)])) rfl (hb hby d2_23) _ k) ?_
        show Gl _ _ _ _ _ _ _ _ (s₁.setTop (mkF m 25 #[.val (.int p1), .val (.int p2)] [(.int (65535 : Int32)), (.int p2)]))
        refine go (fun t k => XS.iand X0.here hx rfl (hb hby d2_25) rfl k) ?_
        show Gl _ _ _ _ _ _ _ _ (s₁.setTop (mkF m 26 #[.val (.int p1), .val (.int p2)] [(.int (p2 &&& (65535 : Int32)))]))
        exact endI X0 hx Bd (hb hby d2_26) ⟨rfl, e0⟩ N0 (by decide) (by decide)
theorem d4_0 : decode jdk_30_method_1_code 0 = .ok (.aload_n 0, 1) := by decide +kernel
theorem d4_1 : decode jdk_30_method_1_code 1 = .ok (.invokespecial 1, 3) := by decide +kernel
theorem d4_4 : decode jdk_30_method_1_code 4 = .ok (.return_, 1) := by decide +kernel
theorem pn_1 : plainName "java/lang/Record" = true := by first | (simp [plainName, overriddenIn]; done) | decide +kernel
theorem ef_4 (m : MethodId) (a1 : Addr) : entryFrame m #[(.ref a1)] 1 = mkF m 0 #[.val (.ref a1)] [] := by first | (simp [entryFrame, mkF, argsToLocals, Value.category]; done) | rfl
set_option maxRecDepth 65536 in
set_option maxHeartbeats 40000000 in
theorem rm4 (l : Launch) (Z : State) (a0 : Array Value) (hw : ∀ d ∈ tables_1, d.before a0 Z = true) (ws : List Jvm.Cond) (a1 : Addr) (h0 : Heap) (n0 : Nat) (Z0 : n0 ≤ h0.size) :
    MetFree l (⟨"java/lang/Record", "<init>", "()V"⟩ : MethodName) (head1 (Jvm.Cond.code (⟨"java/lang/Record", "<init>", "()V"⟩ : MethodName) jdk_30_method_1_code 1 none :: ws) ({ frames := 1, cells := 0, slots := 0, locals := 12 } : Room)) (fun a U => a = #[(.ref a1)] ∧ Z.Warmed39 U.vm ∧ U.heap = h0) (fun _ _ _ _ _ => True) (fun _ U o U' => ∃ v L, o = .returned v ∧ QK n0 (Kv none (fun h => h = h0)) v U'.heap L ∧ FrameEnd U o U' L ({ frames := 1, cells := 0, slots := 0, locals := 12 } : Room).cells ({ frames := 1, cells := 0, slots := 0, locals := 12 } : Room).slots) := by
  refine MetFree.of_bodySF (plainFor_of_name pn_1) hisR ?_
  intro p e s m args below meth c s₁ Bd hml0 hP hK
  obtain ⟨rfl, hZ, hh⟩ := hP
  have hx := Bd.exec
  have hby := Bd.bytes
  have hml : c.maxLocals = 1 := hml0
  have hown : s.vm.findClass "java/lang/Record" = some m.cls := findClass_of_methodNamed Bd.named
  have hnm := (name_of_methodNamed Bd.named Bd.method).1
  have X0 : Stand p l e ({ frames := 1, cells := 0, slots := 0, locals := 12 } : Room) s m #[(.ref a1)] below meth c s₁ [] 0 0 := Stand.of_body Bd
  have e0 : s₁.heap = h0 := by rw [← hh, Bd.state]; rfl
  have N0 := Fr.nil n0
  refine gl_start (ef_4 m a1) ?_
  show Gl p e below s n0 ({ frames := 1, cells := 0, slots := 0, locals := 12 } : Room).cells ({ frames := 1, cells := 0, slots := 0, locals := 12 } : Room).slots (Kv none (fun h => h = h0)) (s₁.setTop (mkF m 0 #[.val (.ref a1)] []))
  refine go (fun t k => XS.aloadN X0.here hx rfl (hb hby d4_0) rfl rfl k) ?_
  show Gl _ _ _ _ _ _ _ _ (s₁.setTop (mkF m 1 #[.val (.ref a1)] [(.ref a1)]))
  obtain ⟨T1, X1, e1, st1⟩ := initO X0 hx hZ hown (hw _ (List.mem_of_getElem? (i := 19) rfl)) (hw _ (List.mem_of_getElem? (i := 20) rfl)) (hw _ (List.mem_of_getElem? (i := 21) rfl)) e0 (g := (mkF m 1 #[.val (.ref a1)] [(.ref a1)])) rfl (by rw [hml]; rfl) rfl (hb hby d4_1) (by decide) (W := 0) (by show 2 * 0 + _ ≤ _; exact Nat.le_of_eq rfl) (by decide)
  refine go (fun t k => st1 _ k) ?_
  show Gl _ _ _ _ _ _ _ _ (T1.setTop (mkF m 4 #[.val (.ref a1)] []))
  exact endV X1 hx Bd (hb hby d4_4) ⟨rfl, e1⟩ N0 (by decide) (by decide)
theorem pd_0 : parseMethodDescriptor "()V" = some ⟨[], none⟩ := by decide +kernel
theorem d3_0 : decode prog_1_method_1_code 0 = .ok (.aload_n 0, 1) := by decide +kernel
theorem d3_1 : decode prog_1_method_1_code 1 = .ok (.invokespecial 1, 3) := by decide +kernel
theorem d3_4 : decode prog_1_method_1_code 4 = .ok (.iload_n 1, 1) := by decide +kernel
theorem d3_5 : decode prog_1_method_1_code 5 = .ok (.ifCond .lt 19, 3) := by decide +kernel
theorem d3_8 : decode prog_1_method_1_code 8 = .ok (.iload_n 1, 1) := by decide +kernel
theorem d3_9 : decode prog_1_method_1_code 9 = .ok (.ldc 9, 2) := by decide +kernel
theorem d3_11 : decode prog_1_method_1_code 11 = .ok (.if_icmp .gt 13, 3) := by decide +kernel
theorem d3_14 : decode prog_1_method_1_code 14 = .ok (.iload_n 2, 1) := by decide +kernel
theorem d3_15 : decode prog_1_method_1_code 15 = .ok (.ifCond .lt 9, 3) := by decide +kernel
theorem d3_18 : decode prog_1_method_1_code 18 = .ok (.iload_n 2, 1) := by decide +kernel
theorem d3_19 : decode prog_1_method_1_code 19 = .ok (.ldc 9, 2) := by decide +kernel
theorem d3_21 : decode prog_1_method_1_code 21 = .ok (.if_icmp .le 18, 3) := by decide +kernel
theorem d3_39 : decode prog_1_method_1_code 39 = .ok (.aload_n 0, 1) := by decide +kernel
theorem d3_40 : decode prog_1_method_1_code 40 = .ok (.iload_n 1, 1) := by decide +kernel
theorem d3_41 : decode prog_1_method_1_code 41 = .ok (.putfield 19, 3) := by decide +kernel
theorem d3_44 : decode prog_1_method_1_code 44 = .ok (.aload_n 0, 1) := by decide +kernel
theorem d3_45 : decode prog_1_method_1_code 45 = .ok (.iload_n 2, 1) := by decide +kernel
theorem d3_46 : decode prog_1_method_1_code 46 = .ok (.putfield 23, 3) := by decide +kernel
theorem d3_49 : decode prog_1_method_1_code 49 = .ok (.return_, 1) := by decide +kernel
theorem pn_2 : plainName "com/example/linkwright/linkwright/ClassFileVersion" = true := by first | (simp [plainName, overriddenIn]; done) | decide +kernel
theorem ef_3 (m : MethodId) (a1 : Addr) (p2 : Int32) (p3 : Int32) : entryFrame m #[(.ref a1), (.int p2), (.int p3)] 3 = mkF m 0 #[.val (.ref a1), .val (.int p2), .val (.int p3)] [] := by first | (simp [entryFrame, mkF, argsToLocals, Value.category]; done) | rfl
set_option maxRecDepth 65536 in
set_option maxHeartbeats 40000000 in
theorem rm3 (l : Launch) (Z : State) (a0 : Array Value) (hw : ∀ d ∈ tables_1, d.before a0 Z = true) (ws : List Jvm.Cond) (a1 : Addr) (p2 : Int32) (p3 : Int32) (w_major_a1 : Value) (w_minor_a1 : Value) (h0 : Heap) (n0 : Nat) (Z0 : n0 ≤ h0.size) (E_a1 : Exa Z h0 a1 "com/example/linkwright/linkwright/ClassFileVersion") (g_a1 : n0 ≤ a1) (F_major_a1 : Fld Z h0 a1 "com/example/linkwright/linkwright/ClassFileVersion" "major" "I" w_major_a1) (F_minor_a1 : Fld Z h0 a1 "com/example/linkwright/linkwright/ClassFileVersion" "minor" "I" w_minor_a1) (hc5 : ¬ (p2 < (0 : Int32))) (hc11 : ¬ ((65535 : Int32) < p2)) (hc15 : ¬ (p3 < (0 : Int32))) (hc21 : ¬ ((65535 : Int32) < p3)) :
    MetFree l (⟨"com/example/linkwright/linkwright/ClassFileVersion", "<init>", "(II)V"⟩ : MethodName) (head1 (Jvm.Cond.code (⟨"com/example/linkwright/linkwright/ClassFileVersion", "<init>", "(II)V"⟩ : MethodName) prog_1_method_1_code 3 none :: ws) ({ frames := 2, cells := 0, slots := 0, locals := 24 } : Room)) (fun a U => a = #[(.ref a1), (.int p2), (.int p3)] ∧ Z.Warmed39 U.vm ∧ U.heap = h0) (fun _ _ _ _ _ => True) (fun _ U o U' => ∃ v L, o = .returned v ∧ QK n0 (Kv none (fun h => Keep h0 h [a1] ∧ Exa Z h a1 "com/example/linkwright/linkwright/ClassFileVersion" ∧ Fld Z h a1 "com/example/linkwright/linkwright/ClassFileVersion" "major" "I" (.int p2) ∧ Fld Z h a1 "com/example/linkwright/linkwright/ClassFileVersion" "minor" "I" (.int p3))) v U'.heap L ∧ FrameEnd U o U' L ({ frames := 2, cells := 0, slots := 0, locals := 24 } : Room).cells ({ frames := 2, cells := 0, slots := 0, locals := 24 } : Room).slots) := by
  refine MetFree.of_bodySF (plainFor_of_name pn_2) hisR ?_
  intro p e s m args below meth c s₁ Bd hml0 hP hK
  obtain ⟨rfl, hZ, hh⟩ := hP
  have hx := Bd.exec
  have hby := Bd.bytes
  have hml : c.maxLocals = 3 := hml0
  have hown : s.vm.findClass "com/example/linkwright/linkwright/ClassFileVersion" = some m.cls := findClass_of_methodNamed Bd.named
  have hnm := (name_of_methodNamed Bd.named Bd.method).1
  have X0 : Stand p l e ({ frames := 2, cells := 0, slots := 0, locals := 24 } : Room) s m #[(.ref a1), (.int p2), (.int p3)] below meth c s₁ [] 0 0 := Stand.of_body Bd
  have e0 : s₁.heap = h0 := by rw [← hh, Bd.state]; rfl
  have N0 := Fr.nil n0
  refine gl_start (ef_3 m a1 p2 p3) ?_
  show Gl p e below s n0 ({ frames := 2, cells := 0, slots := 0, locals := 24 } : Room).cells ({ frames := 2, cells := 0, slots := 0, locals := 24 } : Room).slots (Kv none (fun h => Keep h0 h [a1] ∧ Exa Z h a1 "com/example/linkwright/linkwright/ClassFileVersion" ∧ Fld Z h a1 "com/example/linkwright/linkwright/ClassFileVersion" "major" "I" (.int p2) ∧ Fld Z h a1 "com/example/linkwright/linkwright/ClassFileVersion" "minor" "I" (.int p3))) (s₁.setTop (mkF m 0 #[.val (.ref a1), .val (.int p2), .val (.int p3)] []))
  refine go (fun t k => XS.aloadN X0.here hx rfl (hb hby d3_0) rfl rfl k) ?_
  show Gl _ _ _ _ _ _ _ _ (s₁.setTop (mkF m 1 #[.val (.ref a1), .val (.int p2), .val (.int p3)] [(.ref a1)]))
  obtain ⟨_, _, ⟨T1, L1, k1, n1⟩, -, X1, ⟨Lc1, hQ1, l1, y1, z1⟩, st1⟩ := X0.specialBack hx (y := (⟨"java/lang/Record", "<init>", "()V"⟩ : MethodName)) rfl hown (mvT hZ (hw _ (List.mem_of_getElem? (i := 14) rfl))) (mvT hZ (hw _ (List.mem_of_getElem? (i := 15) rfl))) (mvT hZ (hw _ (List.mem_of_getElem? (i := 18) rfl))) (by decide) (backOf (W := 0) (rm4 l Z a0 hw [] a1 h0 n0 Z0 ) hZ (hw _ (List.mem_of_getElem? (i := 18) rfl)) (hw _ (List.mem_of_getElem? (i := 17) rfl)) (by decide) (by decide)) (g := (mkF m 1 #[.val (.ref a1), .val (.int p2), .val (.int p3)] [(.ref a1)])) rfl (by rw [hml]; rfl) (Steps.refl _) (a := a1) (argsL := []) (rest := []) (lenOf pd_0 rfl) rfl (by show 2 * 0 + _ ≤ _; exact Nat.le_of_eq rfl) (hb hby d3_1) (fun _ _ => ⟨rfl, e0, (by decide : 0 + 0 ≤ _), (by decide : 0 + 0 ≤ _)⟩)
  dsimp only [Pt.U, Pt.locs, Pt.cells, Pt.slots] at X1 l1 y1 z1 st1 hQ1
  subst l1 y1 z1
  have X1 : Stand p l e ({ frames := 2, cells := 0, slots := 0, locals := 24 } : Room) s m #[(.ref a1), (.int p2), (.int p3)] below meth c T1 _ 0 0 := X1
  obtain ⟨⟨rfl, e1'⟩, N1q⟩ := hQ1
  have e1 : T1.heap = h0 := e1'
  have N1 := Fr.app N0 N1q
  refine go (fun t k => st1.trans k) ?_
  show Gl _ _ _ _ _ _ _ _ (T1.setTop (mkF m 4 #[.val (.ref a1), .val (.int p2), .val (.int p3)] []))
  refine go (fun t k => XS.iloadN X1.here hx rfl (hb hby d3_4) rfl  k) ?_
  show Gl _ _ _ _ _ _ _ _ (T1.setTop (mkF m 5 #[.val (.ref a1), .val (.int p2), .val (.int p3)] [(.int p2)]))
  refine go (fun t k => XS.ifNo X1.here hx rfl (hb hby d3_5) rfl ((if0 _ _).trans (flt hc5).1) k) ?_
  show Gl _ _ _ _ _ _ _ _ (T1.setTop (mkF m 8 #[.val (.ref a1), .val (.int p2), .val (.int p3)] []))
  refine go (fun t k => XS.iloadN X1.here hx rfl (hb hby d3_8) rfl  k) ?_
  show Gl _ _ _ _ _ _ _ _ (T1.setTop (mkF m 9 #[.val (.ref a1), .val (.int p2), .val (.int p3)] [(.int p2)]))
  refine go (fun t k => X1.ldcInt hx hown (mvT hZ (hw _ (List.mem_of_getElem? (i := 22) rfl))) (g := (mkF m 9 #[.val (.ref a1), .val (.int p2), .val (.int p3)] [(.int p2)])) rfl (hb hby d3_9) _ k) ?_
  show Gl _ _ _ _ _ _ _ _ (T1.setTop (mkF m 11 #[.val (.ref a1), .val (.int p2), .val (.int p3)] [(.int (65535 : Int32)), (.int p2)]))
  refine go (fun t k => XS.icmpNo X1.here hx rfl (hb hby d3_11) rfl (flt hc11).2.2.1 k) ?_
  show Gl _ _ _ _ _ _ _ _ (T1.setTop (mkF m 14 #[.val (.ref a1), .val (.int p2), .val (.int p3)] []))
  refine go (fun t k => XS.iloadN X1.here hx rfl (hb hby d3_14) rfl  k) ?_
  show Gl _ _ _ _ _ _ _ _ (T1.setTop (mkF m 15 #[.val (.ref a1), .val (.int p2), .val (.int p3)] [(.int p3)]))
  refine go (fun t k => XS.ifNo X1.here hx rfl (hb hby d3_15) rfl ((if0 _ _).trans (flt hc15).1) k) ?_
  show Gl _ _ _ _ _ _ _ _ (T1.setTop (mkF m 18 #[.val (.ref a1), .val (.int p2), .val (.int p3)] []))
  refine go (fun t k => XS.iloadN X1.here hx rfl (hb hby d3_18) rfl  k) ?_
  show Gl _ _ _ _ _ _ _ _ (T1.setTop (mkF m 19 #[.val (.ref a1), .val (.int p2), .val (.int p3)] [(.int p3)]))
  refine go (fun t k => X1.ldcInt hx hown (mvT hZ (hw _ (List.mem_of_getElem? (i := 22) rfl))) (g := (mkF m 19 #[.val (.ref a1), .val (.int p2), .val (.int p3)] [(.int p3)])) rfl (hb hby d3_19) _ k) ?_
  show Gl _ _ _ _ _ _ _ _ (T1.setTop (mkF m 21 #[.val (.ref a1), .val (.int p2), .val (.int p3)] [(.int (65535 : Int32)), (.int p3)]))
  refine go (fun t k => XS.icmpYes X1.here hx rfl (pc0 := 21) (pc' := 39) rfl (hb hby d3_21) rfl (flt hc21).2.2.2 (by decide) (by decide) k) ?_
  show Gl _ _ _ _ _ _ _ _ (T1.setTop (mkF m 39 #[.val (.ref a1), .val (.int p2), .val (.int p3)] []))
  refine go (fun t k => XS.aloadN X1.here hx rfl (hb hby d3_39) rfl rfl k) ?_
  show Gl _ _ _ _ _ _ _ _ (T1.setTop (mkF m 40 #[.val (.ref a1), .val (.int p2), .val (.int p3)] [(.ref a1)]))
  refine go (fun t k => XS.iloadN X1.here hx rfl (hb hby d3_40) rfl  k) ?_
  show Gl _ _ _ _ _ _ _ _ (T1.setTop (mkF m 41 #[.val (.ref a1), .val (.int p2), .val (.int p3)] [(.int p2), (.ref a1)]))
  obtain ⟨T2, h2, X2, e2, W2, st2⟩ := putF X1 hx hZ hown (host := "") (Or.inl (hw _ (List.mem_of_getElem? (i := 23) rfl))) Via.refl e1 F_major_a1 E_a1 (Or.inr ⟨(hw _ (List.mem_of_getElem? (i := 24) rfl)), rfl, hnm⟩) (hw _ (List.mem_of_getElem? (i := 9) rfl)) (ty := .int) (by decide) rfl rfl (g := (mkF m 41 #[.val (.ref a1), .val (.int p2), .val (.int p3)] [(.int p2), (.ref a1)])) rfl rfl (hb hby d3_41)
  have Fw2 := F_major_a1.same W2
  have K2 : Keep h0 h2 [a1] := (Keep.refl h0 [a1]).wr W2 (Or.inl (List.mem_of_getElem? (i := 0) rfl))
  have N2 := Fr.snoc X2 N1 g_a1
  refine go (fun t k => st2 _ k) ?_
  show Gl _ _ _ _ _ _ _ _ (T2.setTop (mkF m 44 #[.val (.ref a1), .val (.int p2), .val (.int p3)] []))
  refine go (fun t k => XS.aloadN X2.here hx rfl (hb hby d3_44) rfl rfl k) ?_
  show Gl _ _ _ _ _ _ _ _ (T2.setTop (mkF m 45 #[.val (.ref a1), .val (.int p2), .val (.int p3)] [(.ref a1)]))
  refine go (fun t k => XS.iloadN X2.here hx rfl (hb hby d3_45) rfl  k) ?_
  show Gl _ _ _ _ _ _ _ _ (T2.setTop (mkF m 46 #[.val (.ref a1), .val (.int p2), .val (.int p3)] [(.int p3), (.ref a1)]))
  obtain ⟨T3, h3, X3, e3, W3, st3⟩ := putF X2 hx hZ hown (host := "") (Or.inl (hw _ (List.mem_of_getElem? (i := 25) rfl))) Via.refl e2 (F_minor_a1.other W2 (Or.inr (slot_ne (Or.inr (hw _ (List.mem_of_getElem? (i := 26) rfl))) (Or.inr (hw _ (List.mem_of_getElem? (i := 24) rfl))) (by decide) (t := .int) (t' := .int) (by decide) (by decide)))) (E_a1.wr W2) (Or.inr ⟨(hw _ (List.mem_of_getElem? (i := 26) rfl)), rfl, hnm⟩) (hw _ (List.mem_of_getElem? (i := 9) rfl)) (ty := .int) (by decide) rfl rfl (g := (mkF m 46 #[.val (.ref a1), .val (.int p2), .val (.int p3)] [(.int p3), (.ref a1)])) rfl rfl (hb hby d3_46)
  have Fw3 := (F_minor_a1.other W2 (Or.inr (slot_ne (Or.inr (hw _ (List.mem_of_getElem? (i := 26) rfl))) (Or.inr (hw _ (List.mem_of_getElem? (i := 24) rfl))) (by decide) (t := .int) (t' := .int) (by decide) (by decide)))).same W3
  have K3 : Keep h0 h3 [a1] := K2.wr W3 (Or.inl (List.mem_of_getElem? (i := 0) rfl))
  have N3 := Fr.snoc X3 N2 g_a1
  refine go (fun t k => st3 _ k) ?_
  show Gl _ _ _ _ _ _ _ _ (T3.setTop (mkF m 49 #[.val (.ref a1), .val (.int p2), .val (.int p3)] []))
  exact endV X3 hx Bd (hb hby d3_49) ⟨rfl, (by rw [e3]; exact ⟨K3, ((E_a1.wr W2).wr W3), (Fw2.other W3 (Or.inr (slot_ne (Or.inr (hw _ (List.mem_of_getElem? (i := 24) rfl))) (Or.inr (hw _ (List.mem_of_getElem? (i := 26) rfl))) (by decide) (t := .int) (t' := .int) (by decide) (by decide)))), Fw3⟩)⟩ N3 (by decide) (by decide)
theorem d6_0 : decode prog_1_method_2_code 0 = .ok (.aload_n 0, 1) := by decide +kernel
theorem d6_1 : decode prog_1_method_2_code 1 = .ok (.getfield 19, 3) := by decide +kernel
theorem d6_4 : decode prog_1_method_2_code 4 = .ok (.bipush 56, 2) := by decide +kernel
theorem d6_6 : decode prog_1_method_2_code 6 = .ok (.if_icmp .lt 16, 3) := by decide +kernel
theorem d6_9 : decode prog_1_method_2_code 9 = .ok (.aload_n 0, 1) := by decide +kernel
theorem d6_10 : decode prog_1_method_2_code 10 = .ok (.getfield 23, 3) := by decide +kernel
theorem d6_13 : decode prog_1_method_2_code 13 = .ok (.ldc 9, 2) := by decide +kernel
theorem d6_15 : decode prog_1_method_2_code 15 = .ok (.if_icmp .ne 7, 3) := by decide +kernel
theorem d6_18 : decode prog_1_method_2_code 18 = .ok (.iconst 1, 1) := by decide +kernel
theorem d6_19 : decode prog_1_method_2_code 19 = .ok (.goto 4, 3) := by decide +kernel
theorem d6_22 : decode prog_1_method_2_code 22 = .ok (.iconst 0, 1) := by decide +kernel
theorem d6_23 : decode prog_1_method_2_code 23 = .ok (.ireturn, 1) := by decide +kernel
theorem ef_6 (m : MethodId) (a1 : Addr) : entryFrame m #[(.ref a1)] 1 = mkF m 0 #[.val (.ref a1)] [] := by first | (simp [entryFrame, mkF, argsToLocals, Value.category]; done) | rfl
def b6_23 (s0_23 : Int32) : Int32 := (nar .boolean s0_23)
def b6_22  : Int32 := (b6_23 (0 : Int32))
def b6_0 (w_major_a1 : Int32) (w_minor_a1 : Int32) : Int32 := (if w_major_a1 < (56 : Int32) then b6_22 else (if w_minor_a1 = (65535 : Int32) then (b6_23 (1 : Int32)) else b6_22))
set_option maxRecDepth 65536 in
set_option maxHeartbeats 40000000 in
theorem rm6 (l : Launch) (Z : State) (a0 : Array Value) (hw : ∀ d ∈ tables_1, d.before a0 Z = true) (ws : List Jvm.Cond) (a1 : Addr) (w_major_a1 : Int32) (w_minor_a1 : Int32) (h0 : Heap) (n0 : Nat) (Z0 : n0 ≤ h0.size) (F_major_a1 : Fld Z h0 a1 "com/example/linkwright/linkwright/ClassFileVersion" "major" "I" (.int w_major_a1)) (F_minor_a1 : Fld Z h0 a1 "com/example/linkwright/linkwright/ClassFileVersion" "minor" "I" (.int w_minor_a1)) :
    MetFree l (⟨"com/example/linkwright/linkwright/ClassFileVersion", "isPreview", "()Z"⟩ : MethodName) (head1 (Jvm.Cond.code (⟨"com/example/linkwright/linkwright/ClassFileVersion", "isPreview", "()Z"⟩ : MethodName) prog_1_method_2_code 1 (some .boolean) :: ws) ({ frames := 0, cells := 0, slots := 0, locals := 0 } : Room)) (fun a U => a = #[(.ref a1)] ∧ Z.Warmed39 U.vm ∧ U.heap = h0) (fun _ _ _ _ _ => True) (fun _ U o U' => ∃ v L, o = .returned v ∧ QK n0 (Kv (some (.int (b6_0 w_major_a1 w_minor_a1))) (fun h => h = h0)) v U'.heap L ∧ FrameEnd U o U' L ({ frames := 0, cells := 0, slots := 0, locals := 0 } : Room).cells ({ frames := 0, cells := 0, slots := 0, locals := 0 } : Room).slots) := by
  refine MetFree.of_bodySF (plainFor_of_name pn_2) hisR ?_
  intro p e s m args below meth c s₁ Bd hml0 hP hK
  obtain ⟨rfl, hZ, hh⟩ := hP
  have hx := Bd.exec
  have hby := Bd.bytes
  have hml : c.maxLocals = 1 := hml0
  have hown : s.vm.findClass "com/example/linkwright/linkwright/ClassFileVersion" = some m.cls := findClass_of_methodNamed Bd.named
  have hnm := (name_of_methodNamed Bd.named Bd.method).1
  have X0 : Stand p l e ({ frames := 0, cells := 0, slots := 0, locals := 0 } : Room) s m #[(.ref a1)] below meth c s₁ [] 0 0 := Stand.of_body Bd
  have e0 : s₁.heap = h0 := by rw [← hh, Bd.state]; rfl
  have N0 := Fr.nil n0
  refine gl_start (ef_6 m a1) ?_
  show Gl p e below s n0 ({ frames := 0, cells := 0, slots := 0, locals := 0 } : Room).cells ({ frames := 0, cells := 0, slots := 0, locals := 0 } : Room).slots (Kv (some (.int (if w_major_a1 < (56 : Int32) then b6_22 else (if w_minor_a1 = (65535 : Int32) then (b6_23 (1 : Int32)) else b6_22)))) (fun h => h = h0)) (s₁.setTop (mkF m 0 #[.val (.ref a1)] []))
  refine go (fun t k => XS.aloadN X0.here hx rfl (hb hby d6_0) rfl rfl k) ?_
  show Gl _ _ _ _ _ _ _ _ (s₁.setTop (mkF m 1 #[.val (.ref a1)] [(.ref a1)]))
  obtain ⟨T1, X1, e1, st1⟩ := getF X0 hx hZ hown (host := "") (Or.inl (hw _ (List.mem_of_getElem? (i := 23) rfl))) Via.refl e0 F_major_a1 (g := (mkF m 1 #[.val (.ref a1)] [(.ref a1)])) rfl rfl (hb hby d6_1)
  refine go (fun t k => st1 _ k) ?_
  show Gl _ _ _ _ _ _ _ _ (T1.setTop (mkF m 4 #[.val (.ref a1)] [(.int w_major_a1)]))
  refine go (fun t k => XS.bipush X1.here hx rfl (hb hby d6_4) k) ?_
  show Gl _ _ _ _ _ _ _ _ (T1.setTop (mkF m 6 #[.val (.ref a1)] [(.int (56 : Int32)), (.int w_major_a1)]))
  have J23 : ∀ (s0_23 : Int32) (TJ23 : State) (lJ23 : List Loc) (XJ23 : Stand p l e ({ frames := 0, cells := 0, slots := 0, locals := 0 } : Room) s m #[(.ref a1)] below meth c TJ23 lJ23 0 0) (eJ23 : TJ23.heap = h0) (NJ23 : Fr n0 lJ23), Gl p e below s n0 ({ frames := 0, cells := 0, slots := 0, locals := 0 } : Room).cells ({ frames := 0, cells := 0, slots := 0, locals := 0 } : Room).slots (Kv (some (.int (b6_23 s0_23))) (fun h => h = h0)) (TJ23.setTop (mkF m 23 #[.val (.ref a1)] [(.int s0_23)])) := by
    intro s0_23 TJ23 lJ23 XJ23 eJ23 NJ23
    show Gl _ _ _ _ _ _ _ (Kv (some (.int (nar .boolean s0_23))) _) _
    exact endN XJ23 hx Bd (t := .boolean) (by simp) (hb hby d6_23) ⟨rfl, eJ23⟩ NJ23 (by decide) (by decide)
  have J22 : ∀  (TJ22 : State) (lJ22 : List Loc) (XJ22 : Stand p l e ({ frames := 0, cells := 0, slots := 0, locals := 0 } : Room) s m #[(.ref a1)] below meth c TJ22 lJ22 0 0) (eJ22 : TJ22.heap = h0) (NJ22 : Fr n0 lJ22), Gl p e below s n0 ({ frames := 0, cells := 0, slots := 0, locals := 0 } : Room).cells ({ frames := 0, cells := 0, slots := 0, locals := 0 } : Room).slots (Kv (some (.int b6_22)) (fun h => h = h0)) (TJ22.setTop (mkF m 22 #[.val (.ref a1)] [])) := by
    intro  TJ22 lJ22 XJ22 eJ22 NJ22
    show Gl _ _ _ _ _ _ _ (Kv (some (.int (b6_23 (0 : Int32)))) _) _
    refine go (fun t k => XS.iconst XJ22.here hx rfl (hb hby d6_22) k) ?_
    show Gl _ _ _ _ _ _ _ _ (TJ22.setTop (mkF m 23 #[.val (.ref a1)] [(.int (0 : Int32))]))
    exact J23 (0 : Int32) TJ22 _ XJ22 eJ22 NJ22
  refine gI (c := w_major_a1 < (56 : Int32)) (fun hc6 => ?_) (fun hc6 => ?_)
  · refine go (fun t k => XS.icmpYes X1.here hx rfl (pc0 := 6) (pc' := 22) rfl (hb hby d6_6) rfl (tlt hc6).1 (by decide) (by decide) k) ?_
    show Gl _ _ _ _ _ _ _ _ (T1.setTop (mkF m 22 #[.val (.ref a1)] []))
    exact J22  T1 _ X1 e1 N0
  · refine go (fun t k => XS.icmpNo X1.here hx rfl (hb hby d6_6) rfl (flt hc6).1 k) ?_
    show Gl _ _ _ _ _ _ _ _ (T1.setTop (mkF m 9 #[.val (.ref a1)] []))
    refine go (fun t k => XS.aloadN X1.here hx rfl (hb hby d6_9) rfl rfl k) ?_
    show Gl _ _ _ _ _ _ _ _ (T1.setTop (mkF m 10 #[.val (.ref a1)] [(.ref a1)]))
    obtain ⟨T4, X4, e4, st4⟩ := getF X1 hx hZ hown (host := "") (Or.inl (hw _ (List.mem_of_getElem? (i := 25) rfl))) Via.refl e1 F_minor_a1 (g := (mkF m 10 #[.val (.ref a1)] [(.ref a1)])) rfl rfl (hb hby d6_10)
    refine go (fun t k => st4 _ k) ?_
    show Gl _ _ _ _ _ _ _ _ (T4.setTop (mkF m 13 #[.val (.ref a1)] [(.int w_minor_a1)]))
    refine go (fun t k => X4.ldcInt hx hown (mvT hZ (hw _ (List.mem_of_getElem? (i := 22) rfl))) (g := (mkF m 13 #[.val (.ref a1)] [(.int w_minor_a1)])) rfl (hb hby d6_13) _ k) ?_
    show Gl _ _ _ _ _ _ _ _ (T4.setTop (mkF m 15 #[.val (.ref a1)] [(.int (65535 : Int32)), (.int w_minor_a1)]))
    refine gI (c := w_minor_a1 = (65535 : Int32)) (fun hc15 => ?_) (fun hc15 => ?_)
    · refine go (fun t k => XS.icmpNo X4.here hx rfl (hb hby d6_15) rfl (teq hc15).2 k) ?_
      show Gl _ _ _ _ _ _ _ _ (T4.setTop (mkF m 18 #[.val (.ref a1)] []))
      refine go (fun t k => XS.iconst X4.here hx rfl (hb hby d6_18) k) ?_
      show Gl _ _ _ _ _ _ _ _ (T4.setTop (mkF m 19 #[.val (.ref a1)] [(.int (1 : Int32))]))
      refine go (fun t k => XS.goto X4.here hx rfl (pc0 := 19) (pc' := 23) rfl (hb hby d6_19) (by decide) (by decide) k) ?_
      show Gl _ _ _ _ _ _ _ _ (T4.setTop (mkF m 23 #[.val (.ref a1)] [(.int (1 : Int32))]))
      exact J23 (1 : Int32) T4 _ X4 e4 N0
    · refine go (fun t k => XS.icmpYes X4.here hx rfl (pc0 := 15) (pc' := 22) rfl (hb hby d6_15) rfl (feq hc15).2 (by decide) (by decide) k) ?_
      show Gl _ _ _ _ _ _ _ _ (T4.setTop (mkF m 22 #[.val (.ref a1)] []))
      exact J22  T4 _ X4 e4 N0
theorem d7_0 : decode prog_1_method_4_code 0 = .ok (.iload_n 1, 1) := by decide +kernel
theorem d7_1 : decode prog_1_method_4_code 1 = .ok (.bipush 44, 2) := by decide +kernel
theorem d7_3 : decode prog_1_method_4_code 3 = .ok (.iadd, 1) := by decide +kernel
theorem d7_4 : decode prog_1_method_4_code 4 = .ok (.istore_n 3, 1) := by decide +kernel
theorem d7_5 : decode prog_1_method_4_code 5 = .ok (.aload_n 0, 1) := by decide +kernel
theorem d7_6 : decode prog_1_method_4_code 6 = .ok (.getfield 19, 3) := by decide +kernel
theorem d7_9 : decode prog_1_method_4_code 9 = .ok (.bipush 45, 2) := by decide +kernel
theorem d7_11 : decode prog_1_method_4_code 11 = .ok (.if_icmp .lt 11, 3) := by decide +kernel
theorem d7_14 : decode prog_1_method_4_code 14 = .ok (.aload_n 0, 1) := by decide +kernel
theorem d7_15 : decode prog_1_method_4_code 15 = .ok (.getfield 19, 3) := by decide +kernel
theorem d7_18 : decode prog_1_method_4_code 18 = .ok (.iload_n 3, 1) := by decide +kernel
theorem d7_19 : decode prog_1_method_4_code 19 = .ok (.if_icmp .le 9, 3) := by decide +kernel
theorem d7_22 : decode prog_1_method_4_code 22 = .ok (.iconst 0, 1) := by decide +kernel
theorem d7_23 : decode prog_1_method_4_code 23 = .ok (.istore 4, 2) := by decide +kernel
theorem d7_25 : decode prog_1_method_4_code 25 = .ok (.goto 63, 3) := by decide +kernel
theorem d7_28 : decode prog_1_method_4_code 28 = .ok (.aload_n 0, 1) := by decide +kernel
theorem d7_29 : decode prog_1_method_4_code 29 = .ok (.getfield 19, 3) := by decide +kernel
theorem d7_32 : decode prog_1_method_4_code 32 = .ok (.bipush 56, 2) := by decide +kernel
theorem d7_34 : decode prog_1_method_4_code 34 = .ok (.if_icmp .ge 9, 3) := by decide +kernel
theorem d7_37 : decode prog_1_method_4_code 37 = .ok (.iconst 1, 1) := by decide +kernel
theorem d7_38 : decode prog_1_method_4_code 38 = .ok (.istore 4, 2) := by decide +kernel
theorem d7_40 : decode prog_1_method_4_code 40 = .ok (.goto 48, 3) := by decide +kernel
theorem d7_43 : decode prog_1_method_4_code 43 = .ok (.aload_n 0, 1) := by decide +kernel
theorem d7_44 : decode prog_1_method_4_code 44 = .ok (.getfield 23, 3) := by decide +kernel
theorem d7_47 : decode prog_1_method_4_code 47 = .ok (.ldc 9, 2) := by decide +kernel
theorem d7_49 : decode prog_1_method_4_code 49 = .ok (.if_icmp .ne 25, 3) := by decide +kernel
theorem d7_52 : decode prog_1_method_4_code 52 = .ok (.aload_n 0, 1) := by decide +kernel
theorem d7_53 : decode prog_1_method_4_code 53 = .ok (.getfield 19, 3) := by decide +kernel
theorem d7_56 : decode prog_1_method_4_code 56 = .ok (.iload_n 3, 1) := by decide +kernel
theorem d7_57 : decode prog_1_method_4_code 57 = .ok (.if_icmp .ne 11, 3) := by decide +kernel
theorem d7_60 : decode prog_1_method_4_code 60 = .ok (.iload_n 2, 1) := by decide +kernel
theorem d7_61 : decode prog_1_method_4_code 61 = .ok (.ifCond .eq 7, 3) := by decide +kernel
theorem d7_64 : decode prog_1_method_4_code 64 = .ok (.iconst 1, 1) := by decide +kernel
theorem d7_65 : decode prog_1_method_4_code 65 = .ok (.goto 4, 3) := by decide +kernel
theorem d7_68 : decode prog_1_method_4_code 68 = .ok (.iconst 0, 1) := by decide +kernel
theorem d7_69 : decode prog_1_method_4_code 69 = .ok (.istore 4, 2) := by decide +kernel
theorem d7_71 : decode prog_1_method_4_code 71 = .ok (.goto 17, 3) := by decide +kernel
theorem d7_74 : decode prog_1_method_4_code 74 = .ok (.aload_n 0, 1) := by decide +kernel
theorem d7_75 : decode prog_1_method_4_code 75 = .ok (.getfield 23, 3) := by decide +kernel
theorem d7_78 : decode prog_1_method_4_code 78 = .ok (.ifCond .ne 7, 3) := by decide +kernel
theorem d7_81 : decode prog_1_method_4_code 81 = .ok (.iconst 1, 1) := by decide +kernel
theorem d7_82 : decode prog_1_method_4_code 82 = .ok (.goto 4, 3) := by decide +kernel
theorem d7_85 : decode prog_1_method_4_code 85 = .ok (.iconst 0, 1) := by decide +kernel
theorem d7_86 : decode prog_1_method_4_code 86 = .ok (.istore 4, 2) := by decide +kernel
theorem d7_88 : decode prog_1_method_4_code 88 = .ok (.iload 4, 2) := by decide +kernel
theorem d7_90 : decode prog_1_method_4_code 90 = .ok (.ireturn, 1) := by decide +kernel
theorem ef_7 (m : MethodId) (a1 : Addr) (p2 : Int32) (p3 : Int32) : entryFrame m #[(.ref a1), (.int p2), (.int p3)] 5 = mkF m 0 #[.val (.ref a1), .val (.int p2), .val (.int p3), .unset, .unset] [] := by first | (simp [entryFrame, mkF, argsToLocals, Value.category]; done) | rfl
def b7_88 (v4_88 : Int32) : Int32 := (nar .boolean v4_88)
def b7_22  : Int32 := (b7_88 (0 : Int32))
def b7_69 (s0_69 : Int32) : Int32 := (b7_88 s0_69)
def b7_68  : Int32 := (b7_69 (0 : Int32))
def b7_86 (s0_86 : Int32) : Int32 := (b7_88 s0_86)
def b7_0 (p2 : Int32) (p3 : Int32) (w_major_a1 : Int32) (w_minor_a1 : Int32) : Int32 := (if w_major_a1 < (45 : Int32) then b7_22 else (if (p2 + (44 : Int32)) < w_major_a1 then b7_22 else (if w_major_a1 < (56 : Int32) then (b7_88 (1 : Int32)) else (if w_minor_a1 = (65535 : Int32) then (if w_major_a1 = (p2 + (44 : Int32)) then (if p3 = (0 : Int32) then b7_68 else (b7_69 (1 : Int32))) else b7_68) else (if w_minor_a1 = (0 : Int32) then (b7_86 (1 : Int32)) else (b7_86 (0 : Int32)))))))
set_option maxRecDepth 65536 in
set_option maxHeartbeats 40000000 in
theorem rm7 (l : Launch) (Z : State) (a0 : Array Value) (hw : ∀ d ∈ tables_1, d.before a0 Z = true) (ws : List Jvm.Cond) (a1 : Addr) (p2 : Int32) (p3 : Int32) (w_major_a1 : Int32) (w_minor_a1 : Int32) (h0 : Heap) (n0 : Nat) (Z0 : n0 ≤ h0.size) (F_major_a1 : Fld Z h0 a1 "com/example/linkwright/linkwright/ClassFileVersion" "major" "I" (.int w_major_a1)) (F_minor_a1 : Fld Z h0 a1 "com/example/linkwright/linkwright/ClassFileVersion" "minor" "I" (.int w_minor_a1)) :
    MetFree l (⟨"com/example/linkwright/linkwright/ClassFileVersion", "isSupportedBy", "(IZ)Z"⟩ : MethodName) (head1 (Jvm.Cond.code (⟨"com/example/linkwright/linkwright/ClassFileVersion", "isSupportedBy", "(IZ)Z"⟩ : MethodName) prog_1_method_4_code 5 (some .boolean) :: ws) ({ frames := 0, cells := 0, slots := 0, locals := 0 } : Room)) (fun a U => a = #[(.ref a1), (.int p2), (.int p3)] ∧ Z.Warmed39 U.vm ∧ U.heap = h0) (fun _ _ _ _ _ => True) (fun _ U o U' => ∃ v L, o = .returned v ∧ QK n0 (Kv (some (.int (b7_0 p2 p3 w_major_a1 w_minor_a1))) (fun h => h = h0)) v U'.heap L ∧ FrameEnd U o U' L ({ frames := 0, cells := 0, slots := 0, locals := 0 } : Room).cells ({ frames := 0, cells := 0, slots := 0, locals := 0 } : Room).slots) := by
  refine MetFree.of_bodySF (plainFor_of_name pn_2) hisR ?_
  intro p e s m args below meth c s₁ Bd hml0 hP hK
  obtain ⟨rfl, hZ, hh⟩ := hP
  have hx := Bd.exec
  have hby := Bd.bytes
  have hml : c.maxLocals = 5 := hml0
  have hown : s.vm.findClass "com/example/linkwright/linkwright/ClassFileVersion" = some m.cls := findClass_of_methodNamed Bd.named
  have hnm := (name_of_methodNamed Bd.named Bd.method).1
  have X0 : Stand p l e ({ frames := 0, cells := 0, slots := 0, locals := 0 } : Room) s m #[(.ref a1), (.int p2), (.int p3)] below meth c s₁ [] 0 0 := Stand.of_body Bd
  have e0 : s₁.heap = h0 := by rw [← hh, Bd.state]; rfl
  have N0 := Fr.nil n0
  refine gl_start (ef_7 m a1 p2 p3) ?_
  show Gl p e below s n0 ({ frames := 0, cells := 0, slots := 0, locals := 0 } : Room).cells ({ frames := 0, cells := 0, slots := 0, locals := 0 } : Room).slots (Kv (some (.int (if w_major_a1 < (45 : Int32) then b7_22 else (if (p2 + (44 : Int32)) < w_major_a1 then b7_22 else (if w_major_a1 < (56 : Int32) then (b7_88 (1 : Int32)) else (if w_minor_a1 = (65535 : Int32) then (if w_major_a1 = (p2 + (44 : Int32)) then (if p3 = (0 : Int32) then b7_68 else (b7_69 (1 : Int32))) else b7_68) else (if w_minor_a1 = (0 : Int32) then (b7_86 (1 : Int32)) else (b7_86 (0 : Int32))))))))) (fun h => h = h0)) (s₁.setTop (mkF m 0 #[.val (.ref a1), .val (.int p2), .val (.int p3), .unset, .unset] []))
  refine go (fun t k => XS.iloadN X0.here hx rfl (hb hby d7_0) rfl  k) ?_
  show Gl _ _ _ _ _ _ _ _ (s₁.setTop (mkF m 1 #[.val (.ref a1), .val (.int p2), .val (.int p3), .unset, .unset] [(.int p2)]))
  refine go (fun t k => XS.bipush X0.here hx rfl (hb hby d7_1) k) ?_
  show Gl _ _ _ _ _ _ _ _ (s₁.setTop (mkF m 3 #[.val (.ref a1), .val (.int p2), .val (.int p3), .unset, .unset] [(.int (44 : Int32)), (.int p2)]))
  refine go (fun t k => XS.iadd X0.here hx rfl (hb hby d7_3) rfl k) ?_
  show Gl _ _ _ _ _ _ _ _ (s₁.setTop (mkF m 4 #[.val (.ref a1), .val (.int p2), .val (.int p3), .unset, .unset] [(.int (p2 + (44 : Int32)))]))
  refine go (fun t k => XS.istoreN X0.here hx rfl (hb hby d7_4) rfl (l' := #[.val (.ref a1), .val (.int p2), .val (.int p3), .val (.int (p2 + (44 : Int32))), .unset]) rfl k) ?_
  show Gl _ _ _ _ _ _ _ _ (s₁.setTop (mkF m 5 #[.val (.ref a1), .val (.int p2), .val (.int p3), .val (.int (p2 + (44 : Int32))), .unset] []))
  refine go (fun t k => XS.aloadN X0.here hx rfl (hb hby d7_5) rfl rfl k) ?_
  show Gl _ _ _ _ _ _ _ _ (s₁.setTop (mkF m 6 #[.val (.ref a1), .val (.int p2), .val (.int p3), .val (.int (p2 + (44 : Int32))), .unset] [(.ref a1)]))
  obtain ⟨T1, X1, e1, st1⟩ := getF X0 hx hZ hown (host := "") (Or.inl (hw _ (List.mem_of_getElem? (i := 23) rfl))) Via.refl e0 F_major_a1 (g := (mkF m 6 #[.val (.ref a1), .val (.int p2), .val (.int p3), .val (.int (p2 + (44 : Int32))), .unset] [(.ref a1)])) rfl rfl (hb hby d7_6)
  refine go (fun t k => st1 _ k) ?_
  show Gl _ _ _ _ _ _ _ _ (T1.setTop (mkF m 9 #[.val (.ref a1), .val (.int p2), .val (.int p3), .val (.int (p2 + (44 : Int32))), .unset] [(.int w_major_a1)]))
  refine go (fun t k => XS.bipush X1.here hx rfl (hb hby d7_9) k) ?_
  show Gl _ _ _ _ _ _ _ _ (T1.setTop (mkF m 11 #[.val (.ref a1), .val (.int p2), .val (.int p3), .val (.int (p2 + (44 : Int32))), .unset] [(.int (45 : Int32)), (.int w_major_a1)]))
  have J88 : ∀ (v4_88 : Int32) (TJ88 : State) (lJ88 : List Loc) (XJ88 : Stand p l e ({ frames := 0, cells := 0, slots := 0, locals := 0 } : Room) s m #[(.ref a1), (.int p2), (.int p3)] below meth c TJ88 lJ88 0 0) (eJ88 : TJ88.heap = h0) (NJ88 : Fr n0 lJ88), Gl p e below s n0 ({ frames := 0, cells := 0, slots := 0, locals := 0 } : Room).cells ({ frames := 0, cells := 0, slots := 0, locals := 0 } : Room).slots (Kv (some (.int (b7_88 v4_88))) (fun h => h = h0)) (TJ88.setTop (mkF m 88 #[.val (.ref a1), .val (.int p2), .val (.int p3), .val (.int (p2 + (44 : Int32))), .val (.int v4_88)] [])) := by
    intro v4_88 TJ88 lJ88 XJ88 eJ88 NJ88
    show Gl _ _ _ _ _ _ _ (Kv (some (.int (nar .boolean v4_88))) _) _
    refine go (fun t k => XS.iload XJ88.here hx rfl (hb hby d7_88) rfl  k) ?_
    show Gl _ _ _ _ _ _ _ _ (TJ88.setTop (mkF m 90 #[.val (.ref a1), .val (.int p2), .val (.int p3), .val (.int (p2 + (44 : Int32))), .val (.int v4_88)] [(.int v4_88)]))
    exact endN XJ88 hx Bd (t := .boolean) (by simp) (hb hby d7_90) ⟨rfl, eJ88⟩ NJ88 (by decide) (by decide)
  have J22 : ∀  (TJ22 : State) (lJ22 : List Loc) (XJ22 : Stand p l e ({ frames := 0, cells := 0, slots := 0, locals := 0 } : Room) s m #[(.ref a1), (.int p2), (.int p3)] below meth c TJ22 lJ22 0 0) (eJ22 : TJ22.heap = h0) (NJ22 : Fr n0 lJ22), Gl p e below s n0 ({ frames := 0, cells := 0, slots := 0, locals := 0 } : Room).cells ({ frames := 0, cells := 0, slots := 0, locals := 0 } : Room).slots (Kv (some (.int b7_22)) (fun h => h = h0)) (TJ22.setTop (mkF m 22 #[.val (.ref a1), .val (.int p2), .val (.int p3), .val (.int (p2 + (44 : Int32))), .unset] [])) := by
    intro  TJ22 lJ22 XJ22 eJ22 NJ22
    show Gl _ _ _ _ _ _ _ (Kv (some (.int (b7_88 (0 : Int32)))) _) _
    refine go (fun t k => XS.iconst XJ22.here hx rfl (hb hby d7_22) k) ?_
    show Gl _ _ _ _ _ _ _ _ (TJ22.setTop (mkF m 23 #[.val (.ref a1), .val (.int p2), .val (.int p3), .val (.int (p2 + (44 : Int32))), .unset] [(.int (0 : Int32))]))
    refine go (fun t k => XS.istore XJ22.here hx rfl (hb hby d7_23) rfl (l' := #[.val (.ref a1), .val (.int p2), .val (.int p3), .val (.int (p2 + (44 : Int32))), .val (.int (0 : Int32))]) rfl k) ?_
    show Gl _ _ _ _ _ _ _ _ (TJ22.setTop (mkF m 25 #[.val (.ref a1), .val (.int p2), .val (.int p3), .val (.int (p2 + (44 : Int32))), .val (.int (0 : Int32))] []))
    refine go (fun t k => XS.goto XJ22.here hx rfl (pc0 := 25) (pc' := 88) rfl (hb hby d7_25) (by decide) (by decide) k) ?_
    show Gl _ _ _ _ _ _ _ _ (TJ22.setTop (mkF m 88 #[.val (.ref a1), .val (.int p2), .val (.int p3), .val (.int (p2 + (44 : Int32))), .val (.int (0 : Int32))] []))
    exact J88 (0 : Int32) TJ22 _ XJ22 eJ22 NJ22
  refine gI (c := w_major_a1 < (45 : Int32)) (fun hc11 => ?_) (fun hc11 => ?_)
  · refine go (fun t k => XS.icmpYes X1.here hx rfl (pc0 := 11) (pc' := 22) rfl (hb hby d7_11) rfl (tlt hc11).1 (by decide) (by decide) k) ?_
    show Gl _ _ _ _ _ _ _ _ (T1.setTop (mkF m 22 #[.val (.ref a1), .val (.int p2), .val (.int p3), .val (.int (p2 + (44 : Int32))), .unset] []))
    exact J22  T1 _ X1 e1 N0
  · refine go (fun t k => XS.icmpNo X1.here hx rfl (hb hby d7_11) rfl (flt hc11).1 k) ?_
    show Gl _ _ _ _ _ _ _ _ (T1.setTop (mkF m 14 #[.val (.ref a1), .val (.int p2), .val (.int p3), .val (.int (p2 + (44 : Int32))), .unset] []))
    refine go (fun t k => XS.aloadN X1.here hx rfl (hb hby d7_14) rfl rfl k) ?_
    show Gl _ _ _ _ _ _ _ _ (T1.setTop (mkF m 15 #[.val (.ref a1), .val (.int p2), .val (.int p3), .val (.int (p2 + (44 : Int32))), .unset] [(.ref a1)]))
    obtain ⟨T4, X4, e4, st4⟩ := getF X1 hx hZ hown (host := "") (Or.inl (hw _ (List.mem_of_getElem? (i := 23) rfl))) Via.refl e1 F_major_a1 (g := (mkF m 15 #[.val (.ref a1), .val (.int p2), .val (.int p3), .val (.int (p2 + (44 : Int32))), .unset] [(.ref a1)])) rfl rfl (hb hby d7_15)
    refine go (fun t k => st4 _ k) ?_
    show Gl _ _ _ _ _ _ _ _ (T4.setTop (mkF m 18 #[.val (.ref a1), .val (.int p2), .val (.int p3), .val (.int (p2 + (44 : Int32))), .unset] [(.int w_major_a1)]))
    refine go (fun t k => XS.iloadN X4.here hx rfl (hb hby d7_18) rfl  k) ?_
    show Gl _ _ _ _ _ _ _ _ (T4.setTop (mkF m 19 #[.val (.ref a1), .val (.int p2), .val (.int p3), .val (.int (p2 + (44 : Int32))), .unset] [(.int (p2 + (44 : Int32))), (.int w_major_a1)]))
    refine gI (c := (p2 + (44 : Int32)) < w_major_a1) (fun hc19 => ?_) (fun hc19 => ?_)
    · refine go (fun t k => XS.icmpNo X4.here hx rfl (hb hby d7_19) rfl (tlt hc19).2.2.2 k) ?_
      show Gl _ _ _ _ _ _ _ _ (T4.setTop (mkF m 22 #[.val (.ref a1), .val (.int p2), .val (.int p3), .val (.int (p2 + (44 : Int32))), .unset] []))
      exact J22  T4 _ X4 e4 N0
    · refine go (fun t k => XS.icmpYes X4.here hx rfl (pc0 := 19) (pc' := 28) rfl (hb hby d7_19) rfl (flt hc19).2.2.2 (by decide) (by decide) k) ?_
      show Gl _ _ _ _ _ _ _ _ (T4.setTop (mkF m 28 #[.val (.ref a1), .val (.int p2), .val (.int p3), .val (.int (p2 + (44 : Int32))), .unset] []))
      refine go (fun t k => XS.aloadN X4.here hx rfl (hb hby d7_28) rfl rfl k) ?_
      show Gl _ _ _ _ _ _ _ _ (T4.setTop (mkF m 29 #[.val (.ref a1), .val (.int p2), .val (.int p3), .val (.int (p2 + (44 : Int32))), .unset] [(.ref a1)]))
      obtain ⟨T5, X5, e5, st5⟩ := getF X4 hx hZ hown (host := "") (Or.inl (hw _ (List.mem_of_getElem? (i := 23) rfl))) Via.refl e4 F_major_a1 (g := (mkF m 29 #[.val (.ref a1), .val (.int p2), .val (.int p3), .val (.int (p2 + (44 : Int32))), .unset] [(.ref a1)])) rfl rfl (hb hby d7_29)
      refine go (fun t k => st5 _ k) ?_
      show Gl _ _ _ _ _ _ _ _ (T5.setTop (mkF m 32 #[.val (.ref a1), .val (.int p2), .val (.int p3), .val (.int (p2 + (44 : Int32))), .unset] [(.int w_major_a1)]))
      refine go (fun t k => XS.bipush X5.here hx rfl (hb hby d7_32) k) ?_
      show Gl _ _ _ _ _ _ _ _ (T5.setTop (mkF m 34 #[.val (.ref a1), .val (.int p2), .val (.int p3), .val (.int (p2 + (44 : Int32))), .unset] [(.int (56 : Int32)), (.int w_major_a1)]))
      refine gI (c := w_major_a1 < (56 : Int32)) (fun hc34 => ?_) (fun hc34 => ?_)
      · refine go (fun t k => XS.icmpNo X5.here hx rfl (hb hby d7_34) rfl (tlt hc34).2.1 k) ?_
        show Gl _ _ _ _ _ _ _ _ (T5.setTop (mkF m 37 #[.val (.ref a1), .val (.int p2), .val (.int p3), .val (.int (p2 + (44 : Int32))), .unset] []))
        refine go (fun t k => XS.iconst X5.here hx rfl (hb hby d7_37) k) ?_
        show Gl _ _ _ _ _ _ _ _ (T5.setTop (mkF m 38 #[.val (.ref a1), .val (.int p2), .val (.int p3), .val (.int (p2 + (44 : Int32))), .unset] [(.int (1 : Int32))]))
        refine go (fun t k => XS.istore X5.here hx rfl (hb hby d7_38) rfl (l' := #[.val (.ref a1), .val (.int p2), .val (.int p3), .val (.int (p2 + (44 : Int32))), .val (.int (1 : Int32))]) rfl k) ?_
        show Gl _ _ _ _ _ _ _ _ (T5.setTop (mkF m 40 #[.val (.ref a1), .val (.int p2), .val (.int p3), .val (.int (p2 + (44 : Int32))), .val (.int (1 : Int32))] []))
        refine go (fun t k => XS.goto X5.here hx rfl (pc0 := 40) (pc' := 88) rfl (hb hby d7_40) (by decide) (by decide) k) ?_
        show Gl _ _ _ _ _ _ _ _ (T5.setTop (mkF m 88 #[.val (.ref a1), .val (.int p2), .val (.int p3), .val (.int (p2 + (44 : Int32))), .val (.int (1 : Int32))] []))
        exact J88 (1 : Int32) T5 _ X5 e5 N0
      · refine go (fun t k => XS.icmpYes X5.here hx rfl (pc0 := 34) (pc' := 43) rfl (hb hby d7_34) rfl (flt hc34).2.1 (by decide) (by decide) k) ?_
        show Gl _ _ _ _ _ _ _ _ (T5.setTop (mkF m 43 #[.val (.ref a1), .val (.int p2), .val (.int p3), .val (.int (p2 + (44 : Int32))), .unset] []))
        refine go (fun t k => XS.aloadN X5.here hx rfl (hb hby d7_43) rfl rfl k) ?_
        show Gl _ _ _ _ _ _ _ _ (T5.setTop (mkF m 44 #[.val (.ref a1), .val (.int p2), .val (.int p3), .val (.int (p2 + (44 : Int32))), .unset] [(.ref a1)]))
        obtain ⟨T6, X6, e6, st6⟩ := getF X5 hx hZ hown (host := "") (Or.inl (hw _ (List.mem_of_getElem? (i := 25) rfl))) Via.refl e5 F_minor_a1 (g := (mkF m 44 #[.val (.ref a1), .val (.int p2), .val (.int p3), .val (.int (p2 + (44 : Int32))), .unset] [(.ref a1)])) rfl rfl (hb hby d7_44)
        refine go (fun t k => st6 _ k) ?_
        show Gl _ _ _ _ _ _ _ _ (T6.setTop (mkF m 47 #[.val (.ref a1), .val (.int p2), .val (.int p3), .val (.int (p2 + (44 : Int32))), .unset] [(.int w_minor_a1)]))
        refine go (fun t k => X6.ldcInt hx hown (mvT hZ (hw _ (List.mem_of_getElem? (i := 22) rfl))) (g := (mkF m 47 #[.val (.ref a1), .val (.int p2), .val (.int p3), .val (.int (p2 + (44 : Int32))), .unset] [(.int w_minor_a1)])) rfl (hb hby d7_47) _ k) ?_
        show Gl _ _ _ _ _ _ _ _ (T6.setTop (mkF m 49 #[.val (.ref a1), .val (.int p2), .val (.int p3), .val (.int (p2 + (44 : Int32))), .unset] [(.int (65535 : Int32)), (.int w_minor_a1)]))
        refine gI (c := w_minor_a1 = (65535 : Int32)) (fun hc49 => ?_) (fun hc49 => ?_)
        · refine go (fun t k => XS.icmpNo X6.here hx rfl (hb hby d7_49) rfl (teq hc49).2 k) ?_
          show Gl _ _ _ _ _ _ _ _ (T6.setTop (mkF m 52 #[.val (.ref a1), .val (.int p2), .val (.int p3), .val (.int (p2 + (44 : Int32))), .unset] []))
          refine go (fun t k => XS.aloadN X6.here hx rfl (hb hby d7_52) rfl rfl k) ?_
          show Gl _ _ _ _ _ _ _ _ (T6.setTop (mkF m 53 #[.val (.ref a1), .val (.int p2), .val (.int p3), .val (.int (p2 + (44 : Int32))), .unset] [(.ref a1)]))
          obtain ⟨T7, X7, e7, st7⟩ := getF X6 hx hZ hown (host := "") (Or.inl (hw _ (List.mem_of_getElem? (i := 23) rfl))) Via.refl e6 F_major_a1 (g := (mkF m 53 #[.val (.ref a1), .val (.int p2), .val (.int p3), .val (.int (p2 + (44 : Int32))), .unset] [(.ref a1)])) rfl rfl (hb hby d7_53)
          refine go (fun t k => st7 _ k) ?_
          show Gl _ _ _ _ _ _ _ _ (T7.setTop (mkF m 56 #[.val (.ref a1), .val (.int p2), .val (.int p3), .val (.int (p2 + (44 : Int32))), .unset] [(.int w_major_a1)]))
          refine go (fun t k => XS.iloadN X7.here hx rfl (hb hby d7_56) rfl  k) ?_
          show Gl _ _ _ _ _ _ _ _ (T7.setTop (mkF m 57 #[.val (.ref a1), .val (.int p2), .val (.int p3), .val (.int (p2 + (44 : Int32))), .unset] [(.int (p2 + (44 : Int32))), (.int w_major_a1)]))
          have J69 : ∀ (s0_69 : Int32) (TJ69 : State) (lJ69 : List Loc) (XJ69 : Stand p l e ({ frames := 0, cells := 0, slots := 0, locals := 0 } : Room) s m #[(.ref a1), (.int p2), (.int p3)] below meth c TJ69 lJ69 0 0) (eJ69 : TJ69.heap = h0) (NJ69 : Fr n0 lJ69), Gl p e below s n0 ({ frames := 0, cells := 0, slots := 0, locals := 0 } : Room).cells ({ frames := 0, cells := 0, slots := 0, locals := 0 } : Room).slots (Kv (some (.int (b7_69 s0_69))) (fun h => h = h0)) (TJ69.setTop (mkF m 69 #[.val (.ref a1), .val (.int p2), .val (.int p3), .val (.int (p2 + (44 : Int32))), .unset] [(.int s0_69)])) := by
            intro s0_69 TJ69 lJ69 XJ69 eJ69 NJ69
            show Gl _ _ _ _ _ _ _ (Kv (some (.int (b7_88 s0_69))) _) _
            refine go (fun t k => XS.istore XJ69.here hx rfl (hb hby d7_69) rfl (l' := #[.val (.ref a1), .val (.int p2), .val (.int p3), .val (.int (p2 + (44 : Int32))), .val (.int s0_69)]) rfl k) ?_
            show Gl _ _ _ _ _ _ _ _ (TJ69.setTop (mkF m 71 #[.val (.ref a1), .val (.int p2), .val (.int p3), .val (.int (p2 + (44 : Int32))), .val (.int s0_69)] []))
            refine go (fun t k => XS.goto XJ69.here hx rfl (pc0 := 71) (pc' := 88) rfl (hb hby d7_71) (by decide) (by decide) k) ?_
            show Gl _ _ _ _ _ _ _ _ (TJ69.setTop (mkF m 88 #[.val (.ref a1), .val (.int p2), .val (.int p3), .val (.int (p2 + (44 : Int32))), .val (.int s0_69)] []))
            exact J88 s0_69 TJ69 _ XJ69 eJ69 NJ69
          have J68 : ∀  (TJ68 : State) (lJ68 : List Loc) (XJ68 : Stand p l e ({ frames := 0, cells := 0, slots := 0, locals := 0 } : Room) s m #[(.ref a1), (.int p2), (.int p3)] below meth c TJ68 lJ68 0 0) (eJ68 : TJ68.heap = h0) (NJ68 : Fr n0 lJ68), Gl p e below s n0 ({ frames := 0, cells := 0, slots := 0, locals := 0 } : Room).cells ({ frames := 0, cells := 0, slots := 0, locals := 0 } : Room).slots (Kv (some (.int b7_68)) (fun h => h = h0)) (TJ68.setTop (mkF m 68 #[.val (.ref a1), .val (.int p2), .val (.int p3), .val (.int (p2 + (44 : Int32))), .unset] [])) := by
            intro  TJ68 lJ68 XJ68 eJ68 NJ68
            show Gl _ _ _ _ _ _ _ (Kv (some (.int (b7_69 (0 : Int32)))) _) _
            refine go (fun t k => XS.iconst XJ68.here hx rfl (hb hby d7_68) k) ?_
            show Gl _ _ _ _ _ _ _ _ (TJ68.setTop (mkF m 69 #[.val (.ref a1), .val (.int p2), .val (.int p3), .val (.int (p2 + (44 : Int32))), .unset] [(.int (0 : Int32))]))
            exact J69 (0 : Int32) TJ68 _ XJ68 eJ68 NJ68
          refine gI (c := w_major_a1 = (p2 + (44 : Int32))) (fun hc57 => ?_) (fun hc57 => ?_)
          · refine go (fun t k => XS.icmpNo X7.here hx rfl (hb hby d7_57) rfl (teq hc57).2 k) ?_
            show Gl _ _ _ _ _ _ _ _ (T7.setTop (mkF m 60 #[.val (.ref a1), .val (.int p2), .val (.int p3), .val (.int (p2 + (44 : Int32))), .unset] []))
            refine go (fun t k => XS.iloadN X7.here hx rfl (hb hby d7_60) rfl  k) ?_
            show Gl _ _ _ _ _ _ _ _ (T7.setTop (mkF m 61 #[.val (.ref a1), .val (.int p2), .val (.int p3), .val (.int (p2 + (44 : Int32))), .unset] [(.int p3)]))
            refine gI (c := p3 = (0 : Int32)) (fun hc61 => ?_) (fun hc61 => ?_)
            · refine go (fun t k => XS.ifYes X7.here hx rfl (pc0 := 61) (pc' := 68) rfl (hb hby d7_61) rfl ((if0 _ _).trans (teq hc61).1) (by decide) (by decide) k) ?_
              show Gl _ _ _ _ _ _ _ _ (T7.setTop (mkF m 68 #[.val (.ref a1), .val (.int p2), .val (.int p3), .val (.int (p2 + (44 : Int32))), .unset] []))
              exact J68  T7 _ X7 e7 N0
            · refine go (fun t k => XS.ifNo X7.here hx rfl (hb hby d7_61) rfl ((if0 _ _).trans (feq hc61).1) k) ?_
              show Gl _ _ _ _ _ _ _ _ (T7.setTop (mkF m 64 #[.val (.ref a1), .val (.int p2), .val (.int p3), .val (.int (p2 + (44 : Int32))), .unset] []))
              refine go (fun t k => XS.iconst X7.here hx rfl (hb hby d7_64) k) ?_
              show Gl _ _ _ _ _ _ _ _ (T7.setTop (mkF m 65 #[.val (.ref a1), .val (.int p2), .val (.int p3), .val (.int (p2 + (44 : Int32))), .unset] [(.int (1 : Int32))]))
              refine go (fun t k => XS.goto X7.here hx rfl (pc0 := 65) (pc' := 69) rfl (hb hby d7_65) (by decide) (by decide) k) ?_
              show Gl _ _ _ _ _ _ _ _ (T7.setTop (mkF m 69 #[.val (.ref a1), .val (.int p2), .val (.int p3), .val (.int (p2 + (44 : Int32))), .unset] [(.int (1 : Int32))]))
              exact J69 (1 : Int32) T7 _ X7 e7 N0
          · refine go (fun t k => XS.icmpYes X7.here hx rfl (pc0 := 57) (pc' := 68) rfl (hb hby d7_57) rfl (feq hc57).2 (by decide) (by decide) k) ?_
            show Gl _ _ _ _ _ _ _ _ (T7.setTop (mkF m 68 #[.val (.ref a1), .val (.int p2), .val (.int p3), .val (.int (p2 + (44 : Int32))), .unset] []))
            exact J68  T7 _ X7 e7 N0
        · refine go (fun t k => XS.icmpYes X6.here hx rfl (pc0 := 49) (pc' := 74) rfl (hb hby d7_49) rfl (feq hc49).2 (by decide) (by decide) k) ?_
          show Gl _ _ _ _ _ _ _ _ (T6.setTop (mkF m 74 #[.val (.ref a1), .val (.int p2), .val (.int p3), .val (.int (p2 + (44 : Int32))), .unset] []))
          refine go (fun t k => XS.aloadN X6.here hx rfl (hb hby d7_74) rfl rfl k) ?_
          show Gl _ _ _ _ _ _ _ _ (T6.setTop (mkF m 75 #[.val (.ref a1), .val (.int p2), .val (.int p3), .val (.int (p2 + (44 : Int32))), .unset] [(.ref a1)]))
          obtain ⟨T10, X10, e10, st10⟩ := getF X6 hx hZ hown (host := "") (Or.inl (hw _ (List.mem_of_getElem? (i := 25) rfl))) Via.refl e6 F_minor_a1 (g := (mkF m 75 #[.val (.ref a1), .val (.int p2), .val (.int p3), .val (.int (p2 + (44 : Int32))), .unset] [(.ref a1)])) rfl rfl (hb hby d7_75)
          refine go (fun t k => st10 _ k) ?_
          show Gl _ _ _ _ _ _ _ _ (T10.setTop (mkF m 78 #[.val (.ref a1), .val (.int p2), .val (.int p3), .val (.int (p2 + (44 : Int32))), .unset] [(.int w_minor_a1)]))
          have J86 : ∀ (s0_86 : Int32) (TJ86 : State) (lJ86 : List Loc) (XJ86 : Stand p l e ({ frames := 0, cells := 0, slots := 0, locals := 0 } : Room) s m #[(.ref a1), (.int p2), (.int p3)] below meth c TJ86 lJ86 0 0) (eJ86 : TJ86.heap = h0) (NJ86 : Fr n0 lJ86), Gl p e below s n0 ({ frames := 0, cells := 0, slots := 0, locals := 0 } : Room).cells ({ frames := 0, cells := 0, slots := 0, locals := 0 } : Room).slots (Kv (some (.int (b7_86 s0_86))) (fun h => h = h0)) (TJ86.setTop (mkF m 86 #[.val (.ref a1), .val (.int p2), .val (.int p3), .val (.int (p2 + (44 : Int32))), .unset] [(.int s0_86)])) := by
            intro s0_86 TJ86 lJ86 XJ86 eJ86 NJ86
            show Gl _ _ _ _ _ _ _ (Kv (some (.int (b7_88 s0_86))) _) _
            refine go (fun t k => XS.istore XJ86.here hx rfl (hb hby d7_86) rfl (l' := #[.val (.ref a1), .val (.int p2), .val (.int p3), .val (.int (p2 + (44 : Int32))), .val (.int s0_86)]) rfl k) ?_
            show Gl _ _ _ _ _ _ _ _ (TJ86.setTop (mkF m 88 #[.val (.ref a1), .val (.int p2), .val (.int p3), .val (.int (p2 + (44 : Int32))), .val (.int s0_86)] []))
            exact J88 s0_86 TJ86 _ XJ86 eJ86 NJ86
          refine gI (c := w_minor_a1 = (0 : Int32)) (fun hc78 => ?_) (fun hc78 => ?_)
          · refine go (fun t k => XS.ifNo X10.here hx rfl (hb hby d7_78) rfl ((if0 _ _).trans (teq hc78).2) k) ?_
            show Gl _ _ _ _ _ _ _ _ (T10.setTop (mkF m 81 #[.val (.ref a1), .val (.int p2), .val (.int p3), .val (.int (p2 + (44 : Int32))), .unset] []))
            refine go (fun t k => XS.iconst X10.here hx rfl (hb hby d7_81) k) ?_
            show Gl _ _ _ _ _ _ _ _ (T10.setTop (mkF m 82 #[.val (.ref a1), .val (.int p2), .val (.int p3), .val (.int (p2 + (44 : Int32))), .unset] [(.int (1 : Int32))]))
            refine go (fun t k => XS.goto X10.here hx rfl (pc0 := 82) (pc' := 86) rfl (hb hby d7_82) (by decide) (by decide) k) ?_
            show Gl _ _ _ _ _ _ _ _ (T10.setTop (mkF m 86 #[.val (.ref a1), .val (.int p2), .val (.int p3), .val (.int (p2 + (44 : Int32))), .unset] [(.int (1 : Int32))]))
            exact J86 (1 : Int32) T10 _ X10 e10 N0
          · refine go (fun t k => XS.ifYes X10.here hx rfl (pc0 := 78) (pc' := 85) rfl (hb hby d7_78) rfl ((if0 _ _).trans (feq hc78).2) (by decide) (by decide) k) ?_
            show Gl _ _ _ _ _ _ _ _ (T10.setTop (mkF m 85 #[.val (.ref a1), .val (.int p2), .val (.int p3), .val (.int (p2 + (44 : Int32))), .unset] []))
            refine go (fun t k => XS.iconst X10.here hx rfl (hb hby d7_85) k) ?_
            show Gl _ _ _ _ _ _ _ _ (T10.setTop (mkF m 86 #[.val (.ref a1), .val (.int p2), .val (.int p3), .val (.int (p2 + (44 : Int32))), .unset] [(.int (0 : Int32))]))
            exact J86 (0 : Int32) T10 _ X10 e10 N0
theorem own_m1 (a : Int32) : ¬ ((a &&& (65535 : Int32)) < 0) ∧ ¬ ((65535 : Int32) < (a &&& (65535 : Int32))) := by
  have e := Jvm.Kit.i32_mask a 65535 (k := 16) (by decide) (by decide)
  rw [Int32.lt_iff_toInt_lt, Int32.lt_iff_toInt_lt, e]; simp only [Int32.reduceToInt]; omega
theorem own_M (s a : Int32) : ¬ (b1_0 s a < 0) ∧ ¬ ((65535 : Int32) < b1_0 s a) := by
  unfold b1_0
  split
  · decide
  split
  · decide
  split
  · decide
  split
  · decide
  split
  · decide
  exact own_m1 a
theorem own_N (s a : Int32) : ¬ (b2_0 s a < 0) ∧ ¬ ((65535 : Int32) < b2_0 s a) := by
  unfold b2_0
  split
  · decide
  split
  · decide
  split
  · decide
  exact own_m1 a
theorem pd_1 : parseMethodDescriptor "(II)I" = some ⟨[.int, .int], some .int⟩ := by decide +kernel
theorem pd_2 : parseMethodDescriptor "(II)V" = some ⟨[.int, .int], none⟩ := by decide +kernel
theorem pd_3 : parseMethodDescriptor "()Z" = some ⟨[], some .boolean⟩ := by decide +kernel
theorem pd_4 : parseMethodDescriptor "(IZ)Z" = some ⟨[.int, .boolean], some .boolean⟩ := by decide +kernel
theorem ef_0 (m : MethodId) (p1 : Int32) (p2 : Int32) (p3 : Int32) : entryFrame m #[(.int p1), (.int p2), (.int p3)] maxLocals = mkF m 0 #[.val (.int p1), .val (.int p2), .val (.int p3), .unset, .unset, .unset, .unset, .unset, .unset, .unset, .unset, .unset] [] := by first | (simp [entryFrame, mkF, argsToLocals, Value.category, maxLocals]; done) | rfl
def b0_129 (s0_129 : Int32) : Int32 := (nar .boolean s0_129)
def b0_128  : Int32 := (b0_129 (0 : Int32))
def b0_108 (p1 : Int32) (p2 : Int32) (p3 : Int32) (v7_67 : Int32) (s0_108 : Int32) : Int32 := (if (b6_0 (b1_0 (p3 &&& (7 : Int32)) p1) (b2_0 (((p3.toUInt32 >>> ((3 : Int32) &&& 31).toUInt32).toInt32) &&& (3 : Int32)) p2)) = v7_67 then (if (b6_0 (b1_0 (p3 &&& (7 : Int32)) p1) (b2_0 (((p3.toUInt32 >>> ((3 : Int32) &&& 31).toUInt32).toInt32) &&& (3 : Int32)) p2)) = s0_108 then (b0_129 (1 : Int32)) else b0_128) else b0_128)
def b0_107 (p1 : Int32) (p2 : Int32) (p3 : Int32) (v7_67 : Int32) : Int32 := (b0_108 p1 p2 p3 v7_67 (0 : Int32))
def b0_67 (p1 : Int32) (p2 : Int32) (p3 : Int32) (v7_67 : Int32) : Int32 := (if (b7_0 ((b1_0 (p3 &&& (7 : Int32)) p1) - (44 : Int32)) (1 : Int32) (b1_0 (p3 &&& (7 : Int32)) p1) (b2_0 (((p3.toUInt32 >>> ((3 : Int32) &&& 31).toUInt32).toInt32) &&& (3 : Int32)) p2)) = (0 : Int32) then (b0_107 p1 p2 p3 v7_67) else (if (b7_0 ((b1_0 (p3 &&& (7 : Int32)) p1) - (44 : Int32)) (0 : Int32) (b1_0 (p3 &&& (7 : Int32)) p1) (b2_0 (((p3.toUInt32 >>> ((3 : Int32) &&& 31).toUInt32).toInt32) &&& (3 : Int32)) p2)) = (0 : Int32) then (b0_108 p1 p2 p3 v7_67 (1 : Int32)) else (b0_107 p1 p2 p3 v7_67)))
def b0_0 (p1 : Int32) (p2 : Int32) (p3 : Int32) : Int32 := (if (b2_0 (((p3.toUInt32 >>> ((3 : Int32) &&& 31).toUInt32).toInt32) &&& (3 : Int32)) p2) = (65535 : Int32) then (if (b1_0 (p3 &&& (7 : Int32)) p1) < (56 : Int32) then (b0_67 p1 p2 p3 (0 : Int32)) else (b0_67 p1 p2 p3 (1 : Int32))) else (b0_67 p1 p2 p3 (0 : Int32)))
set_option maxRecDepth 65536 in
set_option maxHeartbeats 40000000 in
theorem rm0 (l : Launch) (Z : State) (a0 : Array Value) (hw : ∀ d ∈ tables_1, d.before a0 Z = true) (ws : List Jvm.Cond) (p1 : Int32) (p2 : Int32) (p3 : Int32) (h0 : Heap) (n0 : Nat) (Z0 : n0 ≤ h0.size) :
    MetFree l x (head1 (Jvm.Cond.code x code maxLocals ret :: ws) room_1) (fun a U => a = #[(.int p1), (.int p2), (.int p3)] ∧ Z.Warmed39 U.vm ∧ U.heap = h0) (fun _ _ _ _ _ => True) (fun _ U o U' => ∃ v L, o = .returned v ∧ QK n0 (Kv (some (.int (b0_0 p1 p2 p3))) (fun _ => True)) v U'.heap L ∧ FrameEnd U o U' L room_1.cells room_1.slots) := by
  refine MetFree.of_bodySF (plainFor_of_name pn_0) hisR ?_
  intro p e s m args below meth c s₁ Bd hml0 hP hK
  obtain ⟨rfl, hZ, hh⟩ := hP
  have hx := Bd.exec
  have hby := Bd.bytes
  have hml : c.maxLocals = 12 := hml0
  have hown : s.vm.findClass "com/example/linkwright/linkwright/ClassFileVersionIsPreviewPinLaw" = some m.cls := findClass_of_methodNamed Bd.named
  have hnm := (name_of_methodNamed Bd.named Bd.method).1
  have X0 : Stand p l e room_1 s m #[(.int p1), (.int p2), (.int p3)] below meth c s₁ [] 0 0 := Stand.of_body Bd
  have e0 : s₁.heap = h0 := by rw [← hh, Bd.state]; rfl
  have N0 := Fr.nil n0
  refine gl_start (ef_0 m p1 p2 p3) ?_
  show Gl p e below s n0 room_1.cells room_1.slots (Kv (some (.int (if (b2_0 (((p3.toUInt32 >>> ((3 : Int32) &&& 31).toUInt32).toInt32) &&& (3 : Int32)) p2) = (65535 : Int32) then (if (b1_0 (p3 &&& (7 : Int32)) p1) < (56 : Int32) then (b0_67 p1 p2 p3 (0 : Int32)) else (b0_67 p1 p2 p3 (1 : Int32))) else (b0_67 p1 p2 p3 (0 : Int32))))) (fun _ => True)) (s₁.setTop (mkF m 0 #[.val (.int p1), .val (.int p2), .val (.int p3), .unset, .unset, .unset, .unset, .unset, .unset, .unset, .unset, .unset] []))
  refine go (fun t k => XS.iloadN X0.here hx rfl (hb hby at_0) rfl  k) ?_
  show Gl _ _ _ _ _ _ _ _ (s₁.setTop (mkF m 1 #[.val (.int p1), .val (.int p2), .val (.int p3), .unset, .unset, .unset, .unset, .unset, .unset, .unset, .unset, .unset] [(.int p3)]))
  refine go (fun t k => XS.bipush X0.here hx rfl (hb hby at_1) k) ?_
  show Gl _ _ _ _ _ _ _ _ (s₁.setTop (mkF m 3 #[.val (.int p1), .val (.int p2), .val (.int p3), .unset, .unset, .unset, .unset, .unset, .unset, .unset, .unset, .unset] [(.int (7 : Int32)), (.int p3)]))
  refine go (fun t k => XS.iand X0.here hx rfl (hb hby at_3) rfl k) ?_
  show Gl _ _ _ _ _ _ _ _ (s₁.setTop (mkF m 4 #[.val (.int p1), .val (.int p2), .val (.int p3), .unset, .unset, .unset, .unset, .unset, .unset, .unset, .unset, .unset] [(.int (p3 &&& (7 : Int32)))]))
  refine go (fun t k => XS.iloadN X0.here hx rfl (hb hby at_4) rfl  k) ?_
  show Gl _ _ _ _ _ _ _ _ (s₁.setTop (mkF m 5 #[.val (.int p1), .val (.int p2), .val (.int p3), .unset, .unset, .unset, .unset, .unset, .unset, .unset, .unset, .unset] [(.int p1), (.int (p3 &&& (7 : Int32)))]))
  obtain ⟨_, _, ⟨T1, L1, k1, n1⟩, -, X1, ⟨Lc1, hQ1, l1, y1, z1⟩, st1⟩ := Jvm.LawKit.callS X0 hx (y := (⟨"com/example/linkwright/linkwright/ClassFileVersionIsPreviewPinLaw", "pickMajor", "(II)I"⟩ : MethodName)) hown (mvT hZ (hw _ (List.mem_of_getElem? (i := 0) rfl))) (mvT hZ (hw _ (List.mem_of_getElem? (i := 1) rfl))) (mvT hZ (hw _ (List.mem_of_getElem? (i := 2) rfl))) (mvT hZ (hw _ (List.mem_of_getElem? (i := 3) rfl))) (by decide) (backOf (W := 0) (rm1 l Z a0 hw [] (p3 &&& (7 : Int32)) p1 h0 n0 Z0 ) hZ (hw _ (List.mem_of_getElem? (i := 3) rfl)) (hw _ (List.mem_of_getElem? (i := 2) rfl)) (by decide) (by decide)) (g := (mkF m 5 #[.val (.int p1), .val (.int p2), .val (.int p3), .unset, .unset, .unset, .unset, .unset, .unset, .unset, .unset, .unset] [(.int p1), (.int (p3 &&& (7 : Int32)))])) rfl (by rw [hml]; rfl) (argsL := [(.int (p3 &&& (7 : Int32))), (.int p1)]) (rest := []) (lenOf pd_1 rfl) rfl (by show 2 * 0 + _ ≤ _; exact Nat.le_of_eq rfl) (hb hby at_5) (fun _ _ => ⟨rfl, e0, (by decide : 0 + 0 ≤ _), (by decide : 0 + 0 ≤ _)⟩)
  dsimp only [Pt.U, Pt.locs, Pt.cells, Pt.slots] at X1 l1 y1 z1 st1 hQ1
  subst l1 y1 z1
  have X1 : Stand p l e room_1 s m #[(.int p1), (.int p2), (.int p3)] below meth c T1 _ 0 0 := X1
  obtain ⟨⟨rfl, e1'⟩, N1q⟩ := hQ1
  have e1 : T1.heap = h0 := e1'
  have N1 := Fr.app N0 N1q
  refine go (fun t k => st1 _ k) ?_
  show Gl _ _ _ _ _ _ _ _ (T1.setTop (mkF m 8 #[.val (.int p1), .val (.int p2), .val (.int p3), .unset, .unset, .unset, .unset, .unset, .unset, .unset, .unset, .unset] [(.int (b1_0 (p3 &&& (7 : Int32)) p1))]))
  refine go (fun t k => XS.istoreN X1.here hx rfl (hb hby at_8) rfl (l' := #[.val (.int p1), .val (.int p2), .val (.int p3), .val (.int (b1_0 (p3 &&& (7 : Int32)) p1)), .unset, .unset, .unset, .unset, .unset, .unset, .unset, .unset]) rfl k) ?_
  show Gl _ _ _ _ _ _ _ _ (T1.setTop (mkF m 9 #[.val (.int p1), .val (.int p2), .val (.int p3), .val (.int (b1_0 (p3 &&& (7 : Int32)) p1)), .unset, .unset, .unset, .unset, .unset, .unset, .unset, .unset] []))
  refine go (fun t k => XS.iloadN X1.here hx rfl (hb hby at_9) rfl  k) ?_
  show Gl _ _ _ _ _ _ _ _ (T1.setTop (mkF m 10 #[.val (.int p1), .val (.int p2), .val (.int p3), .val (.int (b1_0 (p3 &&& (7 : Int32)) p1)), .unset, .unset, .unset, .unset, .unset, .unset, .unset, .unset] [(.int p3)]))
  refine go (fun t k => XS.iconst X1.here hx rfl (hb hby at_10) k) ?_
  show Gl _ _ _ _ _ _ _ _ (T1.setTop (mkF m 11 #[.val (.int p1), .val (.int p2), .val (.int p3), .val (.int (b1_0 (p3 &&& (7 : Int32)) p1)), .unset, .unset, .unset, .unset, .unset, .unset, .unset, .unset] [(.int (3 : Int32)), (.int p3)]))
  refine go (fun t k => XS.iushr X1.here hx rfl (hb hby at_11) rfl k) ?_
  show Gl _ _ _ _ _ _ _ _ (T1.setTop (mkF m 12 #[.val (.int p1), .val (.int p2), .val (.int p3), .val (.int (b1_0 (p3 &&& (7 : Int32)) p1)), .unset, .unset, .unset, .unset, .unset, .unset, .unset, .unset] [(.int ((p3.toUInt32 >>> ((3 : Int32) &&& 31).toUInt32).toInt32))]))
  refine go (fun t k => XS.iconst X1.here hx rfl (hb hby at_12) k) ?_
  show Gl _ _ _ _ _ _ _ _ (T1.setTop (mkF m 13 #[.val (.int p1), .val (.int p2), .val (.int p3), .val (.int (b1_0 (p3 &&& (7 : Int32)) p1)), .unset, .unset, .unset, .unset, .unset, .unset, .unset, .unset] [(.int (3 : Int32)), (.int ((p3.toUInt32 >>> ((3 : Int32) &&& 31).toUInt32).toInt32))]))
  refine go (fun t k => XS.iand X1.here hx rfl (hb hby at_13) rfl k) ?_
  show Gl _ _ _ _ _ _ _ _ (T1.setTop (mkF m 14 #[.val (.int p1), .val (.int p2), .val (.int p3), .val (.int (b1_0 (p3 &&& (7 : Int32)) p1)), .unset, .unset, .unset, .unset, .unset, .unset, .unset, .unset] [(.int (((p3.toUInt32 >>> ((3 : Int32) &&& 31).toUInt32).toInt32) &&& (3 : Int32)))]))
  refine go (fun t k => XS.iloadN X1.here hx rfl (hb hby at_14) rfl  k) ?_
  show Gl _ _ _ _ _ _ _ _ (T1.setTop (mkF m 15 #[.val (.int p1), .val (.int p2), .val (.int p3), .val (.int (b1_0 (p3 &&& (7 : Int32)) p1)), .unset, .unset, .unset, .unset, .unset, .unset, .unset, .unset] [(.int p2), (.int (((p3.toUInt32 >>> ((3 : Int32) &&& 31).toUInt32).toInt32) &&& (3 : Int32)))]))
  obtain ⟨_, _, ⟨T2, L2, k2, n2⟩, -, X2, ⟨Lc2, hQ2, l2, y2, z2⟩, st2⟩ := Jvm.LawKit.callS X1 hx (y := (⟨"com/example/linkwright/linkwright/ClassFileVersionIsPreviewPinLaw", "pickMinor", "(II)I"⟩ : MethodName)) hown (mvT hZ (hw _ (List.mem_of_getElem? (i := 4) rfl))) (mvT hZ (hw _ (List.mem_of_getElem? (i := 5) rfl))) (mvT hZ (hw _ (List.mem_of_getElem? (i := 2) rfl))) (mvT hZ (hw _ (List.mem_of_getElem? (i := 6) rfl))) (by decide) (backOf (W := 0) (rm2 l Z a0 hw [] (((p3.toUInt32 >>> ((3 : Int32) &&& 31).toUInt32).toInt32) &&& (3 : Int32)) p2 h0 n0 Z0 ) hZ (hw _ (List.mem_of_getElem? (i := 6) rfl)) (hw _ (List.mem_of_getElem? (i := 2) rfl)) (by decide) (by decide)) (g := (mkF m 15 #[.val (.int p1), .val (.int p2), .val (.int p3), .val (.int (b1_0 (p3 &&& (7 : Int32)) p1)), .unset, .unset, .unset, .unset, .unset, .unset, .unset, .unset] [(.int p2), (.int (((p3.toUInt32 >>> ((3 : Int32) &&& 31).toUInt32).toInt32) &&& (3 : Int32)))])) rfl (by rw [hml]; rfl) (argsL := [(.int (((p3.toUInt32 >>> ((3 : Int32) &&& 31).toUInt32).toInt32) &&& (3 : Int32))), (.int p2)]) (rest := []) (lenOf pd_1 rfl) rfl (by show 2 * 0 + _ ≤ _; exact Nat.le_of_eq rfl) (hb hby at_15) (fun _ _ => ⟨rfl, e1, (by decide : 0 + 0 ≤ _), (by decide : 0 + 0 ≤ _)⟩)
  dsimp only [Pt.U, Pt.locs, Pt.cells, Pt.slots] at X2 l2 y2 z2 st2 hQ2
  subst l2 y2 z2
  have X2 : Stand p l e room_1 s m #[(.int p1), (.int p2), (.int p3)] below meth c T2 _ 0 0 := X2
  obtain ⟨⟨rfl, e2'⟩, N2q⟩ := hQ2
  have e2 : T2.heap = h0 := e2'
  have N2 := Fr.app N1 N2q
  refine go (fun t k => st2 _ k) ?_
  show Gl _ _ _ _ _ _ _ _ (T2.setTop (mkF m 18 #[.val (.int p1), .val (.int p2), .val (.int p3), .val (.int (b1_0 (p3 &&& (7 : Int32)) p1)), .unset, .unset, .unset, .unset, .unset, .unset, .unset, .unset] [(.int (b2_0 (((p3.toUInt32 >>> ((3 : Int32) &&& 31).toUInt32).toInt32) &&& (3 : Int32)) p2))]))
  refine go (fun t k => XS.istore X2.here hx rfl (hb hby at_18) rfl (l' := #[.val (.int p1), .val (.int p2), .val (.int p3), .val (.int (b1_0 (p3 &&& (7 : Int32)) p1)), .val (.int (b2_0 (((p3.toUInt32 >>> ((3 : Int32) &&& 31).toUInt32).toInt32) &&& (3 : Int32)) p2)), .unset, .unset, .unset, .unset, .unset, .unset, .unset]) rfl k) ?_
  show Gl _ _ _ _ _ _ _ _ (T2.setTop (mkF m 20 #[.val (.int p1), .val (.int p2), .val (.int p3), .val (.int (b1_0 (p3 &&& (7 : Int32)) p1)), .val (.int (b2_0 (((p3.toUInt32 >>> ((3 : Int32) &&& 31).toUInt32).toInt32) &&& (3 : Int32)) p2)), .unset, .unset, .unset, .unset, .unset, .unset, .unset] []))
  obtain ⟨T3, h3, X3, e3, E3, A3, D3, -, st3⟩ := newO X2 hx hZ hown (hw _ (List.mem_of_getElem? (i := 8) rfl)) (hw _ (List.mem_of_getElem? (i := 9) rfl)) (hw _ (List.mem_of_getElem? (i := 10) rfl)) e2 (g := (mkF m 20 #[.val (.int p1), .val (.int p2), .val (.int p3), .val (.int (b1_0 (p3 &&& (7 : Int32)) p1)), .val (.int (b2_0 (((p3.toUInt32 >>> ((3 : Int32) &&& 31).toUInt32).toInt32) &&& (3 : Int32)) p2)), .unset, .unset, .unset, .unset, .unset, .unset, .unset] [])) rfl (hb hby at_20) (by decide) (by decide)
  obtain ⟨o3, gq3⟩ : ∃ z, z = h0.size := ⟨_, rfl⟩
  rw [← gq3] at A3 D3 st3
  have g_o3 : n0 ≤ o3 := Nat.le_trans Z0 (Nat.le_of_eq gq3.symm)
  have F_major_o3 : Fld Z h3 o3 "com/example/linkwright/linkwright/ClassFileVersion" "major" "I" (.int (0 : Int32)) := D3 (Or.inr (hw _ (List.mem_of_getElem? (i := 24) rfl))) (ty := .int) (by decide)
  have F_minor_o3 : Fld Z h3 o3 "com/example/linkwright/linkwright/ClassFileVersion" "minor" "I" (.int (0 : Int32)) := D3 (Or.inr (hw _ (List.mem_of_getElem? (i := 26) rfl))) (ty := .int) (by decide)
  have K3 : Keep h0 h3 [] := (Keep.refl h0 []).ext E3
  have sz_o3 : h0.size ≤ o3 := Nat.le_trans (Keep.refl h0 []).1 (Nat.le_of_eq gq3.symm)
  refine go (fun t k => st3 _ k) ?_
  show Gl _ _ _ _ _ _ _ _ (T3.setTop (mkF m 23 #[.val (.int p1), .val (.int p2), .val (.int p3), .val (.int (b1_0 (p3 &&& (7 : Int32)) p1)), .val (.int (b2_0 (((p3.toUInt32 >>> ((3 : Int32) &&& 31).toUInt32).toInt32) &&& (3 : Int32)) p2)), .unset, .unset, .unset, .unset, .unset, .unset, .unset] [(.ref o3)]))
  refine go (fun t k => XS.dup X3.here hx rfl (hb hby at_23) rfl rfl k) ?_
  show Gl _ _ _ _ _ _ _ _ (T3.setTop (mkF m 24 #[.val (.int p1), .val (.int p2), .val (.int p3), .val (.int (b1_0 (p3 &&& (7 : Int32)) p1)), .val (.int (b2_0 (((p3.toUInt32 >>> ((3 : Int32) &&& 31).toUInt32).toInt32) &&& (3 : Int32)) p2)), .unset, .unset, .unset, .unset, .unset, .unset, .unset] [(.ref o3), (.ref o3)]))
  refine go (fun t k => XS.iloadN X3.here hx rfl (hb hby at_24) rfl  k) ?_
  show Gl _ _ _ _ _ _ _ _ (T3.setTop (mkF m 25 #[.val (.int p1), .val (.int p2), .val (.int p3), .val (.int (b1_0 (p3 &&& (7 : Int32)) p1)), .val (.int (b2_0 (((p3.toUInt32 >>> ((3 : Int32) &&& 31).toUInt32).toInt32) &&& (3 : Int32)) p2)), .unset, .unset, .unset, .unset, .unset, .unset, .unset] [(.int (b1_0 (p3 &&& (7 : Int32)) p1)), (.ref o3), (.ref o3)]))
  refine go (fun t k => XS.iload X3.here hx rfl (hb hby at_25) rfl  k) ?_
  show Gl _ _ _ _ _ _ _ _ (T3.setTop (mkF m 27 #[.val (.int p1), .val (.int p2), .val (.int p3), .val (.int (b1_0 (p3 &&& (7 : Int32)) p1)), .val (.int (b2_0 (((p3.toUInt32 >>> ((3 : Int32) &&& 31).toUInt32).toInt32) &&& (3 : Int32)) p2)), .unset, .unset, .unset, .unset, .unset, .unset, .unset] [(.int (b2_0 (((p3.toUInt32 >>> ((3 : Int32) &&& 31).toUInt32).toInt32) &&& (3 : Int32)) p2)), (.int (b1_0 (p3 &&& (7 : Int32)) p1)), (.ref o3), (.ref o3)]))
  obtain ⟨_, _, ⟨T4, L4, k4, n4⟩, -, X4, ⟨Lc4, hQ4, l4, y4, z4⟩, st4⟩ := X3.specialBack hx (y := (⟨"com/example/linkwright/linkwright/ClassFileVersion", "<init>", "(II)V"⟩ : MethodName)) rfl hown (mvT hZ (hw _ (List.mem_of_getElem? (i := 11) rfl))) (mvT hZ (hw _ (List.mem_of_getElem? (i := 12) rfl))) (mvT hZ (hw _ (List.mem_of_getElem? (i := 13) rfl))) (by decide) (backOf (W := 1) (rm3 l Z a0 hw [] o3 (b1_0 (p3 &&& (7 : Int32)) p1) (b2_0 (((p3.toUInt32 >>> ((3 : Int32) &&& 31).toUInt32).toInt32) &&& (3 : Int32)) p2) ((.int (0 : Int32))) ((.int (0 : Int32))) h3 n0 (Nat.le_trans Z0 E3.1) A3 g_o3 F_major_o3 F_minor_o3 (own_M _ _).1 (own_M _ _).2 (own_N _ _).1 (own_N _ _).2) hZ (hw _ (List.mem_of_getElem? (i := 13) rfl)) (hw _ (List.mem_of_getElem? (i := 10) rfl)) (by decide) (by decide)) (g := (mkF m 27 #[.val (.int p1), .val (.int p2), .val (.int p3), .val (.int (b1_0 (p3 &&& (7 : Int32)) p1)), .val (.int (b2_0 (((p3.toUInt32 >>> ((3 : Int32) &&& 31).toUInt32).toInt32) &&& (3 : Int32)) p2)), .unset, .unset, .unset, .unset, .unset, .unset, .unset] [(.int (b2_0 (((p3.toUInt32 >>> ((3 : Int32) &&& 31).toUInt32).toInt32) &&& (3 : Int32)) p2)), (.int (b1_0 (p3 &&& (7 : Int32)) p1)), (.ref o3), (.ref o3)])) rfl (by rw [hml]; rfl) (Steps.refl _) (a := o3) (argsL := [(.int (b1_0 (p3 &&& (7 : Int32)) p1)), (.int (b2_0 (((p3.toUInt32 >>> ((3 : Int32) &&& 31).toUInt32).toInt32) &&& (3 : Int32)) p2))]) (rest := [(.ref o3)]) (lenOf pd_2 rfl) rfl (by show 2 * 0 + _ ≤ _; exact Nat.le_of_eq rfl) (hb hby at_27) (fun _ _ => ⟨rfl, e3, (by decide : 1 + 0 ≤ _), (by decide : 2 + 0 ≤ _)⟩)
  dsimp only [Pt.U, Pt.locs, Pt.cells, Pt.slots] at X4 l4 y4 z4 st4 hQ4
  subst l4 y4 z4
  have X4 : Stand p l e room_1 s m #[(.int p1), (.int p2), (.int p3)] below meth c T4 _ 1 2 := X4
  obtain ⟨⟨rfl, K4q, Ex4, Fq4_major, Fq4_minor⟩, N4q⟩ := hQ4
  obtain ⟨h4, e4⟩ : ∃ z, T4.heap = z := ⟨_, rfl⟩
  rw [e4] at K4q Ex4 Fq4_major Fq4_minor
  have K4 : Keep h0 h4 [] := K3.trans K4q (allS (Or.inr sz_o3) all0)
  have N4 := Fr.app N2 N4q
  refine go (fun t k => st4.trans k) ?_
  show Gl _ _ _ _ _ _ _ _ (T4.setTop (mkF m 30 #[.val (.int p1), .val (.int p2), .val (.int p3), .val (.int (b1_0 (p3 &&& (7 : Int32)) p1)), .val (.int (b2_0 (((p3.toUInt32 >>> ((3 : Int32) &&& 31).toUInt32).toInt32) &&& (3 : Int32)) p2)), .unset, .unset, .unset, .unset, .unset, .unset, .unset] [(.ref o3)]))
  refine go (fun t k => XS.astore X4.here hx rfl (hb hby at_30) rfl rfl (l' := #[.val (.int p1), .val (.int p2), .val (.int p3), .val (.int (b1_0 (p3 &&& (7 : Int32)) p1)), .val (.int (b2_0 (((p3.toUInt32 >>> ((3 : Int32) &&& 31).toUInt32).toInt32) &&& (3 : Int32)) p2)), .val (.ref o3), .unset, .unset, .unset, .unset, .unset, .unset]) rfl k) ?_
  show Gl _ _ _ _ _ _ _ _ (T4.setTop (mkF m 32 #[.val (.int p1), .val (.int p2), .val (.int p3), .val (.int (b1_0 (p3 &&& (7 : Int32)) p1)), .val (.int (b2_0 (((p3.toUInt32 >>> ((3 : Int32) &&& 31).toUInt32).toInt32) &&& (3 : Int32)) p2)), .val (.ref o3), .unset, .unset, .unset, .unset, .unset, .unset] []))
  refine go (fun t k => XS.aload X4.here hx rfl (hb hby at_32) rfl rfl k) ?_
  show Gl _ _ _ _ _ _ _ _ (T4.setTop (mkF m 34 #[.val (.int p1), .val (.int p2), .val (.int p3), .val (.int (b1_0 (p3 &&& (7 : Int32)) p1)), .val (.int (b2_0 (((p3.toUInt32 >>> ((3 : Int32) &&& 31).toUInt32).toInt32) &&& (3 : Int32)) p2)), .val (.ref o3), .unset, .unset, .unset, .unset, .unset, .unset] [(.ref o3)]))
  obtain ⟨cq5, kq5, q5a, q5b, q5c⟩ := isOf hZ e4 Ex4
  obtain ⟨_, _, ⟨T5, L5, k5, n5⟩, -, X5, ⟨Lc5, hQ5, l5, y5, z5⟩, st5⟩ := X4.virtualBack hx (y := (⟨"com/example/linkwright/linkwright/ClassFileVersion", "isPreview", "()Z"⟩ : MethodName)) (z := (⟨"com/example/linkwright/linkwright/ClassFileVersion", "isPreview", "()Z"⟩ : MethodName)) hown (mvT hZ (hw _ (List.mem_of_getElem? (i := 27) rfl))) (mvT hZ (hw _ (List.mem_of_getElem? (i := 28) rfl))) (notFace_of_selects (args := #[]) (mvT hZ (hw _ (List.mem_of_getElem? (i := 30) rfl)))) (mvT hZ (hw _ (List.mem_of_getElem? (i := 30) rfl))) (mvT hZ (hw _ (List.mem_of_getElem? (i := 29) rfl))) (by decide) (backOf (W := 0) (rm6 l Z a0 hw [] o3 (b1_0 (p3 &&& (7 : Int32)) p1) (b2_0 (((p3.toUInt32 >>> ((3 : Int32) &&& 31).toUInt32).toInt32) &&& (3 : Int32)) p2) h4 n0 (Nat.le_trans (Nat.le_trans Z0 E3.1) K4q.1) Fq4_major Fq4_minor) hZ (hw _ (List.mem_of_getElem? (i := 31) rfl)) (hw _ (List.mem_of_getElem? (i := 10) rfl)) (by decide) (by decide)) q5a q5c (g := (mkF m 34 #[.val (.int p1), .val (.int p2), .val (.int p3), .val (.int (b1_0 (p3 &&& (7 : Int32)) p1)), .val (.int (b2_0 (((p3.toUInt32 >>> ((3 : Int32) &&& 31).toUInt32).toInt32) &&& (3 : Int32)) p2)), .val (.ref o3), .unset, .unset, .unset, .unset, .unset, .unset] [(.ref o3)])) rfl (by rw [hml]; rfl) (Steps.refl _) (argsL := []) (rest := []) (lenOf pd_3 rfl) rfl (by show 2 * 0 + _ ≤ _; exact Nat.le_of_eq rfl) (hb hby at_34) (fun _ _ => ⟨rfl, e4, (by decide : 1 + 0 ≤ _), (by decide : 2 + 0 ≤ _)⟩)
  dsimp only [Pt.U, Pt.locs, Pt.cells, Pt.slots] at X5 l5 y5 z5 st5 hQ5
  subst l5 y5 z5
  have X5 : Stand p l e room_1 s m #[(.int p1), (.int p2), (.int p3)] below meth c T5 _ 1 2 := X5
  obtain ⟨⟨rfl, e5'⟩, N5q⟩ := hQ5
  have e5 : T5.heap = h4 := e5'
  have N5 := Fr.app N4 N5q
  refine go (fun t k => st5.trans k) ?_
  show Gl _ _ _ _ _ _ _ _ (T5.setTop (mkF m 37 #[.val (.int p1), .val (.int p2), .val (.int p3), .val (.int (b1_0 (p3 &&& (7 : Int32)) p1)), .val (.int (b2_0 (((p3.toUInt32 >>> ((3 : Int32) &&& 31).toUInt32).toInt32) &&& (3 : Int32)) p2)), .val (.ref o3), .unset, .unset, .unset, .unset, .unset, .unset] [(.int (b6_0 (b1_0 (p3 &&& (7 : Int32)) p1) (b2_0 (((p3.toUInt32 >>> ((3 : Int32) &&& 31).toUInt32).toInt32) &&& (3 : Int32)) p2)))]))
  refine go (fun t k => XS.istore X5.here hx rfl (hb hby at_37) rfl (l' := #[.val (.int p1), .val (.int p2), .val (.int p3), .val (.int (b1_0 (p3 &&& (7 : Int32)) p1)), .val (.int (b2_0 (((p3.toUInt32 >>> ((3 : Int32) &&& 31).toUInt32).toInt32) &&& (3 : Int32)) p2)), .val (.ref o3), .val (.int (b6_0 (b1_0 (p3 &&& (7 : Int32)) p1) (b2_0 (((p3.toUInt32 >>> ((3 : Int32) &&& 31).toUInt32).toInt32) &&& (3 : Int32)) p2))), .unset, .unset, .unset, .unset, .unset]) rfl k) ?_
  show Gl _ _ _ _ _ _ _ _ (T5.setTop (mkF m 39 #[.val (.int p1), .val (.int p2), .val (.int p3), .val (.int (b1_0 (p3 &&& (7 : Int32)) p1)), .val (.int (b2_0 (((p3.toUInt32 >>> ((3 : Int32) &&& 31).toUInt32).toInt32) &&& (3 : Int32)) p2)), .val (.ref o3), .val (.int (b6_0 (b1_0 (p3 &&& (7 : Int32)) p1) (b2_0 (((p3.toUInt32 >>> ((3 : Int32) &&& 31).toUInt32).toInt32) &&& (3 : Int32)) p2))), .unset, .unset, .unset, .unset, .unset] []))
  refine go (fun t k => XS.iload X5.here hx rfl (hb hby at_39) rfl  k) ?_
  show Gl _ _ _ _ _ _ _ _ (T5.setTop (mkF m 41 #[.val (.int p1), .val (.int p2), .val (.int p3), .val (.int (b1_0 (p3 &&& (7 : Int32)) p1)), .val (.int (b2_0 (((p3.toUInt32 >>> ((3 : Int32) &&& 31).toUInt32).toInt32) &&& (3 : Int32)) p2)), .val (.ref o3), .val (.int (b6_0 (b1_0 (p3 &&& (7 : Int32)) p1) (b2_0 (((p3.toUInt32 >>> ((3 : Int32) &&& 31).toUInt32).toInt32) &&& (3 : Int32)) p2))), .unset, .unset, .unset, .unset, .unset] [(.int (b2_0 (((p3.toUInt32 >>> ((3 : Int32) &&& 31).toUInt32).toInt32) &&& (3 : Int32)) p2))]))
  refine go (fun t k => X5.ldcInt hx hown (mvT hZ (hw _ (List.mem_of_getElem? (i := 7) rfl))) (g := (mkF m 41 #[.val (.int p1), .val (.int p2), .val (.int p3), .val (.int (b1_0 (p3 &&& (7 : Int32)) p1)), .val (.int (b2_0 (((p3.toUInt32 >>> ((3 : Int32) &&& 31).toUInt32).toInt32) &&& (3 : Int32)) p2)), .val (.ref o3), .val (.int (b6_0 (b1_0 (p3 &&& (7 : Int32)) p1) (b2_0 (((p3.toUInt32 >>> ((3 : Int32) &&& 31).toUInt32).toInt32) &&& (3 : Int32)) p2))), .unset, .unset, .unset, .unset, .unset] [(.int (b2_0 (((p3.toUInt32 >>> ((3 : Int32) &&& 31).toUInt32).toInt32) &&& (3 : Int32)) p2))])) rfl (hb hby at_41) _ k) ?_
  show Gl _ _ _ _ _ _ _ _ (T5.setTop (mkF m 43 #[.val (.int p1), .val (.int p2), .val (.int p3), .val (.int (b1_0 (p3 &&& (7 : Int32)) p1)), .val (.int (b2_0 (((p3.toUInt32 >>> ((3 : Int32) &&& 31).toUInt32).toInt32) &&& (3 : Int32)) p2)), .val (.ref o3), .val (.int (b6_0 (b1_0 (p3 &&& (7 : Int32)) p1) (b2_0 (((p3.toUInt32 >>> ((3 : Int32) &&& 31).toUInt32).toInt32) &&& (3 : Int32)) p2))), .unset, .unset, .unset, .unset, .unset] [(.int (65535 : Int32)), (.int (b2_0 (((p3.toUInt32 >>> ((3 : Int32) &&& 31).toUInt32).toInt32) &&& (3 : Int32)) p2))]))
  have J67 : ∀ (v7_67 : Int32) (TJ67 : State) (lJ67 : List Loc) (XJ67 : Stand p l e room_1 s m #[(.int p1), (.int p2), (.int p3)] below meth c TJ67 lJ67 1 2) (eJ67 : TJ67.heap = h4) (NJ67 : Fr n0 lJ67), Gl p e below s n0 room_1.cells room_1.slots (Kv (some (.int (b0_67 p1 p2 p3 v7_67))) (fun _ => True)) (TJ67.setTop (mkF m 67 #[.val (.int p1), .val (.int p2), .val (.int p3), .val (.int (b1_0 (p3 &&& (7 : Int32)) p1)), .val (.int (b2_0 (((p3.toUInt32 >>> ((3 : Int32) &&& 31).toUInt32).toInt32) &&& (3 : Int32)) p2)), .val (.ref o3), .val (.int (b6_0 (b1_0 (p3 &&& (7 : Int32)) p1) (b2_0 (((p3.toUInt32 >>> ((3 : Int32) &&& 31).toUInt32).toInt32) &&& (3 : Int32)) p2))), .val (.int v7_67), .unset, .unset, .unset, .unset] [])) := by
    intro v7_67 TJ67 lJ67 XJ67 eJ67 NJ67
    show Gl _ _ _ _ _ _ _ (Kv (some (.int (if (b7_0 ((b1_0 (p3 &&& (7 : Int32)) p1) - (44 : Int32)) (1 : Int32) (b1_0 (p3 &&& (7 : Int32)) p1) (b2_0 (((p3.toUInt32 >>> ((3 : Int32) &&& 31).toUInt32).toInt32) &&& (3 : Int32)) p2)) = (0 : Int32) then (b0_107 p1 p2 p3 v7_67) else (if (b7_0 ((b1_0 (p3 &&& (7 : Int32)) p1) - (44 : Int32)) (0 : Int32) (b1_0 (p3 &&& (7 : Int32)) p1) (b2_0 (((p3.toUInt32 >>> ((3 : Int32) &&& 31).toUInt32).toInt32) &&& (3 : Int32)) p2)) = (0 : Int32) then (b0_108 p1 p2 p3 v7_67 (1 : Int32)) else (b0_107 p1 p2 p3 v7_67))))) _) _
    refine go (fun t k => XS.iloadN XJ67.here hx rfl (hb hby at_67) rfl  k) ?_
    show Gl _ _ _ _ _ _ _ _ (TJ67.setTop (mkF m 68 #[.val (.int p1), .val (.int p2), .val (.int p3), .val (.int (b1_0 (p3 &&& (7 : Int32)) p1)), .val (.int (b2_0 (((p3.toUInt32 >>> ((3 : Int32) &&& 31).toUInt32).toInt32) &&& (3 : Int32)) p2)), .val (.ref o3), .val (.int (b6_0 (b1_0 (p3 &&& (7 : Int32)) p1) (b2_0 (((p3.toUInt32 >>> ((3 : Int32) &&& 31).toUInt32).toInt32) &&& (3 : Int32)) p2))), .val (.int v7_67), .unset, .unset, .unset, .unset] [(.int (b1_0 (p3 &&& (7 : Int32)) p1))]))
    refine go (fun t k => XS.bipush XJ67.here hx rfl (hb hby at_68) k) ?_
    show Gl _ _ _ _ _ _ _ _ (TJ67.setTop (mkF m 70 #[.val (.int p1), .val (.int p2), .val (.int p3), .val (.int (b1_0 (p3 &&& (7 : Int32)) p1)), .val (.int (b2_0 (((p3.toUInt32 >>> ((3 : Int32) &&& 31).toUInt32).toInt32) &&& (3 : Int32)) p2)), .val (.ref o3), .val (.int (b6_0 (b1_0 (p3 &&& (7 : Int32)) p1) (b2_0 (((p3.toUInt32 >>> ((3 : Int32) &&& 31).toUInt32).toInt32) &&& (3 : Int32)) p2))), .val (.int v7_67), .unset, .unset, .unset, .unset] [(.int (44 : Int32)), (.int (b1_0 (p3 &&& (7 : Int32)) p1))]))
    refine go (fun t k => XS.isub XJ67.here hx rfl (hb hby at_70) rfl k) ?_
    show Gl _ _ _ _ _ _ _ _ (TJ67.setTop (mkF m 71 #[.val (.int p1), .val (.int p2), .val (.int p3), .val (.int (b1_0 (p3 &&& (7 : Int32)) p1)), .val (.int (b2_0 (((p3.toUInt32 >>> ((3 : Int32) &&& 31).toUInt32).toInt32) &&& (3 : Int32)) p2)), .val (.ref o3), .val (.int (b6_0 (b1_0 (p3 &&& (7 : Int32)) p1) (b2_0 (((p3.toUInt32 >>> ((3 : Int32) &&& 31).toUInt32).toInt32) &&& (3 : Int32)) p2))), .val (.int v7_67), .unset, .unset, .unset, .unset] [(.int ((b1_0 (p3 &&& (7 : Int32)) p1) - (44 : Int32)))]))
    refine go (fun t k => XS.istore XJ67.here hx rfl (hb hby at_71) rfl (l' := #[.val (.int p1), .val (.int p2), .val (.int p3), .val (.int (b1_0 (p3 &&& (7 : Int32)) p1)), .val (.int (b2_0 (((p3.toUInt32 >>> ((3 : Int32) &&& 31).toUInt32).toInt32) &&& (3 : Int32)) p2)), .val (.ref o3), .val (.int (b6_0 (b1_0 (p3 &&& (7 : Int32)) p1) (b2_0 (((p3.toUInt32 >>> ((3 : Int32) &&& 31).toUInt32).toInt32) &&& (3 : Int32)) p2))), .val (.int v7_67), .val (.int ((b1_0 (p3 &&& (7 : Int32)) p1) - (44 : Int32))), .unset, .unset, .unset]) rfl k) ?_
    show Gl _ _ _ _ _ _ _ _ (TJ67.setTop (mkF m 73 #[.val (.int p1), .val (.int p2), .val (.int p3), .val (.int (b1_0 (p3 &&& (7 : Int32)) p1)), .val (.int (b2_0 (((p3.toUInt32 >>> ((3 : Int32) &&& 31).toUInt32).toInt32) &&& (3 : Int32)) p2)), .val (.ref o3), .val (.int (b6_0 (b1_0 (p3 &&& (7 : Int32)) p1) (b2_0 (((p3.toUInt32 >>> ((3 : Int32) &&& 31).toUInt32).toInt32) &&& (3 : Int32)) p2))), .val (.int v7_67), .val (.int ((b1_0 (p3 &&& (7 : Int32)) p1) - (44 : Int32))), .unset, .unset, .unset] []))
    refine go (fun t k => XS.aload XJ67.here hx rfl (hb hby at_73) rfl rfl k) ?_
    show Gl _ _ _ _ _ _ _ _ (TJ67.setTop (mkF m 75 #[.val (.int p1), .val (.int p2), .val (.int p3), .val (.int (b1_0 (p3 &&& (7 : Int32)) p1)), .val (.int (b2_0 (((p3.toUInt32 >>> ((3 : Int32) &&& 31).toUInt32).toInt32) &&& (3 : Int32)) p2)), .val (.ref o3), .val (.int (b6_0 (b1_0 (p3 &&& (7 : Int32)) p1) (b2_0 (((p3.toUInt32 >>> ((3 : Int32) &&& 31).toUInt32).toInt32) &&& (3 : Int32)) p2))), .val (.int v7_67), .val (.int ((b1_0 (p3 &&& (7 : Int32)) p1) - (44 : Int32))), .unset, .unset, .unset] [(.ref o3)]))
    refine go (fun t k => XS.iload XJ67.here hx rfl (hb hby at_75) rfl  k) ?_
    show Gl _ _ _ _ _ _ _ _ (TJ67.setTop (mkF m 77 #[.val (.int p1), .val (.int p2), .val (.int p3), .val (.int (b1_0 (p3 &&& (7 : Int32)) p1)), .val (.int (b2_0 (((p3.toUInt32 >>> ((3 : Int32) &&& 31).toUInt32).toInt32) &&& (3 : Int32)) p2)), .val (.ref o3), .val (.int (b6_0 (b1_0 (p3 &&& (7 : Int32)) p1) (b2_0 (((p3.toUInt32 >>> ((3 : Int32) &&& 31).toUInt32).toInt32) &&& (3 : Int32)) p2))), .val (.int v7_67), .val (.int ((b1_0 (p3 &&& (7 : Int32)) p1) - (44 : Int32))), .unset, .unset, .unset] [(.int ((b1_0 (p3 &&& (7 : Int32)) p1) - (44 : Int32))), (.ref o3)]))
    refine go (fun t k => XS.iconst XJ67.here hx rfl (hb hby at_77) k) ?_
    show Gl _ _ _ _ _ _ _ _ (TJ67.setTop (mkF m 78 #[.val (.int p1), .val (.int p2), .val (.int p3), .val (.int (b1_0 (p3 &&& (7 : Int32)) p1)), .val (.int (b2_0 (((p3.toUInt32 >>> ((3 : Int32) &&& 31).toUInt32).toInt32) &&& (3 : Int32)) p2)), .val (.ref o3), .val (.int (b6_0 (b1_0 (p3 &&& (7 : Int32)) p1) (b2_0 (((p3.toUInt32 >>> ((3 : Int32) &&& 31).toUInt32).toInt32) &&& (3 : Int32)) p2))), .val (.int v7_67), .val (.int ((b1_0 (p3 &&& (7 : Int32)) p1) - (44 : Int32))), .unset, .unset, .unset] [(.int (1 : Int32)), (.int ((b1_0 (p3 &&& (7 : Int32)) p1) - (44 : Int32))), (.ref o3)]))
    obtain ⟨cq7, kq7, q7a, q7b, q7c⟩ := isOf hZ eJ67 Ex4
    obtain ⟨_, _, ⟨T7, L7, k7, n7⟩, -, X7, ⟨Lc7, hQ7, l7, y7, z7⟩, st7⟩ := XJ67.virtualBack hx (y := (⟨"com/example/linkwright/linkwright/ClassFileVersion", "isSupportedBy", "(IZ)Z"⟩ : MethodName)) (z := (⟨"com/example/linkwright/linkwright/ClassFileVersion", "isSupportedBy", "(IZ)Z"⟩ : MethodName)) hown (mvT hZ (hw _ (List.mem_of_getElem? (i := 32) rfl))) (mvT hZ (hw _ (List.mem_of_getElem? (i := 33) rfl))) (notFace_of_selects (args := #[]) (mvT hZ (hw _ (List.mem_of_getElem? (i := 35) rfl)))) (mvT hZ (hw _ (List.mem_of_getElem? (i := 35) rfl))) (mvT hZ (hw _ (List.mem_of_getElem? (i := 34) rfl))) (by decide) (backOf (W := 0) (rm7 l Z a0 hw [] o3 ((b1_0 (p3 &&& (7 : Int32)) p1) - (44 : Int32)) (1 : Int32) (b1_0 (p3 &&& (7 : Int32)) p1) (b2_0 (((p3.toUInt32 >>> ((3 : Int32) &&& 31).toUInt32).toInt32) &&& (3 : Int32)) p2) h4 n0 (Nat.le_trans (Nat.le_trans Z0 E3.1) K4q.1) Fq4_major Fq4_minor) hZ (hw _ (List.mem_of_getElem? (i := 36) rfl)) (hw _ (List.mem_of_getElem? (i := 10) rfl)) (by decide) (by decide)) q7a q7c (g := (mkF m 78 #[.val (.int p1), .val (.int p2), .val (.int p3), .val (.int (b1_0 (p3 &&& (7 : Int32)) p1)), .val (.int (b2_0 (((p3.toUInt32 >>> ((3 : Int32) &&& 31).toUInt32).toInt32) &&& (3 : Int32)) p2)), .val (.ref o3), .val (.int (b6_0 (b1_0 (p3 &&& (7 : Int32)) p1) (b2_0 (((p3.toUInt32 >>> ((3 : Int32) &&& 31).toUInt32).toInt32) &&& (3 : Int32)) p2))), .val (.int v7_67), .val (.int ((b1_0 (p3 &&& (7 : Int32)) p1) - (44 : Int32))), .unset, .unset, .unset] [(.int (1 : Int32)), (.int ((b1_0 (p3 &&& (7 : Int32)) p1) - (44 : Int32))), (.ref o3)])) rfl (by rw [hml]; rfl) (Steps.refl _) (argsL := [(.int ((b1_0 (p3 &&& (7 : Int32)) p1) - (44 : Int32))), (.int (1 : Int32))]) (rest := []) (lenOf pd_4 rfl) rfl (by show 2 * 0 + _ ≤ _; exact Nat.le_of_eq rfl) (hb hby at_78) (fun _ _ => ⟨rfl, eJ67, (by decide : 1 + 0 ≤ _), (by decide : 2 + 0 ≤ _)⟩)
    dsimp only [Pt.U, Pt.locs, Pt.cells, Pt.slots] at X7 l7 y7 z7 st7 hQ7
    subst l7 y7 z7
    have X7 : Stand p l e room_1 s m #[(.int p1), (.int p2), (.int p3)] below meth c T7 _ 1 2 := X7
    obtain ⟨⟨rfl, e7'⟩, N7q⟩ := hQ7
    have e7 : T7.heap = h4 := e7'
    have N7 := Fr.app NJ67 N7q
    refine go (fun t k => st7.trans k) ?_
    show Gl _ _ _ _ _ _ _ _ (T7.setTop (mkF m 81 #[.val (.int p1), .val (.int p2), .val (.int p3), .val (.int (b1_0 (p3 &&& (7 : Int32)) p1)), .val (.int (b2_0 (((p3.toUInt32 >>> ((3 : Int32) &&& 31).toUInt32).toInt32) &&& (3 : Int32)) p2)), .val (.ref o3), .val (.int (b6_0 (b1_0 (p3 &&& (7 : Int32)) p1) (b2_0 (((p3.toUInt32 >>> ((3 : Int32) &&& 31).toUInt32).toInt32) &&& (3 : Int32)) p2))), .val (.int v7_67), .val (.int ((b1_0 (p3 &&& (7 : Int32)) p1) - (44 : Int32))), .unset, .unset, .unset] [(.int (b7_0 ((b1_0 (p3 &&& (7 : Int32)) p1) - (44 : Int32)) (1 : Int32) (b1_0 (p3 &&& (7 : Int32)) p1) (b2_0 (((p3.toUInt32 >>> ((3 : Int32) &&& 31).toUInt32).toInt32) &&& (3 : Int32)) p2)))]))
    refine go (fun t k => XS.istore X7.here hx rfl (hb hby at_81) rfl (l' := #[.val (.int p1), .val (.int p2), .val (.int p3), .val (.int (b1_0 (p3 &&& (7 : Int32)) p1)), .val (.int (b2_0 (((p3.toUInt32 >>> ((3 : Int32) &&& 31).toUInt32).toInt32) &&& (3 : Int32)) p2)), .val (.ref o3), .val (.int (b6_0 (b1_0 (p3 &&& (7 : Int32)) p1) (b2_0 (((p3.toUInt32 >>> ((3 : Int32) &&& 31).toUInt32).toInt32) &&& (3 : Int32)) p2))), .val (.int v7_67), .val (.int ((b1_0 (p3 &&& (7 : Int32)) p1) - (44 : Int32))), .val (.int (b7_0 ((b1_0 (p3 &&& (7 : Int32)) p1) - (44 : Int32)) (1 : Int32) (b1_0 (p3 &&& (7 : Int32)) p1) (b2_0 (((p3.toUInt32 >>> ((3 : Int32) &&& 31).toUInt32).toInt32) &&& (3 : Int32)) p2))), .unset, .unset]) rfl k) ?_
    show Gl _ _ _ _ _ _ _ _ (T7.setTop (mkF m 83 #[.val (.int p1), .val (.int p2), .val (.int p3), .val (.int (b1_0 (p3 &&& (7 : Int32)) p1)), .val (.int (b2_0 (((p3.toUInt32 >>> ((3 : Int32) &&& 31).toUInt32).toInt32) &&& (3 : Int32)) p2)), .val (.ref o3), .val (.int (b6_0 (b1_0 (p3 &&& (7 : Int32)) p1) (b2_0 (((p3.toUInt32 >>> ((3 : Int32) &&& 31).toUInt32).toInt32) &&& (3 : Int32)) p2))), .val (.int v7_67), .val (.int ((b1_0 (p3 &&& (7 : Int32)) p1) - (44 : Int32))), .val (.int (b7_0 ((b1_0 (p3 &&& (7 : Int32)) p1) - (44 : Int32)) (1 : Int32) (b1_0 (p3 &&& (7 : Int32)) p1) (b2_0 (((p3.toUInt32 >>> ((3 : Int32) &&& 31).toUInt32).toInt32) &&& (3 : Int32)) p2))), .unset, .unset] []))
    refine go (fun t k => XS.aload X7.here hx rfl (hb hby at_83) rfl rfl k) ?_
    show Gl _ _ _ _ _ _ _ _ (T7.setTop (mkF m 85 #[.val (.int p1), .val (.int p2), .val (.int p3), .val (.int (b1_0 (p3 &&& (7 : Int32)) p1)), .val (.int (b2_0 (((p3.toUInt32 >>> ((3 : Int32) &&& 31).toUInt32).toInt32) &&& (3 : Int32)) p2)), .val (.ref o3), .val (.int (b6_0 (b1_0 (p3 &&& (7 : Int32)) p1) (b2_0 (((p3.toUInt32 >>> ((3 : Int32) &&& 31).toUInt32).toInt32) &&& (3 : Int32)) p2))), .val (.int v7_67), .val (.int ((b1_0 (p3 &&& (7 : Int32)) p1) - (44 : Int32))), .val (.int (b7_0 ((b1_0 (p3 &&& (7 : Int32)) p1) - (44 : Int32)) (1 : Int32) (b1_0 (p3 &&& (7 : Int32)) p1) (b2_0 (((p3.toUInt32 >>> ((3 : Int32) &&& 31).toUInt32).toInt32) &&& (3 : Int32)) p2))), .unset, .unset] [(.ref o3)]))
    refine go (fun t k => XS.iload X7.here hx rfl (hb hby at_85) rfl  k) ?_
    show Gl _ _ _ _ _ _ _ _ (T7.setTop (mkF m 87 #[.val (.int p1), .val (.int p2), .val (.int p3), .val (.int (b1_0 (p3 &&& (7 : Int32)) p1)), .val (.int (b2_0 (((p3.toUInt32 >>> ((3 : Int32) &&& 31).toUInt32).toInt32) &&& (3 : Int32)) p2)), .val (.ref o3), .val (.int (b6_0 (b1_0 (p3 &&& (7 : Int32)) p1) (b2_0 (((p3.toUInt32 >>> ((3 : Int32) &&& 31).toUInt32).toInt32) &&& (3 : Int32)) p2))), .val (.int v7_67), .val (.int ((b1_0 (p3 &&& (7 : Int32)) p1) - (44 : Int32))), .val (.int (b7_0 ((b1_0 (p3 &&& (7 : Int32)) p1) - (44 : Int32)) (1 : Int32) (b1_0 (p3 &&& (7 : Int32)) p1) (b2_0 (((p3.toUInt32 >>> ((3 : Int32) &&& 31).toUInt32).toInt32) &&& (3 : Int32)) p2))), .unset, .unset] [(.int ((b1_0 (p3 &&& (7 : Int32)) p1) - (44 : Int32))), (.ref o3)]))
    refine go (fun t k => XS.iconst X7.here hx rfl (hb hby at_87) k) ?_
    show Gl _ _ _ _ _ _ _ _ (T7.setTop (mkF m 88 #[.val (.int p1), .val (.int p2), .val (.int p3), .val (.int (b1_0 (p3 &&& (7 : Int32)) p1)), .val (.int (b2_0 (((p3.toUInt32 >>> ((3 : Int32) &&& 31).toUInt32).toInt32) &&& (3 : Int32)) p2)), .val (.ref o3), .val (.int (b6_0 (b1_0 (p3 &&& (7 : Int32)) p1) (b2_0 (((p3.toUInt32 >>> ((3 : Int32) &&& 31).toUInt32).toInt32) &&& (3 : Int32)) p2))), .val (.int v7_67), .val (.int ((b1_0 (p3 &&& (7 : Int32)) p1) - (44 : Int32))), .val (.int (b7_0 ((b1_0 (p3 &&& (7 : Int32)) p1) - (44 : Int32)) (1 : Int32) (b1_0 (p3 &&& (7 : Int32)) p1) (b2_0 (((p3.toUInt32 >>> ((3 : Int32) &&& 31).toUInt32).toInt32) &&& (3 : Int32)) p2))), .unset, .unset] [(.int (0 : Int32)), (.int ((b1_0 (p3 &&& (7 : Int32)) p1) - (44 : Int32))), (.ref o3)]))
    obtain ⟨cq8, kq8, q8a, q8b, q8c⟩ := isOf hZ e7 Ex4
    obtain ⟨_, _, ⟨T8, L8, k8, n8⟩, -, X8, ⟨Lc8, hQ8, l8, y8, z8⟩, st8⟩ := X7.virtualBack hx (y := (⟨"com/example/linkwright/linkwright/ClassFileVersion", "isSupportedBy", "(IZ)Z"⟩ : MethodName)) (z := (⟨"com/example/linkwright/linkwright/ClassFileVersion", "isSupportedBy", "(IZ)Z"⟩ : MethodName)) hown (mvT hZ (hw _ (List.mem_of_getElem? (i := 32) rfl))) (mvT hZ (hw _ (List.mem_of_getElem? (i := 33) rfl))) (notFace_of_selects (args := #[]) (mvT hZ (hw _ (List.mem_of_getElem? (i := 35) rfl)))) (mvT hZ (hw _ (List.mem_of_getElem? (i := 35) rfl))) (mvT hZ (hw _ (List.mem_of_getElem? (i := 34) rfl))) (by decide) (backOf (W := 0) (rm7 l Z a0 hw [] o3 ((b1_0 (p3 &&& (7 : Int32)) p1) - (44 : Int32)) (0 : Int32) (b1_0 (p3 &&& (7 : Int32)) p1) (b2_0 (((p3.toUInt32 >>> ((3 : Int32) &&& 31).toUInt32).toInt32) &&& (3 : Int32)) p2) h4 n0 (Nat.le_trans (Nat.le_trans Z0 E3.1) K4q.1) Fq4_major Fq4_minor) hZ (hw _ (List.mem_of_getElem? (i := 36) rfl)) (hw _ (List.mem_of_getElem? (i := 10) rfl)) (by decide) (by decide)) q8a q8c (g := (mkF m 88 #[.val (.int p1), .val (.int p2), .val (.int p3), .val (.int (b1_0 (p3 &&& (7 : Int32)) p1)), .val (.int (b2_0 (((p3.toUInt32 >>> ((3 : Int32) &&& 31).toUInt32).toInt32) &&& (3 : Int32)) p2)), .val (.ref o3), .val (.int (b6_0 (b1_0 (p3 &&& (7 : Int32)) p1) (b2_0 (((p3.toUInt32 >>> ((3 : Int32) &&& 31).toUInt32).toInt32) &&& (3 : Int32)) p2))), .val (.int v7_67), .val (.int ((b1_0 (p3 &&& (7 : Int32)) p1) - (44 : Int32))), .val (.int (b7_0 ((b1_0 (p3 &&& (7 : Int32)) p1) - (44 : Int32)) (1 : Int32) (b1_0 (p3 &&& (7 : Int32)) p1) (b2_0 (((p3.toUInt32 >>> ((3 : Int32) &&& 31).toUInt32).toInt32) &&& (3 : Int32)) p2))), .unset, .unset] [(.int (0 : Int32)), (.int ((b1_0 (p3 &&& (7 : Int32)) p1) - (44 : Int32))), (.ref o3)])) rfl (by rw [hml]; rfl) (Steps.refl _) (argsL := [(.int ((b1_0 (p3 &&& (7 : Int32)) p1) - (44 : Int32))), (.int (0 : Int32))]) (rest := []) (lenOf pd_4 rfl) rfl (by show 2 * 0 + _ ≤ _; exact Nat.le_of_eq rfl) (hb hby at_88) (fun _ _ => ⟨rfl, e7, (by decide : 1 + 0 ≤ _), (by decide : 2 + 0 ≤ _)⟩)
    dsimp only [Pt.U, Pt.locs, Pt.cells, Pt.slots] at X8 l8 y8 z8 st8 hQ8
    subst l8 y8 z8
    have X8 : Stand p l e room_1 s m #[(.int p1), (.int p2), (.int p3)] below meth c T8 _ 1 2 := X8
    obtain ⟨⟨rfl, e8'⟩, N8q⟩ := hQ8
    have e8 : T8.heap = h4 := e8'
    have N8 := Fr.app N7 N8q
    refine go (fun t k => st8.trans k) ?_
    show Gl _ _ _ _ _ _ _ _ (T8.setTop (mkF m 91 #[.val (.int p1), .val (.int p2), .val (.int p3), .val (.int (b1_0 (p3 &&& (7 : Int32)) p1)), .val (.int (b2_0 (((p3.toUInt32 >>> ((3 : Int32) &&& 31).toUInt32).toInt32) &&& (3 : Int32)) p2)), .val (.ref o3), .val (.int (b6_0 (b1_0 (p3 &&& (7 : Int32)) p1) (b2_0 (((p3.toUInt32 >>> ((3 : Int32) &&& 31).toUInt32).toInt32) &&& (3 : Int32)) p2))), .val (.int v7_67), .val (.int ((b1_0 (p3 &&& (7 : Int32)) p1) - (44 : Int32))), .val (.int (b7_0 ((b1_0 (p3 &&& (7 : Int32)) p1) - (44 : Int32)) (1 : Int32) (b1_0 (p3 &&& (7 : Int32)) p1) (b2_0 (((p3.toUInt32 >>> ((3 : Int32) &&& 31).toUInt32).toInt32) &&& (3 : Int32)) p2))), .unset, .unset] [(.int (b7_0 ((b1_0 (p3 &&& (7 : Int32)) p1) - (44 : Int32)) (0 : Int32) (b1_0 (p3 &&& (7 : Int32)) p1) (b2_0 (((p3.toUInt32 >>> ((3 : Int32) &&& 31).toUInt32).toInt32) &&& (3 : Int32)) p2)))]))
    refine go (fun t k => XS.istore X8.here hx rfl (hb hby at_91) rfl (l' := #[.val (.int p1), .val (.int p2), .val (.int p3), .val (.int (b1_0 (p3 &&& (7 : Int32)) p1)), .val (.int (b2_0 (((p3.toUInt32 >>> ((3 : Int32) &&& 31).toUInt32).toInt32) &&& (3 : Int32)) p2)), .val (.ref o3), .val (.int (b6_0 (b1_0 (p3 &&& (7 : Int32)) p1) (b2_0 (((p3.toUInt32 >>> ((3 : Int32) &&& 31).toUInt32).toInt32) &&& (3 : Int32)) p2))), .val (.int v7_67), .val (.int ((b1_0 (p3 &&& (7 : Int32)) p1) - (44 : Int32))), .val (.int (b7_0 ((b1_0 (p3 &&& (7 : Int32)) p1) - (44 : Int32)) (1 : Int32) (b1_0 (p3 &&& (7 : Int32)) p1) (b2_0 (((p3.toUInt32 >>> ((3 : Int32) &&& 31).toUInt32).toInt32) &&& (3 : Int32)) p2))), .val (.int (b7_0 ((b1_0 (p3 &&& (7 : Int32)) p1) - (44 : Int32)) (0 : Int32) (b1_0 (p3 &&& (7 : Int32)) p1) (b2_0 (((p3.toUInt32 >>> ((3 : Int32) &&& 31).toUInt32).toInt32) &&& (3 : Int32)) p2))), .unset]) rfl k) ?_
    show Gl _ _ _ _ _ _ _ _ (T8.setTop (mkF m 93 #[.val (.int p1), .val (.int p2), .val (.int p3), .val (.int (b1_0 (p3 &&& (7 : Int32)) p1)), .val (.int (b2_0 (((p3.toUInt32 >>> ((3 : Int32) &&& 31).toUInt32).toInt32) &&& (3 : Int32)) p2)), .val (.ref o3), .val (.int (b6_0 (b1_0 (p3 &&& (7 : Int32)) p1) (b2_0 (((p3.toUInt32 >>> ((3 : Int32) &&& 31).toUInt32).toInt32) &&& (3 : Int32)) p2))), .val (.int v7_67), .val (.int ((b1_0 (p3 &&& (7 : Int32)) p1) - (44 : Int32))), .val (.int (b7_0 ((b1_0 (p3 &&& (7 : Int32)) p1) - (44 : Int32)) (1 : Int32) (b1_0 (p3 &&& (7 : Int32)) p1) (b2_0 (((p3.toUInt32 >>> ((3 : Int32) &&& 31).toUInt32).toInt32) &&& (3 : Int32)) p2))), .val (.int (b7_0 ((b1_0 (p3 &&& (7 : Int32)) p1) - (44 : Int32)) (0 : Int32) (b1_0 (p3 &&& (7 : Int32)) p1) (b2_0 (((p3.toUInt32 >>> ((3 : Int32) &&& 31).toUInt32).toInt32) &&& (3 : Int32)) p2))), .unset] []))
    refine go (fun t k => XS.iload X8.here hx rfl (hb hby at_93) rfl  k) ?_
    show Gl _ _ _ _ _ _ _ _ (T8.setTop (mkF m 95 #[.val (.int p1), .val (.int p2), .val (.int p3), .val (.int (b1_0 (p3 &&& (7 : Int32)) p1)), .val (.int (b2_0 (((p3.toUInt32 >>> ((3 : Int32) &&& 31).toUInt32).toInt32) &&& (3 : Int32)) p2)), .val (.ref o3), .val (.int (b6_0 (b1_0 (p3 &&& (7 : Int32)) p1) (b2_0 (((p3.toUInt32 >>> ((3 : Int32) &&& 31).toUInt32).toInt32) &&& (3 : Int32)) p2))), .val (.int v7_67), .val (.int ((b1_0 (p3 &&& (7 : Int32)) p1) - (44 : Int32))), .val (.int (b7_0 ((b1_0 (p3 &&& (7 : Int32)) p1) - (44 : Int32)) (1 : Int32) (b1_0 (p3 &&& (7 : Int32)) p1) (b2_0 (((p3.toUInt32 >>> ((3 : Int32) &&& 31).toUInt32).toInt32) &&& (3 : Int32)) p2))), .val (.int (b7_0 ((b1_0 (p3 &&& (7 : Int32)) p1) - (44 : Int32)) (0 : Int32) (b1_0 (p3 &&& (7 : Int32)) p1) (b2_0 (((p3.toUInt32 >>> ((3 : Int32) &&& 31).toUInt32).toInt32) &&& (3 : Int32)) p2))), .unset] [(.int (b7_0 ((b1_0 (p3 &&& (7 : Int32)) p1) - (44 : Int32)) (1 : Int32) (b1_0 (p3 &&& (7 : Int32)) p1) (b2_0 (((p3.toUInt32 >>> ((3 : Int32) &&& 31).toUInt32).toInt32) &&& (3 : Int32)) p2)))]))
    have J108 : ∀ (s0_108 : Int32) (TJ108 : State) (lJ108 : List Loc) (XJ108 : Stand p l e room_1 s m #[(.int p1), (.int p2), (.int p3)] below meth c TJ108 lJ108 1 2) (eJ108 : TJ108.heap = h4) (NJ108 : Fr n0 lJ108), Gl p e below s n0 room_1.cells room_1.slots (Kv (some (.int (b0_108 p1 p2 p3 v7_67 s0_108))) (fun _ => True)) (TJ108.setTop (mkF m 108 #[.val (.int p1), .val (.int p2), .val (.int p3), .val (.int (b1_0 (p3 &&& (7 : Int32)) p1)), .val (.int (b2_0 (((p3.toUInt32 >>> ((3 : Int32) &&& 31).toUInt32).toInt32) &&& (3 : Int32)) p2)), .val (.ref o3), .val (.int (b6_0 (b1_0 (p3 &&& (7 : Int32)) p1) (b2_0 (((p3.toUInt32 >>> ((3 : Int32) &&& 31).toUInt32).toInt32) &&& (3 : Int32)) p2))), .val (.int v7_67), .val (.int ((b1_0 (p3 &&& (7 : Int32)) p1) - (44 : Int32))), .val (.int (b7_0 ((b1_0 (p3 &&& (7 : Int32)) p1) - (44 : Int32)) (1 : Int32) (b1_0 (p3 &&& (7 : Int32)) p1) (b2_0 (((p3.toUInt32 >>> ((3 : Int32) &&& 31).toUInt32).toInt32) &&& (3 : Int32)) p2))), .val (.int (b7_0 ((b1_0 (p3 &&& (7 : Int32)) p1) - (44 : Int32)) (0 : Int32) (b1_0 (p3 &&& (7 : Int32)) p1) (b2_0 (((p3.toUInt32 >>> ((3 : Int32) &&& 31).toUInt32).toInt32) &&& (3 : Int32)) p2))), .unset] [(.int s0_108)])) := by
      intro s0_108 TJ108 lJ108 XJ108 eJ108 NJ108
      show Gl _ _ _ _ _ _ _ (Kv (some (.int (if (b6_0 (b1_0 (p3 &&& (7 : Int32)) p1) (b2_0 (((p3.toUInt32 >>> ((3 : Int32) &&& 31).toUInt32).toInt32) &&& (3 : Int32)) p2)) = v7_67 then (if (b6_0 (b1_0 (p3 &&& (7 : Int32)) p1) (b2_0 (((p3.toUInt32 >>> ((3 : Int32) &&& 31).toUInt32).toInt32) &&& (3 : Int32)) p2)) = s0_108 then (b0_129 (1 : Int32)) else b0_128) else b0_128))) _) _
      refine go (fun t k => XS.istore XJ108.here hx rfl (hb hby at_108) rfl (l' := #[.val (.int p1), .val (.int p2), .val (.int p3), .val (.int (b1_0 (p3 &&& (7 : Int32)) p1)), .val (.int (b2_0 (((p3.toUInt32 >>> ((3 : Int32) &&& 31).toUInt32).toInt32) &&& (3 : Int32)) p2)), .val (.ref o3), .val (.int (b6_0 (b1_0 (p3 &&& (7 : Int32)) p1) (b2_0 (((p3.toUInt32 >>> ((3 : Int32) &&& 31).toUInt32).toInt32) &&& (3 : Int32)) p2))), .val (.int v7_67), .val (.int ((b1_0 (p3 &&& (7 : Int32)) p1) - (44 : Int32))), .val (.int (b7_0 ((b1_0 (p3 &&& (7 : Int32)) p1) - (44 : Int32)) (1 : Int32) (b1_0 (p3 &&& (7 : Int32)) p1) (b2_0 (((p3.toUInt32 >>> ((3 : Int32) &&& 31).toUInt32).toInt32) &&& (3 : Int32)) p2))), .val (.int (b7_0 ((b1_0 (p3 &&& (7 : Int32)) p1) - (44 : Int32)) (0 : Int32) (b1_0 (p3 &&& (7 : Int32)) p1) (b2_0 (((p3.toUInt32 >>> ((3 : Int32) &&& 31).toUInt32).toInt32) &&& (3 : Int32)) p2))), .val (.int s0_108)]) rfl k) ?_
      show Gl _ _ _ _ _ _ _ _ (TJ108.setTop (mkF m 110 #[.val (.int p1), .val (.int p2), .val (.int p3), .val (.int (b1_0 (p3 &&& (7 : Int32)) p1)), .val (.int (b2_0 (((p3.toUInt32 >>> ((3 : Int32) &&& 31).toUInt32).toInt32) &&& (3 : Int32)) p2)), .val (.ref o3), .val (.int (b6_0 (b1_0 (p3 &&& (7 : Int32)) p1) (b2_0 (((p3.toUInt32 >>> ((3 : Int32) &&& 31).toUInt32).toInt32) &&& (3 : Int32)) p2))), .val (.int v7_67), .val (.int ((b1_0 (p3 &&& (7 : Int32)) p1) - (44 : Int32))), .val (.int (b7_0 ((b1_0 (p3 &&& (7 : Int32)) p1) - (44 : Int32)) (1 : Int32) (b1_0 (p3 &&& (7 : Int32)) p1) (b2_0 (((p3.toUInt32 >>> ((3 : Int32) &&& 31).toUInt32).toInt32) &&& (3 : Int32)) p2))), .val (.int (b7_0 ((b1_0 (p3 &&& (7 : Int32)) p1) - (44 : Int32)) (0 : Int32) (b1_0 (p3 &&& (7 : Int32)) p1) (b2_0 (((p3.toUInt32 >>> ((3 : Int32) &&& 31).toUInt32).toInt32) &&& (3 : Int32)) p2))), .val (.int s0_108)] []))
      refine go (fun t k => XS.iload XJ108.here hx rfl (hb hby at_110) rfl  k) ?_
      show Gl _ _ _ _ _ _ _ _ (TJ108.setTop (mkF m 112 #[.val (.int p1), .val (.int p2), .val (.int p3), .val (.int (b1_0 (p3 &&& (7 : Int32)) p1)), .val (.int (b2_0 (((p3.toUInt32 >>> ((3 : Int32) &&& 31).toUInt32).toInt32) &&& (3 : Int32)) p2)), .val (.ref o3), .val (.int (b6_0 (b1_0 (p3 &&& (7 : Int32)) p1) (b2_0 (((p3.toUInt32 >>> ((3 : Int32) &&& 31).toUInt32).toInt32) &&& (3 : Int32)) p2))), .val (.int v7_67), .val (.int ((b1_0 (p3 &&& (7 : Int32)) p1) - (44 : Int32))), .val (.int (b7_0 ((b1_0 (p3 &&& (7 : Int32)) p1) - (44 : Int32)) (1 : Int32) (b1_0 (p3 &&& (7 : Int32)) p1) (b2_0 (((p3.toUInt32 >>> ((3 : Int32) &&& 31).toUInt32).toInt32) &&& (3 : Int32)) p2))), .val (.int (b7_0 ((b1_0 (p3 &&& (7 : Int32)) p1) - (44 : Int32)) (0 : Int32) (b1_0 (p3 &&& (7 : Int32)) p1) (b2_0 (((p3.toUInt32 >>> ((3 : Int32) &&& 31).toUInt32).toInt32) &&& (3 : Int32)) p2))), .val (.int s0_108)] [(.int (b6_0 (b1_0 (p3 &&& (7 : Int32)) p1) (b2_0 (((p3.toUInt32 >>> ((3 : Int32) &&& 31).toUInt32).toInt32) &&& (3 : Int32)) p2)))]))
      refine go (fun t k => XS.iload XJ108.here hx rfl (hb hby at_112) rfl  k) ?_
      show Gl _ _ _ _ _ _ _ _ (TJ108.setTop (mkF m 114 #[.val (.int p1), .val (.int p2), .val (.int p3), .val (.int (b1_0 (p3 &&& (7 : Int32)) p1)), .val (.int (b2_0 (((p3.toUInt32 >>> ((3 : Int32) &&& 31).toUInt32).toInt32) &&& (3 : Int32)) p2)), .val (.ref o3), .val (.int (b6_0 (b1_0 (p3 &&& (7 : Int32)) p1) (b2_0 (((p3.toUInt32 >>> ((3 : Int32) &&& 31).toUInt32).toInt32) &&& (3 : Int32)) p2))), .val (.int v7_67), .val (.int ((b1_0 (p3 &&& (7 : Int32)) p1) - (44 : Int32))), .val (.int (b7_0 ((b1_0 (p3 &&& (7 : Int32)) p1) - (44 : Int32)) (1 : Int32) (b1_0 (p3 &&& (7 : Int32)) p1) (b2_0 (((p3.toUInt32 >>> ((3 : Int32) &&& 31).toUInt32).toInt32) &&& (3 : Int32)) p2))), .val (.int (b7_0 ((b1_0 (p3 &&& (7 : Int32)) p1) - (44 : Int32)) (0 : Int32) (b1_0 (p3 &&& (7 : Int32)) p1) (b2_0 (((p3.toUInt32 >>> ((3 : Int32) &&& 31).toUInt32).toInt32) &&& (3 : Int32)) p2))), .val (.int s0_108)] [(.int v7_67), (.int (b6_0 (b1_0 (p3 &&& (7 : Int32)) p1) (b2_0 (((p3.toUInt32 >>> ((3 : Int32) &&& 31).toUInt32).toInt32) &&& (3 : Int32)) p2)))]))
      have J129 : ∀ (s0_129 : Int32) (TJ129 : State) (lJ129 : List Loc) (XJ129 : Stand p l e room_1 s m #[(.int p1), (.int p2), (.int p3)] below meth c TJ129 lJ129 1 2) (eJ129 : TJ129.heap = h4) (NJ129 : Fr n0 lJ129), Gl p e below s n0 room_1.cells room_1.slots (Kv (some (.int (b0_129 s0_129))) (fun _ => True)) (TJ129.setTop (mkF m 129 #[.val (.int p1), .val (.int p2), .val (.int p3), .val (.int (b1_0 (p3 &&& (7 : Int32)) p1)), .val (.int (b2_0 (((p3.toUInt32 >>> ((3 : Int32) &&& 31).toUInt32).toInt32) &&& (3 : Int32)) p2)), .val (.ref o3), .val (.int (b6_0 (b1_0 (p3 &&& (7 : Int32)) p1) (b2_0 (((p3.toUInt32 >>> ((3 : Int32) &&& 31).toUInt32).toInt32) &&& (3 : Int32)) p2))), .val (.int v7_67), .val (.int ((b1_0 (p3 &&& (7 : Int32)) p1) - (44 : Int32))), .val (.int (b7_0 ((b1_0 (p3 &&& (7 : Int32)) p1) - (44 : Int32)) (1 : Int32) (b1_0 (p3 &&& (7 : Int32)) p1) (b2_0 (((p3.toUInt32 >>> ((3 : Int32) &&& 31).toUInt32).toInt32) &&& (3 : Int32)) p2))), .val (.int (b7_0 ((b1_0 (p3 &&& (7 : Int32)) p1) - (44 : Int32)) (0 : Int32) (b1_0 (p3 &&& (7 : Int32)) p1) (b2_0 (((p3.toUInt32 >>> ((3 : Int32) &&& 31).toUInt32).toInt32) &&& (3 : Int32)) p2))), .val (.int s0_108)] [(.int s0_129)])) := by
        intro s0_129 TJ129 lJ129 XJ129 eJ129 NJ129
        show Gl _ _ _ _ _ _ _ (Kv (some (.int (nar .boolean s0_129))) _) _
        exact endN XJ129 hx Bd (t := .boolean) (by simp) (hb hby at_129) ⟨rfl, trivial⟩ NJ129 (by decide) (by decide)
      have J128 : ∀  (TJ128 : State) (lJ128 : List Loc) (XJ128 : Stand p l e room_1 s m #[(.int p1), (.int p2), (.int p3)] below meth c TJ128 lJ128 1 2) (eJ128 : TJ128.heap = h4) (NJ128 : Fr n0 lJ128), Gl p e below s n0 room_1.cells room_1.slots (Kv (some (.int b0_128)) (fun _ => True)) (TJ128.setTop (mkF m 128 #[.val (.int p1), .val (.int p2), .val (.int p3), .val (.int (b1_0 (p3 &&& (7 : Int32)) p1)), .val (.int (b2_0 (((p3.toUInt32 >>> ((3 : Int32) &&& 31).toUInt32).toInt32) &&& (3 : Int32)) p2)), .val (.ref o3), .val (.int (b6_0 (b1_0 (p3 &&& (7 : Int32)) p1) (b2_0 (((p3.toUInt32 >>> ((3 : Int32) &&& 31).toUInt32).toInt32) &&& (3 : Int32)) p2))), .val (.int v7_67), .val (.int ((b1_0 (p3 &&& (7 : Int32)) p1) - (44 : Int32))), .val (.int (b7_0 ((b1_0 (p3 &&& (7 : Int32)) p1) - (44 : Int32)) (1 : Int32) (b1_0 (p3 &&& (7 : Int32)) p1) (b2_0 (((p3.toUInt32 >>> ((3 : Int32) &&& 31).toUInt32).toInt32) &&& (3 : Int32)) p2))), .val (.int (b7_0 ((b1_0 (p3 &&& (7 : Int32)) p1) - (44 : Int32)) (0 : Int32) (b1_0 (p3 &&& (7 : Int32)) p1) (b2_0 (((p3.toUInt32 >>> ((3 : Int32) &&& 31).toUInt32).toInt32) &&& (3 : Int32)) p2))), .val (.int s0_108)] [])) := by
        intro  TJ128 lJ128 XJ128 eJ128 NJ128
        show Gl _ _ _ _ _ _ _ (Kv (some (.int (b0_129 (0 : Int32)))) _) _
        refine go (fun t k => XS.iconst XJ128.here hx rfl (hb hby at_128) k) ?_
        show Gl _ _ _ _ _ _ _ _ (TJ128.setTop (mkF m 129 #[.val (.int p1), .val (.int p2), .val (.int p3), .val (.int (b1_0 (p3 &&& (7 : Int32)) p1)), .val (.int (b2_0 (((p3.toUInt32 >>> ((3 : Int32) &&& 31).toUInt32).toInt32) &&& (3 : Int32)) p2)), .val (.ref o3), .val (.int (b6_0 (b1_0 (p3 &&& (7 : Int32)) p1) (b2_0 (((p3.toUInt32 >>> ((3 : Int32) &&& 31).toUInt32).toInt32) &&& (3 : Int32)) p2))), .val (.int v7_67), .val (.int ((b1_0 (p3 &&& (7 : Int32)) p1) - (44 : Int32))), .val (.int (b7_0 ((b1_0 (p3 &&& (7 : Int32)) p1) - (44 : Int32)) (1 : Int32) (b1_0 (p3 &&& (7 : Int32)) p1) (b2_0 (((p3.toUInt32 >>> ((3 : Int32) &&& 31).toUInt32).toInt32) &&& (3 : Int32)) p2))), .val (.int (b7_0 ((b1_0 (p3 &&& (7 : Int32)) p1) - (44 : Int32)) (0 : Int32) (b1_0 (p3 &&& (7 : Int32)) p1) (b2_0 (((p3.toUInt32 >>> ((3 : Int32) &&& 31).toUInt32).toInt32) &&& (3 : Int32)) p2))), .val (.int s0_108)] [(.int (0 : Int32))]))
        exact J129 (0 : Int32) TJ128 _ XJ128 eJ128 NJ128
      refine gI (c := (b6_0 (b1_0 (p3 &&& (7 : Int32)) p1) (b2_0 (((p3.toUInt32 >>> ((3 : Int32) &&& 31).toUInt32).toInt32) &&& (3 : Int32)) p2)) = v7_67) (fun hc114 => ?_) (fun hc114 => ?_)
      · refine go (fun t k => XS.icmpNo XJ108.here hx rfl (hb hby at_114) rfl (teq hc114).2 k) ?_
        show Gl _ _ _ _ _ _ _ _ (TJ108.setTop (mkF m 117 #[.val (.int p1), .val (.int p2), .val (.int p3), .val (.int (b1_0 (p3 &&& (7 : Int32)) p1)), .val (.int (b2_0 (((p3.toUInt32 >>> ((3 : Int32) &&& 31).toUInt32).toInt32) &&& (3 : Int32)) p2)), .val (.ref o3), .val (.int (b6_0 (b1_0 (p3 &&& (7 : Int32)) p1) (b2_0 (((p3.toUInt32 >>> ((3 : Int32) &&& 31).toUInt32).toInt32) &&& (3 : Int32)) p2))), .val (.int v7_67), .val (.int ((b1_0 (p3 &&& (7 : Int32)) p1) - (44 : Int32))), .val (.int (b7_0 ((b1_0 (p3 &&& (7 : Int32)) p1) - (44 : Int32)) (1 : Int32) (b1_0 (p3 &&& (7 : Int32)) p1) (b2_0 (((p3.toUInt32 >>> ((3 : Int32) &&& 31).toUInt32).toInt32) &&& (3 : Int32)) p2))), .val (.int (b7_0 ((b1_0 (p3 &&& (7 : Int32)) p1) - (44 : Int32)) (0 : Int32) (b1_0 (p3 &&& (7 : Int32)) p1) (b2_0 (((p3.toUInt32 >>> ((3 : Int32) &&& 31).toUInt32).toInt32) &&& (3 : Int32)) p2))), .val (.int s0_108)] []))
        refine go (fun t k => XS.iload XJ108.here hx rfl (hb hby at_117) rfl  k) ?_
        show Gl _ _ _ _ _ _ _ _ (TJ108.setTop (mkF m 119 #[.val (.int p1), .val (.int p2), .val (.int p3), .val (.int (b1_0 (p3 &&& (7 : Int32)) p1)), .val (.int (b2_0 (((p3.toUInt32 >>> ((3 : Int32) &&& 31).toUInt32).toInt32) &&& (3 : Int32)) p2)), .val (.ref o3), .val (.int (b6_0 (b1_0 (p3 &&& (7 : Int32)) p1) (b2_0 (((p3.toUInt32 >>> ((3 : Int32) &&& 31).toUInt32).toInt32) &&& (3 : Int32)) p2))), .val (.int v7_67), .val (.int ((b1_0 (p3 &&& (7 : Int32)) p1) - (44 : Int32))), .val (.int (b7_0 ((b1_0 (p3 &&& (7 : Int32)) p1) - (44 : Int32)) (1 : Int32) (b1_0 (p3 &&& (7 : Int32)) p1) (b2_0 (((p3.toUInt32 >>> ((3 : Int32) &&& 31).toUInt32).toInt32) &&& (3 : Int32)) p2))), .val (.int (b7_0 ((b1_0 (p3 &&& (7 : Int32)) p1) - (44 : Int32)) (0 : Int32) (b1_0 (p3 &&& (7 : Int32)) p1) (b2_0 (((p3.toUInt32 >>> ((3 : Int32) &&& 31).toUInt32).toInt32) &&& (3 : Int32)) p2))), .val (.int s0_108)] [(.int (b6_0 (b1_0 (p3 &&& (7 : Int32)) p1) (b2_0 (((p3.toUInt32 >>> ((3 : Int32) &&& 31).toUInt32).toInt32) &&& (3 : Int32)) p2)))]))
        refine go (fun t k => XS.iload XJ108.here hx rfl (hb hby at_119) rfl  k) ?_
        show Gl _ _ _ _ _ _ _ _ (TJ108.setTop (mkF m 121 #[.val (.int p1), .val (.int p2), .val (.int p3), .val (.int (b1_0 (p3 &&& (7 : Int32)) p1)), .val (.int (b2_0 (((p3.toUInt32 >>> ((3 : Int32) &&& 31).toUInt32).toInt32) &&& (3 : Int32)) p2)), .val (.ref o3), .val (.int (b6_0 (b1_0 (p3 &&& (7 : Int32)) p1) (b2_0 (((p3.toUInt32 >>> ((3 : Int32) &&& 31).toUInt32).toInt32) &&& (3 : Int32)) p2))), .val (.int v7_67), .val (.int ((b1_0 (p3 &&& (7 : Int32)) p1) - (44 : Int32))), .val (.int (b7_0 ((b1_0 (p3 &&& (7 : Int32)) p1) - (44 : Int32)) (1 : Int32) (b1_0 (p3 &&& (7 : Int32)) p1) (b2_0 (((p3.toUInt32 >>> ((3 : Int32) &&& 31).toUInt32).toInt32) &&& (3 : Int32)) p2))), .val (.int (b7_0 ((b1_0 (p3 &&& (7 : Int32)) p1) - (44 : Int32)) (0 : Int32) (b1_0 (p3 &&& (7 : Int32)) p1) (b2_0 (((p3.toUInt32 >>> ((3 : Int32) &&& 31).toUInt32).toInt32) &&& (3 : Int32)) p2))), .val (.int s0_108)] [(.int s0_108), (.int (b6_0 (b1_0 (p3 &&& (7 : Int32)) p1) (b2_0 (((p3.toUInt32 >>> ((3 : Int32) &&& 31).toUInt32).toInt32) &&& (3 : Int32)) p2)))]))
        refine gI (c := (b6_0 (b1_0 (p3 &&& (7 : Int32)) p1) (b2_0 (((p3.toUInt32 >>> ((3 : Int32) &&& 31).toUInt32).toInt32) &&& (3 : Int32)) p2)) = s0_108) (fun hc121 => ?_) (fun hc121 => ?_)
        · refine go (fun t k => XS.icmpNo XJ108.here hx rfl (hb hby at_121) rfl (teq hc121).2 k) ?_
          show Gl _ _ _ _ _ _ _ _ (TJ108.setTop (mkF m 124 #[.val (.int p1), .val (.int p2), .val (.int p3), .val (.int (b1_0 (p3 &&& (7 : Int32)) p1)), .val (.int (b2_0 (((p3.toUInt32 >>> ((3 : Int32) &&& 31).toUInt32).toInt32) &&& (3 : Int32)) p2)), .val (.ref o3), .val (.int (b6_0 (b1_0 (p3 &&& (7 : Int32)) p1) (b2_0 (((p3.toUInt32 >>> ((3 : Int32) &&& 31).toUInt32).toInt32) &&& (3 : Int32)) p2))), .val (.int v7_67), .val (.int ((b1_0 (p3 &&& (7 : Int32)) p1) - (44 : Int32))), .val (.int (b7_0 ((b1_0 (p3 &&& (7 : Int32)) p1) - (44 : Int32)) (1 : Int32) (b1_0 (p3 &&& (7 : Int32)) p1) (b2_0 (((p3.toUInt32 >>> ((3 : Int32) &&& 31).toUInt32).toInt32) &&& (3 : Int32)) p2))), .val (.int (b7_0 ((b1_0 (p3 &&& (7 : Int32)) p1) - (44 : Int32)) (0 : Int32) (b1_0 (p3 &&& (7 : Int32)) p1) (b2_0 (((p3.toUInt32 >>> ((3 : Int32) &&& 31).toUInt32).toInt32) &&& (3 : Int32)) p2))), .val (.int s0_108)] []))
          refine go (fun t k => XS.iconst XJ108.here hx rfl (hb hby at_124) k) ?_
          show Gl _ _ _ _ _ _ _ _ (TJ108.setTop (mkF m 125 #[.val (.int p1), .val (.int p2), .val (.int p3), .val (.int (b1_0 (p3 &&& (7 : Int32)) p1)), .val (.int (b2_0 (((p3.toUInt32 >>> ((3 : Int32) &&& 31).toUInt32).toInt32) &&& (3 : Int32)) p2)), .val (.ref o3), .val (.int (b6_0 (b1_0 (p3 &&& (7 : Int32)) p1) (b2_0 (((p3.toUInt32 >>> ((3 : Int32) &&& 31).toUInt32).toInt32) &&& (3 : Int32)) p2))), .val (.int v7_67), .val (.int ((b1_0 (p3 &&& (7 : Int32)) p1) - (44 : Int32))), .val (.int (b7_0 ((b1_0 (p3 &&& (7 : Int32)) p1) - (44 : Int32)) (1 : Int32) (b1_0 (p3 &&& (7 : Int32)) p1) (b2_0 (((p3.toUInt32 >>> ((3 : Int32) &&& 31).toUInt32).toInt32) &&& (3 : Int32)) p2))), .val (.int (b7_0 ((b1_0 (p3 &&& (7 : Int32)) p1) - (44 : Int32)) (0 : Int32) (b1_0 (p3 &&& (7 : Int32)) p1) (b2_0 (((p3.toUInt32 >>> ((3 : Int32) &&& 31).toUInt32).toInt32) &&& (3 : Int32)) p2))), .val (.int s0_108)] [(.int (1 : Int32))]))
          refine go (fun t k => XS.goto XJ108.here hx rfl (pc0 := 125) (pc' := 129) rfl (hb hby at_125) (by decide) (by decide) k) ?_
          show Gl _ _ _ _ _ _ _ _ (TJ108.setTop (mkF m 129 #[.val (.int p1), .val (.int p2), .val (.int p3), .val (.int (b1_0 (p3 &&& (7 : Int32)) p1)), .val (.int (b2_0 (((p3.toUInt32 >>> ((3 : Int32) &&& 31).toUInt32).toInt32) &&& (3 : Int32)) p2)), .val (.ref o3), .val (.int (b6_0 (b1_0 (p3 &&& (7 : Int32)) p1) (b2_0 (((p3.toUInt32 >>> ((3 : Int32) &&& 31).toUInt32).toInt32) &&& (3 : Int32)) p2))), .val (.int v7_67), .val (.int ((b1_0 (p3 &&& (7 : Int32)) p1) - (44 : Int32))), .val (.int (b7_0 ((b1_0 (p3 &&& (7 : Int32)) p1) - (44 : Int32)) (1 : Int32) (b1_0 (p3 &&& (7 : Int32)) p1) (b2_0 (((p3.toUInt32 >>> ((3 : Int32) &&& 31).toUInt32).toInt32) &&& (3 : Int32)) p2))), .val (.int (b7_0 ((b1_0 (p3 &&& (7 : Int32)) p1) - (44 : Int32)) (0 : Int32) (b1_0 (p3 &&& (7 : Int32)) p1) (b2_0 (((p3.toUInt32 >>> ((3 : Int32) &&& 31).toUInt32).toInt32) &&& (3 : Int32)) p2))), .val (.int s0_108)] [(.int (1 : Int32))]))
          exact J129 (1 : Int32) TJ108 _ XJ108 eJ108 NJ108
        · refine go (fun t k => XS.icmpYes XJ108.here hx rfl (pc0 := 121) (pc' := 128) rfl (hb hby at_121) rfl (feq hc121).2 (by decide) (by decide) k) ?_
          show Gl _ _ _ _ _ _ _ _ (TJ108.setTop (mkF m 128 #[.val (.int p1), .val (.int p2), .val (.int p3), .val (.int (b1_0 (p3 &&& (7 : Int32)) p1)), .val (.int (b2_0 (((p3.toUInt32 >>> ((3 : Int32) &&& 31).toUInt32).toInt32) &&& (3 : Int32)) p2)), .val (.ref o3), .val (.int (b6_0 (b1_0 (p3 &&& (7 : Int32)) p1) (b2_0 (((p3.toUInt32 >>> ((3 : Int32) &&& 31).toUInt32).toInt32) &&& (3 : Int32)) p2))), .val (.int v7_67), .val (.int ((b1_0 (p3 &&& (7 : Int32)) p1) - (44 : Int32))), .val (.int (b7_0 ((b1_0 (p3 &&& (7 : Int32)) p1) - (44 : Int32)) (1 : Int32) (b1_0 (p3 &&& (7 : Int32)) p1) (b2_0 (((p3.toUInt32 >>> ((3 : Int32) &&& 31).toUInt32).toInt32) &&& (3 : Int32)) p2))), .val (.int (b7_0 ((b1_0 (p3 &&& (7 : Int32)) p1) - (44 : Int32)) (0 : Int32) (b1_0 (p3 &&& (7 : Int32)) p1) (b2_0 (((p3.toUInt32 >>> ((3 : Int32) &&& 31).toUInt32).toInt32) &&& (3 : Int32)) p2))), .val (.int s0_108)] []))
          exact J128  TJ108 _ XJ108 eJ108 NJ108
      · refine go (fun t k => XS.icmpYes XJ108.here hx rfl (pc0 := 114) (pc' := 128) rfl (hb hby at_114) rfl (feq hc114).2 (by decide) (by decide) k) ?_
        show Gl _ _ _ _ _ _ _ _ (TJ108.setTop (mkF m 128 #[.val (.int p1), .val (.int p2), .val (.int p3), .val (.int (b1_0 (p3 &&& (7 : Int32)) p1)), .val (.int (b2_0 (((p3.toUInt32 >>> ((3 : Int32) &&& 31).toUInt32).toInt32) &&& (3 : Int32)) p2)), .val (.ref o3), .val (.int (b6_0 (b1_0 (p3 &&& (7 : Int32)) p1) (b2_0 (((p3.toUInt32 >>> ((3 : Int32) &&& 31).toUInt32).toInt32) &&& (3 : Int32)) p2))), .val (.int v7_67), .val (.int ((b1_0 (p3 &&& (7 : Int32)) p1) - (44 : Int32))), .val (.int (b7_0 ((b1_0 (p3 &&& (7 : Int32)) p1) - (44 : Int32)) (1 : Int32) (b1_0 (p3 &&& (7 : Int32)) p1) (b2_0 (((p3.toUInt32 >>> ((3 : Int32) &&& 31).toUInt32).toInt32) &&& (3 : Int32)) p2))), .val (.int (b7_0 ((b1_0 (p3 &&& (7 : Int32)) p1) - (44 : Int32)) (0 : Int32) (b1_0 (p3 &&& (7 : Int32)) p1) (b2_0 (((p3.toUInt32 >>> ((3 : Int32) &&& 31).toUInt32).toInt32) &&& (3 : Int32)) p2))), .val (.int s0_108)] []))
        exact J128  TJ108 _ XJ108 eJ108 NJ108
    have J107 : ∀  (TJ107 : State) (lJ107 : List Loc) (XJ107 : Stand p l e room_1 s m #[(.int p1), (.int p2), (.int p3)] below meth c TJ107 lJ107 1 2) (eJ107 : TJ107.heap = h4) (NJ107 : Fr n0 lJ107), Gl p e below s n0 room_1.cells room_1.slots (Kv (some (.int (b0_107 p1 p2 p3 v7_67))) (fun _ => True)) (TJ107.setTop (mkF m 107 #[.val (.int p1), .val (.int p2), .val (.int p3), .val (.int (b1_0 (p3 &&& (7 : Int32)) p1)), .val (.int (b2_0 (((p3.toUInt32 >>> ((3 : Int32) &&& 31).toUInt32).toInt32) &&& (3 : Int32)) p2)), .val (.ref o3), .val (.int (b6_0 (b1_0 (p3 &&& (7 : Int32)) p1) (b2_0 (((p3.toUInt32 >>> ((3 : Int32) &&& 31).toUInt32).toInt32) &&& (3 : Int32)) p2))), .val (.int v7_67), .val (.int ((b1_0 (p3 &&& (7 : Int32)) p1) - (44 : Int32))), .val (.int (b7_0 ((b1_0 (p3 &&& (7 : Int32)) p1) - (44 : Int32)) (1 : Int32) (b1_0 (p3 &&& (7 : Int32)) p1) (b2_0 (((p3.toUInt32 >>> ((3 : Int32) &&& 31).toUInt32).toInt32) &&& (3 : Int32)) p2))), .val (.int (b7_0 ((b1_0 (p3 &&& (7 : Int32)) p1) - (44 : Int32)) (0 : Int32) (b1_0 (p3 &&& (7 : Int32)) p1) (b2_0 (((p3.toUInt32 >>> ((3 : Int32) &&& 31).toUInt32).toInt32) &&& (3 : Int32)) p2))), .unset] [])) := by
      intro  TJ107 lJ107 XJ107 eJ107 NJ107
      show Gl _ _ _ _ _ _ _ (Kv (some (.int (b0_108 p1 p2 p3 v7_67 (0 : Int32)))) _) _
      refine go (fun t k => XS.iconst XJ107.here hx rfl (hb hby at_107) k) ?_
      show Gl _ _ _ _ _ _ _ _ (TJ107.setTop (mkF m 108 #[.val (.int p1), .val (.int p2), .val (.int p3), .val (.int (b1_0 (p3 &&& (7 : Int32)) p1)), .val (.int (b2_0 (((p3.toUInt32 >>> ((3 : Int32) &&& 31).toUInt32).toInt32) &&& (3 : Int32)) p2)), .val (.ref o3), .val (.int (b6_0 (b1_0 (p3 &&& (7 : Int32)) p1) (b2_0 (((p3.toUInt32 >>> ((3 : Int32) &&& 31).toUInt32).toInt32) &&& (3 : Int32)) p2))), .val (.int v7_67), .val (.int ((b1_0 (p3 &&& (7 : Int32)) p1) - (44 : Int32))), .val (.int (b7_0 ((b1_0 (p3 &&& (7 : Int32)) p1) - (44 : Int32)) (1 : Int32) (b1_0 (p3 &&& (7 : Int32)) p1) (b2_0 (((p3.toUInt32 >>> ((3 : Int32) &&& 31).toUInt32).toInt32) &&& (3 : Int32)) p2))), .val (.int (b7_0 ((b1_0 (p3 &&& (7 : Int32)) p1) - (44 : Int32)) (0 : Int32) (b1_0 (p3 &&& (7 : Int32)) p1) (b2_0 (((p3.toUInt32 >>> ((3 : Int32) &&& 31).toUInt32).toInt32) &&& (3 : Int32)) p2))), .unset] [(.int (0 : Int32))]))
      exact J108 (0 : Int32) TJ107 _ XJ107 eJ107 NJ107
    refine gI (c := (b7_0 ((b1_0 (p3 &&& (7 : Int32)) p1) - (44 : Int32)) (1 : Int32) (b1_0 (p3 &&& (7 : Int32)) p1) (b2_0 (((p3.toUInt32 >>> ((3 : Int32) &&& 31).toUInt32).toInt32) &&& (3 : Int32)) p2)) = (0 : Int32)) (fun hc95 => ?_) (fun hc95 => ?_)
    · refine go (fun t k => XS.ifYes X8.here hx rfl (pc0 := 95) (pc' := 107) rfl (hb hby at_95) rfl ((if0 _ _).trans (teq hc95).1) (by decide) (by decide) k) ?_
      show Gl _ _ _ _ _ _ _ _ (T8.setTop (mkF m 107 #[.val (.int p1), .val (.int p2), .val (.int p3), .val (.int (b1_0 (p3 &&& (7 : Int32)) p1)), .val (.int (b2_0 (((p3.toUInt32 >>> ((3 : Int32) &&& 31).toUInt32).toInt32) &&& (3 : Int32)) p2)), .val (.ref o3), .val (.int (b6_0 (b1_0 (p3 &&& (7 : Int32)) p1) (b2_0 (((p3.toUInt32 >>> ((3 : Int32) &&& 31).toUInt32).toInt32) &&& (3 : Int32)) p2))), .val (.int v7_67), .val (.int ((b1_0 (p3 &&& (7 : Int32)) p1) - (44 : Int32))), .val (.int (b7_0 ((b1_0 (p3 &&& (7 : Int32)) p1) - (44 : Int32)) (1 : Int32) (b1_0 (p3 &&& (7 : Int32)) p1) (b2_0 (((p3.toUInt32 >>> ((3 : Int32) &&& 31).toUInt32).toInt32) &&& (3 : Int32)) p2))), .val (.int (b7_0 ((b1_0 (p3 &&& (7 : Int32)) p1) - (44 : Int32)) (0 : Int32) (b1_0 (p3 &&& (7 : Int32)) p1) (b2_0 (((p3.toUInt32 >>> ((3 : Int32) &&& 31).toUInt32).toInt32) &&& (3 : Int32)) p2))), .unset] []))
      exact J107  T8 _ X8 e8 N8
    · refine go (fun t k => XS.ifNo X8.here hx rfl (hb hby at_95) rfl ((if0 _ _).trans (feq hc95).1) k) ?_
      show Gl _ _ _ _ _ _ _ _ (T8.setTop (mkF m 98 #[.val (.int p1), .val (.int p2), .val (.int p3), .val (.int (b1_0 (p3 &&& (7 : Int32)) p1)), .val (.int (b2_0 (((p3.toUInt32 >>> ((3 : Int32) &&& 31).toUInt32).toInt32) &&& (3 : Int32)) p2)), .val (.ref o3), .val (.int (b6_0 (b1_0 (p3 &&& (7 : Int32)) p1) (b2_0 (((p3.toUInt32 >>> ((3 : Int32) &&& 31).toUInt32).toInt32) &&& (3 : Int32)) p2))), .val (.int v7_67), .val (.int ((b1_0 (p3 &&& (7 : Int32)) p1) - (44 : Int32))), .val (.int (b7_0 ((b1_0 (p3 &&& (7 : Int32)) p1) - (44 : Int32)) (1 : Int32) (b1_0 (p3 &&& (7 : Int32)) p1) (b2_0 (((p3.toUInt32 >>> ((3 : Int32) &&& 31).toUInt32).toInt32) &&& (3 : Int32)) p2))), .val (.int (b7_0 ((b1_0 (p3 &&& (7 : Int32)) p1) - (44 : Int32)) (0 : Int32) (b1_0 (p3 &&& (7 : Int32)) p1) (b2_0 (((p3.toUInt32 >>> ((3 : Int32) &&& 31).toUInt32).toInt32) &&& (3 : Int32)) p2))), .unset] []))
      refine go (fun t k => XS.iload X8.here hx rfl (hb hby at_98) rfl  k) ?_
      show Gl _ _ _ _ _ _ _ _ (T8.setTop (mkF m 100 #[.val (.int p1), .val (.int p2), .val (.int p3), .val (.int (b1_0 (p3 &&& (7 : Int32)) p1)), .val (.int (b2_0 (((p3.toUInt32 >>> ((3 : Int32) &&& 31).toUInt32).toInt32) &&& (3 : Int32)) p2)), .val (.ref o3), .val (.int (b6_0 (b1_0 (p3 &&& (7 : Int32)) p1) (b2_0 (((p3.toUInt32 >>> ((3 : Int32) &&& 31).toUInt32).toInt32) &&& (3 : Int32)) p2))), .val (.int v7_67), .val (.int ((b1_0 (p3 &&& (7 : Int32)) p1) - (44 : Int32))), .val (.int (b7_0 ((b1_0 (p3 &&& (7 : Int32)) p1) - (44 : Int32)) (1 : Int32) (b1_0 (p3 &&& (7 : Int32)) p1) (b2_0 (((p3.toUInt32 >>> ((3 : Int32) &&& 31).toUInt32).toInt32) &&& (3 : Int32)) p2))), .val (.int (b7_0 ((b1_0 (p3 &&& (7 : Int32)) p1) - (44 : Int32)) (0 : Int32) (b1_0 (p3 &&& (7 : Int32)) p1) (b2_0 (((p3.toUInt32 >>> ((3 : Int32) &&& 31).toUInt32).toInt32) &&& (3 : Int32)) p2))), .unset] [(.int (b7_0 ((b1_0 (p3 &&& (7 : Int32)) p1) - (44 : Int32)) (0 : Int32) (b1_0 (p3 &&& (7 : Int32)) p1) (b2_0 (((p3.toUInt32 >>> ((3 : Int32) &&& 31).toUInt32).toInt32) &&& (3 : Int32)) p2)))]))
      refine gI (c := (b7_0 ((b1_0 (p3 &&& (7 : Int32)) p1) - (44 : Int32)) (0 : Int32) (b1_0 (p3 &&& (7 : Int32)) p1) (b2_0 (((p3.toUInt32 >>> ((3 : Int32) &&& 31).toUInt32).toInt32) &&& (3 : Int32)) p2)) = (0 : Int32)) (fun hc100 => ?_) (fun hc100 => ?_)
      · refine go (fun t k => XS.ifNo X8.here hx rfl (hb hby at_100) rfl ((if0 _ _).trans (teq hc100).2) k) ?_
        show Gl _ _ _ _ _ _ _ _ (T8.setTop (mkF m 103 #[.val (.int p1), .val (.int p2), .val (.int p3), .val (.int (b1_0 (p3 &&& (7 : Int32)) p1)), .val (.int (b2_0 (((p3.toUInt32 >>> ((3 : Int32) &&& 31).toUInt32).toInt32) &&& (3 : Int32)) p2)), .val (.ref o3), .val (.int (b6_0 (b1_0 (p3 &&& (7 : Int32)) p1) (b2_0 (((p3.toUInt32 >>> ((3 : Int32) &&& 31).toUInt32).toInt32) &&& (3 : Int32)) p2))), .val (.int v7_67), .val (.int ((b1_0 (p3 &&& (7 : Int32)) p1) - (44 : Int32))), .val (.int (b7_0 ((b1_0 (p3 &&& (7 : Int32)) p1) - (44 : Int32)) (1 : Int32) (b1_0 (p3 &&& (7 : Int32)) p1) (b2_0 (((p3.toUInt32 >>> ((3 : Int32) &&& 31).toUInt32).toInt32) &&& (3 : Int32)) p2))), .val (.int (b7_0 ((b1_0 (p3 &&& (7 : Int32)) p1) - (44 : Int32)) (0 : Int32) (b1_0 (p3 &&& (7 : Int32)) p1) (b2_0 (((p3.toUInt32 >>> ((3 : Int32) &&& 31).toUInt32).toInt32) &&& (3 : Int32)) p2))), .unset] []))
        refine go (fun t k => XS.iconst X8.here hx rfl (hb hby at_103) k) ?_
        show Gl _ _ _ _ _ _ _ _ (T8.setTop (mkF m 104 #[.val (.int p1), .val (.int p2), .val (.int p3), .val (.int (b1_0 (p3 &&& (7 : Int32)) p1)), .val (.int (b2_0 (((p3.toUInt32 >>> ((3 : Int32) &&& 31).toUInt32).toInt32) &&& (3 : Int32)) p2)), .val (.ref o3), .val (.int (b6_0 (b1_0 (p3 &&& (7 : Int32)) p1) (b2_0 (((p3.toUInt32 >>> ((3 : Int32) &&& 31).toUInt32).toInt32) &&& (3 : Int32)) p2))), .val (.int v7_67), .val (.int ((b1_0 (p3 &&& (7 : Int32)) p1) - (44 : Int32))), .val (.int (b7_0 ((b1_0 (p3 &&& (7 : Int32)) p1) - (44 : Int32)) (1 : Int32) (b1_0 (p3 &&& (7 : Int32)) p1) (b2_0 (((p3.toUInt32 >>> ((3 : Int32) &&& 31).toUInt32).toInt32) &&& (3 : Int32)) p2))), .val (.int (b7_0 ((b1_0 (p3 &&& (7 : Int32)) p1) - (44 : Int32)) (0 : Int32) (b1_0 (p3 &&& (7 : Int32)) p1) (b2_0 (((p3.toUInt32 >>> ((3 : Int32) &&& 31).toUInt32).toInt32) &&& (3 : Int32)) p2))), .unset] [(.int (1 : Int32))]))
        refine go (fun t k => XS.goto X8.here hx rfl (pc0 := 104) (pc' := 108) rfl (hb hby at_104) (by decide) (by decide) k) ?_
        show Gl _ _ _ _ _ _ _ _ (T8.setTop (mkF m 108 #[.val (.int p1), .val (.int p2), .val (.int p3), .val (.int (b1_0 (p3 &&& (7 : Int32)) p1)), .val (.int (b2_0 (((p3.toUInt32 >>> ((3 : Int32) &&& 31).toUInt32).toInt32) &&& (3 : Int32)) p2)), .val (.ref o3), .val (.int (b6_0 (b1_0 (p3 &&& (7 : Int32)) p1) (b2_0 (((p3.toUInt32 >>> ((3 : Int32) &&& 31).toUInt32).toInt32) &&& (3 : Int32)) p2))), .val (.int v7_67), .val (.int ((b1_0 (p3 &&& (7 : Int32)) p1) - (44 : Int32))), .val (.int (b7_0 ((b1_0 (p3 &&& (7 : Int32)) p1) - (44 : Int32)) (1 : Int32) (b1_0 (p3 &&& (7 : Int32)) p1) (b2_0 (((p3.toUInt32 >>> ((3 : Int32) &&& 31).toUInt32).toInt32) &&& (3 : Int32)) p2))), .val (.int (b7_0 ((b1_0 (p3 &&& (7 : Int32)) p1) - (44 : Int32)) (0 : Int32) (b1_0 (p3 &&& (7 : Int32)) p1) (b2_0 (((p3.toUInt32 >>> ((3 : Int32) &&& 31).toUInt32).toInt32) &&& (3 : Int32)) p2))), .unset] [(.int (1 : Int32))]))
        exact J108 (1 : Int32) T8 _ X8 e8 N8
      · refine go (fun t k => XS.ifYes X8.here hx rfl (pc0 := 100) (pc' := 107) rfl (hb hby at_100) rfl ((if0 _ _).trans (feq hc100).2) (by decide) (by decide) k) ?_
        show Gl _ _ _ _ _ _ _ _ (T8.setTop (mkF m 107 #[.val (.int p1), .val (.int p2), .val (.int p3), .val (.int (b1_0 (p3 &&& (7 : Int32)) p1)), .val (.int (b2_0 (((p3.toUInt32 >>> ((3 : Int32) &&& 31).toUInt32).toInt32) &&& (3 : Int32)) p2)), .val (.ref o3), .val (.int (b6_0 (b1_0 (p3 &&& (7 : Int32)) p1) (b2_0 (((p3.toUInt32 >>> ((3 : Int32) &&& 31).toUInt32).toInt32) &&& (3 : Int32)) p2))), .val (.int v7_67), .val (.int ((b1_0 (p3 &&& (7 : Int32)) p1) - (44 : Int32))), .val (.int (b7_0 ((b1_0 (p3 &&& (7 : Int32)) p1) - (44 : Int32)) (1 : Int32) (b1_0 (p3 &&& (7 : Int32)) p1) (b2_0 (((p3.toUInt32 >>> ((3 : Int32) &&& 31).toUInt32).toInt32) &&& (3 : Int32)) p2))), .val (.int (b7_0 ((b1_0 (p3 &&& (7 : Int32)) p1) - (44 : Int32)) (0 : Int32) (b1_0 (p3 &&& (7 : Int32)) p1) (b2_0 (((p3.toUInt32 >>> ((3 : Int32) &&& 31).toUInt32).toInt32) &&& (3 : Int32)) p2))), .unset] []))
        exact J107  T8 _ X8 e8 N8
  refine gI (c := (b2_0 (((p3.toUInt32 >>> ((3 : Int32) &&& 31).toUInt32).toInt32) &&& (3 : Int32)) p2) = (65535 : Int32)) (fun hc43 => ?_) (fun hc43 => ?_)
  · refine go (fun t k => XS.icmpYes X5.here hx rfl (pc0 := 43) (pc' := 52) rfl (hb hby at_43) rfl (teq hc43).1 (by decide) (by decide) k) ?_
    show Gl _ _ _ _ _ _ _ _ (T5.setTop (mkF m 52 #[.val (.int p1), .val (.int p2), .val (.int p3), .val (.int (b1_0 (p3 &&& (7 : Int32)) p1)), .val (.int (b2_0 (((p3.toUInt32 >>> ((3 : Int32) &&& 31).toUInt32).toInt32) &&& (3 : Int32)) p2)), .val (.ref o3), .val (.int (b6_0 (b1_0 (p3 &&& (7 : Int32)) p1) (b2_0 (((p3.toUInt32 >>> ((3 : Int32) &&& 31).toUInt32).toInt32) &&& (3 : Int32)) p2))), .unset, .unset, .unset, .unset, .unset] []))
    refine go (fun t k => XS.iloadN X5.here hx rfl (hb hby at_52) rfl  k) ?_
    show Gl _ _ _ _ _ _ _ _ (T5.setTop (mkF m 53 #[.val (.int p1), .val (.int p2), .val (.int p3), .val (.int (b1_0 (p3 &&& (7 : Int32)) p1)), .val (.int (b2_0 (((p3.toUInt32 >>> ((3 : Int32) &&& 31).toUInt32).toInt32) &&& (3 : Int32)) p2)), .val (.ref o3), .val (.int (b6_0 (b1_0 (p3 &&& (7 : Int32)) p1) (b2_0 (((p3.toUInt32 >>> ((3 : Int32) &&& 31).toUInt32).toInt32) &&& (3 : Int32)) p2))), .unset, .unset, .unset, .unset, .unset] [(.int (b1_0 (p3 &&& (7 : Int32)) p1))]))
    refine go (fun t k => XS.bipush X5.here hx rfl (hb hby at_53) k) ?_
    show Gl _ _ _ _ _ _ _ _ (T5.setTop (mkF m 55 #[.val (.int p1), .val (.int p2), .val (.int p3), .val (.int (b1_0 (p3 &&& (7 : Int32)) p1)), .val (.int (b2_0 (((p3.toUInt32 >>> ((3 : Int32) &&& 31).toUInt32).toInt32) &&& (3 : Int32)) p2)), .val (.ref o3), .val (.int (b6_0 (b1_0 (p3 &&& (7 : Int32)) p1) (b2_0 (((p3.toUInt32 >>> ((3 : Int32) &&& 31).toUInt32).toInt32) &&& (3 : Int32)) p2))), .unset, .unset, .unset, .unset, .unset] [(.int (56 : Int32)), (.int (b1_0 (p3 &&& (7 : Int32)) p1))]))
    refine gI (c := (b1_0 (p3 &&& (7 : Int32)) p1) < (56 : Int32)) (fun hc55 => ?_) (fun hc55 => ?_)
    · refine go (fun t k => XS.icmpNo X5.here hx rfl (hb hby at_55) rfl (tlt hc55).2.1 k) ?_
      show Gl _ _ _ _ _ _ _ _ (T5.setTop (mkF m 58 #[.val (.int p1), .val (.int p2), .val (.int p3), .val (.int (b1_0 (p3 &&& (7 : Int32)) p1)), .val (.int (b2_0 (((p3.toUInt32 >>> ((3 : Int32) &&& 31).toUInt32).toInt32) &&& (3 : Int32)) p2)), .val (.ref o3), .val (.int (b6_0 (b1_0 (p3 &&& (7 : Int32)) p1) (b2_0 (((p3.toUInt32 >>> ((3 : Int32) &&& 31).toUInt32).toInt32) &&& (3 : Int32)) p2))), .unset, .unset, .unset, .unset, .unset] []))
      refine go (fun t k => XS.iconst X5.here hx rfl (hb hby at_58) k) ?_
      show Gl _ _ _ _ _ _ _ _ (T5.setTop (mkF m 59 #[.val (.int p1), .val (.int p2), .val (.int p3), .val (.int (b1_0 (p3 &&& (7 : Int32)) p1)), .val (.int (b2_0 (((p3.toUInt32 >>> ((3 : Int32) &&& 31).toUInt32).toInt32) &&& (3 : Int32)) p2)), .val (.ref o3), .val (.int (b6_0 (b1_0 (p3 &&& (7 : Int32)) p1) (b2_0 (((p3.toUInt32 >>> ((3 : Int32) &&& 31).toUInt32).toInt32) &&& (3 : Int32)) p2))), .unset, .unset, .unset, .unset, .unset] [(.int (0 : Int32))]))
      refine go (fun t k => XS.istore X5.here hx rfl (hb hby at_59) rfl (l' := #[.val (.int p1), .val (.int p2), .val (.int p3), .val (.int (b1_0 (p3 &&& (7 : Int32)) p1)), .val (.int (b2_0 (((p3.toUInt32 >>> ((3 : Int32) &&& 31).toUInt32).toInt32) &&& (3 : Int32)) p2)), .val (.ref o3), .val (.int (b6_0 (b1_0 (p3 &&& (7 : Int32)) p1) (b2_0 (((p3.toUInt32 >>> ((3 : Int32) &&& 31).toUInt32).toInt32) &&& (3 : Int32)) p2))), .val (.int (0 : Int32)), .unset, .unset, .unset, .unset]) rfl k) ?_
      show Gl _ _ _ _ _ _ _ _ (T5.setTop (mkF m 61 #[.val (.int p1), .val (.int p2), .val (.int p3), .val (.int (b1_0 (p3 &&& (7 : Int32)) p1)), .val (.int (b2_0 (((p3.toUInt32 >>> ((3 : Int32) &&& 31).toUInt32).toInt32) &&& (3 : Int32)) p2)), .val (.ref o3), .val (.int (b6_0 (b1_0 (p3 &&& (7 : Int32)) p1) (b2_0 (((p3.toUInt32 >>> ((3 : Int32) &&& 31).toUInt32).toInt32) &&& (3 : Int32)) p2))), .val (.int (0 : Int32)), .unset, .unset, .unset, .unset] []))
      refine go (fun t k => XS.goto X5.here hx rfl (pc0 := 61) (pc' := 67) rfl (hb hby at_61) (by decide) (by decide) k) ?_
      show Gl _ _ _ _ _ _ _ _ (T5.setTop (mkF m 67 #[.val (.int p1), .val (.int p2), .val (.int p3), .val (.int (b1_0 (p3 &&& (7 : Int32)) p1)), .val (.int (b2_0 (((p3.toUInt32 >>> ((3 : Int32) &&& 31).toUInt32).toInt32) &&& (3 : Int32)) p2)), .val (.ref o3), .val (.int (b6_0 (b1_0 (p3 &&& (7 : Int32)) p1) (b2_0 (((p3.toUInt32 >>> ((3 : Int32) &&& 31).toUInt32).toInt32) &&& (3 : Int32)) p2))), .val (.int (0 : Int32)), .unset, .unset, .unset, .unset] []))
      exact J67 (0 : Int32) T5 _ X5 e5 N5
    · refine go (fun t k => XS.icmpYes X5.here hx rfl (pc0 := 55) (pc' := 64) rfl (hb hby at_55) rfl (flt hc55).2.1 (by decide) (by decide) k) ?_
      show Gl _ _ _ _ _ _ _ _ (T5.setTop (mkF m 64 #[.val (.int p1), .val (.int p2), .val (.int p3), .val (.int (b1_0 (p3 &&& (7 : Int32)) p1)), .val (.int (b2_0 (((p3.toUInt32 >>> ((3 : Int32) &&& 31).toUInt32).toInt32) &&& (3 : Int32)) p2)), .val (.ref o3), .val (.int (b6_0 (b1_0 (p3 &&& (7 : Int32)) p1) (b2_0 (((p3.toUInt32 >>> ((3 : Int32) &&& 31).toUInt32).toInt32) &&& (3 : Int32)) p2))), .unset, .unset, .unset, .unset, .unset] []))
      refine go (fun t k => XS.iconst X5.here hx rfl (hb hby at_64) k) ?_
      show Gl _ _ _ _ _ _ _ _ (T5.setTop (mkF m 65 #[.val (.int p1), .val (.int p2), .val (.int p3), .val (.int (b1_0 (p3 &&& (7 : Int32)) p1)), .val (.int (b2_0 (((p3.toUInt32 >>> ((3 : Int32) &&& 31).toUInt32).toInt32) &&& (3 : Int32)) p2)), .val (.ref o3), .val (.int (b6_0 (b1_0 (p3 &&& (7 : Int32)) p1) (b2_0 (((p3.toUInt32 >>> ((3 : Int32) &&& 31).toUInt32).toInt32) &&& (3 : Int32)) p2))), .unset, .unset, .unset, .unset, .unset] [(.int (1 : Int32))]))
      refine go (fun t k => XS.istore X5.here hx rfl (hb hby at_65) rfl (l' := #[.val (.int p1), .val (.int p2), .val (.int p3), .val (.int (b1_0 (p3 &&& (7 : Int32)) p1)), .val (.int (b2_0 (((p3.toUInt32 >>> ((3 : Int32) &&& 31).toUInt32).toInt32) &&& (3 : Int32)) p2)), .val (.ref o3), .val (.int (b6_0 (b1_0 (p3 &&& (7 : Int32)) p1) (b2_0 (((p3.toUInt32 >>> ((3 : Int32) &&& 31).toUInt32).toInt32) &&& (3 : Int32)) p2))), .val (.int (1 : Int32)), .unset, .unset, .unset, .unset]) rfl k) ?_
      show Gl _ _ _ _ _ _ _ _ (T5.setTop (mkF m 67 #[.val (.int p1), .val (.int p2), .val (.int p3), .val (.int (b1_0 (p3 &&& (7 : Int32)) p1)), .val (.int (b2_0 (((p3.toUInt32 >>> ((3 : Int32) &&& 31).toUInt32).toInt32) &&& (3 : Int32)) p2)), .val (.ref o3), .val (.int (b6_0 (b1_0 (p3 &&& (7 : Int32)) p1) (b2_0 (((p3.toUInt32 >>> ((3 : Int32) &&& 31).toUInt32).toInt32) &&& (3 : Int32)) p2))), .val (.int (1 : Int32)), .unset, .unset, .unset, .unset] []))
      exact J67 (1 : Int32) T5 _ X5 e5 N5
  · refine go (fun t k => XS.icmpNo X5.here hx rfl (hb hby at_43) rfl (feq hc43).1 k) ?_
    show Gl _ _ _ _ _ _ _ _ (T5.setTop (mkF m 46 #[.val (.int p1), .val (.int p2), .val (.int p3), .val (.int (b1_0 (p3 &&& (7 : Int32)) p1)), .val (.int (b2_0 (((p3.toUInt32 >>> ((3 : Int32) &&& 31).toUInt32).toInt32) &&& (3 : Int32)) p2)), .val (.ref o3), .val (.int (b6_0 (b1_0 (p3 &&& (7 : Int32)) p1) (b2_0 (((p3.toUInt32 >>> ((3 : Int32) &&& 31).toUInt32).toInt32) &&& (3 : Int32)) p2))), .unset, .unset, .unset, .unset, .unset] []))
    refine go (fun t k => XS.iconst X5.here hx rfl (hb hby at_46) k) ?_
    show Gl _ _ _ _ _ _ _ _ (T5.setTop (mkF m 47 #[.val (.int p1), .val (.int p2), .val (.int p3), .val (.int (b1_0 (p3 &&& (7 : Int32)) p1)), .val (.int (b2_0 (((p3.toUInt32 >>> ((3 : Int32) &&& 31).toUInt32).toInt32) &&& (3 : Int32)) p2)), .val (.ref o3), .val (.int (b6_0 (b1_0 (p3 &&& (7 : Int32)) p1) (b2_0 (((p3.toUInt32 >>> ((3 : Int32) &&& 31).toUInt32).toInt32) &&& (3 : Int32)) p2))), .unset, .unset, .unset, .unset, .unset] [(.int (0 : Int32))]))
    refine go (fun t k => XS.istore X5.here hx rfl (hb hby at_47) rfl (l' := #[.val (.int p1), .val (.int p2), .val (.int p3), .val (.int (b1_0 (p3 &&& (7 : Int32)) p1)), .val (.int (b2_0 (((p3.toUInt32 >>> ((3 : Int32) &&& 31).toUInt32).toInt32) &&& (3 : Int32)) p2)), .val (.ref o3), .val (.int (b6_0 (b1_0 (p3 &&& (7 : Int32)) p1) (b2_0 (((p3.toUInt32 >>> ((3 : Int32) &&& 31).toUInt32).toInt32) &&& (3 : Int32)) p2))), .val (.int (0 : Int32)), .unset, .unset, .unset, .unset]) rfl k) ?_
    show Gl _ _ _ _ _ _ _ _ (T5.setTop (mkF m 49 #[.val (.int p1), .val (.int p2), .val (.int p3), .val (.int (b1_0 (p3 &&& (7 : Int32)) p1)), .val (.int (b2_0 (((p3.toUInt32 >>> ((3 : Int32) &&& 31).toUInt32).toInt32) &&& (3 : Int32)) p2)), .val (.ref o3), .val (.int (b6_0 (b1_0 (p3 &&& (7 : Int32)) p1) (b2_0 (((p3.toUInt32 >>> ((3 : Int32) &&& 31).toUInt32).toInt32) &&& (3 : Int32)) p2))), .val (.int (0 : Int32)), .unset, .unset, .unset, .unset] []))
    refine go (fun t k => XS.goto X5.here hx rfl (pc0 := 49) (pc' := 67) rfl (hb hby at_49) (by decide) (by decide) k) ?_
    show Gl _ _ _ _ _ _ _ _ (T5.setTop (mkF m 67 #[.val (.int p1), .val (.int p2), .val (.int p3), .val (.int (b1_0 (p3 &&& (7 : Int32)) p1)), .val (.int (b2_0 (((p3.toUInt32 >>> ((3 : Int32) &&& 31).toUInt32).toInt32) &&& (3 : Int32)) p2)), .val (.ref o3), .val (.int (b6_0 (b1_0 (p3 &&& (7 : Int32)) p1) (b2_0 (((p3.toUInt32 >>> ((3 : Int32) &&& 31).toUInt32).toInt32) &&& (3 : Int32)) p2))), .val (.int (0 : Int32)), .unset, .unset, .unset, .unset] []))
    exact J67 (0 : Int32) T5 _ X5 e5 N5
theorem law_eq (p1 p2 p3 : Int32) : b0_0 p1 p2 p3 = 1 := by
  unfold b0_0 b0_67 b0_107 b0_108
  generalize b1_0 (p3 &&& 7) p1 = M
  generalize b2_0 (((p3.toUInt32 >>> ((3 : Int32) &&& 31).toUInt32).toInt32) &&& 3) p2 = N
  have e : (M - 44) + 44 = M := Int32.sub_add_cancel M 44
  have hlt : ¬ M < M := by rw [Int32.lt_iff_toInt_lt]; omega
  have k1 : b7_22 = 0 := rfl
  have k2 : b7_88 1 = 1 := rfl
  have k3 : b7_68 = 0 := rfl
  have k4 : b7_69 1 = 1 := rfl
  have k5 : b7_86 1 = 1 := rfl
  have k6 : b7_86 0 = 0 := rfl
  have k7 : b6_22 = 0 := rfl
  have k8 : b6_23 1 = 1 := rfl
  have k9 : b0_128 = 0 := rfl
  have k10 : b0_129 1 = 1 := rfl
  have z10 : ¬ ((1 : Int32) = 0) := by decide
  have z01 : ¬ ((0 : Int32) = 1) := by decide
  have z : ¬ ((65535 : Int32) = 0) := by decide
  unfold b7_0 b6_0
  simp only [e, hlt, k1, k2, k3, k4, k5, k6, k7, k8, k9, k10, z10, if_true, if_false]
  have m45 : M < 45 → M < 56 := by
    rw [Int32.lt_iff_toInt_lt, Int32.lt_iff_toInt_lt]; simp only [Int32.reduceToInt]; omega
  by_cases c1 : M < 45
  · have c2 := m45 c1
    by_cases n1 : N = 65535 <;> simp [c1, c2, n1]
  · by_cases c2 : M < 56
    · by_cases n1 : N = 65535 <;> simp [c1, c2, n1]
    · by_cases n1 : N = 65535
      · simp [c1, c2, n1]
      · by_cases n0 : N = 0 <;> simp [c1, c2, n1, n0]
set_option maxRecDepth 65536 in
set_option maxHeartbeats 40000000 in
theorem comes_1 {Post : Tables → Env → Array Value → State → Outcome → State → Prop} (hpost : ∀ tb e args s v u, (limb_1_1.after args s (.returned v) u = true ∧ limb_1_2.after args s (.returned v) u = true ∧ True) → FrameEnd s (.returned v) u (Jvm.fieldLocs frame_1_writes args s ++ Jvm.arrayLocs frame_1_arrays args s ++ Jvm.staticLocs frame_1_statics s) 16 128 → Post tb e args s (.returned v) u) :
    ArmFor flags0 classFile x code maxLocals ret World_1 tables_1 room_1 Calls_1 rest_1 Pre_1 Post := by
  intro l hfl _ _ p e ha hc hk s m args below hf hA hF happ hP
  obtain ⟨hcalls, hrest, hpre⟩ := hP
  obtain ⟨-, -, -, hnamed, -, -, -, hat⟩ := (Spec.applies_iff hf).mp happ
  obtain ⟨hg, hn⟩ := and_e (Cond.before_iff.mp (show (Jvm.Cond.and given_1 narrow_1).before args s = true from hpre))
  obtain ⟨g1, g2⟩ := and_e hg
  obtain ⟨g3, g4⟩ := and_e g2
  obtain ⟨g5, g6⟩ := and_e g4
  obtain ⟨w0, w1, w2, rfl⟩ : ∃ w0 w1 w2 : Value, args = #[w0, w1, w2] := by
    have hs : args.size = 3 := by simpa [Cond.value, given_1] using g1
    obtain ⟨L⟩ := args
    match L, hs with
    | [w0, w1, w2], _ => exact ⟨w0, w1, w2, rfl⟩
  have hw := fun d (hd : d ∈ tables_1) => atoms_spec (ws := Jvm.Cond.code x code maxLocals ret :: tables_1) hat d (List.mem_cons_of_mem _ hd)
  have hfit : Fit s := fun {y c} hc i hi => by
    obtain ⟨ha, rfl⟩ := Array.getElem?_eq_some_iff.mp hc
    have q := List.all_eq_true.mp ((Array.all_eq_true_iff_forall_mem.mp hF) _ (Array.getElem_mem ha)) i (List.mem_range.mpr hi)
    simpa [Array.getElem?_eq_getElem hi] using q
  obtain ⟨i0, ei0⟩ := is_v g3
  obtain rfl : w0 = (.int i0) := Option.some.inj ei0
  obtain ⟨i1, ei1⟩ := is_v g5
  obtain rfl : w1 = (.int i1) := Option.some.inj ei1
  obtain ⟨i2, ei2⟩ := is_v g6
  obtain rfl : w2 = (.int i2) := Option.some.inj ei2
  obtain ⟨n, o, h1, h2, h3, _, L, rfl, ⟨⟨hv, -⟩, N⟩, hq⟩ := rm0 l s _ hw tables_1 i0 i1 i2  s.heap s.heap.size (Nat.le_refl _)  p e ha hc hk s m _ below hf ((Spec.applies_iff_loose hf).mp happ).1 ⟨rfl, State.Warmed39.refl s, rfl⟩ trivial
  rw [law_eq] at hv
  subst hv
  refine ⟨n, _, h1, h2, h3, hpost _ _ _ _ _ _ ⟨Cond.after_iff.mpr rfl, Cond.after_iff.mpr (eq_i res_at (Term.int_eval (1)) rfl), trivial⟩ ⟨hq.1, hq.2.1, (hq.2.2.sift fun y hy => Or.inr (N y hy)).mono (by decide) (by decide)⟩⟩
theorem main_1_1 : Claimed_1_1 := comes_1 fun _ _ _ _ _ _ h hF => ⟨h.1, hF⟩
theorem main_1_2 : Claimed_1_2 := comes_1 fun _ _ _ _ _ _ h hF => ⟨h.2.1, hF⟩
end Jvm.Pilot.@@N@@
namespace Jvm.Pilot.@@N@@
open Jvm Jvm.ClassFile Sem Op Lib Jvm.Free Jvm.Stand Jvm.Pilot.@@N@@.Jvm.D
/-! MADE BY PROGRAM (witnessworld.py) out of the Statement's table words and the real class files: 8 classes; the members and pool entries that the words name. The judged class is class 1, her method 3. -/
namespace start1
open Jvm.ClassFile
def u (s : String) : CpInfo := .utf8 (stringToUtf16 s)
/-- a pool by its gaps: so many unusable entries, then the entry; so many at the end -/
def gap : Nat → List CpInfo → List CpInfo
  | 0, r => r
  | n + 1, r => .unusable :: gap n r
def poolList (es : List (Nat × CpInfo)) (last : Nat) : List CpInfo := es.foldr (fun e r => gap e.1 (e.2 :: r)) (gap last [])
def pool (es : List (Nat × CpInfo)) (last : Nat) : Array CpInfo := ⟨poolList es last⟩
def fileOf (pool : Array CpInfo) (this : Nat) (attrs : Array Attribute := #[]) (ms : Array MethodInfo := #[]) (fl : Nat := 33) (sup : Nat := 0) (ifs : Array Nat := #[]) (fds : Array FieldInfo := #[]) : ClassFile where
  minorVersion := 0
  majorVersion := 65
  constantPool := pool
  accessFlags := fl
  thisClass := this
  superClass := sup
  interfaces := ifs
  fields := fds
  methods := ms
  attributes := attrs
def plain (name : String) (sup : Option ClassId) : Class where
  name := name
  kind := .ordinary
  loader := none
  accessFlags := 33
  super := sup
  interfaces := #[]
  cf := none
  fields := #[]
  methods := #[]
  instanceTypes := #[]
  staticTypes := #[]
  resolved := #[]
  callSites := []
  init := .initialized
  statics := none
  mirror := none

def pool0 : Array CpInfo := pool [(5, u "<init>"), (0, u "()V"), (1, .class_ 10), (1, u "java/lang/Object")] 113

def k0c0 : Code := { maxStack := 0, maxLocals := 1, code := object_method_1_code, exceptionTable := #[], attributes := #[] }
def k0m0 : Method := { name := "<init>", desc := "()V", sig := { parameters := [], returnType := none }, accessFlags := 1, code := some k0c0 }
/-- java/lang/Object -/
def k0 : Class := { plain "java/lang/Object" none with
  accessFlags := 33
  interfaces := #[]
  cf := some (fileOf pool0 8 #[] #[{ accessFlags := 1, nameIndex := 5, descriptorIndex := 6, attributes := #[] }] 33 0 #[] #[])
  fields := #[]
  methods := #[k0m0]
  instanceTypes := #[]
  staticTypes := #[]
  resolved := Array.replicate 124 none
  statics := none }

def pool1 : Array CpInfo := pool [(2, .class_ 4), (1, u "java/lang/Object"), (0, u "<init>"), (0, u "()V"), (0, .integer 65535), (0, .integer 65534), (0, .methodref 10 11), (0, .class_ 12), (0, .nameAndType 13 14), (0, u "com/example/linkwright/linkwright/ClassFileVersionIsPreviewPinLaw"), (0, u "pickMajor"), (0, u "(II)I"), (0, .methodref 10 16), (0, .nameAndType 17 14), (0, u "pickMinor"), (0, .class_ 19), (0, u "com/example/linkwright/linkwright/ClassFileVersion"), (0, .methodref 18 21), (0, .nameAndType 5 22), (0, u "(II)V"), (0, .methodref 18 24), (0, .nameAndType 25 26), (0, u "isPreview"), (0, u "()Z"), (0, .methodref 18 28), (0, .nameAndType 29 30), (0, u "isSupportedBy"), (0, u "(IZ)Z"), (3, u "law"), (0, u "(III)Z")] 2

def k1m0 : Method := { name := "<init>", desc := "()V", sig := { parameters := [], returnType := none }, accessFlags := 1, code := none }
def k1c1 : Code := { maxStack := 2, maxLocals := 2, code := method_2_code, exceptionTable := #[], attributes := #[] }
def k1m1 : Method := { name := "pickMajor", desc := "(II)I", sig := { parameters := [.int, .int], returnType := some .int }, accessFlags := 10, code := some k1c1 }
def k1c2 : Code := { maxStack := 2, maxLocals := 2, code := method_3_code, exceptionTable := #[], attributes := #[] }
def k1m2 : Method := { name := "pickMinor", desc := "(II)I", sig := { parameters := [.int, .int], returnType := some .int }, accessFlags := 10, code := some k1c2 }
def k1c3 : Code := { maxStack := 4, maxLocals := 12, code := code, exceptionTable := #[], attributes := #[] }
def k1m3 : Method := { name := "law", desc := "(III)Z", sig := { parameters := [.int, .int, .int], returnType := some .boolean }, accessFlags := 9, code := some k1c3 }
/-- com/example/linkwright/linkwright/ClassFileVersionIsPreviewPinLaw -/
def k1 : Class := { plain "com/example/linkwright/linkwright/ClassFileVersionIsPreviewPinLaw" (some 0) with
  accessFlags := 49
  interfaces := #[]
  cf := some (fileOf pool1 10 #[] #[{ accessFlags := 1, nameIndex := 5, descriptorIndex := 6, attributes := #[] }, { accessFlags := 10, nameIndex := 13, descriptorIndex := 14, attributes := #[] }, { accessFlags := 10, nameIndex := 17, descriptorIndex := 14, attributes := #[] }, { accessFlags := 9, nameIndex := 34, descriptorIndex := 35, attributes := #[] }] 49 2 #[] #[])
  fields := #[]
  methods := #[k1m0, k1m1, k1m2, k1m3]
  instanceTypes := #[]
  staticTypes := #[]
  resolved := Array.replicate 38 none
  statics := none }

def pool2 : Array CpInfo := pool [(1, .methodref 2 3), (0, .class_ 4), (0, .nameAndType 5 6), (0, u "java/lang/Object"), (0, u "<init>"), (0, u "()V"), (0, .class_ 8), (0, u "java/lang/Record")] 13

def k2c0 : Code := { maxStack := 1, maxLocals := 1, code := jdk_30_method_1_code, exceptionTable := #[], attributes := #[] }
def k2m0 : Method := { name := "<init>", desc := "()V", sig := { parameters := [], returnType := none }, accessFlags := 4, code := some k2c0 }
/-- java/lang/Record -/
def k2 : Class := { plain "java/lang/Record" (some 0) with
  accessFlags := 1057
  interfaces := #[]
  cf := some (fileOf pool2 7 #[] #[{ accessFlags := 4, nameIndex := 5, descriptorIndex := 6, attributes := #[] }] 1057 2 #[] #[])
  fields := #[]
  methods := #[k2m0]
  instanceTypes := #[]
  staticTypes := #[]
  resolved := Array.replicate 22 none
  statics := none }

def pool3 : Array CpInfo := pool [(1, .methodref 2 3), (0, .class_ 4), (0, .nameAndType 5 6), (0, u "java/lang/Record"), (0, u "<init>"), (0, u "()V"), (0, .class_ 8), (0, u "com/example/linkwright/linkwright/ClassFileVersion"), (0, .integer 65535), (9, .fieldref 7 20), (0, .nameAndType 21 22), (0, u "major"), (0, u "I"), (0, .fieldref 7 24), (0, .nameAndType 25 22), (0, u "minor"), (12, u "U2_MAX"), (1, u "PREVIEW_MINOR"), (0, u "OLDEST_MAJOR"), (1, u "STRICT_MINOR_MAJOR"), (1, u "RELEASE_TO_MAJOR"), (1, u "(II)V"), (4, u "isPreview"), (0, u "()Z"), (2, u "isSupportedBy"), (0, u "(IZ)Z")] 31

def k3c0 : Code := { maxStack := 4, maxLocals := 3, code := prog_1_method_1_code, exceptionTable := #[], attributes := #[] }
def k3m0 : Method := { name := "<init>", desc := "(II)V", sig := { parameters := [.int, .int], returnType := none }, accessFlags := 1, code := some k3c0 }
def k3c1 : Code := { maxStack := 2, maxLocals := 1, code := prog_1_method_2_code, exceptionTable := #[], attributes := #[] }
def k3m1 : Method := { name := "isPreview", desc := "()Z", sig := { parameters := [], returnType := some .boolean }, accessFlags := 0, code := some k3c1 }
def k3c2 : Code := { maxStack := 2, maxLocals := 5, code := prog_1_method_4_code, exceptionTable := #[], attributes := #[] }
def k3m2 : Method := { name := "isSupportedBy", desc := "(IZ)Z", sig := { parameters := [.int, .boolean], returnType := some .boolean }, accessFlags := 1, code := some k3c2 }
/-- com/example/linkwright/linkwright/ClassFileVersion -/
def k3 : Class := { plain "com/example/linkwright/linkwright/ClassFileVersion" (some 2) with
  accessFlags := 49
  interfaces := #[]
  cf := some (fileOf pool3 7 #[] #[{ accessFlags := 1, nameIndex := 5, descriptorIndex := 47, attributes := #[] }, { accessFlags := 0, nameIndex := 52, descriptorIndex := 53, attributes := #[] }, { accessFlags := 1, nameIndex := 56, descriptorIndex := 57, attributes := #[] }] 49 2 #[] #[{ accessFlags := 18, nameIndex := 21, descriptorIndex := 22, attributes := #[] }, { accessFlags := 18, nameIndex := 25, descriptorIndex := 22, attributes := #[] }, { accessFlags := 26, nameIndex := 38, descriptorIndex := 22, attributes := #[] }, { accessFlags := 26, nameIndex := 40, descriptorIndex := 22, attributes := #[] }, { accessFlags := 26, nameIndex := 41, descriptorIndex := 22, attributes := #[] }, { accessFlags := 26, nameIndex := 43, descriptorIndex := 22, attributes := #[] }, { accessFlags := 26, nameIndex := 45, descriptorIndex := 22, attributes := #[] }])
  fields := #[{ name := "major", type := .int, accessFlags := 18, slot := 0, constantValue := 0 }, { name := "minor", type := .int, accessFlags := 18, slot := 1, constantValue := 0 }, { name := "U2_MAX", type := .int, accessFlags := 26, slot := 0, constantValue := 0 }, { name := "PREVIEW_MINOR", type := .int, accessFlags := 26, slot := 1, constantValue := 0 }, { name := "OLDEST_MAJOR", type := .int, accessFlags := 26, slot := 2, constantValue := 0 }, { name := "STRICT_MINOR_MAJOR", type := .int, accessFlags := 26, slot := 3, constantValue := 0 }, { name := "RELEASE_TO_MAJOR", type := .int, accessFlags := 26, slot := 4, constantValue := 0 }]
  methods := #[k3m0, k3m1, k3m2]
  instanceTypes := #[.int, .int]
  staticTypes := #[.int, .int, .int, .int, .int]
  resolved := Array.replicate 89 none
  statics := none }

def pool4 : Array CpInfo := pool [(1, u "java/lang/Cloneable"), (0, .class_ 1), (0, u "java/lang/Object"), (0, .class_ 3)] 3

/-- java/lang/Cloneable -/
def k4 : Class := { plain "java/lang/Cloneable" (some 0) with
  accessFlags := 1537
  interfaces := #[]
  cf := some (fileOf pool4 2 #[] #[] 1537 4 #[] #[])
  fields := #[]
  methods := #[]
  instanceTypes := #[]
  staticTypes := #[]
  resolved := Array.replicate 8 none
  statics := none }

def pool5 : Array CpInfo := pool [(1, u "java/io/Serializable"), (0, .class_ 1), (0, u "java/lang/Object"), (0, .class_ 3)] 3

/-- java/io/Serializable -/
def k5 : Class := { plain "java/io/Serializable" (some 0) with
  accessFlags := 1537
  interfaces := #[]
  cf := some (fileOf pool5 2 #[] #[] 1537 4 #[] #[])
  fields := #[]
  methods := #[]
  instanceTypes := #[]
  staticTypes := #[]
  resolved := Array.replicate 8 none
  statics := none }

/-- the primitive byte -/
def k6 : Class := { plain "byte" none with kind := .primitive 'B', accessFlags := 0x411 }
/-- [B -/
def k7 : Class := { plain "[B" (some 0) with kind := .array 6 .byte, interfaces := #[4, 5], accessFlags := 1041 }

def heap : Heap := #[]
def classes : Array Class := #[k0, k1, k2, k3, k4, k5, k6, k7]
def interned : List (Array UInt16 × Addr) := []
def slotsUsed : Nat := 0
def theMethod : MethodId := ⟨1, 3⟩
def args0 : Array Value := #[.int 5, .int 6, .int 7]
def aboutOver (below : List Frame) : State where
  vm := { classes := classes, interned := interned.toArray }
  heap := heap
  slotsUsed := slotsUsed
  threads := #[{ frames := .invoking theMethod args0 :: below }]
def below0 : List Frame := [.native { method := ⟨0, 0⟩, args := #[] }]
def about1 : State := aboutOver below0
def p0 : Program := .bare "" "" ""
def e0 : Env := launch0.env 0 0 0
theorem w_frames : about1.frames = Frame.invoking theMethod args0 :: below0 := rfl
set_option maxRecDepth 65536 in
theorem w_args : argsFit about1.vm theMethod args0 = true := by decide +kernel
set_option maxRecDepth 65536 in
theorem w_heap : heapFits about1 = true := by decide +kernel
set_option maxRecDepth 65536 in
theorem w_runnable : about1.curStatus? = some .runnable := by decide +kernel
set_option maxRecDepth 65536 in
theorem w_alone : about1.alone = true := by decide +kernel
set_option maxRecDepth 65536 in
theorem w_named : about1.methodNamed? x = some theMethod := by decide +kernel
set_option maxRecDepth 65536 in
theorem w_hears : about1.hears theMethod below0 = true := by decide +kernel
set_option maxRecDepth 65536 in
theorem w_ripe : about1.ripe theMethod args0 below0 = true := by decide +kernel
theorem w_running : about1.status = .running := rfl
set_option maxRecDepth 65536 in
theorem w_room : about1.hasRoom e0.platform room_1 = true :=
  launch0.hasRoom_least _ room_1 (by decide +kernel) (by decide +kernel) (by decide +kernel) (by decide +kernel) (by decide +kernel) (by decide +kernel)
theorem allAtoms_all (ts : List Jvm.Cond) (a : Array Jvm.Value) (st : Jvm.State) : (allAtoms ts).before a st = ts.all (fun c => c.before a st) := by
  induction ts with
  | nil => rfl
  | cons c t ih =>
    show (Jvm.Cond.and c (allAtoms t)).before a st = _
    rw [Jvm.Cond.before_and, ih, List.all_cons]
def words1 : List Jvm.Cond := Jvm.Cond.code x code maxLocals ret :: tables_1
/-- a 'code' word, met by the world's own term for the bytes: nothing is compared byte by byte -/
theorem code_word {y : MethodName} {bytes : ByteArray} {mx : Nat} {rt : Option FieldType} {a : Array Value} {s : State} {m : MethodId} {meth : Method} {c : Code} (h1 : s.methodNamed? y = some m) (h2 : s.vm.method? m = some meth) (h3 : meth.code = some c) (h4 : c.code = bytes)
    (h5 : (c.maxLocals == mx && c.exceptionTable.isEmpty && decide (c.maxStack ≤ mostOperands) && decide (meth.sig.returnType = rt) && !meth.locks && decide (parseMethodDescriptor y.desc = some meth.sig)) = true) : (Jvm.Cond.code y bytes mx rt).before a s = true := by
  simp only [Bool.and_eq_true, beq_iff_eq, Bool.not_eq_true', decide_eq_true_eq] at h5
  obtain ⟨⟨⟨⟨⟨g1, g2⟩, g3⟩, g4⟩, g5⟩, g6⟩ := h5
  simp [Cond.before, Cond.holds, Cond.value, h1, h2, h3, h4, g1, g2, g3, g4, g5, g6]
def isCode : Jvm.Cond → Bool
  | .code _ _ _ _ => true
  | _ => false
theorem all_split {L : List Jvm.Cond} {P : Jvm.Cond → Bool} (h1 : L.all (fun c => isCode c || P c) = true) (h2 : ∀ c ∈ L.filter isCode, P c = true) : L.all P = true := by
  refine List.all_eq_true.mpr fun c hc => ?_
  have h := List.all_eq_true.mp h1 c hc
  rcases Bool.eq_false_or_eq_true (isCode c) with hi | hi
  · exact h2 c (List.mem_filter.mpr ⟨hc, hi⟩)
  · simpa [hi] using h
set_option maxRecDepth 65536 in
theorem w_c0 : (Jvm.Cond.code x code maxLocals ret).before args0 about1 = true := code_word (m := ⟨1, 3⟩) (meth := k1m3) (c := k1c3) (by decide +kernel) rfl rfl rfl (by decide +kernel)
set_option maxRecDepth 65536 in
theorem w_c1 : (Jvm.Cond.code ({ cls := "com/example/linkwright/linkwright/ClassFileVersionIsPreviewPinLaw", name := "pickMajor", desc := "(II)I" } : Jvm.MethodName) method_2_code (2 : Nat) (Option.some Jvm.ClassFile.FieldType.int)).before args0 about1 = true := code_word (m := ⟨1, 1⟩) (meth := k1m1) (c := k1c1) (by decide +kernel) rfl rfl rfl (by decide +kernel)
set_option maxRecDepth 65536 in
theorem w_c2 : (Jvm.Cond.code ({ cls := "com/example/linkwright/linkwright/ClassFileVersionIsPreviewPinLaw", name := "pickMinor", desc := "(II)I" } : Jvm.MethodName) method_3_code (2 : Nat) (Option.some Jvm.ClassFile.FieldType.int)).before args0 about1 = true := code_word (m := ⟨1, 2⟩) (meth := k1m2) (c := k1c2) (by decide +kernel) rfl rfl rfl (by decide +kernel)
set_option maxRecDepth 65536 in
theorem w_c3 : (Jvm.Cond.code ({ cls := "com/example/linkwright/linkwright/ClassFileVersion", name := "<init>", desc := "(II)V" } : Jvm.MethodName) prog_1_method_1_code (3 : Nat) (Option.none : Option Jvm.ClassFile.FieldType)).before args0 about1 = true := code_word (m := ⟨3, 0⟩) (meth := k3m0) (c := k3c0) (by decide +kernel) rfl rfl rfl (by decide +kernel)
set_option maxRecDepth 65536 in
theorem w_c4 : (Jvm.Cond.code ({ cls := "java/lang/Record", name := "<init>", desc := "()V" } : Jvm.MethodName) jdk_30_method_1_code (1 : Nat) (Option.none : Option Jvm.ClassFile.FieldType)).before args0 about1 = true := code_word (m := ⟨2, 0⟩) (meth := k2m0) (c := k2c0) (by decide +kernel) rfl rfl rfl (by decide +kernel)
set_option maxRecDepth 65536 in
theorem w_c5 : (Jvm.Cond.code ({ cls := "java/lang/Object", name := "<init>", desc := "()V" } : Jvm.MethodName) object_method_1_code (1 : Nat) (Option.none : Option Jvm.ClassFile.FieldType)).before args0 about1 = true := code_word (m := ⟨0, 0⟩) (meth := k0m0) (c := k0c0) (by decide +kernel) rfl rfl rfl (by decide +kernel)
set_option maxRecDepth 65536 in
theorem w_c6 : (Jvm.Cond.code ({ cls := "com/example/linkwright/linkwright/ClassFileVersion", name := "isPreview", desc := "()Z" } : Jvm.MethodName) prog_1_method_2_code (1 : Nat) (Option.some Jvm.ClassFile.FieldType.boolean)).before args0 about1 = true := code_word (m := ⟨3, 1⟩) (meth := k3m1) (c := k3c1) (by decide +kernel) rfl rfl rfl (by decide +kernel)
set_option maxRecDepth 65536 in
theorem w_c7 : (Jvm.Cond.code ({ cls := "com/example/linkwright/linkwright/ClassFileVersion", name := "isSupportedBy", desc := "(IZ)Z" } : Jvm.MethodName) prog_1_method_4_code (5 : Nat) (Option.some Jvm.ClassFile.FieldType.boolean)).before args0 about1 = true := code_word (m := ⟨3, 2⟩) (meth := k3m2) (c := k3c2) (by decide +kernel) rfl rfl rfl (by decide +kernel)
def codes1 : List Jvm.Cond := [Jvm.Cond.code x code maxLocals ret, Jvm.Cond.code ({ cls := "com/example/linkwright/linkwright/ClassFileVersionIsPreviewPinLaw", name := "pickMajor", desc := "(II)I" } : Jvm.MethodName) method_2_code (2 : Nat) (Option.some Jvm.ClassFile.FieldType.int), Jvm.Cond.code ({ cls := "com/example/linkwright/linkwright/ClassFileVersionIsPreviewPinLaw", name := "pickMinor", desc := "(II)I" } : Jvm.MethodName) method_3_code (2 : Nat) (Option.some Jvm.ClassFile.FieldType.int), Jvm.Cond.code ({ cls := "com/example/linkwright/linkwright/ClassFileVersion", name := "<init>", desc := "(II)V" } : Jvm.MethodName) prog_1_method_1_code (3 : Nat) (Option.none : Option Jvm.ClassFile.FieldType), Jvm.Cond.code ({ cls := "java/lang/Record", name := "<init>", desc := "()V" } : Jvm.MethodName) jdk_30_method_1_code (1 : Nat) (Option.none : Option Jvm.ClassFile.FieldType), Jvm.Cond.code ({ cls := "java/lang/Object", name := "<init>", desc := "()V" } : Jvm.MethodName) object_method_1_code (1 : Nat) (Option.none : Option Jvm.ClassFile.FieldType), Jvm.Cond.code ({ cls := "com/example/linkwright/linkwright/ClassFileVersion", name := "isPreview", desc := "()Z" } : Jvm.MethodName) prog_1_method_2_code (1 : Nat) (Option.some Jvm.ClassFile.FieldType.boolean), Jvm.Cond.code ({ cls := "com/example/linkwright/linkwright/ClassFileVersion", name := "isSupportedBy", desc := "(IZ)Z" } : Jvm.MethodName) prog_1_method_4_code (5 : Nat) (Option.some Jvm.ClassFile.FieldType.boolean)]
set_option maxRecDepth 65536 in
theorem codes_eq : words1.filter isCode = codes1 := rfl
theorem w_codes : ∀ c ∈ words1.filter isCode, c.before args0 about1 = true := by
  rw [codes_eq]
  intro c hc
  simp only [codes1, List.mem_cons, List.not_mem_nil, or_false] at hc
  rcases hc with rfl | rfl | rfl | rfl | rfl | rfl | rfl | rfl
  · exact w_c0
  · exact w_c1
  · exact w_c2
  · exact w_c3
  · exact w_c4
  · exact w_c5
  · exact w_c6
  · exact w_c7
set_option maxRecDepth 65536 in
theorem w_t1 : (words1.take 24).all (fun c => isCode c || c.before args0 about1) = true := by decide +kernel
set_option maxRecDepth 65536 in
theorem w_t2 : (words1.drop 24).all (fun c => isCode c || c.before args0 about1) = true := by decide +kernel
theorem w_tables : (allAtoms (Jvm.Cond.code x code maxLocals ret :: tables_1)).before args0 about1 = true := by
  rw [allAtoms_all]
  show words1.all (fun c => c.before args0 about1) = true
  refine all_split ?_ w_codes
  rw [← List.take_append_drop 24 words1, List.all_append, w_t1, w_t2]
  rfl
set_option maxRecDepth 65536 in
theorem w_case : (Jvm.Cond.and given_1 narrow_1).before args0 about1 = true := by decide +kernel
theorem w_applies : (headSpec (Jvm.Cond.code x code maxLocals ret :: tables_1) room_1).applies x e0.platform about1 = true :=
  (Spec.applies_iff w_frames).mpr ⟨w_running, w_runnable, w_alone, w_named, w_hears, w_ripe, w_room, w_tables⟩
theorem atStart : AtStart classFile x code maxLocals ret World_1 tables_1 room_1 Calls_1 rest_1 Pre_1 launch0 p0 e0 about1 theMethod args0 below0 :=
  ⟨lists_1, trivial, launch0.admits_env _ _ _, launch0.least_env, fairChoices_fair.cas, fairChoices_fair.clock, w_frames, w_args, w_heap, w_applies, trivial, trivial, w_case⟩
end start1
theorem witness_1 : WitnessClaimed_1 := ⟨start1.p0, start1.e0, start1.about1, start1.theMethod, start1.args0, start1.below0, start1.atStart⟩
end Jvm.Pilot.@@N@@
