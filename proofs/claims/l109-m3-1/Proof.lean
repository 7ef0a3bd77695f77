import JvmDerived
import JvmDerived.Pilot.@@N@@Statement
import JvmDerived.Pilot.@@N@@Code
set_option linter.unusedVariables false
set_option linter.unusedSimpArgs false
@@BLOCK:NumsL.lean.txt@@
namespace Jvm.Pilot.@@N@@
open Jvm Jvm.ClassFile Sem Op Lib Jvm.Free Jvm.Stand Jvm.LawKit Jvm.RoadKit Bundle Jvm.Pilot.@@N@@.Jvm.D
section OwnKit
variable {p : Program} {l : Launch} {e : Env} {R : Room} {s : State} {m : MethodId} {args : Array Value} {below : List Frame} {meth : Method} {c : Code} {T : State} {locs : List Loc} {cells slots : Nat} {n0 cc nn : Nat} {K : Option Value → Heap → Prop} {P : Heap → Prop} {A B : State}
/-- what a contract says of the value, the heap and the places written -/
def QK (n0 : Nat) (K : Option Value → Heap → Prop) (v : Option Value) (h : Heap) (L : List Loc) : Prop := K v h ∧ Fr n0 L
def Kv (w : Option Value) (P : Heap → Prop) (v : Option Value) (h : Heap) : Prop := v = w ∧ P h
/-- from A the run comes to this body's end, and K holds there -/
def Gl (p : Program) (e : Env) (below : List Frame) (s : State) (n0 cc nn : Nat) (K : Option Value → Heap → Prop) (A : State) : Prop :=
  ∃ t o, Steps p.tables e below A t ∧ t.status = .running ∧ Ended t below o ∧ ∃ v L, o = .returned v ∧ QK n0 K v t.heap L ∧ FrameEnd s o t L cc nn
theorem go (st : ∀ t, Steps p.tables e below B t → Steps p.tables e below A t) (h : Gl p e below s n0 cc nn K B) : Gl p e below s n0 cc nn K A := by
  obtain ⟨t, o, h1, h2⟩ := h; exact ⟨t, o, st t h1, h2⟩
theorem gl_start {g g' : JFrame} (q : g = g') (h : Gl p e below s n0 cc nn K (T.setTop g')) :
    ∃ t o, Steps p.tables e below (T.setTop g) t ∧ t.status = .running ∧ Ended t below o ∧ ∃ v L, o = .returned v ∧ QK n0 K v t.heap L ∧ FrameEnd s o t L cc nn := by
  subst q; exact h
theorem gI {c : Prop} [Decidable c] {a b : Int32} (h1 : c → Gl p e below s n0 cc nn (Kv (some (.int a)) P) A) (h2 : ¬ c → Gl p e below s n0 cc nn (Kv (some (.int b)) P) A) : Gl p e below s n0 cc nn (Kv (some (.int (if c then a else b))) P) A := by
  by_cases h : c
  · rw [if_pos h]; exact h1 h
  · rw [if_neg h]; exact h2 h
theorem gJ {c : Prop} [Decidable c] {a b : Int64} (h1 : c → Gl p e below s n0 cc nn (Kv (some (.long a)) P) A) (h2 : ¬ c → Gl p e below s n0 cc nn (Kv (some (.long b)) P) A) : Gl p e below s n0 cc nn (Kv (some (.long (if c then a else b))) P) A := by
  by_cases h : c
  · rw [if_pos h]; exact h1 h
  · rw [if_neg h]; exact h2 h
theorem gR {c : Prop} [Decidable c] {a b : Addr} (h1 : c → Gl p e below s n0 cc nn (Kv (some (.ref a)) P) A) (h2 : ¬ c → Gl p e below s n0 cc nn (Kv (some (.ref b)) P) A) : Gl p e below s n0 cc nn (Kv (some (.ref (if c then a else b))) P) A := by
  by_cases h : c
  · rw [if_pos h]; exact h1 h
  · rw [if_neg h]; exact h2 h
theorem gV {c : Prop} [Decidable c] (h1 : c → Gl p e below s n0 cc nn K A) (h2 : ¬ c → Gl p e below s n0 cc nn K A) : Gl p e below s n0 cc nn K A := by
  by_cases h : c
  · exact h1 h
  · exact h2 h
variable {x : MethodName} {S : Spec} {code' : ByteArray} {ml : Nat} {s₁ : State} {pc : Nat} {Ls : Array Slot} {rest : List Value}
theorem endN (X : Stand p l e R s m args below meth c T locs cells slots) (hx : p.tables.exec = Jvm.exec) {t : FieldType} (Bd : BodyLoose p l x S code' ml (some t) e s m args below meth c s₁) (ht : t = .boolean ∨ t = .byte ∨ t = .char ∨ t = .short) {z : Int32}
    (hd : decode c.code pc = .ok (.ireturn, 1)) (hK : K (some (.int (nar t z))) T.heap) (N : Fr n0 locs) (hc : cells ≤ cc) (hs : slots ≤ nn) : Gl p e below s n0 cc nn K (T.setTop (mkF m pc Ls (.int z :: rest))) := by
  obtain ⟨fs, hr, hrun, hended, hW, hsame⟩ := X.leave (v := some (.int (nar t z))) (fun h => by rw [Bd.returns] at h; cases h)
  exact ⟨_, _, retN X hx Bd.returns ht hd hr, hrun, hended, _, _, rfl, ⟨hK, N⟩, ⟨_, rfl⟩, hW, hsame.mono hc hs⟩
theorem endO (X : Stand p l e R s m args below meth c T locs cells slots) (hx : p.tables.exec = Jvm.exec) {t : FieldType} (Bd : BodyLoose p l x S code' ml (some t) e s m args below meth c s₁) {w : Value} {i : Instr} (hn : narrow t w = w)
    (hi : (i = .ireturn ∧ (t = .int ∨ t = .boolean ∨ t = .byte ∨ t = .char ∨ t = .short) ∧ ∃ z, w = .int z) ∨ (i = .lreturn ∧ t = .long ∧ ∃ z, w = .long z) ∨ (i = .dreturn ∧ t = .double ∧ ∃ z, w = .double z) ∨ (i = .freturn ∧ t = .float ∧ ∃ z, w = .float z) ∨ (i = .areturn ∧ t.isReference = true ∧ w.isRef = true))
    (hd : decode c.code pc = .ok (i, 1)) (hK : K (some w) T.heap) (N : Fr n0 locs) (hc : cells ≤ cc) (hs : slots ≤ nn) : Gl p e below s n0 cc nn K (T.setTop (mkF m pc Ls (w :: rest))) := by
  obtain ⟨fs, hr, hrun, hended, hW, hsame⟩ := X.leave (v := some w) (fun h => by rw [Bd.returns] at h; cases h)
  exact ⟨_, _, retOut X hx Bd.returns hn hi hd hr, hrun, hended, _, _, rfl, ⟨hK, N⟩, ⟨_, rfl⟩, hW, hsame.mono hc hs⟩
theorem endI (X : Stand p l e R s m args below meth c T locs cells slots) (hx : p.tables.exec = Jvm.exec) (Bd : BodyLoose p l x S code' ml (some .int) e s m args below meth c s₁) {z : Int32}
    (hd : decode c.code pc = .ok (.ireturn, 1)) (hK : K (some (.int z)) T.heap) (N : Fr n0 locs) (hc : cells ≤ cc) (hs : slots ≤ nn) : Gl p e below s n0 cc nn K (T.setTop (mkF m pc Ls (.int z :: rest))) :=
  endO X hx Bd rfl (Or.inl ⟨rfl, Or.inl rfl, z, rfl⟩) hd hK N hc hs
theorem endJ (X : Stand p l e R s m args below meth c T locs cells slots) (hx : p.tables.exec = Jvm.exec) (Bd : BodyLoose p l x S code' ml (some .long) e s m args below meth c s₁) {z : Int64}
    (hd : decode c.code pc = .ok (.lreturn, 1)) (hK : K (some (.long z)) T.heap) (N : Fr n0 locs) (hc : cells ≤ cc) (hs : slots ≤ nn) : Gl p e below s n0 cc nn K (T.setTop (mkF m pc Ls (.long z :: rest))) :=
  endO X hx Bd rfl (Or.inr (Or.inl ⟨rfl, rfl, z, rfl⟩)) hd hK N hc hs
theorem endR (X : Stand p l e R s m args below meth c T locs cells slots) (hx : p.tables.exec = Jvm.exec) {t : FieldType} (Bd : BodyLoose p l x S code' ml (some t) e s m args below meth c s₁) (ht : t.isReference = true) {a : Addr}
    (hd : decode c.code pc = .ok (.areturn, 1)) (hK : K (some (.ref a)) T.heap) (N : Fr n0 locs) (hc : cells ≤ cc) (hs : slots ≤ nn) : Gl p e below s n0 cc nn K (T.setTop (mkF m pc Ls (.ref a :: rest))) :=
  endO X hx Bd (by cases t <;> first | rfl | cases ht) (Or.inr (Or.inr (Or.inr (Or.inr ⟨rfl, ht, rfl⟩)))) hd hK N hc hs
theorem endV (X : Stand p l e R s m args below meth c T locs cells slots) (hx : p.tables.exec = Jvm.exec) (Bd : BodyLoose p l x S code' ml none e s m args below meth c s₁)
    (hd : decode c.code pc = .ok (.return_, 1)) (hK : K none T.heap) (N : Fr n0 locs) (hc : cells ≤ cc) (hs : slots ≤ nn) : Gl p e below s n0 cc nn K (T.setTop (mkF m pc Ls [])) := by
  obtain ⟨fs, hr, hrun, hended, hW, hsame⟩ := X.leave (v := none) (fun _ => rfl)
  exact ⟨_, _, X.returnOut hx Bd.returns hd hr, hrun, hended, _, _, rfl, ⟨hK, N⟩, ⟨_, rfl⟩, hW, hsame.mono hc hs⟩
theorem lremM {g : JFrame} {target : State} (X : Stand p l e R s m args below meth c T locs cells slots) (hx : p.tables.exec = Jvm.exec) (hg : g.method = m) {x y : Int64} {rest : List Value} (hd : decode c.code g.pc = .ok (.lrem, 1)) (hs : g.stack = .long y :: .long x :: rest) (hy : y ≠ 0)
    (hr : Steps p.tables e below (T.setTop { g with pc := g.pc + 1, stack := .long (x % y) :: rest }) target) : Steps p.tables e below (T.setTop g) target := by
  have q := lrem_mod x y
  exact XS.lrem X.here hx hg hd hs hy (by rw [q]; exact hr)
theorem sta_keep {Z : State} {h h' : Heap} {a : Addr} {C n d D : String} {w : Value} (F : Sta Z h C n d w) (Kp : Keep h h' [a]) (E : Exa Z h a D) : Sta Z h' C n d w := by
  obtain ⟨cf, i, k, f, st, cell, h1, h2, h3, h4, h5, h6, h7⟩ := F
  obtain ⟨cell', k', e1, -, -, e4, -⟩ := E
  refine ⟨cf, i, k, f, st, cell, h1, h2, h3, h4, Kp.2.1 st cell h5 (ninS (fun q => ?_) nin0), h6, h7⟩
  subst q; cases h5.symm.trans e1; rw [h6] at e4; cases e4
theorem sta_keepN {Z : State} {h h' : Heap} {ws : List Addr} {C n d : String} {w : Value} (F : Sta Z h C n d w) (Kp : Keep h h' ws) (hn : ∀ x ∈ ws, ∀ cell : Cell, h[x]? = some cell → cell.vm.isStatics = false) : Sta Z h' C n d w := by
  obtain ⟨cf, i, k, f, st, cell, h1, h2, h3, h4, h5, h6, h7⟩ := F
  refine ⟨cf, i, k, f, st, cell, h1, h2, h3, h4, Kp.2.1 st cell h5 (fun q => ?_), h6, h7⟩
  have := hn st q cell h5
  rw [h6] at this; cases this
theorem sta_keep0 {Z : State} {h h' : Heap} {C n d : String} {w : Value} (F : Sta Z h C n d w) (Kp : Keep h h' []) : Sta Z h' C n d w := by
  obtain ⟨cf, i, k, f, st, cell, h1, h2, h3, h4, h5, h6, h7⟩ := F
  exact ⟨cf, i, k, f, st, cell, h1, h2, h3, h4, Kp.2.1 st cell h5 nin0, h6, h7⟩
theorem sel_priv {Z s : State} {a0 args : Array Value} {y : MethodName} {n : Nat} (hZ : Z.Warmed39 s.vm) (wi : (Cond.instantiable y.cls n).before a0 Z = true) (wp : (Cond.privateMethod y).before a0 Z = true) (wm : (Cond.instanceMethod y).before a0 Z = true) (hy : y.cls ≠ "java/lang/invoke/MethodHandle" ∧ y.cls ≠ "java/lang/invoke/VarHandle") : (Cond.selects y.cls y y).before args s = true := by
  obtain ⟨c, k, h1, h2, -, h4, -⟩ := Cond.instantiable_spec (show (Cond.instantiable y.cls n).before args s = true from mvT hZ wi)
  exact Jvm.Stand.selects_self_of_private h1 h2 (by simp only [Bool.or_eq_false_iff] at h4; exact h4.1) (Cond.privateMethod_at (mvP hZ wp (args := args))) (mvT hZ wm) hy
theorem eqL_v {t : Term} {k : Int64} {a0 : Array Value} {first u : State} {o : Option Outcome} {idx : List Nat} (h : (Cond.eq t (.long k)).value a0 first o u idx = some true) : t.eval a0 first o idx u = some (.long k) := by
  simp only [Cond.value, Term.eval] at h
  cases ht : t.eval a0 first o idx u with
  | none => simp [ht] at h
  | some x => cases x <;> simp [ht] at h ⊢; exact h
theorem eqI_v {t : Term} {k : Int32} {a0 : Array Value} {first u : State} {o : Option Outcome} {idx : List Nat} (h : (Cond.eq t (.int k)).value a0 first o u idx = some true) : t.eval a0 first o idx u = some (.int k) := by
  simp only [Cond.value, Term.eval] at h
  cases ht : t.eval a0 first o idx u with
  | none => simp [ht] at h
  | some x => cases x <;> simp [ht] at h ⊢; exact h
end OwnKit
theorem d1_0 : decode jdk_29_method_70_code 0 = .ok (.lload_n 0, 1) := by decide +kernel
theorem d1_1 : decode jdk_29_method_70_code 1 = .ok (.lload_n 2, 1) := by decide +kernel
theorem d1_2 : decode jdk_29_method_70_code 2 = .ok (.lcmp, 1) := by decide +kernel
theorem d1_3 : decode jdk_29_method_70_code 3 = .ok (.ifCond .gt 7, 3) := by decide +kernel
theorem d1_6 : decode jdk_29_method_70_code 6 = .ok (.lload_n 0, 1) := by decide +kernel
theorem d1_7 : decode jdk_29_method_70_code 7 = .ok (.goto 4, 3) := by decide +kernel
theorem d1_10 : decode jdk_29_method_70_code 10 = .ok (.lload_n 2, 1) := by decide +kernel
theorem d1_11 : decode jdk_29_method_70_code 11 = .ok (.lreturn, 1) := by decide +kernel
theorem ef_1 (m : MethodId) (q1 : Int64) (q2 : Int64) : entryFrame m #[(.long q1), (.long q2)] 4 = mkF m 0 #[.val (.long q1), .second, .val (.long q2), .second] [] := by first | (simp [entryFrame, mkF, argsToLocals, Value.category]; done) | rfl
def b1_11 (s0_11 : Int64) : Int64 := s0_11
def b1_0 (q1 : Int64) (q2 : Int64) : Int64 := (if q2 < q1 then (b1_11 q2) else (b1_11 q1))
set_option maxRecDepth 65536 in
set_option maxHeartbeats 40000000 in
theorem rm1 (l : Launch) (Z : State) (a0 : Array Value) (hw : ∀ d ∈ tables_1, d.before a0 Z = true) (ws : List Jvm.Cond) (q1 : Int64) (q2 : Int64) (h0 : Heap) (n0 : Nat) (Z0 : n0 ≤ h0.size) :
    MetFree l (⟨"java/lang/Math", "min", "(JJ)J"⟩ : MethodName) (head1 (Jvm.Cond.code (⟨"java/lang/Math", "min", "(JJ)J"⟩ : MethodName) jdk_29_method_70_code 4 (some .long) :: ws) ({ frames := 0, cells := 0, slots := 0, locals := 0 } : Room)) (fun a U => a = #[(.long q1), (.long q2)] ∧ Z.Warmed39 U.vm ∧ U.heap = h0) (fun _ _ _ _ _ => True) (fun _ U o U' => ∃ v L, o = .returned v ∧ QK n0 (Kv (some (.long (b1_0 q1 q2))) (fun h => h = h0)) v U'.heap L ∧ FrameEnd U o U' L ({ frames := 0, cells := 0, slots := 0, locals := 0 } : Room).cells ({ frames := 0, cells := 0, slots := 0, locals := 0 } : Room).slots) := by
  refine MetFree.of_bodySF (Jvm.Free.JP.mathPlain rfl (by decide +kernel)) hisR ?_
  intro p e s m args below meth c s₁ Bd hml0 hP hK
  obtain ⟨rfl, hZ, hh⟩ := hP
  have hx := Bd.exec
  have hby := Bd.bytes
  have hml : c.maxLocals = 4 := hml0
  have hown : s.vm.findClass "java/lang/Math" = some m.cls := findClass_of_methodNamed Bd.named
  have hnm := (name_of_methodNamed Bd.named Bd.method).1
  have X0 : Stand p l e ({ frames := 0, cells := 0, slots := 0, locals := 0 } : Room) s m #[(.long q1), (.long q2)] below meth c s₁ [] 0 0 := Stand.of_body Bd
  have e0 : s₁.heap = h0 := by rw [← hh, Bd.state]; rfl
  have N0 := Fr.nil n0
  refine gl_start (ef_1 m q1 q2) ?_
  show Gl p e below s n0 ({ frames := 0, cells := 0, slots := 0, locals := 0 } : Room).cells ({ frames := 0, cells := 0, slots := 0, locals := 0 } : Room).slots (Kv (some (.long (if q2 < q1 then (b1_11 q2) else (b1_11 q1)))) (fun h => h = h0)) (s₁.setTop (mkF m 0 #[.val (.long q1), .second, .val (.long q2), .second] []))
  refine go (fun t k => XS.lloadN X0.here hx rfl (hb hby d1_0) rfl  k) ?_
  show Gl _ _ _ _ _ _ _ _ (s₁.setTop (mkF m 1 #[.val (.long q1), .second, .val (.long q2), .second] [(.long q1)]))
  refine go (fun t k => XS.lloadN X0.here hx rfl (hb hby d1_1) rfl  k) ?_
  show Gl _ _ _ _ _ _ _ _ (s₁.setTop (mkF m 2 #[.val (.long q1), .second, .val (.long q2), .second] [(.long q2), (.long q1)]))
  refine go (fun t k => XS.lcmp X0.here hx rfl (hb hby d1_2) rfl k) ?_
  show Gl _ _ _ _ _ _ _ _ (s₁.setTop (mkF m 3 #[.val (.long q1), .second, .val (.long q2), .second] [(.int (lcmpW q1 q2))]))
  have J11 : ∀ (s0_11 : Int64) (TJ11 : State) (lJ11 : List Loc) (XJ11 : Stand p l e ({ frames := 0, cells := 0, slots := 0, locals := 0 } : Room) s m #[(.long q1), (.long q2)] below meth c TJ11 lJ11 0 0) (eJ11 : TJ11.heap = h0) (NJ11 : Fr n0 lJ11), Gl p e below s n0 ({ frames := 0, cells := 0, slots := 0, locals := 0 } : Room).cells ({ frames := 0, cells := 0, slots := 0, locals := 0 } : Room).slots (Kv (some (.long (b1_11 s0_11))) (fun h => h = h0)) (TJ11.setTop (mkF m 11 #[.val (.long q1), .second, .val (.long q2), .second] [(.long s0_11)])) := by
    intro s0_11 TJ11 lJ11 XJ11 eJ11 NJ11
    show Gl _ _ _ _ _ _ _ (Kv (some (.long s0_11)) _) _
    exact endJ XJ11 hx Bd (hb hby d1_11) ⟨rfl, eJ11⟩ NJ11 (by decide) (by decide)
  refine gJ (c := q2 < q1) (fun hc3 => ?_) (fun hc3 => ?_)
  · refine go (fun t k => XS.ifYes X0.here hx rfl (pc0 := 3) (pc' := 10) rfl (hb hby d1_3) rfl ((if0 _ _).trans (tlt ((lw_gt q1 q2).mpr hc3)).2.2.1) (by decide) (by decide) k) ?_
    show Gl _ _ _ _ _ _ _ _ (s₁.setTop (mkF m 10 #[.val (.long q1), .second, .val (.long q2), .second] []))
    refine go (fun t k => XS.lloadN X0.here hx rfl (hb hby d1_10) rfl  k) ?_
    show Gl _ _ _ _ _ _ _ _ (s₁.setTop (mkF m 11 #[.val (.long q1), .second, .val (.long q2), .second] [(.long q2)]))
    exact J11 q2 s₁ _ X0 e0 N0
  · refine go (fun t k => XS.ifNo X0.here hx rfl (hb hby d1_3) rfl ((if0 _ _).trans (flt (mt (lw_gt q1 q2).mp hc3)).2.2.1) k) ?_
    show Gl _ _ _ _ _ _ _ _ (s₁.setTop (mkF m 6 #[.val (.long q1), .second, .val (.long q2), .second] []))
    refine go (fun t k => XS.lloadN X0.here hx rfl (hb hby d1_6) rfl  k) ?_
    show Gl _ _ _ _ _ _ _ _ (s₁.setTop (mkF m 7 #[.val (.long q1), .second, .val (.long q2), .second] [(.long q1)]))
    refine go (fun t k => XS.goto X0.here hx rfl (pc0 := 7) (pc' := 11) rfl (hb hby d1_7) (by decide) (by decide) k) ?_
    show Gl _ _ _ _ _ _ _ _ (s₁.setTop (mkF m 11 #[.val (.long q1), .second, .val (.long q2), .second] [(.long q1)]))
    exact J11 q1 s₁ _ X0 e0 N0
theorem d4_0 : decode jdk_29_method_66_code 0 = .ok (.lload_n 0, 1) := by decide +kernel
theorem d4_1 : decode jdk_29_method_66_code 1 = .ok (.lload_n 2, 1) := by decide +kernel
theorem d4_2 : decode jdk_29_method_66_code 2 = .ok (.lcmp, 1) := by decide +kernel
theorem d4_3 : decode jdk_29_method_66_code 3 = .ok (.ifCond .lt 7, 3) := by decide +kernel
theorem d4_6 : decode jdk_29_method_66_code 6 = .ok (.lload_n 0, 1) := by decide +kernel
theorem d4_7 : decode jdk_29_method_66_code 7 = .ok (.goto 4, 3) := by decide +kernel
theorem d4_10 : decode jdk_29_method_66_code 10 = .ok (.lload_n 2, 1) := by decide +kernel
theorem d4_11 : decode jdk_29_method_66_code 11 = .ok (.lreturn, 1) := by decide +kernel
theorem ef_4 (m : MethodId) (q1 : Int64) (q2 : Int64) : entryFrame m #[(.long q1), (.long q2)] 4 = mkF m 0 #[.val (.long q1), .second, .val (.long q2), .second] [] := by first | (simp [entryFrame, mkF, argsToLocals, Value.category]; done) | rfl
def b4_11 (s0_11 : Int64) : Int64 := s0_11
def b4_0 (q1 : Int64) (q2 : Int64) : Int64 := (if q1 < q2 then (b4_11 q2) else (b4_11 q1))
set_option maxRecDepth 65536 in
set_option maxHeartbeats 40000000 in
theorem rm4 (l : Launch) (Z : State) (a0 : Array Value) (hw : ∀ d ∈ tables_1, d.before a0 Z = true) (ws : List Jvm.Cond) (q1 : Int64) (q2 : Int64) (h0 : Heap) (n0 : Nat) (Z0 : n0 ≤ h0.size) :
    MetFree l (⟨"java/lang/Math", "max", "(JJ)J"⟩ : MethodName) (head1 (Jvm.Cond.code (⟨"java/lang/Math", "max", "(JJ)J"⟩ : MethodName) jdk_29_method_66_code 4 (some .long) :: ws) ({ frames := 0, cells := 0, slots := 0, locals := 0 } : Room)) (fun a U => a = #[(.long q1), (.long q2)] ∧ Z.Warmed39 U.vm ∧ U.heap = h0) (fun _ _ _ _ _ => True) (fun _ U o U' => ∃ v L, o = .returned v ∧ QK n0 (Kv (some (.long (b4_0 q1 q2))) (fun h => h = h0)) v U'.heap L ∧ FrameEnd U o U' L ({ frames := 0, cells := 0, slots := 0, locals := 0 } : Room).cells ({ frames := 0, cells := 0, slots := 0, locals := 0 } : Room).slots) := by
  refine MetFree.of_bodySF (Jvm.Free.JP.mathPlain rfl (by decide +kernel)) hisR ?_
  intro p e s m args below meth c s₁ Bd hml0 hP hK
  obtain ⟨rfl, hZ, hh⟩ := hP
  have hx := Bd.exec
  have hby := Bd.bytes
  have hml : c.maxLocals = 4 := hml0
  have hown : s.vm.findClass "java/lang/Math" = some m.cls := findClass_of_methodNamed Bd.named
  have hnm := (name_of_methodNamed Bd.named Bd.method).1
  have X0 : Stand p l e ({ frames := 0, cells := 0, slots := 0, locals := 0 } : Room) s m #[(.long q1), (.long q2)] below meth c s₁ [] 0 0 := Stand.of_body Bd
  have e0 : s₁.heap = h0 := by rw [← hh, Bd.state]; rfl
  have N0 := Fr.nil n0
  refine gl_start (ef_4 m q1 q2) ?_
  show Gl p e below s n0 ({ frames := 0, cells := 0, slots := 0, locals := 0 } : Room).cells ({ frames := 0, cells := 0, slots := 0, locals := 0 } : Room).slots (Kv (some (.long (if q1 < q2 then (b4_11 q2) else (b4_11 q1)))) (fun h => h = h0)) (s₁.setTop (mkF m 0 #[.val (.long q1), .second, .val (.long q2), .second] []))
  refine go (fun t k => XS.lloadN X0.here hx rfl (hb hby d4_0) rfl  k) ?_
  show Gl _ _ _ _ _ _ _ _ (s₁.setTop (mkF m 1 #[.val (.long q1), .second, .val (.long q2), .second] [(.long q1)]))
  refine go (fun t k => XS.lloadN X0.here hx rfl (hb hby d4_1) rfl  k) ?_
  show Gl _ _ _ _ _ _ _ _ (s₁.setTop (mkF m 2 #[.val (.long q1), .second, .val (.long q2), .second] [(.long q2), (.long q1)]))
  refine go (fun t k => XS.lcmp X0.here hx rfl (hb hby d4_2) rfl k) ?_
  show Gl _ _ _ _ _ _ _ _ (s₁.setTop (mkF m 3 #[.val (.long q1), .second, .val (.long q2), .second] [(.int (lcmpW q1 q2))]))
  have J11 : ∀ (s0_11 : Int64) (TJ11 : State) (lJ11 : List Loc) (XJ11 : Stand p l e ({ frames := 0, cells := 0, slots := 0, locals := 0 } : Room) s m #[(.long q1), (.long q2)] below meth c TJ11 lJ11 0 0) (eJ11 : TJ11.heap = h0) (NJ11 : Fr n0 lJ11), Gl p e below s n0 ({ frames := 0, cells := 0, slots := 0, locals := 0 } : Room).cells ({ frames := 0, cells := 0, slots := 0, locals := 0 } : Room).slots (Kv (some (.long (b4_11 s0_11))) (fun h => h = h0)) (TJ11.setTop (mkF m 11 #[.val (.long q1), .second, .val (.long q2), .second] [(.long s0_11)])) := by
    intro s0_11 TJ11 lJ11 XJ11 eJ11 NJ11
    show Gl _ _ _ _ _ _ _ (Kv (some (.long s0_11)) _) _
    exact endJ XJ11 hx Bd (hb hby d4_11) ⟨rfl, eJ11⟩ NJ11 (by decide) (by decide)
  refine gJ (c := q1 < q2) (fun hc3 => ?_) (fun hc3 => ?_)
  · refine go (fun t k => XS.ifYes X0.here hx rfl (pc0 := 3) (pc' := 10) rfl (hb hby d4_3) rfl ((if0 _ _).trans (tlt ((lw_lt q1 q2).mpr hc3)).1) (by decide) (by decide) k) ?_
    show Gl _ _ _ _ _ _ _ _ (s₁.setTop (mkF m 10 #[.val (.long q1), .second, .val (.long q2), .second] []))
    refine go (fun t k => XS.lloadN X0.here hx rfl (hb hby d4_10) rfl  k) ?_
    show Gl _ _ _ _ _ _ _ _ (s₁.setTop (mkF m 11 #[.val (.long q1), .second, .val (.long q2), .second] [(.long q2)]))
    exact J11 q2 s₁ _ X0 e0 N0
  · refine go (fun t k => XS.ifNo X0.here hx rfl (hb hby d4_3) rfl ((if0 _ _).trans (flt (mt (lw_lt q1 q2).mp hc3)).1) k) ?_
    show Gl _ _ _ _ _ _ _ _ (s₁.setTop (mkF m 6 #[.val (.long q1), .second, .val (.long q2), .second] []))
    refine go (fun t k => XS.lloadN X0.here hx rfl (hb hby d4_6) rfl  k) ?_
    show Gl _ _ _ _ _ _ _ _ (s₁.setTop (mkF m 7 #[.val (.long q1), .second, .val (.long q2), .second] [(.long q1)]))
    refine go (fun t k => XS.goto X0.here hx rfl (pc0 := 7) (pc' := 11) rfl (hb hby d4_7) (by decide) (by decide) k) ?_
    show Gl _ _ _ _ _ _ _ _ (s₁.setTop (mkF m 11 #[.val (.long q1), .second, .val (.long q2), .second] [(.long q1)]))
    exact J11 q1 s₁ _ X0 e0 N0
theorem d3_0 : decode jdk_29_method_43_code 0 = .ok (.lload_n 0, 1) := by decide +kernel
theorem d3_1 : decode jdk_29_method_43_code 1 = .ok (.l2i, 1) := by decide +kernel
theorem d3_2 : decode jdk_29_method_43_code 2 = .ok (.i2l, 1) := by decide +kernel
theorem d3_3 : decode jdk_29_method_43_code 3 = .ok (.lload_n 0, 1) := by decide +kernel
theorem d3_4 : decode jdk_29_method_43_code 4 = .ok (.lcmp, 1) := by decide +kernel
theorem d3_5 : decode jdk_29_method_43_code 5 = .ok (.ifCond .eq 13, 3) := by decide +kernel
theorem d3_18 : decode jdk_29_method_43_code 18 = .ok (.lload_n 0, 1) := by decide +kernel
theorem d3_19 : decode jdk_29_method_43_code 19 = .ok (.l2i, 1) := by decide +kernel
theorem d3_20 : decode jdk_29_method_43_code 20 = .ok (.ireturn, 1) := by decide +kernel
theorem ef_3 (m : MethodId) (q1 : Int64) : entryFrame m #[(.long q1)] 2 = mkF m 0 #[.val (.long q1), .second] [] := by first | (simp [entryFrame, mkF, argsToLocals, Value.category]; done) | rfl
def b3_0 (q1 : Int64) : Int32 := (q1.toInt32)
set_option maxRecDepth 65536 in
set_option maxHeartbeats 40000000 in
theorem rm3 (l : Launch) (Z : State) (a0 : Array Value) (hw : ∀ d ∈ tables_1, d.before a0 Z = true) (ws : List Jvm.Cond) (q1 : Int64) (h0 : Heap) (n0 : Nat) (Z0 : n0 ≤ h0.size) (hc5 : ((q1.toInt32).toInt64) = q1) :
    MetFree l (⟨"java/lang/Math", "toIntExact", "(J)I"⟩ : MethodName) (head1 (Jvm.Cond.code (⟨"java/lang/Math", "toIntExact", "(J)I"⟩ : MethodName) jdk_29_method_43_code 2 (some .int) :: ws) ({ frames := 0, cells := 0, slots := 0, locals := 0 } : Room)) (fun a U => a = #[(.long q1)] ∧ Z.Warmed39 U.vm ∧ U.heap = h0) (fun _ _ _ _ _ => True) (fun _ U o U' => ∃ v L, o = .returned v ∧ QK n0 (Kv (some (.int (b3_0 q1))) (fun h => h = h0)) v U'.heap L ∧ FrameEnd U o U' L ({ frames := 0, cells := 0, slots := 0, locals := 0 } : Room).cells ({ frames := 0, cells := 0, slots := 0, locals := 0 } : Room).slots) := by
  refine MetFree.of_bodySF (Jvm.Free.JP.mathPlain rfl (by decide +kernel)) hisR ?_
  intro p e s m args below meth c s₁ Bd hml0 hP hK
  obtain ⟨rfl, hZ, hh⟩ := hP
  have hx := Bd.exec
  have hby := Bd.bytes
  have hml : c.maxLocals = 2 := hml0
  have hown : s.vm.findClass "java/lang/Math" = some m.cls := findClass_of_methodNamed Bd.named
  have hnm := (name_of_methodNamed Bd.named Bd.method).1
  have X0 : Stand p l e ({ frames := 0, cells := 0, slots := 0, locals := 0 } : Room) s m #[(.long q1)] below meth c s₁ [] 0 0 := Stand.of_body Bd
  have e0 : s₁.heap = h0 := by rw [← hh, Bd.state]; rfl
  have N0 := Fr.nil n0
  refine gl_start (ef_3 m q1) ?_
  show Gl p e below s n0 ({ frames := 0, cells := 0, slots := 0, locals := 0 } : Room).cells ({ frames := 0, cells := 0, slots := 0, locals := 0 } : Room).slots (Kv (some (.int (q1.toInt32))) (fun h => h = h0)) (s₁.setTop (mkF m 0 #[.val (.long q1), .second] []))
  refine go (fun t k => XS.lloadN X0.here hx rfl (hb hby d3_0) rfl  k) ?_
  show Gl _ _ _ _ _ _ _ _ (s₁.setTop (mkF m 1 #[.val (.long q1), .second] [(.long q1)]))
  refine go (fun t k => XS.l2i X0.here hx rfl (hb hby d3_1) rfl k) ?_
  show Gl _ _ _ _ _ _ _ _ (s₁.setTop (mkF m 2 #[.val (.long q1), .second] [(.int (q1.toInt32))]))
  refine go (fun t k => XS.i2l X0.here hx rfl (hb hby d3_2) rfl k) ?_
  show Gl _ _ _ _ _ _ _ _ (s₁.setTop (mkF m 3 #[.val (.long q1), .second] [(.long ((q1.toInt32).toInt64))]))
  refine go (fun t k => XS.lloadN X0.here hx rfl (hb hby d3_3) rfl  k) ?_
  show Gl _ _ _ _ _ _ _ _ (s₁.setTop (mkF m 4 #[.val (.long q1), .second] [(.long q1), (.long ((q1.toInt32).toInt64))]))
  refine go (fun t k => XS.lcmp X0.here hx rfl (hb hby d3_4) rfl k) ?_
  show Gl _ _ _ _ _ _ _ _ (s₁.setTop (mkF m 5 #[.val (.long q1), .second] [(.int (lcmpW ((q1.toInt32).toInt64) q1))]))
  refine go (fun t k => XS.ifYes X0.here hx rfl (pc0 := 5) (pc' := 18) rfl (hb hby d3_5) rfl ((if0 _ _).trans (teq ((lw_eq ((q1.toInt32).toInt64) q1).mpr hc5)).1) (by decide) (by decide) k) ?_
  show Gl _ _ _ _ _ _ _ _ (s₁.setTop (mkF m 18 #[.val (.long q1), .second] []))
  refine go (fun t k => XS.lloadN X0.here hx rfl (hb hby d3_18) rfl  k) ?_
  show Gl _ _ _ _ _ _ _ _ (s₁.setTop (mkF m 19 #[.val (.long q1), .second] [(.long q1)]))
  refine go (fun t k => XS.l2i X0.here hx rfl (hb hby d3_19) rfl k) ?_
  show Gl _ _ _ _ _ _ _ _ (s₁.setTop (mkF m 20 #[.val (.long q1), .second] [(.int (q1.toInt32))]))
  exact endI X0 hx Bd (hb hby d3_20) ⟨rfl, e0⟩ N0 (by decide) (by decide)
theorem pd_0 : parseMethodDescriptor "(J)I" = some ⟨[.long], some .int⟩ := by decide +kernel
theorem d2_0 : decode prog_97_method_2_code 0 = .ok (.lload_n 0, 1) := by decide +kernel
theorem d2_1 : decode prog_97_method_2_code 1 = .ok (.ldc2_w 44, 3) := by decide +kernel
theorem d2_4 : decode prog_97_method_2_code 4 = .ok (.ladd, 1) := by decide +kernel
theorem d2_5 : decode prog_97_method_2_code 5 = .ok (.lconst 1, 1) := by decide +kernel
theorem d2_6 : decode prog_97_method_2_code 6 = .ok (.lsub, 1) := by decide +kernel
theorem d2_7 : decode prog_97_method_2_code 7 = .ok (.ldc2_w 44, 3) := by decide +kernel
theorem d2_10 : decode prog_97_method_2_code 10 = .ok (.ldiv, 1) := by decide +kernel
theorem d2_11 : decode prog_97_method_2_code 11 = .ok (.invokestatic 46, 3) := by decide +kernel
theorem d2_14 : decode prog_97_method_2_code 14 = .ok (.ireturn, 1) := by decide +kernel
theorem pn_0 : plainName "com/example/vicinet/vicinet/store/Content" = true := by first | (simp [plainName, overriddenIn]; done) | decide +kernel
theorem ef_2 (m : MethodId) (q1 : Int64) : entryFrame m #[(.long q1)] 2 = mkF m 0 #[.val (.long q1), .second] [] := by first | (simp [entryFrame, mkF, argsToLocals, Value.category]; done) | rfl
def b2_0 (q1 : Int64) : Int32 := (b3_0 (((q1 + (262144 : Int64)) - (1 : Int64)) / (262144 : Int64)))
set_option maxRecDepth 65536 in
set_option maxHeartbeats 40000000 in
theorem rm2 (l : Launch) (Z : State) (a0 : Array Value) (hw : ∀ d ∈ tables_1, d.before a0 Z = true) (ws : List Jvm.Cond) (q1 : Int64) (h0 : Heap) (n0 : Nat) (Z0 : n0 ≤ h0.size) (hcx : ((((((q1 + (262144 : Int64)) - (1 : Int64)) / (262144 : Int64)).toInt32)).toInt64) = (((q1 + (262144 : Int64)) - (1 : Int64)) / (262144 : Int64))) :
    MetFree l (⟨"com/example/vicinet/vicinet/store/Content", "pieceCount", "(J)I"⟩ : MethodName) (head1 (Jvm.Cond.code (⟨"com/example/vicinet/vicinet/store/Content", "pieceCount", "(J)I"⟩ : MethodName) prog_97_method_2_code 2 (some .int) :: ws) ({ frames := 1, cells := 0, slots := 0, locals := 13 } : Room)) (fun a U => a = #[(.long q1)] ∧ Z.Warmed39 U.vm ∧ U.heap = h0) (fun _ _ _ _ _ => True) (fun _ U o U' => ∃ v L, o = .returned v ∧ QK n0 (Kv (some (.int (b2_0 q1))) (fun h => h = h0)) v U'.heap L ∧ FrameEnd U o U' L ({ frames := 1, cells := 0, slots := 0, locals := 13 } : Room).cells ({ frames := 1, cells := 0, slots := 0, locals := 13 } : Room).slots) := by
  refine MetFree.of_bodySF (plainFor_of_name pn_0) hisR ?_
  intro p e s m args below meth c s₁ Bd hml0 hP hK
  obtain ⟨rfl, hZ, hh⟩ := hP
  have hx := Bd.exec
  have hby := Bd.bytes
  have hml : c.maxLocals = 2 := hml0
  have hown : s.vm.findClass "com/example/vicinet/vicinet/store/Content" = some m.cls := findClass_of_methodNamed Bd.named
  have hnm := (name_of_methodNamed Bd.named Bd.method).1
  have X0 : Stand p l e ({ frames := 1, cells := 0, slots := 0, locals := 13 } : Room) s m #[(.long q1)] below meth c s₁ [] 0 0 := Stand.of_body Bd
  have e0 : s₁.heap = h0 := by rw [← hh, Bd.state]; rfl
  have N0 := Fr.nil n0
  refine gl_start (ef_2 m q1) ?_
  show Gl p e below s n0 ({ frames := 1, cells := 0, slots := 0, locals := 13 } : Room).cells ({ frames := 1, cells := 0, slots := 0, locals := 13 } : Room).slots (Kv (some (.int (b3_0 (((q1 + (262144 : Int64)) - (1 : Int64)) / (262144 : Int64))))) (fun h => h = h0)) (s₁.setTop (mkF m 0 #[.val (.long q1), .second] []))
  refine go (fun t k => XS.lloadN X0.here hx rfl (hb hby d2_0) rfl  k) ?_
  show Gl _ _ _ _ _ _ _ _ (s₁.setTop (mkF m 1 #[.val (.long q1), .second] [(.long q1)]))
  refine go (fun t k => X0.ldc2Long hx hown (mvT hZ (hw _ (List.mem_of_getElem? (i := 10) rfl))) (g := (mkF m 1 #[.val (.long q1), .second] [(.long q1)])) rfl (hb hby d2_1) _ k) ?_
  show Gl _ _ _ _ _ _ _ _ (s₁.setTop (mkF m 4 #[.val (.long q1), .second] [(.long (262144 : Int64)), (.long q1)]))
  refine go (fun t k => XS.ladd X0.here hx rfl (hb hby d2_4) rfl k) ?_
  show Gl _ _ _ _ _ _ _ _ (s₁.setTop (mkF m 5 #[.val (.long q1), .second] [(.long (q1 + (262144 : Int64)))]))
  refine go (fun t k => XS.lconst X0.here hx rfl (hb hby d2_5) k) ?_
  show Gl _ _ _ _ _ _ _ _ (s₁.setTop (mkF m 6 #[.val (.long q1), .second] [(.long (1 : Int64)), (.long (q1 + (262144 : Int64)))]))
  refine go (fun t k => XS.lsub X0.here hx rfl (hb hby d2_6) rfl k) ?_
  show Gl _ _ _ _ _ _ _ _ (s₁.setTop (mkF m 7 #[.val (.long q1), .second] [(.long ((q1 + (262144 : Int64)) - (1 : Int64)))]))
  refine go (fun t k => X0.ldc2Long hx hown (mvT hZ (hw _ (List.mem_of_getElem? (i := 10) rfl))) (g := (mkF m 7 #[.val (.long q1), .second] [(.long ((q1 + (262144 : Int64)) - (1 : Int64)))])) rfl (hb hby d2_7) _ k) ?_
  show Gl _ _ _ _ _ _ _ _ (s₁.setTop (mkF m 10 #[.val (.long q1), .second] [(.long (262144 : Int64)), (.long ((q1 + (262144 : Int64)) - (1 : Int64)))]))
  refine go (fun t k => XS.ldiv X0.here hx rfl (hb hby d2_10) rfl (by decide) k) ?_
  show Gl _ _ _ _ _ _ _ _ (s₁.setTop (mkF m 11 #[.val (.long q1), .second] [(.long (((q1 + (262144 : Int64)) - (1 : Int64)) / (262144 : Int64)))]))
  obtain ⟨_, _, ⟨T1, L1, k1, n1⟩, -, X1, ⟨Lc1, hQ1, l1, y1, z1⟩, st1⟩ := Jvm.LawKit.callS X0 hx (y := (⟨"java/lang/Math", "toIntExact", "(J)I"⟩ : MethodName)) hown (mvT hZ (hw _ (List.mem_of_getElem? (i := 11) rfl))) (mvT hZ (hw _ (List.mem_of_getElem? (i := 12) rfl))) (mvT hZ (hw _ (List.mem_of_getElem? (i := 4) rfl))) (mvT hZ (hw _ (List.mem_of_getElem? (i := 13) rfl))) (by decide) (backOf (W := 0) (rm3 l Z a0 hw [] (((q1 + (262144 : Int64)) - (1 : Int64)) / (262144 : Int64)) h0 n0 Z0 hcx) hZ (hw _ (List.mem_of_getElem? (i := 13) rfl)) (hw _ (List.mem_of_getElem? (i := 4) rfl)) (by decide) (by decide)) (g := (mkF m 11 #[.val (.long q1), .second] [(.long (((q1 + (262144 : Int64)) - (1 : Int64)) / (262144 : Int64)))])) rfl (by rw [hml]; rfl) (argsL := [(.long (((q1 + (262144 : Int64)) - (1 : Int64)) / (262144 : Int64)))]) (rest := []) (lenOf pd_0 rfl) rfl (by show 2 * 0 + _ ≤ _; exact Nat.le_of_eq rfl) (hb hby d2_11) (fun _ _ => ⟨rfl, e0, (by decide : 0 + 0 ≤ _), (by decide : 0 + 0 ≤ _)⟩)
  dsimp only [Pt.U, Pt.locs, Pt.cells, Pt.slots] at X1 l1 y1 z1 st1 hQ1
  subst l1 y1 z1
  have X1 : Stand p l e ({ frames := 1, cells := 0, slots := 0, locals := 13 } : Room) s m #[(.long q1)] below meth c T1 _ 0 0 := X1
  obtain ⟨⟨rfl, e1'⟩, N1q⟩ := hQ1
  have e1 : T1.heap = h0 := e1'
  have N1 := Fr.app N0 N1q
  refine go (fun t k => st1 _ k) ?_
  show Gl _ _ _ _ _ _ _ _ (T1.setTop (mkF m 14 #[.val (.long q1), .second] [(.int (b3_0 (((q1 + (262144 : Int64)) - (1 : Int64)) / (262144 : Int64))))]))
  exact endI X1 hx Bd (hb hby d2_14) ⟨rfl, e1⟩ N1 (by decide) (by decide)
theorem own_q (z : Int64) (h : ¬ (z < (0 : Int64)) ∧ ¬ ((562949953159168 : Int64) < z)) : (((z + (262144 : Int64)) - (1 : Int64)) / (262144 : Int64)).toInt = (z.toInt + 262143) / 262144 := by
  have h' : ¬ z.toInt < 0 ∧ ¬ 562949953159168 < z.toInt := by simpa only [Int64.lt_iff_toInt_lt, Int64.reduceToInt] using h
  have e1 : (z + 262144).toInt = z.toInt + 262144 := Jvm.Kit.i64_add (by simp only [Int64.reduceToInt]; omega) (by simp only [Int64.reduceToInt]; omega)
  have e2 : ((z + 262144) - 1).toInt = (z + 262144).toInt - 1 := Jvm.Kit.i64_sub (by rw [e1]; simp only [Int64.reduceToInt]; omega) (by rw [e1]; simp only [Int64.reduceToInt]; omega)
  have e3 : (((z + 262144) - 1) / 262144).toInt = ((z + 262144) - 1).toInt.tdiv (262144 : Int64).toInt := Jvm.Kit.i64_div (by rw [e2, e1]; simp only [Int64.reduceToInt]; omega)
  rw [e3, e2, e1, show (262144 : Int64).toInt = 262144 from rfl, Int.tdiv_eq_ediv_of_nonneg (by omega)]
  have q : z.toInt + 262144 - 1 = z.toInt + 262143 := by omega
  rw [q]
theorem own_c1 {z : Int64} (h : ¬ (z < (0 : Int64)) ∧ ¬ ((562949953159168 : Int64) < z)) : ((((((z + (262144 : Int64)) - (1 : Int64)) / (262144 : Int64)).toInt32)).toInt64) = (((z + (262144 : Int64)) - (1 : Int64)) / (262144 : Int64)) := by
  have q := own_q z h
  have h' : ¬ z.toInt < 0 ∧ ¬ 562949953159168 < z.toInt := by simpa only [Int64.lt_iff_toInt_lt, Int64.reduceToInt] using h
  apply Int64.toInt_inj.mp
  rw [Jvm.Kit.i64_of_i32, Jvm.Kit.i32_of_i64 (by rw [q]; omega) (by rw [q]; omega)]
theorem own_max : ((2147483647 : Int64) * (262144 : Int64)) = 562949953159168 := by decide
theorem own_i1' (s : Int64) : ((s &&& (2147483647 : Int64)) * (262144 : Int64)).toInt = (s.toInt % 2147483648) * 262144 := by
  have e := Jvm.Kit.i64_mask s 2147483647 (k := 31) (by decide) (by decide)
  rw [Jvm.Kit.i64_mul (by rw [e]; simp only [Int64.reduceToInt]; omega) (by rw [e]; simp only [Int64.reduceToInt]; omega), e]; rfl
theorem own_min (a : Int64) (h : 0 ≤ a.toInt) : ¬ (b1_0 a ((2147483647 : Int64) * (262144 : Int64)) < (0 : Int64)) ∧ ¬ ((562949953159168 : Int64) < b1_0 a ((2147483647 : Int64) * (262144 : Int64))) := by
  rw [own_max]
  unfold b1_0 b1_11
  simp only [Int64.lt_iff_toInt_lt, Int64.reduceToInt]
  split
  · constructor <;> decide
  · omega
theorem own_i0 (s : Int64) : ¬ (b1_0 (s &&& (562949953421311 : Int64)) ((2147483647 : Int64) * (262144 : Int64)) < (0 : Int64)) ∧ ¬ ((562949953159168 : Int64) < b1_0 (s &&& (562949953421311 : Int64)) ((2147483647 : Int64) * (262144 : Int64))) := by
  have e := Jvm.Kit.i64_mask s 562949953421311 (k := 49) (by decide) (by decide)
  exact own_min _ (by rw [e]; omega)
theorem own_i1 (s : Int64) : ¬ ((s &&& (2147483647 : Int64)) * (262144 : Int64) < (0 : Int64)) ∧ ¬ ((562949953159168 : Int64) < (s &&& (2147483647 : Int64)) * (262144 : Int64)) := by
  simp only [Int64.lt_iff_toInt_lt, own_i1', Int64.reduceToInt]; omega
theorem own_i2 (s : Int64) : ¬ (b1_0 ((s &&& (2147483647 : Int64)) * (262144 : Int64) + 1) ((2147483647 : Int64) * (262144 : Int64)) < (0 : Int64)) ∧ ¬ ((562949953159168 : Int64) < b1_0 ((s &&& (2147483647 : Int64)) * (262144 : Int64) + 1) ((2147483647 : Int64) * (262144 : Int64))) := by
  have e := own_i1' s
  have e2 : ((s &&& (2147483647 : Int64)) * (262144 : Int64) + 1).toInt = ((s &&& (2147483647 : Int64)) * (262144 : Int64)).toInt + 1 := Jvm.Kit.i64_add (by rw [e]; simp only [Int64.reduceToInt]; omega) (by rw [e]; simp only [Int64.reduceToInt]; omega)
  exact own_min _ (by rw [e2, e]; omega)
theorem own_i3 (s : Int64) : ¬ (b4_0 ((s &&& (2147483647 : Int64)) * (262144 : Int64) - 1) 0 < (0 : Int64)) ∧ ¬ ((562949953159168 : Int64) < b4_0 ((s &&& (2147483647 : Int64)) * (262144 : Int64) - 1) 0) := by
  have e := own_i1' s
  have e2 : ((s &&& (2147483647 : Int64)) * (262144 : Int64) - 1).toInt = ((s &&& (2147483647 : Int64)) * (262144 : Int64)).toInt - 1 := Jvm.Kit.i64_sub (by rw [e]; simp only [Int64.reduceToInt]; omega) (by rw [e]; simp only [Int64.reduceToInt]; omega)
  unfold b4_0 b4_11
  split
  · constructor <;> decide
  · rename_i h
    simp only [Int64.lt_iff_toInt_lt, e2, e, Int64.reduceToInt] at h ⊢; omega
theorem pd_1 : parseMethodDescriptor "(JJ)J" = some ⟨[.long, .long], some .long⟩ := by decide +kernel
theorem pn_1 : plainName "com/example/vicinet/vicinet/store/ContentPieceCountPinLaw" = true := by first | (simp [plainName, overriddenIn]; done) | decide +kernel
theorem ef_0 (m : MethodId) (q1 : Int64) (p2 : Int32) : entryFrame m #[(.long q1), (.int p2)] maxLocals = mkF m 0 #[.val (.long q1), .second, .val (.int p2), .unset, .unset, .unset, .unset, .unset, .unset, .unset, .unset, .unset, .unset, .unset, .unset] [] := by first | (simp [entryFrame, mkF, argsToLocals, Value.category, maxLocals]; done) | rfl
def b0_136 (s0_136 : Int32) : Int32 := (nar .boolean s0_136)
def b0_135  : Int32 := (b0_136 (0 : Int32))
def b0_92 (v10_92 : Int64) : Int32 := (if (b2_0 v10_92) < (0 : Int32) then b0_135 else (if (((b2_0 v10_92).toInt64) * (262144 : Int64)) < v10_92 then b0_135 else (if ((((b2_0 v10_92).toInt64) - (1 : Int64)) * (262144 : Int64)) < v10_92 then (b0_136 (1 : Int32)) else b0_135)))
def b0_0 (q1 : Int64) (p2 : Int32) : Int32 := (if (p2 &&& (3 : Int32)) = (0 : Int32) then (b0_92 (b1_0 (q1 &&& (562949953421311 : Int64)) ((2147483647 : Int64) * (262144 : Int64)))) else (if (p2 &&& (3 : Int32)) = (1 : Int32) then (b0_92 ((q1 &&& (2147483647 : Int64)) * (262144 : Int64))) else (if (p2 &&& (3 : Int32)) = (2 : Int32) then (b0_92 (b1_0 (((q1 &&& (2147483647 : Int64)) * (262144 : Int64)) + (1 : Int64)) ((2147483647 : Int64) * (262144 : Int64)))) else (b0_92 (b4_0 (((q1 &&& (2147483647 : Int64)) * (262144 : Int64)) - (1 : Int64)) (0 : Int64))))))
set_option maxRecDepth 65536 in
set_option maxHeartbeats 40000000 in
theorem rm0 (l : Launch) (Z : State) (a0 : Array Value) (hw : ∀ d ∈ tables_1, d.before a0 Z = true) (ws : List Jvm.Cond) (q1 : Int64) (p2 : Int32) (h0 : Heap) (n0 : Nat) (Z0 : n0 ≤ h0.size) :
    MetFree l x (head1 (Jvm.Cond.code x code maxLocals ret :: ws) room_1) (fun a U => a = #[(.long q1), (.int p2)] ∧ Z.Warmed39 U.vm ∧ U.heap = h0) (fun _ _ _ _ _ => True) (fun _ U o U' => ∃ v L, o = .returned v ∧ QK n0 (Kv (some (.int (b0_0 q1 p2))) (fun _ => True)) v U'.heap L ∧ FrameEnd U o U' L room_1.cells room_1.slots) := by
  refine MetFree.of_bodySF (plainFor_of_name pn_1) hisR ?_
  intro p e s m args below meth c s₁ Bd hml0 hP hK
  obtain ⟨rfl, hZ, hh⟩ := hP
  have hx := Bd.exec
  have hby := Bd.bytes
  have hml : c.maxLocals = 15 := hml0
  have hown : s.vm.findClass "com/example/vicinet/vicinet/store/ContentPieceCountPinLaw" = some m.cls := findClass_of_methodNamed Bd.named
  have hnm := (name_of_methodNamed Bd.named Bd.method).1
  have X0 : Stand p l e room_1 s m #[(.long q1), (.int p2)] below meth c s₁ [] 0 0 := Stand.of_body Bd
  have e0 : s₁.heap = h0 := by rw [← hh, Bd.state]; rfl
  have N0 := Fr.nil n0
  refine gl_start (ef_0 m q1 p2) ?_
  show Gl p e below s n0 room_1.cells room_1.slots (Kv (some (.int (if (p2 &&& (3 : Int32)) = (0 : Int32) then (b0_92 (b1_0 (q1 &&& (562949953421311 : Int64)) ((2147483647 : Int64) * (262144 : Int64)))) else (if (p2 &&& (3 : Int32)) = (1 : Int32) then (b0_92 ((q1 &&& (2147483647 : Int64)) * (262144 : Int64))) else (if (p2 &&& (3 : Int32)) = (2 : Int32) then (b0_92 (b1_0 (((q1 &&& (2147483647 : Int64)) * (262144 : Int64)) + (1 : Int64)) ((2147483647 : Int64) * (262144 : Int64)))) else (b0_92 (b4_0 (((q1 &&& (2147483647 : Int64)) * (262144 : Int64)) - (1 : Int64)) (0 : Int64)))))))) (fun _ => True)) (s₁.setTop (mkF m 0 #[.val (.long q1), .second, .val (.int p2), .unset, .unset, .unset, .unset, .unset, .unset, .unset, .unset, .unset, .unset, .unset, .unset] []))
  refine go (fun t k => X0.ldc2Long hx hown (mvT hZ (hw _ (List.mem_of_getElem? (i := 0) rfl))) (g := (mkF m 0 #[.val (.long q1), .second, .val (.int p2), .unset, .unset, .unset, .unset, .unset, .unset, .unset, .unset, .unset, .unset, .unset, .unset] [])) rfl (hb hby at_0) _ k) ?_
  show Gl _ _ _ _ _ _ _ _ (s₁.setTop (mkF m 3 #[.val (.long q1), .second, .val (.int p2), .unset, .unset, .unset, .unset, .unset, .unset, .unset, .unset, .unset, .unset, .unset, .unset] [(.long (262144 : Int64))]))
  refine go (fun t k => XS.lstoreN X0.here hx rfl (hb hby at_3) rfl (l' := #[.val (.long q1), .second, .val (.int p2), .val (.long (262144 : Int64)), .second, .unset, .unset, .unset, .unset, .unset, .unset, .unset, .unset, .unset, .unset]) rfl k) ?_
  show Gl _ _ _ _ _ _ _ _ (s₁.setTop (mkF m 4 #[.val (.long q1), .second, .val (.int p2), .val (.long (262144 : Int64)), .second, .unset, .unset, .unset, .unset, .unset, .unset, .unset, .unset, .unset, .unset] []))
  refine go (fun t k => X0.ldc2Long hx hown (mvT hZ (hw _ (List.mem_of_getElem? (i := 1) rfl))) (g := (mkF m 4 #[.val (.long q1), .second, .val (.int p2), .val (.long (262144 : Int64)), .second, .unset, .unset, .unset, .unset, .unset, .unset, .unset, .unset, .unset, .unset] [])) rfl (hb hby at_4) _ k) ?_
  show Gl _ _ _ _ _ _ _ _ (s₁.setTop (mkF m 7 #[.val (.long q1), .second, .val (.int p2), .val (.long (262144 : Int64)), .second, .unset, .unset, .unset, .unset, .unset, .unset, .unset, .unset, .unset, .unset] [(.long (2147483647 : Int64))]))
  refine go (fun t k => XS.lloadN X0.here hx rfl (hb hby at_7) rfl  k) ?_
  show Gl _ _ _ _ _ _ _ _ (s₁.setTop (mkF m 8 #[.val (.long q1), .second, .val (.int p2), .val (.long (262144 : Int64)), .second, .unset, .unset, .unset, .unset, .unset, .unset, .unset, .unset, .unset, .unset] [(.long (262144 : Int64)), (.long (2147483647 : Int64))]))
  refine go (fun t k => XS.lmul X0.here hx rfl (hb hby at_8) rfl k) ?_
  show Gl _ _ _ _ _ _ _ _ (s₁.setTop (mkF m 9 #[.val (.long q1), .second, .val (.int p2), .val (.long (262144 : Int64)), .second, .unset, .unset, .unset, .unset, .unset, .unset, .unset, .unset, .unset, .unset] [(.long ((2147483647 : Int64) * (262144 : Int64)))]))
  refine go (fun t k => XS.lstore X0.here hx rfl (hb hby at_9) rfl (l' := #[.val (.long q1), .second, .val (.int p2), .val (.long (262144 : Int64)), .second, .val (.long ((2147483647 : Int64) * (262144 : Int64))), .second, .unset, .unset, .unset, .unset, .unset, .unset, .unset, .unset]) rfl k) ?_
  show Gl _ _ _ _ _ _ _ _ (s₁.setTop (mkF m 11 #[.val (.long q1), .second, .val (.int p2), .val (.long (262144 : Int64)), .second, .val (.long ((2147483647 : Int64) * (262144 : Int64))), .second, .unset, .unset, .unset, .unset, .unset, .unset, .unset, .unset] []))
  refine go (fun t k => XS.lloadN X0.here hx rfl (hb hby at_11) rfl  k) ?_
  show Gl _ _ _ _ _ _ _ _ (s₁.setTop (mkF m 12 #[.val (.long q1), .second, .val (.int p2), .val (.long (262144 : Int64)), .second, .val (.long ((2147483647 : Int64) * (262144 : Int64))), .second, .unset, .unset, .unset, .unset, .unset, .unset, .unset, .unset] [(.long q1)]))
  refine go (fun t k => X0.ldc2Long hx hown (mvT hZ (hw _ (List.mem_of_getElem? (i := 1) rfl))) (g := (mkF m 12 #[.val (.long q1), .second, .val (.int p2), .val (.long (262144 : Int64)), .second, .val (.long ((2147483647 : Int64) * (262144 : Int64))), .second, .unset, .unset, .unset, .unset, .unset, .unset, .unset, .unset] [(.long q1)])) rfl (hb hby at_12) _ k) ?_
  show Gl _ _ _ _ _ _ _ _ (s₁.setTop (mkF m 15 #[.val (.long q1), .second, .val (.int p2), .val (.long (262144 : Int64)), .second, .val (.long ((2147483647 : Int64) * (262144 : Int64))), .second, .unset, .unset, .unset, .unset, .unset, .unset, .unset, .unset] [(.long (2147483647 : Int64)), (.long q1)]))
  refine go (fun t k => XS.land X0.here hx rfl (hb hby at_15) rfl k) ?_
  show Gl _ _ _ _ _ _ _ _ (s₁.setTop (mkF m 16 #[.val (.long q1), .second, .val (.int p2), .val (.long (262144 : Int64)), .second, .val (.long ((2147483647 : Int64) * (262144 : Int64))), .second, .unset, .unset, .unset, .unset, .unset, .unset, .unset, .unset] [(.long (q1 &&& (2147483647 : Int64)))]))
  refine go (fun t k => XS.lstore X0.here hx rfl (hb hby at_16) rfl (l' := #[.val (.long q1), .second, .val (.int p2), .val (.long (262144 : Int64)), .second, .val (.long ((2147483647 : Int64) * (262144 : Int64))), .second, .val (.long (q1 &&& (2147483647 : Int64))), .second, .unset, .unset, .unset, .unset, .unset, .unset]) rfl k) ?_
  show Gl _ _ _ _ _ _ _ _ (s₁.setTop (mkF m 18 #[.val (.long q1), .second, .val (.int p2), .val (.long (262144 : Int64)), .second, .val (.long ((2147483647 : Int64) * (262144 : Int64))), .second, .val (.long (q1 &&& (2147483647 : Int64))), .second, .unset, .unset, .unset, .unset, .unset, .unset] []))
  refine go (fun t k => XS.iloadN X0.here hx rfl (hb hby at_18) rfl  k) ?_
  show Gl _ _ _ _ _ _ _ _ (s₁.setTop (mkF m 19 #[.val (.long q1), .second, .val (.int p2), .val (.long (262144 : Int64)), .second, .val (.long ((2147483647 : Int64) * (262144 : Int64))), .second, .val (.long (q1 &&& (2147483647 : Int64))), .second, .unset, .unset, .unset, .unset, .unset, .unset] [(.int p2)]))
  refine go (fun t k => XS.iconst X0.here hx rfl (hb hby at_19) k) ?_
  show Gl _ _ _ _ _ _ _ _ (s₁.setTop (mkF m 20 #[.val (.long q1), .second, .val (.int p2), .val (.long (262144 : Int64)), .second, .val (.long ((2147483647 : Int64) * (262144 : Int64))), .second, .val (.long (q1 &&& (2147483647 : Int64))), .second, .unset, .unset, .unset, .unset, .unset, .unset] [(.int (3 : Int32)), (.int p2)]))
  refine go (fun t k => XS.iand X0.here hx rfl (hb hby at_20) rfl k) ?_
  show Gl _ _ _ _ _ _ _ _ (s₁.setTop (mkF m 21 #[.val (.long q1), .second, .val (.int p2), .val (.long (262144 : Int64)), .second, .val (.long ((2147483647 : Int64) * (262144 : Int64))), .second, .val (.long (q1 &&& (2147483647 : Int64))), .second, .unset, .unset, .unset, .unset, .unset, .unset] [(.int (p2 &&& (3 : Int32)))]))
  refine go (fun t k => XS.istore X0.here hx rfl (hb hby at_21) rfl (l' := #[.val (.long q1), .second, .val (.int p2), .val (.long (262144 : Int64)), .second, .val (.long ((2147483647 : Int64) * (262144 : Int64))), .second, .val (.long (q1 &&& (2147483647 : Int64))), .second, .val (.int (p2 &&& (3 : Int32))), .unset, .unset, .unset, .unset, .unset]) rfl k) ?_
  show Gl _ _ _ _ _ _ _ _ (s₁.setTop (mkF m 23 #[.val (.long q1), .second, .val (.int p2), .val (.long (262144 : Int64)), .second, .val (.long ((2147483647 : Int64) * (262144 : Int64))), .second, .val (.long (q1 &&& (2147483647 : Int64))), .second, .val (.int (p2 &&& (3 : Int32))), .unset, .unset, .unset, .unset, .unset] []))
  refine go (fun t k => XS.iload X0.here hx rfl (hb hby at_23) rfl  k) ?_
  show Gl _ _ _ _ _ _ _ _ (s₁.setTop (mkF m 25 #[.val (.long q1), .second, .val (.int p2), .val (.long (262144 : Int64)), .second, .val (.long ((2147483647 : Int64) * (262144 : Int64))), .second, .val (.long (q1 &&& (2147483647 : Int64))), .second, .val (.int (p2 &&& (3 : Int32))), .unset, .unset, .unset, .unset, .unset] [(.int (p2 &&& (3 : Int32)))]))
  have J92 : ∀ (v10_92 : Int64) (hv10 : ¬ (v10_92 < (0 : Int64)) ∧ ¬ ((562949953159168 : Int64) < v10_92)) (TJ92 : State) (lJ92 : List Loc) (XJ92 : Stand p l e room_1 s m #[(.long q1), (.int p2)] below meth c TJ92 lJ92 0 0) (eJ92 : TJ92.heap = h0) (NJ92 : Fr n0 lJ92), Gl p e below s n0 room_1.cells room_1.slots (Kv (some (.int (b0_92 v10_92))) (fun _ => True)) (TJ92.setTop (mkF m 92 #[.val (.long q1), .second, .val (.int p2), .val (.long (262144 : Int64)), .second, .val (.long ((2147483647 : Int64) * (262144 : Int64))), .second, .val (.long (q1 &&& (2147483647 : Int64))), .second, .val (.int (p2 &&& (3 : Int32))), .val (.long v10_92), .second, .unset, .unset, .unset] [])) := by
    intro v10_92 hv10 TJ92 lJ92 XJ92 eJ92 NJ92
    show Gl _ _ _ _ _ _ _ (Kv (some (.int (if (b2_0 v10_92) < (0 : Int32) then b0_135 else (if (((b2_0 v10_92).toInt64) * (262144 : Int64)) < v10_92 then b0_135 else (if ((((b2_0 v10_92).toInt64) - (1 : Int64)) * (262144 : Int64)) < v10_92 then (b0_136 (1 : Int32)) else b0_135))))) _) _
    refine go (fun t k => XS.lload XJ92.here hx rfl (hb hby at_92) rfl  k) ?_
    show Gl _ _ _ _ _ _ _ _ (TJ92.setTop (mkF m 94 #[.val (.long q1), .second, .val (.int p2), .val (.long (262144 : Int64)), .second, .val (.long ((2147483647 : Int64) * (262144 : Int64))), .second, .val (.long (q1 &&& (2147483647 : Int64))), .second, .val (.int (p2 &&& (3 : Int32))), .val (.long v10_92), .second, .unset, .unset, .unset] [(.long v10_92)]))
    obtain ⟨_, _, ⟨T2, L2, k2, n2⟩, -, X2, ⟨Lc2, hQ2, l2, y2, z2⟩, st2⟩ := Jvm.LawKit.callS XJ92 hx (y := (⟨"com/example/vicinet/vicinet/store/Content", "pieceCount", "(J)I"⟩ : MethodName)) hown (mvT hZ (hw _ (List.mem_of_getElem? (i := 6) rfl))) (mvT hZ (hw _ (List.mem_of_getElem? (i := 7) rfl))) (mvT hZ (hw _ (List.mem_of_getElem? (i := 8) rfl))) (mvT hZ (hw _ (List.mem_of_getElem? (i := 9) rfl))) (by decide) (backOf (W := 0) (rm2 l Z a0 hw [] v10_92 h0 n0 Z0 (own_c1 hv10)) hZ (hw _ (List.mem_of_getElem? (i := 9) rfl)) (hw _ (List.mem_of_getElem? (i := 8) rfl)) (by decide) (by decide)) (g := (mkF m 94 #[.val (.long q1), .second, .val (.int p2), .val (.long (262144 : Int64)), .second, .val (.long ((2147483647 : Int64) * (262144 : Int64))), .second, .val (.long (q1 &&& (2147483647 : Int64))), .second, .val (.int (p2 &&& (3 : Int32))), .val (.long v10_92), .second, .unset, .unset, .unset] [(.long v10_92)])) rfl (by rw [hml]; rfl) (argsL := [(.long v10_92)]) (rest := []) (lenOf pd_0 rfl) rfl (by show 2 * 0 + _ ≤ _; exact Nat.le_of_eq rfl) (hb hby at_94) (fun _ _ => ⟨rfl, eJ92, (by decide : 0 + 0 ≤ _), (by decide : 0 + 0 ≤ _)⟩)
    dsimp only [Pt.U, Pt.locs, Pt.cells, Pt.slots] at X2 l2 y2 z2 st2 hQ2
    subst l2 y2 z2
    have X2 : Stand p l e room_1 s m #[(.long q1), (.int p2)] below meth c T2 _ 0 0 := X2
    obtain ⟨⟨rfl, e2'⟩, N2q⟩ := hQ2
    have e2 : T2.heap = h0 := e2'
    have N2 := Fr.app NJ92 N2q
    refine go (fun t k => st2 _ k) ?_
    show Gl _ _ _ _ _ _ _ _ (T2.setTop (mkF m 97 #[.val (.long q1), .second, .val (.int p2), .val (.long (262144 : Int64)), .second, .val (.long ((2147483647 : Int64) * (262144 : Int64))), .second, .val (.long (q1 &&& (2147483647 : Int64))), .second, .val (.int (p2 &&& (3 : Int32))), .val (.long v10_92), .second, .unset, .unset, .unset] [(.int (b2_0 v10_92))]))
    refine go (fun t k => XS.istore X2.here hx rfl (hb hby at_97) rfl (l' := #[.val (.long q1), .second, .val (.int p2), .val (.long (262144 : Int64)), .second, .val (.long ((2147483647 : Int64) * (262144 : Int64))), .second, .val (.long (q1 &&& (2147483647 : Int64))), .second, .val (.int (p2 &&& (3 : Int32))), .val (.long v10_92), .second, .val (.int (b2_0 v10_92)), .unset, .unset]) rfl k) ?_
    show Gl _ _ _ _ _ _ _ _ (T2.setTop (mkF m 99 #[.val (.long q1), .second, .val (.int p2), .val (.long (262144 : Int64)), .second, .val (.long ((2147483647 : Int64) * (262144 : Int64))), .second, .val (.long (q1 &&& (2147483647 : Int64))), .second, .val (.int (p2 &&& (3 : Int32))), .val (.long v10_92), .second, .val (.int (b2_0 v10_92)), .unset, .unset] []))
    refine go (fun t k => XS.iload X2.here hx rfl (hb hby at_99) rfl  k) ?_
    show Gl _ _ _ _ _ _ _ _ (T2.setTop (mkF m 101 #[.val (.long q1), .second, .val (.int p2), .val (.long (262144 : Int64)), .second, .val (.long ((2147483647 : Int64) * (262144 : Int64))), .second, .val (.long (q1 &&& (2147483647 : Int64))), .second, .val (.int (p2 &&& (3 : Int32))), .val (.long v10_92), .second, .val (.int (b2_0 v10_92)), .unset, .unset] [(.int (b2_0 v10_92))]))
    refine go (fun t k => XS.i2l X2.here hx rfl (hb hby at_101) rfl k) ?_
    show Gl _ _ _ _ _ _ _ _ (T2.setTop (mkF m 102 #[.val (.long q1), .second, .val (.int p2), .val (.long (262144 : Int64)), .second, .val (.long ((2147483647 : Int64) * (262144 : Int64))), .second, .val (.long (q1 &&& (2147483647 : Int64))), .second, .val (.int (p2 &&& (3 : Int32))), .val (.long v10_92), .second, .val (.int (b2_0 v10_92)), .unset, .unset] [(.long ((b2_0 v10_92).toInt64))]))
    refine go (fun t k => XS.lstore X2.here hx rfl (hb hby at_102) rfl (l' := #[.val (.long q1), .second, .val (.int p2), .val (.long (262144 : Int64)), .second, .val (.long ((2147483647 : Int64) * (262144 : Int64))), .second, .val (.long (q1 &&& (2147483647 : Int64))), .second, .val (.int (p2 &&& (3 : Int32))), .val (.long v10_92), .second, .val (.int (b2_0 v10_92)), .val (.long ((b2_0 v10_92).toInt64)), .second]) rfl k) ?_
    show Gl _ _ _ _ _ _ _ _ (T2.setTop (mkF m 104 #[.val (.long q1), .second, .val (.int p2), .val (.long (262144 : Int64)), .second, .val (.long ((2147483647 : Int64) * (262144 : Int64))), .second, .val (.long (q1 &&& (2147483647 : Int64))), .second, .val (.int (p2 &&& (3 : Int32))), .val (.long v10_92), .second, .val (.int (b2_0 v10_92)), .val (.long ((b2_0 v10_92).toInt64)), .second] []))
    refine go (fun t k => XS.iload X2.here hx rfl (hb hby at_104) rfl  k) ?_
    show Gl _ _ _ _ _ _ _ _ (T2.setTop (mkF m 106 #[.val (.long q1), .second, .val (.int p2), .val (.long (262144 : Int64)), .second, .val (.long ((2147483647 : Int64) * (262144 : Int64))), .second, .val (.long (q1 &&& (2147483647 : Int64))), .second, .val (.int (p2 &&& (3 : Int32))), .val (.long v10_92), .second, .val (.int (b2_0 v10_92)), .val (.long ((b2_0 v10_92).toInt64)), .second] [(.int (b2_0 v10_92))]))
    have J136 : ∀ (s0_136 : Int32) (TJ136 : State) (lJ136 : List Loc) (XJ136 : Stand p l e room_1 s m #[(.long q1), (.int p2)] below meth c TJ136 lJ136 0 0) (eJ136 : TJ136.heap = h0) (NJ136 : Fr n0 lJ136), Gl p e below s n0 room_1.cells room_1.slots (Kv (some (.int (b0_136 s0_136))) (fun _ => True)) (TJ136.setTop (mkF m 136 #[.val (.long q1), .second, .val (.int p2), .val (.long (262144 : Int64)), .second, .val (.long ((2147483647 : Int64) * (262144 : Int64))), .second, .val (.long (q1 &&& (2147483647 : Int64))), .second, .val (.int (p2 &&& (3 : Int32))), .val (.long v10_92), .second, .val (.int (b2_0 v10_92)), .val (.long ((b2_0 v10_92).toInt64)), .second] [(.int s0_136)])) := by
      intro s0_136 TJ136 lJ136 XJ136 eJ136 NJ136
      show Gl _ _ _ _ _ _ _ (Kv (some (.int (nar .boolean s0_136))) _) _
      exact endN XJ136 hx Bd (t := .boolean) (by simp) (hb hby at_136) ⟨rfl, trivial⟩ NJ136 (by decide) (by decide)
    have J135 : ∀  (TJ135 : State) (lJ135 : List Loc) (XJ135 : Stand p l e room_1 s m #[(.long q1), (.int p2)] below meth c TJ135 lJ135 0 0) (eJ135 : TJ135.heap = h0) (NJ135 : Fr n0 lJ135), Gl p e below s n0 room_1.cells room_1.slots (Kv (some (.int b0_135)) (fun _ => True)) (TJ135.setTop (mkF m 135 #[.val (.long q1), .second, .val (.int p2), .val (.long (262144 : Int64)), .second, .val (.long ((2147483647 : Int64) * (262144 : Int64))), .second, .val (.long (q1 &&& (2147483647 : Int64))), .second, .val (.int (p2 &&& (3 : Int32))), .val (.long v10_92), .second, .val (.int (b2_0 v10_92)), .val (.long ((b2_0 v10_92).toInt64)), .second] [])) := by
      intro  TJ135 lJ135 XJ135 eJ135 NJ135
      show Gl _ _ _ _ _ _ _ (Kv (some (.int (b0_136 (0 : Int32)))) _) _
      refine go (fun t k => XS.iconst XJ135.here hx rfl (hb hby at_135) k) ?_
      show Gl _ _ _ _ _ _ _ _ (TJ135.setTop (mkF m 136 #[.val (.long q1), .second, .val (.int p2), .val (.long (262144 : Int64)), .second, .val (.long ((2147483647 : Int64) * (262144 : Int64))), .second, .val (.long (q1 &&& (2147483647 : Int64))), .second, .val (.int (p2 &&& (3 : Int32))), .val (.long v10_92), .second, .val (.int (b2_0 v10_92)), .val (.long ((b2_0 v10_92).toInt64)), .second] [(.int (0 : Int32))]))
      exact J136 (0 : Int32) TJ135 _ XJ135 eJ135 NJ135
    refine gI (c := (b2_0 v10_92) < (0 : Int32)) (fun hc106 => ?_) (fun hc106 => ?_)
    · refine go (fun t k => XS.ifYes X2.here hx rfl (pc0 := 106) (pc' := 135) rfl (hb hby at_106) rfl ((if0 _ _).trans (tlt hc106).1) (by decide) (by decide) k) ?_
      show Gl _ _ _ _ _ _ _ _ (T2.setTop (mkF m 135 #[.val (.long q1), .second, .val (.int p2), .val (.long (262144 : Int64)), .second, .val (.long ((2147483647 : Int64) * (262144 : Int64))), .second, .val (.long (q1 &&& (2147483647 : Int64))), .second, .val (.int (p2 &&& (3 : Int32))), .val (.long v10_92), .second, .val (.int (b2_0 v10_92)), .val (.long ((b2_0 v10_92).toInt64)), .second] []))
      exact J135  T2 _ X2 e2 N2
    · refine go (fun t k => XS.ifNo X2.here hx rfl (hb hby at_106) rfl ((if0 _ _).trans (flt hc106).1) k) ?_
      show Gl _ _ _ _ _ _ _ _ (T2.setTop (mkF m 109 #[.val (.long q1), .second, .val (.int p2), .val (.long (262144 : Int64)), .second, .val (.long ((2147483647 : Int64) * (262144 : Int64))), .second, .val (.long (q1 &&& (2147483647 : Int64))), .second, .val (.int (p2 &&& (3 : Int32))), .val (.long v10_92), .second, .val (.int (b2_0 v10_92)), .val (.long ((b2_0 v10_92).toInt64)), .second] []))
      refine go (fun t k => XS.lload X2.here hx rfl (hb hby at_109) rfl  k) ?_
      show Gl _ _ _ _ _ _ _ _ (T2.setTop (mkF m 111 #[.val (.long q1), .second, .val (.int p2), .val (.long (262144 : Int64)), .second, .val (.long ((2147483647 : Int64) * (262144 : Int64))), .second, .val (.long (q1 &&& (2147483647 : Int64))), .second, .val (.int (p2 &&& (3 : Int32))), .val (.long v10_92), .second, .val (.int (b2_0 v10_92)), .val (.long ((b2_0 v10_92).toInt64)), .second] [(.long ((b2_0 v10_92).toInt64))]))
      refine go (fun t k => XS.lloadN X2.here hx rfl (hb hby at_111) rfl  k) ?_
      show Gl _ _ _ _ _ _ _ _ (T2.setTop (mkF m 112 #[.val (.long q1), .second, .val (.int p2), .val (.long (262144 : Int64)), .second, .val (.long ((2147483647 : Int64) * (262144 : Int64))), .second, .val (.long (q1 &&& (2147483647 : Int64))), .second, .val (.int (p2 &&& (3 : Int32))), .val (.long v10_92), .second, .val (.int (b2_0 v10_92)), .val (.long ((b2_0 v10_92).toInt64)), .second] [(.long (262144 : Int64)), (.long ((b2_0 v10_92).toInt64))]))
      refine go (fun t k => XS.lmul X2.here hx rfl (hb hby at_112) rfl k) ?_
      show Gl _ _ _ _ _ _ _ _ (T2.setTop (mkF m 113 #[.val (.long q1), .second, .val (.int p2), .val (.long (262144 : Int64)), .second, .val (.long ((2147483647 : Int64) * (262144 : Int64))), .second, .val (.long (q1 &&& (2147483647 : Int64))), .second, .val (.int (p2 &&& (3 : Int32))), .val (.long v10_92), .second, .val (.int (b2_0 v10_92)), .val (.long ((b2_0 v10_92).toInt64)), .second] [(.long (((b2_0 v10_92).toInt64) * (262144 : Int64)))]))
      refine go (fun t k => XS.lload X2.here hx rfl (hb hby at_113) rfl  k) ?_
      show Gl _ _ _ _ _ _ _ _ (T2.setTop (mkF m 115 #[.val (.long q1), .second, .val (.int p2), .val (.long (262144 : Int64)), .second, .val (.long ((2147483647 : Int64) * (262144 : Int64))), .second, .val (.long (q1 &&& (2147483647 : Int64))), .second, .val (.int (p2 &&& (3 : Int32))), .val (.long v10_92), .second, .val (.int (b2_0 v10_92)), .val (.long ((b2_0 v10_92).toInt64)), .second] [(.long v10_92), (.long (((b2_0 v10_92).toInt64) * (262144 : Int64)))]))
      refine go (fun t k => XS.lcmp X2.here hx rfl (hb hby at_115) rfl k) ?_
      show Gl _ _ _ _ _ _ _ _ (T2.setTop (mkF m 116 #[.val (.long q1), .second, .val (.int p2), .val (.long (262144 : Int64)), .second, .val (.long ((2147483647 : Int64) * (262144 : Int64))), .second, .val (.long (q1 &&& (2147483647 : Int64))), .second, .val (.int (p2 &&& (3 : Int32))), .val (.long v10_92), .second, .val (.int (b2_0 v10_92)), .val (.long ((b2_0 v10_92).toInt64)), .second] [(.int (lcmpW (((b2_0 v10_92).toInt64) * (262144 : Int64)) v10_92))]))
      refine gI (c := (((b2_0 v10_92).toInt64) * (262144 : Int64)) < v10_92) (fun hc116 => ?_) (fun hc116 => ?_)
      · refine go (fun t k => XS.ifYes X2.here hx rfl (pc0 := 116) (pc' := 135) rfl (hb hby at_116) rfl ((if0 _ _).trans (tlt ((lw_lt (((b2_0 v10_92).toInt64) * (262144 : Int64)) v10_92).mpr hc116)).1) (by decide) (by decide) k) ?_
        show Gl _ _ _ _ _ _ _ _ (T2.setTop (mkF m 135 #[.val (.long q1), .second, .val (.int p2), .val (.long (262144 : Int64)), .second, .val (.long ((2147483647 : Int64) * (262144 : Int64))), .second, .val (.long (q1 &&& (2147483647 : Int64))), .second, .val (.int (p2 &&& (3 : Int32))), .val (.long v10_92), .second, .val (.int (b2_0 v10_92)), .val (.long ((b2_0 v10_92).toInt64)), .second] []))
        exact J135  T2 _ X2 e2 N2
      · refine go (fun t k => XS.ifNo X2.here hx rfl (hb hby at_116) rfl ((if0 _ _).trans (flt (mt (lw_lt (((b2_0 v10_92).toInt64) * (262144 : Int64)) v10_92).mp hc116)).1) k) ?_
        show Gl _ _ _ _ _ _ _ _ (T2.setTop (mkF m 119 #[.val (.long q1), .second, .val (.int p2), .val (.long (262144 : Int64)), .second, .val (.long ((2147483647 : Int64) * (262144 : Int64))), .second, .val (.long (q1 &&& (2147483647 : Int64))), .second, .val (.int (p2 &&& (3 : Int32))), .val (.long v10_92), .second, .val (.int (b2_0 v10_92)), .val (.long ((b2_0 v10_92).toInt64)), .second] []))
        refine go (fun t k => XS.lload X2.here hx rfl (hb hby at_119) rfl  k) ?_
        show Gl _ _ _ _ _ _ _ _ (T2.setTop (mkF m 121 #[.val (.long q1), .second, .val (.int p2), .val (.long (262144 : Int64)), .second, .val (.long ((2147483647 : Int64) * (262144 : Int64))), .second, .val (.long (q1 &&& (2147483647 : Int64))), .second, .val (.int (p2 &&& (3 : Int32))), .val (.long v10_92), .second, .val (.int (b2_0 v10_92)), .val (.long ((b2_0 v10_92).toInt64)), .second] [(.long ((b2_0 v10_92).toInt64))]))
        refine go (fun t k => XS.lconst X2.here hx rfl (hb hby at_121) k) ?_
        show Gl _ _ _ _ _ _ _ _ (T2.setTop (mkF m 122 #[.val (.long q1), .second, .val (.int p2), .val (.long (262144 : Int64)), .second, .val (.long ((2147483647 : Int64) * (262144 : Int64))), .second, .val (.long (q1 &&& (2147483647 : Int64))), .second, .val (.int (p2 &&& (3 : Int32))), .val (.long v10_92), .second, .val (.int (b2_0 v10_92)), .val (.long ((b2_0 v10_92).toInt64)), .second] [(.long (1 : Int64)), (.long ((b2_0 v10_92).toInt64))]))
        refine go (fun t k => XS.lsub X2.here hx rfl (hb hby at_122) rfl k) ?_
        show Gl _ _ _ _ _ _ _ _ (T2.setTop (mkF m 123 #[.val (.long q1), .second, .val (.int p2), .val (.long (262144 : Int64)), .second, .val (.long ((2147483647 : Int64) * (262144 : Int64))), .second, .val (.long (q1 &&& (2147483647 : Int64))), .second, .val (.int (p2 &&& (3 : Int32))), .val (.long v10_92), .second, .val (.int (b2_0 v10_92)), .val (.long ((b2_0 v10_92).toInt64)), .second] [(.long (((b2_0 v10_92).toInt64) - (1 : Int64)))]))
        refine go (fun t k => XS.lloadN X2.here hx rfl (hb hby at_123) rfl  k) ?_
        show Gl _ _ _ _ _ _ _ _ (T2.setTop (mkF m 124 #[.val (.long q1), .second, .val (.int p2), .val (.long (262144 : Int64)), .second, .val (.long ((2147483647 : Int64) * (262144 : Int64))), .second, .val (.long (q1 &&& (2147483647 : Int64))), .second, .val (.int (p2 &&& (3 : Int32))), .val (.long v10_92), .second, .val (.int (b2_0 v10_92)), .val (.long ((b2_0 v10_92).toInt64)), .second] [(.long (262144 : Int64)), (.long (((b2_0 v10_92).toInt64) - (1 : Int64)))]))
        refine go (fun t k => XS.lmul X2.here hx rfl (hb hby at_124) rfl k) ?_
        show Gl _ _ _ _ _ _ _ _ (T2.setTop (mkF m 125 #[.val (.long q1), .second, .val (.int p2), .val (.long (262144 : Int64)), .second, .val (.long ((2147483647 : Int64) * (262144 : Int64))), .second, .val (.long (q1 &&& (2147483647 : Int64))), .second, .val (.int (p2 &&& (3 : Int32))), .val (.long v10_92), .second, .val (.int (b2_0 v10_92)), .val (.long ((b2_0 v10_92).toInt64)), .second] [(.long ((((b2_0 v10_92).toInt64) - (1 : Int64)) * (262144 : Int64)))]))
        refine go (fun t k => XS.lload X2.here hx rfl (hb hby at_125) rfl  k) ?_
        show Gl _ _ _ _ _ _ _ _ (T2.setTop (mkF m 127 #[.val (.long q1), .second, .val (.int p2), .val (.long (262144 : Int64)), .second, .val (.long ((2147483647 : Int64) * (262144 : Int64))), .second, .val (.long (q1 &&& (2147483647 : Int64))), .second, .val (.int (p2 &&& (3 : Int32))), .val (.long v10_92), .second, .val (.int (b2_0 v10_92)), .val (.long ((b2_0 v10_92).toInt64)), .second] [(.long v10_92), (.long ((((b2_0 v10_92).toInt64) - (1 : Int64)) * (262144 : Int64)))]))
        refine go (fun t k => XS.lcmp X2.here hx rfl (hb hby at_127) rfl k) ?_
        show Gl _ _ _ _ _ _ _ _ (T2.setTop (mkF m 128 #[.val (.long q1), .second, .val (.int p2), .val (.long (262144 : Int64)), .second, .val (.long ((2147483647 : Int64) * (262144 : Int64))), .second, .val (.long (q1 &&& (2147483647 : Int64))), .second, .val (.int (p2 &&& (3 : Int32))), .val (.long v10_92), .second, .val (.int (b2_0 v10_92)), .val (.long ((b2_0 v10_92).toInt64)), .second] [(.int (lcmpW ((((b2_0 v10_92).toInt64) - (1 : Int64)) * (262144 : Int64)) v10_92))]))
        refine gI (c := ((((b2_0 v10_92).toInt64) - (1 : Int64)) * (262144 : Int64)) < v10_92) (fun hc128 => ?_) (fun hc128 => ?_)
        · refine go (fun t k => XS.ifNo X2.here hx rfl (hb hby at_128) rfl ((if0 _ _).trans (tlt ((lw_lt ((((b2_0 v10_92).toInt64) - (1 : Int64)) * (262144 : Int64)) v10_92).mpr hc128)).2.1) k) ?_
          show Gl _ _ _ _ _ _ _ _ (T2.setTop (mkF m 131 #[.val (.long q1), .second, .val (.int p2), .val (.long (262144 : Int64)), .second, .val (.long ((2147483647 : Int64) * (262144 : Int64))), .second, .val (.long (q1 &&& (2147483647 : Int64))), .second, .val (.int (p2 &&& (3 : Int32))), .val (.long v10_92), .second, .val (.int (b2_0 v10_92)), .val (.long ((b2_0 v10_92).toInt64)), .second] []))
          refine go (fun t k => XS.iconst X2.here hx rfl (hb hby at_131) k) ?_
          show Gl _ _ _ _ _ _ _ _ (T2.setTop (mkF m 132 #[.val (.long q1), .second, .val (.int p2), .val (.long (262144 : Int64)), .second, .val (.long ((2147483647 : Int64) * (262144 : Int64))), .second, .val (.long (q1 &&& (2147483647 : Int64))), .second, .val (.int (p2 &&& (3 : Int32))), .val (.long v10_92), .second, .val (.int (b2_0 v10_92)), .val (.long ((b2_0 v10_92).toInt64)), .second] [(.int (1 : Int32))]))
          refine go (fun t k => XS.goto X2.here hx rfl (pc0 := 132) (pc' := 136) rfl (hb hby at_132) (by decide) (by decide) k) ?_
          show Gl _ _ _ _ _ _ _ _ (T2.setTop (mkF m 136 #[.val (.long q1), .second, .val (.int p2), .val (.long (262144 : Int64)), .second, .val (.long ((2147483647 : Int64) * (262144 : Int64))), .second, .val (.long (q1 &&& (2147483647 : Int64))), .second, .val (.int (p2 &&& (3 : Int32))), .val (.long v10_92), .second, .val (.int (b2_0 v10_92)), .val (.long ((b2_0 v10_92).toInt64)), .second] [(.int (1 : Int32))]))
          exact J136 (1 : Int32) T2 _ X2 e2 N2
        · refine go (fun t k => XS.ifYes X2.here hx rfl (pc0 := 128) (pc' := 135) rfl (hb hby at_128) rfl ((if0 _ _).trans (flt (mt (lw_lt ((((b2_0 v10_92).toInt64) - (1 : Int64)) * (262144 : Int64)) v10_92).mp hc128)).2.1) (by decide) (by decide) k) ?_
          show Gl _ _ _ _ _ _ _ _ (T2.setTop (mkF m 135 #[.val (.long q1), .second, .val (.int p2), .val (.long (262144 : Int64)), .second, .val (.long ((2147483647 : Int64) * (262144 : Int64))), .second, .val (.long (q1 &&& (2147483647 : Int64))), .second, .val (.int (p2 &&& (3 : Int32))), .val (.long v10_92), .second, .val (.int (b2_0 v10_92)), .val (.long ((b2_0 v10_92).toInt64)), .second] []))
          exact J135  T2 _ X2 e2 N2
  refine gI (c := (p2 &&& (3 : Int32)) = (0 : Int32)) (fun hc25 => ?_) (fun hc25 => ?_)
  · refine go (fun t k => XS.ifNo X0.here hx rfl (hb hby at_25) rfl ((if0 _ _).trans (teq hc25).2) k) ?_
    show Gl _ _ _ _ _ _ _ _ (s₁.setTop (mkF m 28 #[.val (.long q1), .second, .val (.int p2), .val (.long (262144 : Int64)), .second, .val (.long ((2147483647 : Int64) * (262144 : Int64))), .second, .val (.long (q1 &&& (2147483647 : Int64))), .second, .val (.int (p2 &&& (3 : Int32))), .unset, .unset, .unset, .unset, .unset] []))
    refine go (fun t k => XS.lloadN X0.here hx rfl (hb hby at_28) rfl  k) ?_
    show Gl _ _ _ _ _ _ _ _ (s₁.setTop (mkF m 29 #[.val (.long q1), .second, .val (.int p2), .val (.long (262144 : Int64)), .second, .val (.long ((2147483647 : Int64) * (262144 : Int64))), .second, .val (.long (q1 &&& (2147483647 : Int64))), .second, .val (.int (p2 &&& (3 : Int32))), .unset, .unset, .unset, .unset, .unset] [(.long q1)]))
    refine go (fun t k => X0.ldc2Long hx hown (mvT hZ (hw _ (List.mem_of_getElem? (i := 14) rfl))) (g := (mkF m 29 #[.val (.long q1), .second, .val (.int p2), .val (.long (262144 : Int64)), .second, .val (.long ((2147483647 : Int64) * (262144 : Int64))), .second, .val (.long (q1 &&& (2147483647 : Int64))), .second, .val (.int (p2 &&& (3 : Int32))), .unset, .unset, .unset, .unset, .unset] [(.long q1)])) rfl (hb hby at_29) _ k) ?_
    show Gl _ _ _ _ _ _ _ _ (s₁.setTop (mkF m 32 #[.val (.long q1), .second, .val (.int p2), .val (.long (262144 : Int64)), .second, .val (.long ((2147483647 : Int64) * (262144 : Int64))), .second, .val (.long (q1 &&& (2147483647 : Int64))), .second, .val (.int (p2 &&& (3 : Int32))), .unset, .unset, .unset, .unset, .unset] [(.long (562949953421311 : Int64)), (.long q1)]))
    refine go (fun t k => XS.land X0.here hx rfl (hb hby at_32) rfl k) ?_
    show Gl _ _ _ _ _ _ _ _ (s₁.setTop (mkF m 33 #[.val (.long q1), .second, .val (.int p2), .val (.long (262144 : Int64)), .second, .val (.long ((2147483647 : Int64) * (262144 : Int64))), .second, .val (.long (q1 &&& (2147483647 : Int64))), .second, .val (.int (p2 &&& (3 : Int32))), .unset, .unset, .unset, .unset, .unset] [(.long (q1 &&& (562949953421311 : Int64)))]))
    refine go (fun t k => XS.lload X0.here hx rfl (hb hby at_33) rfl  k) ?_
    show Gl _ _ _ _ _ _ _ _ (s₁.setTop (mkF m 35 #[.val (.long q1), .second, .val (.int p2), .val (.long (262144 : Int64)), .second, .val (.long ((2147483647 : Int64) * (262144 : Int64))), .second, .val (.long (q1 &&& (2147483647 : Int64))), .second, .val (.int (p2 &&& (3 : Int32))), .unset, .unset, .unset, .unset, .unset] [(.long ((2147483647 : Int64) * (262144 : Int64))), (.long (q1 &&& (562949953421311 : Int64)))]))
    obtain ⟨_, _, ⟨T5, L5, k5, n5⟩, -, X5, ⟨Lc5, hQ5, l5, y5, z5⟩, st5⟩ := Jvm.LawKit.callS X0 hx (y := (⟨"java/lang/Math", "min", "(JJ)J"⟩ : MethodName)) hown (mvT hZ (hw _ (List.mem_of_getElem? (i := 2) rfl))) (mvT hZ (hw _ (List.mem_of_getElem? (i := 3) rfl))) (mvT hZ (hw _ (List.mem_of_getElem? (i := 4) rfl))) (mvT hZ (hw _ (List.mem_of_getElem? (i := 5) rfl))) (by decide) (backOf (W := 0) (rm1 l Z a0 hw [] (q1 &&& (562949953421311 : Int64)) ((2147483647 : Int64) * (262144 : Int64)) h0 n0 Z0 ) hZ (hw _ (List.mem_of_getElem? (i := 5) rfl)) (hw _ (List.mem_of_getElem? (i := 4) rfl)) (by decide) (by decide)) (g := (mkF m 35 #[.val (.long q1), .second, .val (.int p2), .val (.long (262144 : Int64)), .second, .val (.long ((2147483647 : Int64) * (262144 : Int64))), .second, .val (.long (q1 &&& (2147483647 : Int64))), .second, .val (.int (p2 &&& (3 : Int32))), .unset, .unset, .unset, .unset, .unset] [(.long ((2147483647 : Int64) * (262144 : Int64))), (.long (q1 &&& (562949953421311 : Int64)))])) rfl (by rw [hml]; rfl) (argsL := [(.long (q1 &&& (562949953421311 : Int64))), (.long ((2147483647 : Int64) * (262144 : Int64)))]) (rest := []) (lenOf pd_1 rfl) rfl (by show 2 * 0 + _ ≤ _; exact Nat.le_of_eq rfl) (hb hby at_35) (fun _ _ => ⟨rfl, e0, (by decide : 0 + 0 ≤ _), (by decide : 0 + 0 ≤ _)⟩)
    dsimp only [Pt.U, Pt.locs, Pt.cells, Pt.slots] at X5 l5 y5 z5 st5 hQ5
    subst l5 y5 z5
    have X5 : Stand p l e room_1 s m #[(.long q1), (.int p2)] below meth c T5 _ 0 0 := X5
    obtain ⟨⟨rfl, e5'⟩, N5q⟩ := hQ5
    have e5 : T5.heap = h0 := e5'
    have N5 := Fr.app N0 N5q
    refine go (fun t k => st5 _ k) ?_
    show Gl _ _ _ _ _ _ _ _ (T5.setTop (mkF m 38 #[.val (.long q1), .second, .val (.int p2), .val (.long (262144 : Int64)), .second, .val (.long ((2147483647 : Int64) * (262144 : Int64))), .second, .val (.long (q1 &&& (2147483647 : Int64))), .second, .val (.int (p2 &&& (3 : Int32))), .unset, .unset, .unset, .unset, .unset] [(.long (b1_0 (q1 &&& (562949953421311 : Int64)) ((2147483647 : Int64) * (262144 : Int64))))]))
    refine go (fun t k => XS.lstore X5.here hx rfl (hb hby at_38) rfl (l' := #[.val (.long q1), .second, .val (.int p2), .val (.long (262144 : Int64)), .second, .val (.long ((2147483647 : Int64) * (262144 : Int64))), .second, .val (.long (q1 &&& (2147483647 : Int64))), .second, .val (.int (p2 &&& (3 : Int32))), .val (.long (b1_0 (q1 &&& (562949953421311 : Int64)) ((2147483647 : Int64) * (262144 : Int64)))), .second, .unset, .unset, .unset]) rfl k) ?_
    show Gl _ _ _ _ _ _ _ _ (T5.setTop (mkF m 40 #[.val (.long q1), .second, .val (.int p2), .val (.long (262144 : Int64)), .second, .val (.long ((2147483647 : Int64) * (262144 : Int64))), .second, .val (.long (q1 &&& (2147483647 : Int64))), .second, .val (.int (p2 &&& (3 : Int32))), .val (.long (b1_0 (q1 &&& (562949953421311 : Int64)) ((2147483647 : Int64) * (262144 : Int64)))), .second, .unset, .unset, .unset] []))
    refine go (fun t k => XS.goto X5.here hx rfl (pc0 := 40) (pc' := 92) rfl (hb hby at_40) (by decide) (by decide) k) ?_
    show Gl _ _ _ _ _ _ _ _ (T5.setTop (mkF m 92 #[.val (.long q1), .second, .val (.int p2), .val (.long (262144 : Int64)), .second, .val (.long ((2147483647 : Int64) * (262144 : Int64))), .second, .val (.long (q1 &&& (2147483647 : Int64))), .second, .val (.int (p2 &&& (3 : Int32))), .val (.long (b1_0 (q1 &&& (562949953421311 : Int64)) ((2147483647 : Int64) * (262144 : Int64)))), .second, .unset, .unset, .unset] []))
    exact J92 (b1_0 (q1 &&& (562949953421311 : Int64)) ((2147483647 : Int64) * (262144 : Int64))) (own_i0 _) T5 _ X5 e5 N5
  · refine go (fun t k => XS.ifYes X0.here hx rfl (pc0 := 25) (pc' := 43) rfl (hb hby at_25) rfl ((if0 _ _).trans (feq hc25).2) (by decide) (by decide) k) ?_
    show Gl _ _ _ _ _ _ _ _ (s₁.setTop (mkF m 43 #[.val (.long q1), .second, .val (.int p2), .val (.long (262144 : Int64)), .second, .val (.long ((2147483647 : Int64) * (262144 : Int64))), .second, .val (.long (q1 &&& (2147483647 : Int64))), .second, .val (.int (p2 &&& (3 : Int32))), .unset, .unset, .unset, .unset, .unset] []))
    refine go (fun t k => XS.iload X0.here hx rfl (hb hby at_43) rfl  k) ?_
    show Gl _ _ _ _ _ _ _ _ (s₁.setTop (mkF m 45 #[.val (.long q1), .second, .val (.int p2), .val (.long (262144 : Int64)), .second, .val (.long ((2147483647 : Int64) * (262144 : Int64))), .second, .val (.long (q1 &&& (2147483647 : Int64))), .second, .val (.int (p2 &&& (3 : Int32))), .unset, .unset, .unset, .unset, .unset] [(.int (p2 &&& (3 : Int32)))]))
    refine go (fun t k => XS.iconst X0.here hx rfl (hb hby at_45) k) ?_
    show Gl _ _ _ _ _ _ _ _ (s₁.setTop (mkF m 46 #[.val (.long q1), .second, .val (.int p2), .val (.long (262144 : Int64)), .second, .val (.long ((2147483647 : Int64) * (262144 : Int64))), .second, .val (.long (q1 &&& (2147483647 : Int64))), .second, .val (.int (p2 &&& (3 : Int32))), .unset, .unset, .unset, .unset, .unset] [(.int (1 : Int32)), (.int (p2 &&& (3 : Int32)))]))
    refine gI (c := (p2 &&& (3 : Int32)) = (1 : Int32)) (fun hc46 => ?_) (fun hc46 => ?_)
    · refine go (fun t k => XS.icmpNo X0.here hx rfl (hb hby at_46) rfl (teq hc46).2 k) ?_
      show Gl _ _ _ _ _ _ _ _ (s₁.setTop (mkF m 49 #[.val (.long q1), .second, .val (.int p2), .val (.long (262144 : Int64)), .second, .val (.long ((2147483647 : Int64) * (262144 : Int64))), .second, .val (.long (q1 &&& (2147483647 : Int64))), .second, .val (.int (p2 &&& (3 : Int32))), .unset, .unset, .unset, .unset, .unset] []))
      refine go (fun t k => XS.lload X0.here hx rfl (hb hby at_49) rfl  k) ?_
      show Gl _ _ _ _ _ _ _ _ (s₁.setTop (mkF m 51 #[.val (.long q1), .second, .val (.int p2), .val (.long (262144 : Int64)), .second, .val (.long ((2147483647 : Int64) * (262144 : Int64))), .second, .val (.long (q1 &&& (2147483647 : Int64))), .second, .val (.int (p2 &&& (3 : Int32))), .unset, .unset, .unset, .unset, .unset] [(.long (q1 &&& (2147483647 : Int64)))]))
      refine go (fun t k => XS.lloadN X0.here hx rfl (hb hby at_51) rfl  k) ?_
      show Gl _ _ _ _ _ _ _ _ (s₁.setTop (mkF m 52 #[.val (.long q1), .second, .val (.int p2), .val (.long (262144 : Int64)), .second, .val (.long ((2147483647 : Int64) * (262144 : Int64))), .second, .val (.long (q1 &&& (2147483647 : Int64))), .second, .val (.int (p2 &&& (3 : Int32))), .unset, .unset, .unset, .unset, .unset] [(.long (262144 : Int64)), (.long (q1 &&& (2147483647 : Int64)))]))
      refine go (fun t k => XS.lmul X0.here hx rfl (hb hby at_52) rfl k) ?_
      show Gl _ _ _ _ _ _ _ _ (s₁.setTop (mkF m 53 #[.val (.long q1), .second, .val (.int p2), .val (.long (262144 : Int64)), .second, .val (.long ((2147483647 : Int64) * (262144 : Int64))), .second, .val (.long (q1 &&& (2147483647 : Int64))), .second, .val (.int (p2 &&& (3 : Int32))), .unset, .unset, .unset, .unset, .unset] [(.long ((q1 &&& (2147483647 : Int64)) * (262144 : Int64)))]))
      refine go (fun t k => XS.lstore X0.here hx rfl (hb hby at_53) rfl (l' := #[.val (.long q1), .second, .val (.int p2), .val (.long (262144 : Int64)), .second, .val (.long ((2147483647 : Int64) * (262144 : Int64))), .second, .val (.long (q1 &&& (2147483647 : Int64))), .second, .val (.int (p2 &&& (3 : Int32))), .val (.long ((q1 &&& (2147483647 : Int64)) * (262144 : Int64))), .second, .unset, .unset, .unset]) rfl k) ?_
      show Gl _ _ _ _ _ _ _ _ (s₁.setTop (mkF m 55 #[.val (.long q1), .second, .val (.int p2), .val (.long (262144 : Int64)), .second, .val (.long ((2147483647 : Int64) * (262144 : Int64))), .second, .val (.long (q1 &&& (2147483647 : Int64))), .second, .val (.int (p2 &&& (3 : Int32))), .val (.long ((q1 &&& (2147483647 : Int64)) * (262144 : Int64))), .second, .unset, .unset, .unset] []))
      refine go (fun t k => XS.goto X0.here hx rfl (pc0 := 55) (pc' := 92) rfl (hb hby at_55) (by decide) (by decide) k) ?_
      show Gl _ _ _ _ _ _ _ _ (s₁.setTop (mkF m 92 #[.val (.long q1), .second, .val (.int p2), .val (.long (262144 : Int64)), .second, .val (.long ((2147483647 : Int64) * (262144 : Int64))), .second, .val (.long (q1 &&& (2147483647 : Int64))), .second, .val (.int (p2 &&& (3 : Int32))), .val (.long ((q1 &&& (2147483647 : Int64)) * (262144 : Int64))), .second, .unset, .unset, .unset] []))
      exact J92 ((q1 &&& (2147483647 : Int64)) * (262144 : Int64)) (own_i1 _) s₁ _ X0 e0 N0
    · refine go (fun t k => XS.icmpYes X0.here hx rfl (pc0 := 46) (pc' := 58) rfl (hb hby at_46) rfl (feq hc46).2 (by decide) (by decide) k) ?_
      show Gl _ _ _ _ _ _ _ _ (s₁.setTop (mkF m 58 #[.val (.long q1), .second, .val (.int p2), .val (.long (262144 : Int64)), .second, .val (.long ((2147483647 : Int64) * (262144 : Int64))), .second, .val (.long (q1 &&& (2147483647 : Int64))), .second, .val (.int (p2 &&& (3 : Int32))), .unset, .unset, .unset, .unset, .unset] []))
      refine go (fun t k => XS.iload X0.here hx rfl (hb hby at_58) rfl  k) ?_
      show Gl _ _ _ _ _ _ _ _ (s₁.setTop (mkF m 60 #[.val (.long q1), .second, .val (.int p2), .val (.long (262144 : Int64)), .second, .val (.long ((2147483647 : Int64) * (262144 : Int64))), .second, .val (.long (q1 &&& (2147483647 : Int64))), .second, .val (.int (p2 &&& (3 : Int32))), .unset, .unset, .unset, .unset, .unset] [(.int (p2 &&& (3 : Int32)))]))
      refine go (fun t k => XS.iconst X0.here hx rfl (hb hby at_60) k) ?_
      show Gl _ _ _ _ _ _ _ _ (s₁.setTop (mkF m 61 #[.val (.long q1), .second, .val (.int p2), .val (.long (262144 : Int64)), .second, .val (.long ((2147483647 : Int64) * (262144 : Int64))), .second, .val (.long (q1 &&& (2147483647 : Int64))), .second, .val (.int (p2 &&& (3 : Int32))), .unset, .unset, .unset, .unset, .unset] [(.int (2 : Int32)), (.int (p2 &&& (3 : Int32)))]))
      refine gI (c := (p2 &&& (3 : Int32)) = (2 : Int32)) (fun hc61 => ?_) (fun hc61 => ?_)
      · refine go (fun t k => XS.icmpNo X0.here hx rfl (hb hby at_61) rfl (teq hc61).2 k) ?_
        show Gl _ _ _ _ _ _ _ _ (s₁.setTop (mkF m 64 #[.val (.long q1), .second, .val (.int p2), .val (.long (262144 : Int64)), .second, .val (.long ((2147483647 : Int64) * (262144 : Int64))), .second, .val (.long (q1 &&& (2147483647 : Int64))), .second, .val (.int (p2 &&& (3 : Int32))), .unset, .unset, .unset, .unset, .unset] []))
        refine go (fun t k => XS.lload X0.here hx rfl (hb hby at_64) rfl  k) ?_
        show Gl _ _ _ _ _ _ _ _ (s₁.setTop (mkF m 66 #[.val (.long q1), .second, .val (.int p2), .val (.long (262144 : Int64)), .second, .val (.long ((2147483647 : Int64) * (262144 : Int64))), .second, .val (.long (q1 &&& (2147483647 : Int64))), .second, .val (.int (p2 &&& (3 : Int32))), .unset, .unset, .unset, .unset, .unset] [(.long (q1 &&& (2147483647 : Int64)))]))
        refine go (fun t k => XS.lloadN X0.here hx rfl (hb hby at_66) rfl  k) ?_
        show Gl _ _ _ _ _ _ _ _ (s₁.setTop (mkF m 67 #[.val (.long q1), .second, .val (.int p2), .val (.long (262144 : Int64)), .second, .val (.long ((2147483647 : Int64) * (262144 : Int64))), .second, .val (.long (q1 &&& (2147483647 : Int64))), .second, .val (.int (p2 &&& (3 : Int32))), .unset, .unset, .unset, .unset, .unset] [(.long (262144 : Int64)), (.long (q1 &&& (2147483647 : Int64)))]))
        refine go (fun t k => XS.lmul X0.here hx rfl (hb hby at_67) rfl k) ?_
        show Gl _ _ _ _ _ _ _ _ (s₁.setTop (mkF m 68 #[.val (.long q1), .second, .val (.int p2), .val (.long (262144 : Int64)), .second, .val (.long ((2147483647 : Int64) * (262144 : Int64))), .second, .val (.long (q1 &&& (2147483647 : Int64))), .second, .val (.int (p2 &&& (3 : Int32))), .unset, .unset, .unset, .unset, .unset] [(.long ((q1 &&& (2147483647 : Int64)) * (262144 : Int64)))]))
        refine go (fun t k => XS.lconst X0.here hx rfl (hb hby at_68) k) ?_
        show Gl _ _ _ _ _ _ _ _ (s₁.setTop (mkF m 69 #[.val (.long q1), .second, .val (.int p2), .val (.long (262144 : Int64)), .second, .val (.long ((2147483647 : Int64) * (262144 : Int64))), .second, .val (.long (q1 &&& (2147483647 : Int64))), .second, .val (.int (p2 &&& (3 : Int32))), .unset, .unset, .unset, .unset, .unset] [(.long (1 : Int64)), (.long ((q1 &&& (2147483647 : Int64)) * (262144 : Int64)))]))
        refine go (fun t k => XS.ladd X0.here hx rfl (hb hby at_69) rfl k) ?_
        show Gl _ _ _ _ _ _ _ _ (s₁.setTop (mkF m 70 #[.val (.long q1), .second, .val (.int p2), .val (.long (262144 : Int64)), .second, .val (.long ((2147483647 : Int64) * (262144 : Int64))), .second, .val (.long (q1 &&& (2147483647 : Int64))), .second, .val (.int (p2 &&& (3 : Int32))), .unset, .unset, .unset, .unset, .unset] [(.long (((q1 &&& (2147483647 : Int64)) * (262144 : Int64)) + (1 : Int64)))]))
        refine go (fun t k => XS.lload X0.here hx rfl (hb hby at_70) rfl  k) ?_
        show Gl _ _ _ _ _ _ _ _ (s₁.setTop (mkF m 72 #[.val (.long q1), .second, .val (.int p2), .val (.long (262144 : Int64)), .second, .val (.long ((2147483647 : Int64) * (262144 : Int64))), .second, .val (.long (q1 &&& (2147483647 : Int64))), .second, .val (.int (p2 &&& (3 : Int32))), .unset, .unset, .unset, .unset, .unset] [(.long ((2147483647 : Int64) * (262144 : Int64))), (.long (((q1 &&& (2147483647 : Int64)) * (262144 : Int64)) + (1 : Int64)))]))
        obtain ⟨_, _, ⟨T6, L6, k6, n6⟩, -, X6, ⟨Lc6, hQ6, l6, y6, z6⟩, st6⟩ := Jvm.LawKit.callS X0 hx (y := (⟨"java/lang/Math", "min", "(JJ)J"⟩ : MethodName)) hown (mvT hZ (hw _ (List.mem_of_getElem? (i := 2) rfl))) (mvT hZ (hw _ (List.mem_of_getElem? (i := 3) rfl))) (mvT hZ (hw _ (List.mem_of_getElem? (i := 4) rfl))) (mvT hZ (hw _ (List.mem_of_getElem? (i := 5) rfl))) (by decide) (backOf (W := 0) (rm1 l Z a0 hw [] (((q1 &&& (2147483647 : Int64)) * (262144 : Int64)) + (1 : Int64)) ((2147483647 : Int64) * (262144 : Int64)) h0 n0 Z0 ) hZ (hw _ (List.mem_of_getElem? (i := 5) rfl)) (hw _ (List.mem_of_getElem? (i := 4) rfl)) (by decide) (by decide)) (g := (mkF m 72 #[.val (.long q1), .second, .val (.int p2), .val (.long (262144 : Int64)), .second, .val (.long ((2147483647 : Int64) * (262144 : Int64))), .second, .val (.long (q1 &&& (2147483647 : Int64))), .second, .val (.int (p2 &&& (3 : Int32))), .unset, .unset, .unset, .unset, .unset] [(.long ((2147483647 : Int64) * (262144 : Int64))), (.long (((q1 &&& (2147483647 : Int64)) * (262144 : Int64)) + (1 : Int64)))])) rfl (by rw [hml]; rfl) (argsL := [(.long (((q1 &&& (2147483647 : Int64)) * (262144 : Int64)) + (1 : Int64))), (.long ((2147483647 : Int64) * (262144 : Int64)))]) (rest := []) (lenOf pd_1 rfl) rfl (by show 2 * 0 + _ ≤ _; exact Nat.le_of_eq rfl) (hb hby at_72) (fun _ _ => ⟨rfl, e0, (by decide : 0 + 0 ≤ _), (by decide : 0 + 0 ≤ _)⟩)
        dsimp only [Pt.U, Pt.locs, Pt.cells, Pt.slots] at X6 l6 y6 z6 st6 hQ6
        subst l6 y6 z6
        have X6 : Stand p l e room_1 s m #[(.long q1), (.int p2)] below meth c T6 _ 0 0 := X6
        obtain ⟨⟨rfl, e6'⟩, N6q⟩ := hQ6
        have e6 : T6.heap = h0 := e6'
        have N6 := Fr.app N0 N6q
        refine go (fun t k => st6 _ k) ?_
        show Gl _ _ _ _ _ _ _ _ (T6.setTop (mkF m 75 #[.val (.long q1), .second, .val (.int p2), .val (.long (262144 : Int64)), .second, .val (.long ((2147483647 : Int64) * (262144 : Int64))), .second, .val (.long (q1 &&& (2147483647 : Int64))), .second, .val (.int (p2 &&& (3 : Int32))), .unset, .unset, .unset, .unset, .unset] [(.long (b1_0 (((q1 &&& (2147483647 : Int64)) * (262144 : Int64)) + (1 : Int64)) ((2147483647 : Int64) * (262144 : Int64))))]))
        refine go (fun t k => XS.lstore X6.here hx rfl (hb hby at_75) rfl (l' := #[.val (.long q1), .second, .val (.int p2), .val (.long (262144 : Int64)), .second, .val (.long ((2147483647 : Int64) * (262144 : Int64))), .second, .val (.long (q1 &&& (2147483647 : Int64))), .second, .val (.int (p2 &&& (3 : Int32))), .val (.long (b1_0 (((q1 &&& (2147483647 : Int64)) * (262144 : Int64)) + (1 : Int64)) ((2147483647 : Int64) * (262144 : Int64)))), .second, .unset, .unset, .unset]) rfl k) ?_
        show Gl _ _ _ _ _ _ _ _ (T6.setTop (mkF m 77 #[.val (.long q1), .second, .val (.int p2), .val (.long (262144 : Int64)), .second, .val (.long ((2147483647 : Int64) * (262144 : Int64))), .second, .val (.long (q1 &&& (2147483647 : Int64))), .second, .val (.int (p2 &&& (3 : Int32))), .val (.long (b1_0 (((q1 &&& (2147483647 : Int64)) * (262144 : Int64)) + (1 : Int64)) ((2147483647 : Int64) * (262144 : Int64)))), .second, .unset, .unset, .unset] []))
        refine go (fun t k => XS.goto X6.here hx rfl (pc0 := 77) (pc' := 92) rfl (hb hby at_77) (by decide) (by decide) k) ?_
        show Gl _ _ _ _ _ _ _ _ (T6.setTop (mkF m 92 #[.val (.long q1), .second, .val (.int p2), .val (.long (262144 : Int64)), .second, .val (.long ((2147483647 : Int64) * (262144 : Int64))), .second, .val (.long (q1 &&& (2147483647 : Int64))), .second, .val (.int (p2 &&& (3 : Int32))), .val (.long (b1_0 (((q1 &&& (2147483647 : Int64)) * (262144 : Int64)) + (1 : Int64)) ((2147483647 : Int64) * (262144 : Int64)))), .second, .unset, .unset, .unset] []))
        exact J92 (b1_0 (((q1 &&& (2147483647 : Int64)) * (262144 : Int64)) + (1 : Int64)) ((2147483647 : Int64) * (262144 : Int64))) (own_i2 _) T6 _ X6 e6 N6
      · refine go (fun t k => XS.icmpYes X0.here hx rfl (pc0 := 61) (pc' := 80) rfl (hb hby at_61) rfl (feq hc61).2 (by decide) (by decide) k) ?_
        show Gl _ _ _ _ _ _ _ _ (s₁.setTop (mkF m 80 #[.val (.long q1), .second, .val (.int p2), .val (.long (262144 : Int64)), .second, .val (.long ((2147483647 : Int64) * (262144 : Int64))), .second, .val (.long (q1 &&& (2147483647 : Int64))), .second, .val (.int (p2 &&& (3 : Int32))), .unset, .unset, .unset, .unset, .unset] []))
        refine go (fun t k => XS.lload X0.here hx rfl (hb hby at_80) rfl  k) ?_
        show Gl _ _ _ _ _ _ _ _ (s₁.setTop (mkF m 82 #[.val (.long q1), .second, .val (.int p2), .val (.long (262144 : Int64)), .second, .val (.long ((2147483647 : Int64) * (262144 : Int64))), .second, .val (.long (q1 &&& (2147483647 : Int64))), .second, .val (.int (p2 &&& (3 : Int32))), .unset, .unset, .unset, .unset, .unset] [(.long (q1 &&& (2147483647 : Int64)))]))
        refine go (fun t k => XS.lloadN X0.here hx rfl (hb hby at_82) rfl  k) ?_
        show Gl _ _ _ _ _ _ _ _ (s₁.setTop (mkF m 83 #[.val (.long q1), .second, .val (.int p2), .val (.long (262144 : Int64)), .second, .val (.long ((2147483647 : Int64) * (262144 : Int64))), .second, .val (.long (q1 &&& (2147483647 : Int64))), .second, .val (.int (p2 &&& (3 : Int32))), .unset, .unset, .unset, .unset, .unset] [(.long (262144 : Int64)), (.long (q1 &&& (2147483647 : Int64)))]))
        refine go (fun t k => XS.lmul X0.here hx rfl (hb hby at_83) rfl k) ?_
        show Gl _ _ _ _ _ _ _ _ (s₁.setTop (mkF m 84 #[.val (.long q1), .second, .val (.int p2), .val (.long (262144 : Int64)), .second, .val (.long ((2147483647 : Int64) * (262144 : Int64))), .second, .val (.long (q1 &&& (2147483647 : Int64))), .second, .val (.int (p2 &&& (3 : Int32))), .unset, .unset, .unset, .unset, .unset] [(.long ((q1 &&& (2147483647 : Int64)) * (262144 : Int64)))]))
        refine go (fun t k => XS.lconst X0.here hx rfl (hb hby at_84) k) ?_
        show Gl _ _ _ _ _ _ _ _ (s₁.setTop (mkF m 85 #[.val (.long q1), .second, .val (.int p2), .val (.long (262144 : Int64)), .second, .val (.long ((2147483647 : Int64) * (262144 : Int64))), .second, .val (.long (q1 &&& (2147483647 : Int64))), .second, .val (.int (p2 &&& (3 : Int32))), .unset, .unset, .unset, .unset, .unset] [(.long (1 : Int64)), (.long ((q1 &&& (2147483647 : Int64)) * (262144 : Int64)))]))
        refine go (fun t k => XS.lsub X0.here hx rfl (hb hby at_85) rfl k) ?_
        show Gl _ _ _ _ _ _ _ _ (s₁.setTop (mkF m 86 #[.val (.long q1), .second, .val (.int p2), .val (.long (262144 : Int64)), .second, .val (.long ((2147483647 : Int64) * (262144 : Int64))), .second, .val (.long (q1 &&& (2147483647 : Int64))), .second, .val (.int (p2 &&& (3 : Int32))), .unset, .unset, .unset, .unset, .unset] [(.long (((q1 &&& (2147483647 : Int64)) * (262144 : Int64)) - (1 : Int64)))]))
        refine go (fun t k => XS.lconst X0.here hx rfl (hb hby at_86) k) ?_
        show Gl _ _ _ _ _ _ _ _ (s₁.setTop (mkF m 87 #[.val (.long q1), .second, .val (.int p2), .val (.long (262144 : Int64)), .second, .val (.long ((2147483647 : Int64) * (262144 : Int64))), .second, .val (.long (q1 &&& (2147483647 : Int64))), .second, .val (.int (p2 &&& (3 : Int32))), .unset, .unset, .unset, .unset, .unset] [(.long (0 : Int64)), (.long (((q1 &&& (2147483647 : Int64)) * (262144 : Int64)) - (1 : Int64)))]))
        obtain ⟨_, _, ⟨T7, L7, k7, n7⟩, -, X7, ⟨Lc7, hQ7, l7, y7, z7⟩, st7⟩ := Jvm.LawKit.callS X0 hx (y := (⟨"java/lang/Math", "max", "(JJ)J"⟩ : MethodName)) hown (mvT hZ (hw _ (List.mem_of_getElem? (i := 15) rfl))) (mvT hZ (hw _ (List.mem_of_getElem? (i := 16) rfl))) (mvT hZ (hw _ (List.mem_of_getElem? (i := 4) rfl))) (mvT hZ (hw _ (List.mem_of_getElem? (i := 17) rfl))) (by decide) (backOf (W := 0) (rm4 l Z a0 hw [] (((q1 &&& (2147483647 : Int64)) * (262144 : Int64)) - (1 : Int64)) (0 : Int64) h0 n0 Z0 ) hZ (hw _ (List.mem_of_getElem? (i := 17) rfl)) (hw _ (List.mem_of_getElem? (i := 4) rfl)) (by decide) (by decide)) (g := (mkF m 87 #[.val (.long q1), .second, .val (.int p2), .val (.long (262144 : Int64)), .second, .val (.long ((2147483647 : Int64) * (262144 : Int64))), .second, .val (.long (q1 &&& (2147483647 : Int64))), .second, .val (.int (p2 &&& (3 : Int32))), .unset, .unset, .unset, .unset, .unset] [(.long (0 : Int64)), (.long (((q1 &&& (2147483647 : Int64)) * (262144 : Int64)) - (1 : Int64)))])) rfl (by rw [hml]; rfl) (argsL := [(.long (((q1 &&& (2147483647 : Int64)) * (262144 : Int64)) - (1 : Int64))), (.long (0 : Int64))]) (rest := []) (lenOf pd_1 rfl) rfl (by show 2 * 0 + _ ≤ _; exact Nat.le_of_eq rfl) (hb hby at_87) (fun _ _ => ⟨rfl, e0, (by decide : 0 + 0 ≤ _), (by decide : 0 + 0 ≤ _)⟩)
        dsimp only [Pt.U, Pt.locs, Pt.cells, Pt.slots] at X7 l7 y7 z7 st7 hQ7
        subst l7 y7 z7
        have X7 : Stand p l e room_1 s m #[(.long q1), (.int p2)] below meth c T7 _ 0 0 := X7
        obtain ⟨⟨rfl, e7'⟩, N7q⟩ := hQ7
        have e7 : T7.heap = h0 := e7'
        have N7 := Fr.app N0 N7q
        refine go (fun t k => st7 _ k) ?_
        show Gl _ _ _ _ _ _ _ _ (T7.setTop (mkF m 90 #[.val (.long q1), .second, .val (.int p2), .val (.long (262144 : Int64)), .second, .val (.long ((2147483647 : Int64) * (262144 : Int64))), .second, .val (.long (q1 &&& (2147483647 : Int64))), .second, .val (.int (p2 &&& (3 : Int32))), .unset, .unset, .unset, .unset, .unset] [(.long (b4_0 (((q1 &&& (2147483647 : Int64)) * (262144 : Int64)) - (1 : Int64)) (0 : Int64)))]))
        refine go (fun t k => XS.lstore X7.here hx rfl (hb hby at_90) rfl (l' := #[.val (.long q1), .second, .val (.int p2), .val (.long (262144 : Int64)), .second, .val (.long ((2147483647 : Int64) * (262144 : Int64))), .second, .val (.long (q1 &&& (2147483647 : Int64))), .second, .val (.int (p2 &&& (3 : Int32))), .val (.long (b4_0 (((q1 &&& (2147483647 : Int64)) * (262144 : Int64)) - (1 : Int64)) (0 : Int64))), .second, .unset, .unset, .unset]) rfl k) ?_
        show Gl _ _ _ _ _ _ _ _ (T7.setTop (mkF m 92 #[.val (.long q1), .second, .val (.int p2), .val (.long (262144 : Int64)), .second, .val (.long ((2147483647 : Int64) * (262144 : Int64))), .second, .val (.long (q1 &&& (2147483647 : Int64))), .second, .val (.int (p2 &&& (3 : Int32))), .val (.long (b4_0 (((q1 &&& (2147483647 : Int64)) * (262144 : Int64)) - (1 : Int64)) (0 : Int64))), .second, .unset, .unset, .unset] []))
        exact J92 (b4_0 (((q1 &&& (2147483647 : Int64)) * (262144 : Int64)) - (1 : Int64)) (0 : Int64)) (own_i3 _) T7 _ X7 e7 N7
theorem own_end (v : Int64) (h : ¬ (v < (0 : Int64)) ∧ ¬ ((562949953159168 : Int64) < v)) : b0_92 v = 1 := by
  have q := own_q v h
  have h' : ¬ v.toInt < 0 ∧ ¬ 562949953159168 < v.toInt := by simpa only [Int64.lt_iff_toInt_lt, Int64.reduceToInt] using h
  have e : (b2_0 v).toInt = (v.toInt + 262143) / 262144 := by
    unfold b2_0 b3_0
    rw [Jvm.Kit.i32_of_i64 (by rw [q]; omega) (by rw [q]; omega), q]
  unfold b0_92
  have a := Jvm.Kit.i64_of_i32 (b2_0 v)
  generalize b2_0 v = n at *
  have e1 : (n.toInt64 * 262144).toInt = n.toInt * 262144 := by
    rw [Jvm.Kit.i64_mul (by rw [a]; simp only [Int64.reduceToInt]; omega) (by rw [a]; simp only [Int64.reduceToInt]; omega), a]; rfl
  have e2 : (n.toInt64 - 1).toInt = n.toInt - 1 := by
    rw [Jvm.Kit.i64_sub (by rw [a]; simp only [Int64.reduceToInt]; omega) (by rw [a]; simp only [Int64.reduceToInt]; omega), a]; rfl
  have e3 : ((n.toInt64 - 1) * 262144).toInt = (n.toInt - 1) * 262144 := by
    rw [Jvm.Kit.i64_mul (by rw [e2]; simp only [Int64.reduceToInt]; omega) (by rw [e2]; simp only [Int64.reduceToInt]; omega), e2]; rfl
  rw [if_neg (by rw [Int32.lt_iff_toInt_lt]; simp only [Int32.reduceToInt]; omega), if_neg (by rw [Int64.lt_iff_toInt_lt, e1]; omega), if_pos (by rw [Int64.lt_iff_toInt_lt, e3]; omega)]; rfl
theorem law_eq (q1 : Int64) (p2 : Int32) : b0_0 q1 p2 = 1 := by
  unfold b0_0
  split
  · exact own_end _ (own_i0 _)
  split
  · exact own_end _ (own_i1 _)
  split
  · exact own_end _ (own_i2 _)
  · exact own_end _ (own_i3 _)
set_option maxRecDepth 65536 in
set_option maxHeartbeats 40000000 in
theorem comes_1 {Post : Tables → Env → Array Value → State → Outcome → State → Prop} (hpost : ∀ tb e args s v u, (limb_1_1.after args s (.returned v) u = true ∧ limb_1_2.after args s (.returned v) u = true ∧ True) → FrameEnd s (.returned v) u (Jvm.fieldLocs frame_1_writes args s ++ Jvm.arrayLocs frame_1_arrays args s ++ Jvm.staticLocs frame_1_statics s) 0 0 → Post tb e args s (.returned v) u) :
    ArmFor flags0 classFile x code maxLocals ret World_1 tables_1 room_1 Calls_1 rest_1 Pre_1 Post := by
  intro l hfl _ _ p e ha hc hk s m args below hf hA hF happ hP
  obtain ⟨hcalls, hrest, hpre⟩ := hP
  obtain ⟨-, -, -, hnamed, -, -, -, hat⟩ := (Spec.applies_iff hf).mp happ
  obtain ⟨hg, hn⟩ := and_e (Cond.before_iff.mp (show (Jvm.Cond.and given_1 narrow_1).before args s = true from hpre))
  obtain ⟨g1, g2⟩ := and_e hg
  obtain ⟨g3, g4⟩ := and_e g2
  obtain ⟨w0, w1, rfl⟩ : ∃ w0 w1 : Value, args = #[w0, w1] := by
    have hs : args.size = 2 := by simpa [Cond.value, given_1] using g1
    obtain ⟨L⟩ := args
    match L, hs with
    | [w0, w1], _ => exact ⟨w0, w1, rfl⟩
  have hw := fun d (hd : d ∈ tables_1) => atoms_spec (ws := Jvm.Cond.code x code maxLocals ret :: tables_1) hat d (List.mem_cons_of_mem _ hd)
  have hfit : Fit s := fun {y c} hc i hi => by
    obtain ⟨ha, rfl⟩ := Array.getElem?_eq_some_iff.mp hc
    have q := List.all_eq_true.mp ((Array.all_eq_true_iff_forall_mem.mp hF) _ (Array.getElem_mem ha)) i (List.mem_range.mpr hi)
    simpa [Array.getElem?_eq_getElem hi] using q
  obtain ⟨i0, ei0⟩ := isL_v g3
  obtain rfl : w0 = (.long i0) := Option.some.inj ei0
  obtain ⟨i1, ei1⟩ := is_v g4
  obtain rfl : w1 = (.int i1) := Option.some.inj ei1
  obtain ⟨n, o, h1, h2, h3, _, L, rfl, ⟨⟨hv, -⟩, N⟩, hq⟩ := rm0 l s _ hw tables_1 i0 i1  s.heap s.heap.size (Nat.le_refl _)  p e ha hc hk s m _ below hf ((Spec.applies_iff_loose hf).mp happ).1 ⟨rfl, State.Warmed39.refl s, rfl⟩ trivial
  rw [law_eq] at hv
  subst hv
  refine ⟨n, _, h1, h2, h3, hpost _ _ _ _ _ _ ⟨Cond.after_iff.mpr rfl, Cond.after_iff.mpr (eq_i res_at (Term.int_eval (1)) rfl), trivial⟩ ⟨hq.1, hq.2.1, (hq.2.2.sift fun y hy => Or.inr (N y hy)).mono (by decide) (by decide)⟩⟩
theorem main_1_1 : Claimed_1_1 := comes_1 fun _ _ _ _ _ _ h hF => ⟨h.1, hF⟩
theorem main_1_2 : Claimed_1_2 := comes_1 fun _ _ _ _ _ _ h hF => ⟨h.2.1, hF⟩
end Jvm.Pilot.@@N@@
namespace Jvm.Pilot.@@N@@
open Jvm Jvm.ClassFile Sem Op Lib Jvm.Free Jvm.Stand Jvm.Pilot.@@N@@.Jvm.D
/-! MADE BY PROGRAM (witnessworld.py) out of the Statement's table words and the real class files: 8 classes; the members and pool entries that the words name. The judged class is class 1, her method 1. -/
namespace start1
open Jvm.ClassFile
def u (s : String) : CpInfo := .utf8 (stringToUtf16 s)
/-- a pool by its gaps: so many unusable entries, then the entry; so many at the end -/
def gap : Nat → List CpInfo → List CpInfo
  | 0, r => r
  | n + 1, r => .unusable :: gap n r
def poolList (es : List (Nat × CpInfo)) (last : Nat) : List CpInfo := es.foldr (fun e r => gap e.1 (e.2 :: r)) (gap last [])
def pool (es : List (Nat × CpInfo)) (last : Nat) : Array CpInfo := ⟨poolList es last⟩
def fileOf (pool : Array CpInfo) (this : Nat) (attrs : Array Attribute := #[]) (ms : Array MethodInfo := #[]) (fl : Nat := 33) (sup : Nat := 0) (ifs : Array Nat := #[]) (fds : Array FieldInfo := #[]) : ClassFile where
  minorVersion := 0
  majorVersion := 65
  constantPool := pool
  accessFlags := fl
  thisClass := this
  superClass := sup
  interfaces := ifs
  fields := fds
  methods := ms
  attributes := attrs
def plain (name : String) (sup : Option ClassId) : Class where
  name := name
  kind := .ordinary
  loader := none
  accessFlags := 33
  super := sup
  interfaces := #[]
  cf := none
  fields := #[]
  methods := #[]
  instanceTypes := #[]
  staticTypes := #[]
  resolved := #[]
  callSites := []
  init := .initialized
  statics := none
  mirror := none

def pool0 : Array CpInfo := pool [(5, u "<init>"), (0, u "()V"), (1, .class_ 10), (1, u "java/lang/Object")] 113

def k0m0 : Method := { name := "<init>", desc := "()V", sig := { parameters := [], returnType := none }, accessFlags := 1, code := none }
/-- java/lang/Object -/
def k0 : Class := { plain "java/lang/Object" none with
  accessFlags := 33
  interfaces := #[]
  cf := some (fileOf pool0 8 #[] #[{ accessFlags := 1, nameIndex := 5, descriptorIndex := 6, attributes := #[] }] 33 0 #[] #[])
  fields := #[]
  methods := #[k0m0]
  instanceTypes := #[]
  staticTypes := #[]
  resolved := Array.replicate 124 none
  statics := none }

def pool1 : Array CpInfo := pool [(2, .class_ 4), (1, u "java/lang/Object"), (0, u "<init>"), (0, u "()V"), (0, .class_ 8), (0, u "com/example/vicinet/vicinet/store/Content"), (0, .long 262144), (1, .long 2147483647), (1, .long 562949953421311), (1, .methodref 16 17), (0, .class_ 18), (0, .nameAndType 19 20), (0, u "java/lang/Math"), (0, u "min"), (0, u "(JJ)J"), (0, .methodref 16 22), (0, .nameAndType 23 20), (0, u "max"), (0, .methodref 7 25), (0, .nameAndType 26 27), (0, u "pieceCount"), (0, u "(J)I"), (0, .class_ 29), (0, u "com/example/vicinet/vicinet/store/ContentPieceCountPinLaw"), (2, u "law"), (0, u "(JI)Z")] 3

def k1m0 : Method := { name := "<init>", desc := "()V", sig := { parameters := [], returnType := none }, accessFlags := 2, code := none }
def k1c1 : Code := { maxStack := 4, maxLocals := 15, code := code, exceptionTable := #[], attributes := #[] }
def k1m1 : Method := { name := "law", desc := "(JI)Z", sig := { parameters := [.long, .int], returnType := some .boolean }, accessFlags := 9, code := some k1c1 }
/-- com/example/vicinet/vicinet/store/ContentPieceCountPinLaw -/
def k1 : Class := { plain "com/example/vicinet/vicinet/store/ContentPieceCountPinLaw" (some 0) with
  accessFlags := 49
  interfaces := #[]
  cf := some (fileOf pool1 28 #[] #[{ accessFlags := 2, nameIndex := 5, descriptorIndex := 6, attributes := #[] }, { accessFlags := 9, nameIndex := 32, descriptorIndex := 33, attributes := #[] }] 49 2 #[] #[])
  fields := #[]
  methods := #[k1m0, k1m1]
  instanceTypes := #[]
  staticTypes := #[]
  resolved := Array.replicate 37 none
  statics := none }

def pool2 : Array CpInfo := pool [(1, .class_ 2), (0, u "java/lang/Math"), (1, .class_ 6), (1, u "java/lang/Object"), (0, u "<init>"), (0, u "()V"), (89, .class_ 100), (1, u "java/lang/Math$RandomNumberGeneratorHolder"), (20, u "(JJ)J"), (50, u "negativeZeroFloatBits"), (0, u "J"), (2, u "negativeZeroDoubleBits"), (21, u "max"), (2, u "min"), (43, u "$assertionsDisabled"), (0, u "Z"), (91, u "twoToTheDoubleScaleDown"), (0, u "D"), (4, u "twoToTheDoubleScaleUp"), (9, u "E"), (3, u "PI"), (2, u "TAU"), (2, u "DEGREES_TO_RADIANS"), (0, u "RADIANS_TO_DEGREES"), (39, u "toIntExact"), (0, u "(J)I")] 53

def k2m0 : Method := { name := "<init>", desc := "()V", sig := { parameters := [], returnType := none }, accessFlags := 2, code := none }
def k2c1 : Code := { maxStack := 4, maxLocals := 2, code := jdk_29_method_43_code, exceptionTable := #[], attributes := #[] }
def k2m1 : Method := { name := "toIntExact", desc := "(J)I", sig := { parameters := [.long], returnType := some .int }, accessFlags := 9, code := some k2c1 }
def k2c2 : Code := { maxStack := 4, maxLocals := 4, code := jdk_29_method_66_code, exceptionTable := #[], attributes := #[] }
def k2m2 : Method := { name := "max", desc := "(JJ)J", sig := { parameters := [.long, .long], returnType := some .long }, accessFlags := 9, code := some k2c2 }
def k2c3 : Code := { maxStack := 4, maxLocals := 4, code := jdk_29_method_70_code, exceptionTable := #[], attributes := #[] }
def k2m3 : Method := { name := "min", desc := "(JJ)J", sig := { parameters := [.long, .long], returnType := some .long }, accessFlags := 9, code := some k2c3 }
/-- java/lang/Math -/
def k2 : Class := { plain "java/lang/Math" (some 0) with
  accessFlags := 49
  interfaces := #[]
  cf := some (fileOf pool2 1 #[.nestMembers #[98]] #[{ accessFlags := 2, nameIndex := 7, descriptorIndex := 8, attributes := #[] }, { accessFlags := 9, nameIndex := 405, descriptorIndex := 406, attributes := #[] }, { accessFlags := 9, nameIndex := 198, descriptorIndex := 121, attributes := #[] }, { accessFlags := 9, nameIndex := 201, descriptorIndex := 121, attributes := #[] }] 49 4 #[] #[{ accessFlags := 25, nameIndex := 354, descriptorIndex := 339, attributes := #[] }, { accessFlags := 25, nameIndex := 358, descriptorIndex := 339, attributes := #[] }, { accessFlags := 25, nameIndex := 361, descriptorIndex := 339, attributes := #[] }, { accessFlags := 26, nameIndex := 364, descriptorIndex := 339, attributes := #[] }, { accessFlags := 26, nameIndex := 365, descriptorIndex := 339, attributes := #[] }, { accessFlags := 26, nameIndex := 172, descriptorIndex := 173, attributes := #[] }, { accessFlags := 26, nameIndex := 176, descriptorIndex := 173, attributes := #[] }, { accessFlags := 8, nameIndex := 344, descriptorIndex := 339, attributes := #[] }, { accessFlags := 8, nameIndex := 338, descriptorIndex := 339, attributes := #[] }, { accessFlags := 4120, nameIndex := 245, descriptorIndex := 246, attributes := #[] }])
  fields := #[{ name := "E", type := .double, accessFlags := 25, slot := 0, constantValue := 0 }, { name := "PI", type := .double, accessFlags := 25, slot := 1, constantValue := 0 }, { name := "TAU", type := .double, accessFlags := 25, slot := 2, constantValue := 0 }, { name := "DEGREES_TO_RADIANS", type := .double, accessFlags := 26, slot := 3, constantValue := 0 }, { name := "RADIANS_TO_DEGREES", type := .double, accessFlags := 26, slot := 4, constantValue := 0 }, { name := "negativeZeroFloatBits", type := .long, accessFlags := 26, slot := 5, constantValue := 0 }, { name := "negativeZeroDoubleBits", type := .long, accessFlags := 26, slot := 6, constantValue := 0 }, { name := "twoToTheDoubleScaleUp", type := .double, accessFlags := 8, slot := 7, constantValue := 0 }, { name := "twoToTheDoubleScaleDown", type := .double, accessFlags := 8, slot := 8, constantValue := 0 }, { name := "$assertionsDisabled", type := .boolean, accessFlags := 4120, slot := 9, constantValue := 0 }]
  methods := #[k2m0, k2m1, k2m2, k2m3]
  instanceTypes := #[]
  staticTypes := #[.double, .double, .double, .double, .double, .long, .long, .double, .double, .boolean]
  resolved := Array.replicate 460 none
  statics := none }

def pool3 : Array CpInfo := pool [(2, .class_ 4), (1, u "java/lang/Object"), (5, .class_ 12), (1, u "com/example/vicinet/vicinet/store/Content"), (4, u "dataFile"), (0, u "Ljava/nio/file/Path;"), (4, u "piecesFile"), (2, u "contentTime"), (0, u "Lcom/example/vicinet/vicinet/store/ContentTime;"), (2, u "size"), (0, u "J"), (2, u "digests"), (0, u "[B"), (2, u "held"), (0, u "Ljava/util/BitSet;"), (2, u "stored"), (0, u "Z"), (0, .long 262144), (1, .methodref 47 48), (0, .class_ 49), (0, .nameAndType 50 51), (0, u "java/lang/Math"), (0, u "toIntExact"), (0, u "(J)I"), (51, u "MAGIC"), (8, u "HEADER_SIZE"), (0, u "I"), (15, u "pieceCount"), (239, u "PIECE_SIZE"), (1, u "DIGEST_SIZE")] 49

def k3c0 : Code := { maxStack := 4, maxLocals := 2, code := prog_97_method_2_code, exceptionTable := #[], attributes := #[] }
def k3m0 : Method := { name := "pieceCount", desc := "(J)I", sig := { parameters := [.long], returnType := some .int }, accessFlags := 9, code := some k3c0 }
/-- com/example/vicinet/vicinet/store/Content -/
def k3 : Class := { plain "com/example/vicinet/vicinet/store/Content" (some 0) with
  accessFlags := 49
  interfaces := #[]
  cf := some (fileOf pool3 10 #[] #[{ accessFlags := 9, nameIndex := 129, descriptorIndex := 51, attributes := #[] }] 49 2 #[] #[{ accessFlags := 25, nameIndex := 369, descriptorIndex := 113, attributes := #[] }, { accessFlags := 25, nameIndex := 371, descriptorIndex := 113, attributes := #[] }, { accessFlags := 26, nameIndex := 103, descriptorIndex := 35, attributes := #[] }, { accessFlags := 26, nameIndex := 112, descriptorIndex := 113, attributes := #[] }, { accessFlags := 18, nameIndex := 17, descriptorIndex := 18, attributes := #[] }, { accessFlags := 18, nameIndex := 23, descriptorIndex := 18, attributes := #[] }, { accessFlags := 18, nameIndex := 26, descriptorIndex := 27, attributes := #[] }, { accessFlags := 18, nameIndex := 30, descriptorIndex := 31, attributes := #[] }, { accessFlags := 18, nameIndex := 34, descriptorIndex := 35, attributes := #[] }, { accessFlags := 18, nameIndex := 38, descriptorIndex := 39, attributes := #[] }, { accessFlags := 2, nameIndex := 42, descriptorIndex := 43, attributes := #[] }])
  fields := #[{ name := "PIECE_SIZE", type := .int, accessFlags := 25, slot := 0, constantValue := 0 }, { name := "DIGEST_SIZE", type := .int, accessFlags := 25, slot := 1, constantValue := 0 }, { name := "MAGIC", type := (.array .byte), accessFlags := 26, slot := 2, constantValue := 0 }, { name := "HEADER_SIZE", type := .int, accessFlags := 26, slot := 3, constantValue := 0 }, { name := "dataFile", type := (.object "java/nio/file/Path"), accessFlags := 18, slot := 0, constantValue := 0 }, { name := "piecesFile", type := (.object "java/nio/file/Path"), accessFlags := 18, slot := 1, constantValue := 0 }, { name := "contentTime", type := (.object "com/example/vicinet/vicinet/store/ContentTime"), accessFlags := 18, slot := 2, constantValue := 0 }, { name := "size", type := .long, accessFlags := 18, slot := 3, constantValue := 0 }, { name := "digests", type := (.array .byte), accessFlags := 18, slot := 4, constantValue := 0 }, { name := "held", type := (.object "java/util/BitSet"), accessFlags := 18, slot := 5, constantValue := 0 }, { name := "stored", type := .boolean, accessFlags := 2, slot := 6, constantValue := 0 }]
  methods := #[k3m0]
  instanceTypes := #[(.object "java/nio/file/Path"), (.object "java/nio/file/Path"), (.object "com/example/vicinet/vicinet/store/ContentTime"), .long, (.array .byte), (.object "java/util/BitSet"), .boolean]
  staticTypes := #[.int, .int, (.array .byte), .int]
  resolved := Array.replicate 421 none
  statics := none }

def pool4 : Array CpInfo := pool [(1, u "java/lang/Cloneable"), (0, .class_ 1), (0, u "java/lang/Object"), (0, .class_ 3)] 3

/-- java/lang/Cloneable -/
def k4 : Class := { plain "java/lang/Cloneable" (some 0) with
  accessFlags := 1537
  interfaces := #[]
  cf := some (fileOf pool4 2 #[] #[] 1537 4 #[] #[])
  fields := #[]
  methods := #[]
  instanceTypes := #[]
  staticTypes := #[]
  resolved := Array.replicate 8 none
  statics := none }

def pool5 : Array CpInfo := pool [(1, u "java/io/Serializable"), (0, .class_ 1), (0, u "java/lang/Object"), (0, .class_ 3)] 3

/-- java/io/Serializable -/
def k5 : Class := { plain "java/io/Serializable" (some 0) with
  accessFlags := 1537
  interfaces := #[]
  cf := some (fileOf pool5 2 #[] #[] 1537 4 #[] #[])
  fields := #[]
  methods := #[]
  instanceTypes := #[]
  staticTypes := #[]
  resolved := Array.replicate 8 none
  statics := none }

/-- the primitive byte -/
def k6 : Class := { plain "byte" none with kind := .primitive 'B', accessFlags := 0x411 }
/-- [B -/
def k7 : Class := { plain "[B" (some 0) with kind := .array 6 .byte, interfaces := #[4, 5], accessFlags := 1041 }

def heap : Heap := #[]
def classes : Array Class := #[k0, k1, k2, k3, k4, k5, k6, k7]
def interned : List (Array UInt16 × Addr) := []
def slotsUsed : Nat := 0
def theMethod : MethodId := ⟨1, 1⟩
def args0 : Array Value := #[.long 5, .int 6]
def aboutOver (below : List Frame) : State where
  vm := { classes := classes, interned := interned.toArray }
  heap := heap
  slotsUsed := slotsUsed
  threads := #[{ frames := .invoking theMethod args0 :: below }]
def below0 : List Frame := [.native { method := ⟨0, 0⟩, args := #[] }]
def about1 : State := aboutOver below0
def p0 : Program := .bare "" "" ""
def e0 : Env := launch0.env 0 0 0
theorem w_frames : about1.frames = Frame.invoking theMethod args0 :: below0 := rfl
set_option maxRecDepth 65536 in
theorem w_args : argsFit about1.vm theMethod args0 = true := by decide +kernel
set_option maxRecDepth 65536 in
theorem w_heap : heapFits about1 = true := by decide +kernel
set_option maxRecDepth 65536 in
theorem w_runnable : about1.curStatus? = some .runnable := by decide +kernel
set_option maxRecDepth 65536 in
theorem w_alone : about1.alone = true := by decide +kernel
set_option maxRecDepth 65536 in
theorem w_named : about1.methodNamed? x = some theMethod := by decide +kernel
set_option maxRecDepth 65536 in
theorem w_hears : about1.hears theMethod below0 = true := by decide +kernel
set_option maxRecDepth 65536 in
theorem w_ripe : about1.ripe theMethod args0 below0 = true := by decide +kernel
theorem w_running : about1.status = .running := rfl
set_option maxRecDepth 65536 in
theorem w_room : about1.hasRoom e0.platform room_1 = true :=
  launch0.hasRoom_least _ room_1 (by decide +kernel) (by decide +kernel) (by decide +kernel) (by decide +kernel) (by decide +kernel) (by decide +kernel)
theorem allAtoms_all (ts : List Jvm.Cond) (a : Array Jvm.Value) (st : Jvm.State) : (allAtoms ts).before a st = ts.all (fun c => c.before a st) := by
  induction ts with
  | nil => rfl
  | cons c t ih =>
    show (Jvm.Cond.and c (allAtoms t)).before a st = _
    rw [Jvm.Cond.before_and, ih, List.all_cons]
def words1 : List Jvm.Cond := Jvm.Cond.code x code maxLocals ret :: tables_1
/-- a 'code' word, met by the world's own term for the bytes: nothing is compared byte by byte -/
theorem code_word {y : MethodName} {bytes : ByteArray} {mx : Nat} {rt : Option FieldType} {a : Array Value} {s : State} {m : MethodId} {meth : Method} {c : Code} (h1 : s.methodNamed? y = some m) (h2 : s.vm.method? m = some meth) (h3 : meth.code = some c) (h4 : c.code = bytes)
    (h5 : (c.maxLocals == mx && c.exceptionTable.isEmpty && decide (c.maxStack ≤ mostOperands) && decide (meth.sig.returnType = rt) && !meth.locks && decide (parseMethodDescriptor y.desc = some meth.sig)) = true) : (Jvm.Cond.code y bytes mx rt).before a s = true := by
  simp only [Bool.and_eq_true, beq_iff_eq, Bool.not_eq_true', decide_eq_true_eq] at h5
  obtain ⟨⟨⟨⟨⟨g1, g2⟩, g3⟩, g4⟩, g5⟩, g6⟩ := h5
  simp [Cond.before, Cond.holds, Cond.value, h1, h2, h3, h4, g1, g2, g3, g4, g5, g6]
def isCode : Jvm.Cond → Bool
  | .code _ _ _ _ => true
  | _ => false
theorem all_split {L : List Jvm.Cond} {P : Jvm.Cond → Bool} (h1 : L.all (fun c => isCode c || P c) = true) (h2 : ∀ c ∈ L.filter isCode, P c = true) : L.all P = true := by
  refine List.all_eq_true.mpr fun c hc => ?_
  have h := List.all_eq_true.mp h1 c hc
  rcases Bool.eq_false_or_eq_true (isCode c) with hi | hi
  · exact h2 c (List.mem_filter.mpr ⟨hc, hi⟩)
  · simpa [hi] using h
set_option maxRecDepth 65536 in
theorem w_c0 : (Jvm.Cond.code x code maxLocals ret).before args0 about1 = true := code_word (m := ⟨1, 1⟩) (meth := k1m1) (c := k1c1) (by decide +kernel) rfl rfl rfl (by decide +kernel)
set_option maxRecDepth 65536 in
theorem w_c1 : (Jvm.Cond.code ({ cls := "java/lang/Math", name := "min", desc := "(JJ)J" } : Jvm.MethodName) jdk_29_method_70_code (4 : Nat) (Option.some Jvm.ClassFile.FieldType.long)).before args0 about1 = true := code_word (m := ⟨2, 3⟩) (meth := k2m3) (c := k2c3) (by decide +kernel) rfl rfl rfl (by decide +kernel)
set_option maxRecDepth 65536 in
theorem w_c2 : (Jvm.Cond.code ({ cls := "com/example/vicinet/vicinet/store/Content", name := "pieceCount", desc := "(J)I" } : Jvm.MethodName) prog_97_method_2_code (2 : Nat) (Option.some Jvm.ClassFile.FieldType.int)).before args0 about1 = true := code_word (m := ⟨3, 0⟩) (meth := k3m0) (c := k3c0) (by decide +kernel) rfl rfl rfl (by decide +kernel)
set_option maxRecDepth 65536 in
theorem w_c3 : (Jvm.Cond.code ({ cls := "java/lang/Math", name := "toIntExact", desc := "(J)I" } : Jvm.MethodName) jdk_29_method_43_code (2 : Nat) (Option.some Jvm.ClassFile.FieldType.int)).before args0 about1 = true := code_word (m := ⟨2, 1⟩) (meth := k2m1) (c := k2c1) (by decide +kernel) rfl rfl rfl (by decide +kernel)
set_option maxRecDepth 65536 in
theorem w_c4 : (Jvm.Cond.code ({ cls := "java/lang/Math", name := "max", desc := "(JJ)J" } : Jvm.MethodName) jdk_29_method_66_code (4 : Nat) (Option.some Jvm.ClassFile.FieldType.long)).before args0 about1 = true := code_word (m := ⟨2, 2⟩) (meth := k2m2) (c := k2c2) (by decide +kernel) rfl rfl rfl (by decide +kernel)
def codes1 : List Jvm.Cond := [Jvm.Cond.code x code maxLocals ret, Jvm.Cond.code ({ cls := "java/lang/Math", name := "min", desc := "(JJ)J" } : Jvm.MethodName) jdk_29_method_70_code (4 : Nat) (Option.some Jvm.ClassFile.FieldType.long), Jvm.Cond.code ({ cls := "com/example/vicinet/vicinet/store/Content", name := "pieceCount", desc := "(J)I" } : Jvm.MethodName) prog_97_method_2_code (2 : Nat) (Option.some Jvm.ClassFile.FieldType.int), Jvm.Cond.code ({ cls := "java/lang/Math", name := "toIntExact", desc := "(J)I" } : Jvm.MethodName) jdk_29_method_43_code (2 : Nat) (Option.some Jvm.ClassFile.FieldType.int), Jvm.Cond.code ({ cls := "java/lang/Math", name := "max", desc := "(JJ)J" } : Jvm.MethodName) jdk_29_method_66_code (4 : Nat) (Option.some Jvm.ClassFile.FieldType.long)]
set_option maxRecDepth 65536 in
theorem codes_eq : words1.filter isCode = codes1 := rfl
theorem w_codes : ∀ c ∈ words1.filter isCode, c.before args0 about1 = true := by
  rw [codes_eq]
  intro c hc
  simp only [codes1, List.mem_cons, List.not_mem_nil, or_false] at hc
  rcases hc with rfl | rfl | rfl | rfl | rfl
  · exact w_c0
  · exact w_c1
  · exact w_c2
  · exact w_c3
  · exact w_c4
set_option maxRecDepth 65536 in
theorem w_t1 : words1.all (fun c => isCode c || c.before args0 about1) = true := by decide +kernel
theorem w_tables : (allAtoms (Jvm.Cond.code x code maxLocals ret :: tables_1)).before args0 about1 = true := by
  rw [allAtoms_all]
  show words1.all (fun c => c.before args0 about1) = true
  refine all_split ?_ w_codes
  rw [w_t1]
set_option maxRecDepth 65536 in
theorem w_case : (Jvm.Cond.and given_1 narrow_1).before args0 about1 = true := by decide +kernel
theorem w_applies : (headSpec (Jvm.Cond.code x code maxLocals ret :: tables_1) room_1).applies x e0.platform about1 = true :=
  (Spec.applies_iff w_frames).mpr ⟨w_running, w_runnable, w_alone, w_named, w_hears, w_ripe, w_room, w_tables⟩
theorem atStart : AtStart classFile x code maxLocals ret World_1 tables_1 room_1 Calls_1 rest_1 Pre_1 launch0 p0 e0 about1 theMethod args0 below0 :=
  ⟨lists_1, trivial, launch0.admits_env _ _ _, launch0.least_env, fairChoices_fair.cas, fairChoices_fair.clock, w_frames, w_args, w_heap, w_applies, trivial, trivial, w_case⟩
end start1
theorem witness_1 : WitnessClaimed_1 := ⟨start1.p0, start1.e0, start1.about1, start1.theMethod, start1.args0, start1.below0, start1.atStart⟩
end Jvm.Pilot.@@N@@
