import JvmDerived
import JvmDerived.Pilot.@@N@@Statement
import JvmDerived.Pilot.@@N@@Code
set_option linter.unusedVariables false
set_option linter.unusedSimpArgs false
@@BLOCK:NumsL.lean.txt@@
namespace Jvm.Pilot.@@N@@
open Jvm Jvm.ClassFile Sem Op Lib Jvm.Free Jvm.Stand Jvm.LawKit Jvm.RoadKit Bundle Jvm.Pilot.@@N@@.Jvm.D
section OwnKit
variable {p : Program} {l : Launch} {e : Env} {R : Room} {s : State} {m : MethodId} {args : Array Value} {below : List Frame} {meth : Method} {c : Code} {T : State} {locs : List Loc} {cells slots : Nat} {n0 cc nn : Nat} {K : Option Value → Heap → Prop} {P : Heap → Prop} {A B : State}
/-- what a contract says of the value, the heap and the places written -/
def QK (n0 : Nat) (K : Option Value → Heap → Prop) (v : Option Value) (h : Heap) (L : List Loc) : Prop := K v h ∧ Fr n0 L
def Kv (w : Option Value) (P : Heap → Prop) (v : Option Value) (h : Heap) : Prop := v = w ∧ P h
/-- from A the run comes to this body's end, and K holds there -/
def Gl (p : Program) (e : Env) (below : List Frame) (s : State) (n0 cc nn : Nat) (K : Option Value → Heap → Prop) (A : State) : Prop :=
  ∃ t o, Steps p.tables e below A t ∧ t.status = .running ∧ Ended t below o ∧ ∃ v L, o = .returned v ∧ QK n0 K v t.heap L ∧ FrameEnd s o t L cc nn
theorem go (st : ∀ t, Steps p.tables e below B t → Steps p.tables e below A t) (h : Gl p e below s n0 cc nn K B) : Gl p e below s n0 cc nn K A := by
  obtain ⟨t, o, h1, h2⟩ := h; exact ⟨t, o, st t h1, h2⟩
theorem gl_start {g g' : JFrame} (q : g = g') (h : Gl p e below s n0 cc nn K (T.setTop g')) :
    ∃ t o, Steps p.tables e below (T.setTop g) t ∧ t.status = .running ∧ Ended t below o ∧ ∃ v L, o = .returned v ∧ QK n0 K v t.heap L ∧ FrameEnd s o t L cc nn := by
  subst q; exact h
theorem gI {c : Prop} [Decidable c] {a b : Int32} (h1 : c → Gl p e below s n0 cc nn (Kv (some (.int a)) P) A) (h2 : ¬ c → Gl p e below s n0 cc nn (Kv (some (.int b)) P) A) : Gl p e below s n0 cc nn (Kv (some (.int (if c then a else b))) P) A := by
  by_cases h : c
  · rw [if_pos h]; exact h1 h
  · rw [if_neg h]; exact h2 h
theorem gJ {c : Prop} [Decidable c] {a b : Int64} (h1 : c → Gl p e below s n0 cc nn (Kv (some (.long a)) P) A) (h2 : ¬ c → Gl p e below s n0 cc nn (Kv (some (.long b)) P) A) : Gl p e below s n0 cc nn (Kv (some (.long (if c then a else b))) P) A := by
  by_cases h : c
  · rw [if_pos h]; exact h1 h
  · rw [if_neg h]; exact h2 h
theorem gR {c : Prop} [Decidable c] {a b : Addr} (h1 : c → Gl p e below s n0 cc nn (Kv (some (.ref a)) P) A) (h2 : ¬ c → Gl p e below s n0 cc nn (Kv (some (.ref b)) P) A) : Gl p e below s n0 cc nn (Kv (some (.ref (if c then a else b))) P) A := by
  by_cases h : c
  · rw [if_pos h]; exact h1 h
  · rw [if_neg h]; exact h2 h
theorem gV {c : Prop} [Decidable c] (h1 : c → Gl p e below s n0 cc nn K A) (h2 : ¬ c → Gl p e below s n0 cc nn K A) : Gl p e below s n0 cc nn K A := by
  by_cases h : c
  · exact h1 h
  · exact h2 h
variable {x : MethodName} {S : Spec} {code' : ByteArray} {ml : Nat} {s₁ : State} {pc : Nat} {Ls : Array Slot} {rest : List Value}
theorem endN (X : Stand p l e R s m args below meth c T locs cells slots) (hx : p.tables.exec = Jvm.exec) {t : FieldType} (Bd : BodyLoose p l x S code' ml (some t) e s m args below meth c s₁) (ht : t = .boolean ∨ t = .byte ∨ t = .char ∨ t = .short) {z : Int32}
    (hd : decode c.code pc = .ok (.ireturn, 1)) (hK : K (some (.int (nar t z))) T.heap) (N : Fr n0 locs) (hc : cells ≤ cc) (hs : slots ≤ nn) : Gl p e below s n0 cc nn K (T.setTop (mkF m pc Ls (.int z :: rest))) := by
  obtain ⟨fs, hr, hrun, hended, hW, hsame⟩ := X.leave (v := some (.int (nar t z))) (fun h => by rw [Bd.returns] at h; cases h)
  exact ⟨_, _, retN X hx Bd.returns ht hd hr, hrun, hended, _, _, rfl, ⟨hK, N⟩, ⟨_, rfl⟩, hW, hsame.mono hc hs⟩
theorem endO (X : Stand p l e R s m args below meth c T locs cells slots) (hx : p.tables.exec = Jvm.exec) {t : FieldType} (Bd : BodyLoose p l x S code' ml (some t) e s m args below meth c s₁) {w : Value} {i : Instr} (hn : narrow t w = w)
    (hi : (i = .ireturn ∧ (t = .int ∨ t = .boolean ∨ t = .byte ∨ t = .char ∨ t = .short) ∧ ∃ z, w = .int z) ∨ (i = .lreturn ∧ t = .long ∧ ∃ z, w = .long z) ∨ (i = .dreturn ∧ t = .double ∧ ∃ z, w = .double z) ∨ (i = .freturn ∧ t = .float ∧ ∃ z, w = .float z) ∨ (i = .areturn ∧ t.isReference = true ∧ w.isRef = true))
    (hd : decode c.code pc = .ok (i, 1)) (hK : K (some w) T.heap) (N : Fr n0 locs) (hc : cells ≤ cc) (hs : slots ≤ nn) : Gl p e below s n0 cc nn K (T.setTop (mkF m pc Ls (w :: rest))) := by
  obtain ⟨fs, hr, hrun, hended, hW, hsame⟩ := X.leave (v := some w) (fun h => by rw [Bd.returns] at h; cases h)
  exact ⟨_, _, retOut X hx Bd.returns hn hi hd hr, hrun, hended, _, _, rfl, ⟨hK, N⟩, ⟨_, rfl⟩, hW, hsame.mono hc hs⟩
theorem endI (X : Stand p l e R s m args below meth c T locs cells slots) (hx : p.tables.exec = Jvm.exec) (Bd : BodyLoose p l x S code' ml (some .int) e s m args below meth c s₁) {z : Int32}
    (hd : decode c.code pc = .ok (.ireturn, 1)) (hK : K (some (.int z)) T.heap) (N : Fr n0 locs) (hc : cells ≤ cc) (hs : slots ≤ nn) : Gl p e below s n0 cc nn K (T.setTop (mkF m pc Ls (.int z :: rest))) :=
  endO X hx Bd rfl (Or.inl ⟨rfl, Or.inl rfl, z, rfl⟩) hd hK N hc hs
theorem endJ (X : Stand p l e R s m args below meth c T locs cells slots) (hx : p.tables.exec = Jvm.exec) (Bd : BodyLoose p l x S code' ml (some .long) e s m args below meth c s₁) {z : Int64}
    (hd : decode c.code pc = .ok (.lreturn, 1)) (hK : K (some (.long z)) T.heap) (N : Fr n0 locs) (hc : cells ≤ cc) (hs : slots ≤ nn) : Gl p e below s n0 cc nn K (T.setTop (mkF m pc Ls (.long z :: rest))) :=
  endO X hx Bd rfl (Or.inr (Or.inl ⟨rfl, rfl, z, rfl⟩)) hd hK N hc hs
theorem endR (X : Stand p l e R s m args below meth c T locs cells slots) (hx : p.tables.exec = Jvm.exec) {t : FieldType} (Bd : BodyLoose p l x S code' ml (some t) e s m args below meth c s₁) (ht : t.isReference = true) {a : Addr}
    (hd : decode c.code pc = .ok (.areturn, 1)) (hK : K (some (.ref a)) T.heap) (N : Fr n0 locs) (hc : cells ≤ cc) (hs : slots ≤ nn) : Gl p e below s n0 cc nn K (T.setTop (mkF m pc Ls (.ref a :: rest))) :=
  endO X hx Bd (by cases t <;> first | rfl | cases ht) (Or.inr (Or.inr (Or.inr (Or.inr ⟨rfl, ht, rfl⟩)))) hd hK N hc hs
theorem endV (X : Stand p l e R s m args below meth c T locs cells slots) (hx : p.tables.exec = Jvm.exec) (Bd : BodyLoose p l x S code' ml none e s m args below meth c s₁)
    (hd : decode c.code pc = .ok (.return_, 1)) (hK : K none T.heap) (N : Fr n0 locs) (hc : cells ≤ cc) (hs : slots ≤ nn) : Gl p e below s n0 cc nn K (T.setTop (mkF m pc Ls [])) := by
  obtain ⟨fs, hr, hrun, hended, hW, hsame⟩ := X.leave (v := none) (fun _ => rfl)
  exact ⟨_, _, X.returnOut hx Bd.returns hd hr, hrun, hended, _, _, rfl, ⟨hK, N⟩, ⟨_, rfl⟩, hW, hsame.mono hc hs⟩
theorem lremM {g : JFrame} {target : State} (X : Stand p l e R s m args below meth c T locs cells slots) (hx : p.tables.exec = Jvm.exec) (hg : g.method = m) {x y : Int64} {rest : List Value} (hd : decode c.code g.pc = .ok (.lrem, 1)) (hs : g.stack = .long y :: .long x :: rest) (hy : y ≠ 0)
    (hr : Steps p.tables e below (T.setTop { g with pc := g.pc + 1, stack := .long (x % y) :: rest }) target) : Steps p.tables e below (T.setTop g) target := by
  have q := lrem_mod x y
  exact XS.lrem X.here hx hg hd hs hy (by rw [q]; exact hr)
theorem sta_keep {Z : State} {h h' : Heap} {a : Addr} {C n d D : String} {w : Value} (F : Sta Z h C n d w) (Kp : Keep h h' [a]) (E : Exa Z h a D) : Sta Z h' C n d w := by
  obtain ⟨cf, i, k, f, st, cell, h1, h2, h3, h4, h5, h6, h7⟩ := F
  obtain ⟨cell', k', e1, -, -, e4, -⟩ := E
  refine ⟨cf, i, k, f, st, cell, h1, h2, h3, h4, Kp.2.1 st cell h5 (ninS (fun q => ?_) nin0), h6, h7⟩
  subst q; cases h5.symm.trans e1; rw [h6] at e4; cases e4
theorem sta_keepN {Z : State} {h h' : Heap} {ws : List Addr} {C n d : String} {w : Value} (F : Sta Z h C n d w) (Kp : Keep h h' ws) (hn : ∀ x ∈ ws, ∀ cell : Cell, h[x]? = some cell → cell.vm.isStatics = false) : Sta Z h' C n d w := by
  obtain ⟨cf, i, k, f, st, cell, h1, h2, h3, h4, h5, h6, h7⟩ := F
  refine ⟨cf, i, k, f, st, cell, h1, h2, h3, h4, Kp.2.1 st cell h5 (fun q => ?_), h6, h7⟩
  have := hn st q cell h5
  rw [h6] at this; cases this
theorem sta_keep0 {Z : State} {h h' : Heap} {C n d : String} {w : Value} (F : Sta Z h C n d w) (Kp : Keep h h' []) : Sta Z h' C n d w := by
  obtain ⟨cf, i, k, f, st, cell, h1, h2, h3, h4, h5, h6, h7⟩ := F
  exact ⟨cf, i, k, f, st, cell, h1, h2, h3, h4, Kp.2.1 st cell h5 nin0, h6, h7⟩
theorem sel_priv {Z s : State} {a0 args : Array Value} {y : MethodName} {n : Nat} (hZ : Z.Warmed39 s.vm) (wi : (Cond.instantiable y.cls n).before a0 Z = true) (wp : (Cond.privateMethod y).before a0 Z = true) (wm : (Cond.instanceMethod y).before a0 Z = true) (hy : y.cls ≠ "java/lang/invoke/MethodHandle" ∧ y.cls ≠ "java/lang/invoke/VarHandle") : (Cond.selects y.cls y y).before args s = true := by
  obtain ⟨c, k, h1, h2, -, h4, -⟩ := Cond.instantiable_spec (show (Cond.instantiable y.cls n).before args s = true from mvT hZ wi)
  exact Jvm.Stand.selects_self_of_private h1 h2 (by simp only [Bool.or_eq_false_iff] at h4; exact h4.1) (Cond.privateMethod_at (mvP hZ wp (args := args))) (mvT hZ wm) hy
theorem eqL_v {t : Term} {k : Int64} {a0 : Array Value} {first u : State} {o : Option Outcome} {idx : List Nat} (h : (Cond.eq t (.long k)).value a0 first o u idx = some true) : t.eval a0 first o idx u = some (.long k) := by
  simp only [Cond.value, Term.eval] at h
  cases ht : t.eval a0 first o idx u with
  | none => simp [ht] at h
  | some x => cases x <;> simp [ht] at h ⊢; exact h
theorem eqI_v {t : Term} {k : Int32} {a0 : Array Value} {first u : State} {o : Option Outcome} {idx : List Nat} (h : (Cond.eq t (.int k)).value a0 first o u idx = some true) : t.eval a0 first o idx u = some (.int k) := by
  simp only [Cond.value, Term.eval] at h
  cases ht : t.eval a0 first o idx u with
  | none => simp [ht] at h
  | some x => cases x <;> simp [ht] at h ⊢; exact h
end OwnKit
theorem d1_0 : decode prog_50_method_10_code 0 = .ok (.iload_n 0, 1) := by decide +kernel
theorem d1_1 : decode prog_50_method_10_code 1 = .ok (.bipush 97, 2) := by decide +kernel
theorem d1_3 : decode prog_50_method_10_code 3 = .ok (.if_icmp .lt 9, 3) := by decide +kernel
theorem d1_6 : decode prog_50_method_10_code 6 = .ok (.iload_n 0, 1) := by decide +kernel
theorem d1_7 : decode prog_50_method_10_code 7 = .ok (.bipush 122, 2) := by decide +kernel
theorem d1_9 : decode prog_50_method_10_code 9 = .ok (.if_icmp .le 15, 3) := by decide +kernel
theorem d1_12 : decode prog_50_method_10_code 12 = .ok (.iload_n 0, 1) := by decide +kernel
theorem d1_13 : decode prog_50_method_10_code 13 = .ok (.bipush 65, 2) := by decide +kernel
theorem d1_15 : decode prog_50_method_10_code 15 = .ok (.if_icmp .lt 13, 3) := by decide +kernel
theorem d1_18 : decode prog_50_method_10_code 18 = .ok (.iload_n 0, 1) := by decide +kernel
theorem d1_19 : decode prog_50_method_10_code 19 = .ok (.bipush 90, 2) := by decide +kernel
theorem d1_21 : decode prog_50_method_10_code 21 = .ok (.if_icmp .gt 7, 3) := by decide +kernel
theorem d1_24 : decode prog_50_method_10_code 24 = .ok (.iconst 1, 1) := by decide +kernel
theorem d1_25 : decode prog_50_method_10_code 25 = .ok (.goto 4, 3) := by decide +kernel
theorem d1_28 : decode prog_50_method_10_code 28 = .ok (.iconst 0, 1) := by decide +kernel
theorem d1_29 : decode prog_50_method_10_code 29 = .ok (.ireturn, 1) := by decide +kernel
theorem pn_0 : plainName "com/example/policylint/policylint/compact/Lexer" = true := by first | (simp [plainName, overriddenIn]; done) | decide +kernel
theorem ef_1 (m : MethodId) (p1 : Int32) : entryFrame m #[(.int p1)] 1 = mkF m 0 #[.val (.int p1)] [] := by first | (simp [entryFrame, mkF, argsToLocals, Value.category]; done) | rfl
def b1_29 (s0_29 : Int32) : Int32 := (nar .boolean s0_29)
def b1_24  : Int32 := (b1_29 (1 : Int32))
def b1_28  : Int32 := (b1_29 (0 : Int32))
def b1_12 (p1 : Int32) : Int32 := (if p1 < (65 : Int32) then b1_28 else (if (90 : Int32) < p1 then b1_28 else b1_24))
def b1_0 (p1 : Int32) : Int32 := (if p1 < (97 : Int32) then (b1_12 p1) else (if (122 : Int32) < p1 then (b1_12 p1) else b1_24))
set_option maxRecDepth 65536 in
set_option maxHeartbeats 40000000 in
theorem rm1 (l : Launch) (Z : State) (a0 : Array Value) (hw : ∀ d ∈ tables_1, d.before a0 Z = true) (ws : List Jvm.Cond) (p1 : Int32) (h0 : Heap) (n0 : Nat) (Z0 : n0 ≤ h0.size) :
    MetFree l (⟨"com/example/policylint/policylint/compact/Lexer", "isLetter", "(C)Z"⟩ : MethodName) (head1 (Jvm.Cond.code (⟨"com/example/policylint/policylint/compact/Lexer", "isLetter", "(C)Z"⟩ : MethodName) prog_50_method_10_code 1 (some .boolean) :: ws) ({ frames := 0, cells := 0, slots := 0, locals := 0 } : Room)) (fun a U => a = #[(.int p1)] ∧ Z.Warmed39 U.vm ∧ U.heap = h0) (fun _ _ _ _ _ => True) (fun _ U o U' => ∃ v L, o = .returned v ∧ QK n0 (Kv (some (.int (b1_0 p1))) (fun h => h = h0)) v U'.heap L ∧ FrameEnd U o U' L ({ frames := 0, cells := 0, slots := 0, locals := 0 } : Room).cells ({ frames := 0, cells := 0, slots := 0, locals := 0 } : Room).slots) := by
  refine MetFree.of_bodySF (plainFor_of_name pn_0) hisR ?_
  intro p e s m args below meth c s₁ Bd hml0 hP hK
  obtain ⟨rfl, hZ, hh⟩ := hP
  have hx := Bd.exec
  have hby := Bd.bytes
  have hml : c.maxLocals = 1 := hml0
  have hown : s.vm.findClass "com/example/policylint/policylint/compact/Lexer" = some m.cls := findClass_of_methodNamed Bd.named
  have hnm := (name_of_methodNamed Bd.named Bd.method).1
  have X0 : Stand p l e ({ frames := 0, cells := 0, slots := 0, locals := 0 } : Room) s m #[(.int p1)] below meth c s₁ [] 0 0 := Stand.of_body Bd
  have e0 : s₁.heap = h0 := by rw [← hh, Bd.state]; rfl
  have N0 := Fr.nil n0
  refine gl_start (ef_1 m p1) ?_
  show Gl p e below s n0 ({ frames := 0, cells := 0, slots := 0, locals := 0 } : Room).cells ({ frames := 0, cells := 0, slots := 0, locals := 0 } : Room).slots (Kv (some (.int (if p1 < (97 : Int32) then (b1_12 p1) else (if (122 : Int32) < p1 then (b1_12 p1) else b1_24)))) (fun h => h = h0)) (s₁.setTop (mkF m 0 #[.val (.int p1)] []))
  refine go (fun t k => XS.iloadN X0.here hx rfl (hb hby d1_0) rfl  k) ?_
  show Gl _ _ _ _ _ _ _ _ (s₁.setTop (mkF m 1 #[.val (.int p1)] [(.int p1)]))
  refine go (fun t k => XS.bipush X0.here hx rfl (hb hby d1_1) k) ?_
  show Gl _ _ _ _ _ _ _ _ (s₁.setTop (mkF m 3 #[.val (.int p1)] [(.int (97 : Int32)), (.int p1)]))
  have J29 : ∀ (s0_29 : Int32) (TJ29 : State) (lJ29 : List Loc) (XJ29 : Stand p l e ({ frames := 0, cells := 0, slots := 0, locals := 0 } : Room) s m #[(.int p1)] below meth c TJ29 lJ29 0 0) (eJ29 : TJ29.heap = h0) (NJ29 : Fr n0 lJ29), Gl p e below s n0 ({ frames := 0, cells := 0, slots := 0, locals := 0 } : Room).cells ({ frames := 0, cells := 0, slots := 0, locals := 0 } : Room).slots (Kv (some (.int (b1_29 s0_29))) (fun h => h = h0)) (TJ29.setTop (mkF m 29 #[.val (.int p1)] [(.int s0_29)])) := by
    intro s0_29 TJ29 lJ29 XJ29 eJ29 NJ29
    show Gl _ _ _ _ _ _ _ (Kv (some (.int (nar .boolean s0_29))) _) _
    exact endN XJ29 hx Bd (t := .boolean) (by simp) (hb hby d1_29) ⟨rfl, eJ29⟩ NJ29 (by decide) (by decide)
  have J24 : ∀  (TJ24 : State) (lJ24 : List Loc) (XJ24 : Stand p l e ({ frames := 0, cells := 0, slots := 0, locals := 0 } : Room) s m #[(.int p1)] below meth c TJ24 lJ24 0 0) (eJ24 : TJ24.heap = h0) (NJ24 : Fr n0 lJ24), Gl p e below s n0 ({ frames := 0, cells := 0, slots := 0, locals := 0 } : Room).cells ({ frames := 0, cells := 0, slots := 0, locals := 0 } : Room).slots (Kv (some (.int b1_24)) (fun h => h = h0)) (TJ24.setTop (mkF m 24 #[.val (.int p1)] [])) := by
    intro  TJ24 lJ24 XJ24 eJ24 NJ24
    show Gl _ _ _ _ _ _ _ (Kv (some (.int (b1_29 (1 : Int32)))) _) _
    refine go (fun t k => XS.iconst XJ24.here hx rfl (hb hby d1_24) k) ?_
    show Gl _ _ _ _ _ _ _ _ (TJ24.setTop (mkF m 25 #[.val (.int p1)] [(.int (1 : Int32))]))
    refine go (fun t k => XS.goto XJ24.here hx rfl (pc0 := 25) (pc' := 29) rfl (hb hby d1_25) (by decide) (by decide) k) ?_
    show Gl _ _ _ _ _ _ _ _ (TJ24.setTop (mkF m 29 #[.val (.int p1)] [(.int (1 : Int32))]))
    exact J29 (1 : Int32) TJ24 _ XJ24 eJ24 NJ24
  have J12 : ∀  (TJ12 : State) (lJ12 : List Loc) (XJ12 : Stand p l e ({ frames := 0, cells := 0, slots := 0, locals := 0 } : Room) s m #[(.int p1)] below meth c TJ12 lJ12 0 0) (eJ12 : TJ12.heap = h0) (NJ12 : Fr n0 lJ12), Gl p e below s n0 ({ frames := 0, cells := 0, slots := 0, locals := 0 } : Room).cells ({ frames := 0, cells := 0, slots := 0, locals := 0 } : Room).slots (Kv (some (.int (b1_12 p1))) (fun h => h = h0)) (TJ12.setTop (mkF m 12 #[.val (.int p1)] [])) := by
    intro  TJ12 lJ12 XJ12 eJ12 NJ12
    show Gl _ _ _ _ _ _ _ (Kv (some (.int (if p1 < (65 : Int32) then b1_28 else (if (90 : Int32) < p1 then b1_28 else b1_24)))) _) _
    refine go (fun t k => XS.iloadN XJ12.here hx rfl (hb hby d1_12) rfl  k) ?_
    show Gl _ _ _ _ _ _ _ _ (TJ12.setTop (mkF m 13 #[.val (.int p1)] [(.int p1)]))
    refine go (fun t k => XS.bipush XJ12.here hx rfl (hb hby d1_13) k) ?_
    show Gl _ _ _ _ _ _ _ _ (TJ12.setTop (mkF m 15 #[.val (.int p1)] [(.int (65 : Int32)), (.int p1)]))
    have J28 : ∀  (TJ28 : State) (lJ28 : List Loc) (XJ28 : Stand p l e ({ frames := 0, cells := 0, slots := 0, locals := 0 } : Room) s m #[(.int p1)] below meth c TJ28 lJ28 0 0) (eJ28 : TJ28.heap = h0) (NJ28 : Fr n0 lJ28), Gl p e below s n0 ({ frames := 0, cells := 0, slots := 0, locals := 0 } : Room).cells ({ frames := 0, cells := 0, slots := 0, locals := 0 } : Room).slots (Kv (some (.int b1_28)) (fun h => h = h0)) (TJ28.setTop (mkF m 28 #[.val (.int p1)] [])) := by
      intro  TJ28 lJ28 XJ28 eJ28 NJ28
      show Gl _ _ _ _ _ _ _ (Kv (some (.int (b1_29 (0 : Int32)))) _) _
      refine go (fun t k => XS.iconst XJ28.here hx rfl (hb hby d1_28) k) ?_
      show Gl _ _ _ _ _ _ _ _ (TJ28.setTop (mkF m 29 #[.val (.int p1)] [(.int (0 : Int32))]))
      exact J29 (0 : Int32) TJ28 _ XJ28 eJ28 NJ28
    refine gI (c := p1 < (65 : Int32)) (fun hc15 => ?_) (fun hc15 => ?_)
    · refine go (fun t k => XS.icmpYes XJ12.here hx rfl (pc0 := 15) (pc' := 28) rfl (hb hby d1_15) rfl (tlt hc15).1 (by decide) (by decide) k) ?_
      show Gl _ _ _ _ _ _ _ _ (TJ12.setTop (mkF m 28 #[.val (.int p1)] []))
      exact J28  TJ12 _ XJ12 eJ12 NJ12
    · refine go (fun t k => XS.icmpNo XJ12.here hx rfl (hb hby d1_15) rfl (flt hc15).1 k) ?_
      show Gl _ _ _ _ _ _ _ _ (TJ12.setTop (mkF m 18 #[.val (.int p1)] []))
      refine go (fun t k => XS.iloadN XJ12.here hx rfl (hb hby d1_18) rfl  k) ?_
      show Gl _ _ _ _ _ _ _ _ (TJ12.setTop (mkF m 19 #[.val (.int p1)] [(.int p1)]))
      refine go (fun t k => XS.bipush XJ12.here hx rfl (hb hby d1_19) k) ?_
      show Gl _ _ _ _ _ _ _ _ (TJ12.setTop (mkF m 21 #[.val (.int p1)] [(.int (90 : Int32)), (.int p1)]))
      refine gI (c := (90 : Int32) < p1) (fun hc21 => ?_) (fun hc21 => ?_)
      · refine go (fun t k => XS.icmpYes XJ12.here hx rfl (pc0 := 21) (pc' := 28) rfl (hb hby d1_21) rfl (tlt hc21).2.2.1 (by decide) (by decide) k) ?_
        show Gl _ _ _ _ _ _ _ _ (TJ12.setTop (mkF m 28 #[.val (.int p1)] []))
        exact J28  TJ12 _ XJ12 eJ12 NJ12
      · refine go (fun t k => XS.icmpNo XJ12.here hx rfl (hb hby d1_21) rfl (flt hc21).2.2.1 k) ?_
        show Gl _ _ _ _ _ _ _ _ (TJ12.setTop (mkF m 24 #[.val (.int p1)] []))
        exact J24  TJ12 _ XJ12 eJ12 NJ12
  refine gI (c := p1 < (97 : Int32)) (fun hc3 => ?_) (fun hc3 => ?_)
  · refine go (fun t k => XS.icmpYes X0.here hx rfl (pc0 := 3) (pc' := 12) rfl (hb hby d1_3) rfl (tlt hc3).1 (by decide) (by decide) k) ?_
    show Gl _ _ _ _ _ _ _ _ (s₁.setTop (mkF m 12 #[.val (.int p1)] []))
    exact J12  s₁ _ X0 e0 N0
  · refine go (fun t k => XS.icmpNo X0.here hx rfl (hb hby d1_3) rfl (flt hc3).1 k) ?_
    show Gl _ _ _ _ _ _ _ _ (s₁.setTop (mkF m 6 #[.val (.int p1)] []))
    refine go (fun t k => XS.iloadN X0.here hx rfl (hb hby d1_6) rfl  k) ?_
    show Gl _ _ _ _ _ _ _ _ (s₁.setTop (mkF m 7 #[.val (.int p1)] [(.int p1)]))
    refine go (fun t k => XS.bipush X0.here hx rfl (hb hby d1_7) k) ?_
    show Gl _ _ _ _ _ _ _ _ (s₁.setTop (mkF m 9 #[.val (.int p1)] [(.int (122 : Int32)), (.int p1)]))
    refine gI (c := (122 : Int32) < p1) (fun hc9 => ?_) (fun hc9 => ?_)
    · refine go (fun t k => XS.icmpNo X0.here hx rfl (hb hby d1_9) rfl (tlt hc9).2.2.2 k) ?_
      show Gl _ _ _ _ _ _ _ _ (s₁.setTop (mkF m 12 #[.val (.int p1)] []))
      exact J12  s₁ _ X0 e0 N0
    · refine go (fun t k => XS.icmpYes X0.here hx rfl (pc0 := 9) (pc' := 24) rfl (hb hby d1_9) rfl (flt hc9).2.2.2 (by decide) (by decide) k) ?_
      show Gl _ _ _ _ _ _ _ _ (s₁.setTop (mkF m 24 #[.val (.int p1)] []))
      exact J24  s₁ _ X0 e0 N0
theorem pd_0 : parseMethodDescriptor "(C)Z" = some ⟨[.char], some .boolean⟩ := by decide +kernel
theorem pn_1 : plainName "com/example/policylint/policylint/compact/LexerIsLetterPinLaw" = true := by first | (simp [plainName, overriddenIn]; done) | decide +kernel
theorem ef_0 (m : MethodId) (p1 : Int32) : entryFrame m #[(.int p1)] maxLocals = mkF m 0 #[.val (.int p1), .unset, .unset, .unset, .unset] [] := by first | (simp [entryFrame, mkF, argsToLocals, Value.category, maxLocals]; done) | rfl
def b0_44 (s0_44 : Int32) : Int32 := (nar .boolean s0_44)
def b0_28 (p1 : Int32) (s0_28 : Int32) : Int32 := (if (b1_0 (p1.toUInt32.toUInt16.toUInt32.toInt32)) = s0_28 then (b0_44 (1 : Int32)) else (b0_44 (0 : Int32)))
def b0_27 (p1 : Int32) : Int32 := (b0_28 p1 (0 : Int32))
def b0_0 (p1 : Int32) : Int32 := (if (((p1.toUInt32.toUInt16.toUInt32.toInt32) ||| (32 : Int32)) - (97 : Int32)) < (0 : Int32) then (b0_27 p1) else (if (((p1.toUInt32.toUInt16.toUInt32.toInt32) ||| (32 : Int32)) - (97 : Int32)) < (26 : Int32) then (b0_28 p1 (1 : Int32)) else (b0_27 p1)))
set_option maxRecDepth 65536 in
set_option maxHeartbeats 40000000 in
theorem rm0 (l : Launch) (Z : State) (a0 : Array Value) (hw : ∀ d ∈ tables_1, d.before a0 Z = true) (ws : List Jvm.Cond) (p1 : Int32) (h0 : Heap) (n0 : Nat) (Z0 : n0 ≤ h0.size) :
    MetFree l x (head1 (Jvm.Cond.code x code maxLocals ret :: ws) room_1) (fun a U => a = #[(.int p1)] ∧ Z.Warmed39 U.vm ∧ U.heap = h0) (fun _ _ _ _ _ => True) (fun _ U o U' => ∃ v L, o = .returned v ∧ QK n0 (Kv (some (.int (b0_0 p1))) (fun _ => True)) v U'.heap L ∧ FrameEnd U o U' L room_1.cells room_1.slots) := by
  refine MetFree.of_bodySF (plainFor_of_name pn_1) hisR ?_
  intro p e s m args below meth c s₁ Bd hml0 hP hK
  obtain ⟨rfl, hZ, hh⟩ := hP
  have hx := Bd.exec
  have hby := Bd.bytes
  have hml : c.maxLocals = 5 := hml0
  have hown : s.vm.findClass "com/example/policylint/policylint/compact/LexerIsLetterPinLaw" = some m.cls := findClass_of_methodNamed Bd.named
  have hnm := (name_of_methodNamed Bd.named Bd.method).1
  have X0 : Stand p l e room_1 s m #[(.int p1)] below meth c s₁ [] 0 0 := Stand.of_body Bd
  have e0 : s₁.heap = h0 := by rw [← hh, Bd.state]; rfl
  have N0 := Fr.nil n0
  refine gl_start (ef_0 m p1) ?_
  show Gl p e below s n0 room_1.cells room_1.slots (Kv (some (.int (if (((p1.toUInt32.toUInt16.toUInt32.toInt32) ||| (32 : Int32)) - (97 : Int32)) < (0 : Int32) then (b0_27 p1) else (if (((p1.toUInt32.toUInt16.toUInt32.toInt32) ||| (32 : Int32)) - (97 : Int32)) < (26 : Int32) then (b0_28 p1 (1 : Int32)) else (b0_27 p1))))) (fun _ => True)) (s₁.setTop (mkF m 0 #[.val (.int p1), .unset, .unset, .unset, .unset] []))
  refine go (fun t k => XS.iloadN X0.here hx rfl (hb hby at_0) rfl  k) ?_
  show Gl _ _ _ _ _ _ _ _ (s₁.setTop (mkF m 1 #[.val (.int p1), .unset, .unset, .unset, .unset] [(.int p1)]))
  refine go (fun t k => XS.i2c X0.here hx rfl (hb hby at_1) rfl k) ?_
  show Gl _ _ _ _ _ _ _ _ (s₁.setTop (mkF m 2 #[.val (.int p1), .unset, .unset, .unset, .unset] [(.int (p1.toUInt32.toUInt16.toUInt32.toInt32))]))
  refine go (fun t k => XS.istoreN X0.here hx rfl (hb hby at_2) rfl (l' := #[.val (.int p1), .val (.int (p1.toUInt32.toUInt16.toUInt32.toInt32)), .unset, .unset, .unset]) rfl k) ?_
  show Gl _ _ _ _ _ _ _ _ (s₁.setTop (mkF m 3 #[.val (.int p1), .val (.int (p1.toUInt32.toUInt16.toUInt32.toInt32)), .unset, .unset, .unset] []))
  refine go (fun t k => XS.iloadN X0.here hx rfl (hb hby at_3) rfl  k) ?_
  show Gl _ _ _ _ _ _ _ _ (s₁.setTop (mkF m 4 #[.val (.int p1), .val (.int (p1.toUInt32.toUInt16.toUInt32.toInt32)), .unset, .unset, .unset] [(.int (p1.toUInt32.toUInt16.toUInt32.toInt32))]))
  refine go (fun t k => XS.bipush X0.here hx rfl (hb hby at_4) k) ?_
  show Gl _ _ _ _ _ _ _ _ (s₁.setTop (mkF m 6 #[.val (.int p1), .val (.int (p1.toUInt32.toUInt16.toUInt32.toInt32)), .unset, .unset, .unset] [(.int (32 : Int32)), (.int (p1.toUInt32.toUInt16.toUInt32.toInt32))]))
  refine go (fun t k => XS.ior X0.here hx rfl (hb hby at_6) rfl k) ?_
  show Gl _ _ _ _ _ _ _ _ (s₁.setTop (mkF m 7 #[.val (.int p1), .val (.int (p1.toUInt32.toUInt16.toUInt32.toInt32)), .unset, .unset, .unset] [(.int ((p1.toUInt32.toUInt16.toUInt32.toInt32) ||| (32 : Int32)))]))
  refine go (fun t k => XS.istoreN X0.here hx rfl (hb hby at_7) rfl (l' := #[.val (.int p1), .val (.int (p1.toUInt32.toUInt16.toUInt32.toInt32)), .val (.int ((p1.toUInt32.toUInt16.toUInt32.toInt32) ||| (32 : Int32))), .unset, .unset]) rfl k) ?_
  show Gl _ _ _ _ _ _ _ _ (s₁.setTop (mkF m 8 #[.val (.int p1), .val (.int (p1.toUInt32.toUInt16.toUInt32.toInt32)), .val (.int ((p1.toUInt32.toUInt16.toUInt32.toInt32) ||| (32 : Int32))), .unset, .unset] []))
  refine go (fun t k => XS.iloadN X0.here hx rfl (hb hby at_8) rfl  k) ?_
  show Gl _ _ _ _ _ _ _ _ (s₁.setTop (mkF m 9 #[.val (.int p1), .val (.int (p1.toUInt32.toUInt16.toUInt32.toInt32)), .val (.int ((p1.toUInt32.toUInt16.toUInt32.toInt32) ||| (32 : Int32))), .unset, .unset] [(.int ((p1.toUInt32.toUInt16.toUInt32.toInt32) ||| (32 : Int32)))]))
  refine go (fun t k => XS.bipush X0.here hx rfl (hb hby at_9) k) ?_
  show Gl _ _ _ _ _ _ _ _ (s₁.setTop (mkF m 11 #[.val (.int p1), .val (.int (p1.toUInt32.toUInt16.toUInt32.toInt32)), .val (.int ((p1.toUInt32.toUInt16.toUInt32.toInt32) ||| (32 : Int32))), .unset, .unset] [(.int (97 : Int32)), (.int ((p1.toUInt32.toUInt16.toUInt32.toInt32) ||| (32 : Int32)))]))
  refine go (fun t k => XS.isub X0.here hx rfl (hb hby at_11) rfl k) ?_
  show Gl _ _ _ _ _ _ _ _ (s₁.setTop (mkF m 12 #[.val (.int p1), .val (.int (p1.toUInt32.toUInt16.toUInt32.toInt32)), .val (.int ((p1.toUInt32.toUInt16.toUInt32.toInt32) ||| (32 : Int32))), .unset, .unset] [(.int (((p1.toUInt32.toUInt16.toUInt32.toInt32) ||| (32 : Int32)) - (97 : Int32)))]))
  refine go (fun t k => XS.istoreN X0.here hx rfl (hb hby at_12) rfl (l' := #[.val (.int p1), .val (.int (p1.toUInt32.toUInt16.toUInt32.toInt32)), .val (.int ((p1.toUInt32.toUInt16.toUInt32.toInt32) ||| (32 : Int32))), .val (.int (((p1.toUInt32.toUInt16.toUInt32.toInt32) ||| (32 : Int32)) - (97 : Int32))), .unset]) rfl k) ?_
  show Gl _ _ _ _ _ _ _ _ (s₁.setTop (mkF m 13 #[.val (.int p1), .val (.int (p1.toUInt32.toUInt16.toUInt32.toInt32)), .val (.int ((p1.toUInt32.toUInt16.toUInt32.toInt32) ||| (32 : Int32))), .val (.int (((p1.toUInt32.toUInt16.toUInt32.toInt32) ||| (32 : Int32)) - (97 : Int32))), .unset] []))
  refine go (fun t k => XS.iloadN X0.here hx rfl (hb hby at_13) rfl  k) ?_
  show Gl _ _ _ _ _ _ _ _ (s₁.setTop (mkF m 14 #[.val (.int p1), .val (.int (p1.toUInt32.toUInt16.toUInt32.toInt32)), .val (.int ((p1.toUInt32.toUInt16.toUInt32.toInt32) ||| (32 : Int32))), .val (.int (((p1.toUInt32.toUInt16.toUInt32.toInt32) ||| (32 : Int32)) - (97 : Int32))), .unset] [(.int (((p1.toUInt32.toUInt16.toUInt32.toInt32) ||| (32 : Int32)) - (97 : Int32)))]))
  have J28 : ∀ (s0_28 : Int32) (TJ28 : State) (lJ28 : List Loc) (XJ28 : Stand p l e room_1 s m #[(.int p1)] below meth c TJ28 lJ28 0 0) (eJ28 : TJ28.heap = h0) (NJ28 : Fr n0 lJ28), Gl p e below s n0 room_1.cells room_1.slots (Kv (some (.int (b0_28 p1 s0_28))) (fun _ => True)) (TJ28.setTop (mkF m 28 #[.val (.int p1), .val (.int (p1.toUInt32.toUInt16.toUInt32.toInt32)), .val (.int ((p1.toUInt32.toUInt16.toUInt32.toInt32) ||| (32 : Int32))), .val (.int (((p1.toUInt32.toUInt16.toUInt32.toInt32) ||| (32 : Int32)) - (97 : Int32))), .unset] [(.int s0_28)])) := by
    intro s0_28 TJ28 lJ28 XJ28 eJ28 NJ28
    show Gl _ _ _ _ _ _ _ (Kv (some (.int (if (b1_0 (p1.toUInt32.toUInt16.toUInt32.toInt32)) = s0_28 then (b0_44 (1 : Int32)) else (b0_44 (0 : Int32))))) _) _
    refine go (fun t k => XS.istore XJ28.here hx rfl (hb hby at_28) rfl (l' := #[.val (.int p1), .val (.int (p1.toUInt32.toUInt16.toUInt32.toInt32)), .val (.int ((p1.toUInt32.toUInt16.toUInt32.toInt32) ||| (32 : Int32))), .val (.int (((p1.toUInt32.toUInt16.toUInt32.toInt32) ||| (32 : Int32)) - (97 : Int32))), .val (.int s0_28)]) rfl k) ?_
    show Gl _ _ _ _ _ _ _ _ (TJ28.setTop (mkF m 30 #[.val (.int p1), .val (.int (p1.toUInt32.toUInt16.toUInt32.toInt32)), .val (.int ((p1.toUInt32.toUInt16.toUInt32.toInt32) ||| (32 : Int32))), .val (.int (((p1.toUInt32.toUInt16.toUInt32.toInt32) ||| (32 : Int32)) - (97 : Int32))), .val (.int s0_28)] []))
    refine go (fun t k => XS.iloadN XJ28.here hx rfl (hb hby at_30) rfl  k) ?_
    show Gl _ _ _ _ _ _ _ _ (TJ28.setTop (mkF m 31 #[.val (.int p1), .val (.int (p1.toUInt32.toUInt16.toUInt32.toInt32)), .val (.int ((p1.toUInt32.toUInt16.toUInt32.toInt32) ||| (32 : Int32))), .val (.int (((p1.toUInt32.toUInt16.toUInt32.toInt32) ||| (32 : Int32)) - (97 : Int32))), .val (.int s0_28)] [(.int (p1.toUInt32.toUInt16.toUInt32.toInt32))]))
    obtain ⟨_, _, ⟨T2, L2, k2, n2⟩, -, X2, ⟨Lc2, hQ2, l2, y2, z2⟩, st2⟩ := Jvm.LawKit.callS XJ28 hx (y := (⟨"com/example/policylint/policylint/compact/Lexer", "isLetter", "(C)Z"⟩ : MethodName)) hown (mvT hZ (hw _ (List.mem_of_getElem? (i := 0) rfl))) (mvT hZ (hw _ (List.mem_of_getElem? (i := 1) rfl))) (mvT hZ (hw _ (List.mem_of_getElem? (i := 2) rfl))) (mvT hZ (hw _ (List.mem_of_getElem? (i := 3) rfl))) (by decide) (backOf (W := 0) (rm1 l Z a0 hw [] (p1.toUInt32.toUInt16.toUInt32.toInt32) h0 n0 Z0 ) hZ (hw _ (List.mem_of_getElem? (i := 3) rfl)) (hw _ (List.mem_of_getElem? (i := 2) rfl)) (by decide) (by decide)) (g := (mkF m 31 #[.val (.int p1), .val (.int (p1.toUInt32.toUInt16.toUInt32.toInt32)), .val (.int ((p1.toUInt32.toUInt16.toUInt32.toInt32) ||| (32 : Int32))), .val (.int (((p1.toUInt32.toUInt16.toUInt32.toInt32) ||| (32 : Int32)) - (97 : Int32))), .val (.int s0_28)] [(.int (p1.toUInt32.toUInt16.toUInt32.toInt32))])) rfl (by rw [hml]; rfl) (argsL := [(.int (p1.toUInt32.toUInt16.toUInt32.toInt32))]) (rest := []) (lenOf pd_0 rfl) rfl (by show 2 * 0 + _ ≤ _; exact Nat.le_of_eq rfl) (hb hby at_31) (fun _ _ => ⟨rfl, eJ28, (by decide : 0 + 0 ≤ _), (by decide : 0 + 0 ≤ _)⟩)
    dsimp only [Pt.U, Pt.locs, Pt.cells, Pt.slots] at X2 l2 y2 z2 st2 hQ2
    subst l2 y2 z2
    have X2 : Stand p l e room_1 s m #[(.int p1)] below meth c T2 _ 0 0 := X2
    obtain ⟨⟨rfl, e2'⟩, N2q⟩ := hQ2
    have e2 : T2.heap = h0 := e2'
    have N2 := Fr.app NJ28 N2q
    refine go (fun t k => st2 _ k) ?_
    show Gl _ _ _ _ _ _ _ _ (T2.setTop (mkF m 34 #[.val (.int p1), .val (.int (p1.toUInt32.toUInt16.toUInt32.toInt32)), .val (.int ((p1.toUInt32.toUInt16.toUInt32.toInt32) ||| (32 : Int32))), .val (.int (((p1.toUInt32.toUInt16.toUInt32.toInt32) ||| (32 : Int32)) - (97 : Int32))), .val (.int s0_28)] [(.int (b1_0 (p1.toUInt32.toUInt16.toUInt32.toInt32)))]))
    refine go (fun t k => XS.iload X2.here hx rfl (hb hby at_34) rfl  k) ?_
    show Gl _ _ _ _ _ _ _ _ (T2.setTop (mkF m 36 #[.val (.int p1), .val (.int (p1.toUInt32.toUInt16.toUInt32.toInt32)), .val (.int ((p1.toUInt32.toUInt16.toUInt32.toInt32) ||| (32 : Int32))), .val (.int (((p1.toUInt32.toUInt16.toUInt32.toInt32) ||| (32 : Int32)) - (97 : Int32))), .val (.int s0_28)] [(.int s0_28), (.int (b1_0 (p1.toUInt32.toUInt16.toUInt32.toInt32)))]))
    have J44 : ∀ (s0_44 : Int32) (TJ44 : State) (lJ44 : List Loc) (XJ44 : Stand p l e room_1 s m #[(.int p1)] below meth c TJ44 lJ44 0 0) (eJ44 : TJ44.heap = h0) (NJ44 : Fr n0 lJ44), Gl p e below s n0 room_1.cells room_1.slots (Kv (some (.int (b0_44 s0_44))) (fun _ => True)) (TJ44.setTop (mkF m 44 #[.val (.int p1), .val (.int (p1.toUInt32.toUInt16.toUInt32.toInt32)), .val (.int ((p1.toUInt32.toUInt16.toUInt32.toInt32) ||| (32 : Int32))), .val (.int (((p1.toUInt32.toUInt16.toUInt32.toInt32) ||| (32 : Int32)) - (97 : Int32))), .val (.int s0_28)] [(.int s0_44)])) := by
      intro s0_44 TJ44 lJ44 XJ44 eJ44 NJ44
      show Gl _ _ _ _ _ _ _ (Kv (some (.int (nar .boolean s0_44))) _) _
      exact endN XJ44 hx Bd (t := .boolean) (by simp) (hb hby at_44) ⟨rfl, trivial⟩ NJ44 (by decide) (by decide)
    refine gI (c := (b1_0 (p1.toUInt32.toUInt16.toUInt32.toInt32)) = s0_28) (fun hc36 => ?_) (fun hc36 => ?_)
    · refine go (fun t k => XS.icmpNo X2.here hx rfl (hb hby at_36) rfl (teq hc36).2 k) ?_
      show Gl _ _ _ _ _ _ _ _ (T2.setTop (mkF m 39 #[.val (.int p1), .val (.int (p1.toUInt32.toUInt16.toUInt32.toInt32)), .val (.int ((p1.toUInt32.toUInt16.toUInt32.toInt32) ||| (32 : Int32))), .val (.int (((p1.toUInt32.toUInt16.toUInt32.toInt32) ||| (32 : Int32)) - (97 : Int32))), .val (.int s0_28)] []))
      refine go (fun t k => XS.iconst X2.here hx rfl (hb hby at_39) k) ?_
      show Gl _ _ _ _ _ _ _ _ (T2.setTop (mkF m 40 #[.val (.int p1), .val (.int (p1.toUInt32.toUInt16.toUInt32.toInt32)), .val (.int ((p1.toUInt32.toUInt16.toUInt32.toInt32) ||| (32 : Int32))), .val (.int (((p1.toUInt32.toUInt16.toUInt32.toInt32) ||| (32 : Int32)) - (97 : Int32))), .val (.int s0_28)] [(.int (1 : Int32))]))
      refine go (fun t k => XS.goto X2.here hx rfl (pc0 := 40) (pc' := 44) rfl (hb hby at_40) (by decide) (by decide) k) ?_
      show Gl _ _ _ _ _ _ _ _ (T2.setTop (mkF m 44 #[.val (.int p1), .val (.int (p1.toUInt32.toUInt16.toUInt32.toInt32)), .val (.int ((p1.toUInt32.toUInt16.toUInt32.toInt32) ||| (32 : Int32))), .val (.int (((p1.toUInt32.toUInt16.toUInt32.toInt32) ||| (32 : Int32)) - (97 : Int32))), .val (.int s0_28)] [(.int (1 : Int32))]))
      exact J44 (1 : Int32) T2 _ X2 e2 N2
    · refine go (fun t k => XS.icmpYes X2.here hx rfl (pc0 := 36) (pc' := 43) rfl (hb hby at_36) rfl (feq hc36).2 (by decide) (by decide) k) ?_
      show Gl _ _ _ _ _ _ _ _ (T2.setTop (mkF m 43 #[.val (.int p1), .val (.int (p1.toUInt32.toUInt16.toUInt32.toInt32)), .val (.int ((p1.toUInt32.toUInt16.toUInt32.toInt32) ||| (32 : Int32))), .val (.int (((p1.toUInt32.toUInt16.toUInt32.toInt32) ||| (32 : Int32)) - (97 : Int32))), .val (.int s0_28)] []))
      refine go (fun t k => XS.iconst X2.here hx rfl (hb hby at_43) k) ?_
      show Gl _ _ _ _ _ _ _ _ (T2.setTop (mkF m 44 #[.val (.int p1), .val (.int (p1.toUInt32.toUInt16.toUInt32.toInt32)), .val (.int ((p1.toUInt32.toUInt16.toUInt32.toInt32) ||| (32 : Int32))), .val (.int (((p1.toUInt32.toUInt16.toUInt32.toInt32) ||| (32 : Int32)) - (97 : Int32))), .val (.int s0_28)] [(.int (0 : Int32))]))
      exact J44 (0 : Int32) T2 _ X2 e2 N2
  have J27 : ∀  (TJ27 : State) (lJ27 : List Loc) (XJ27 : Stand p l e room_1 s m #[(.int p1)] below meth c TJ27 lJ27 0 0) (eJ27 : TJ27.heap = h0) (NJ27 : Fr n0 lJ27), Gl p e below s n0 room_1.cells room_1.slots (Kv (some (.int (b0_27 p1))) (fun _ => True)) (TJ27.setTop (mkF m 27 #[.val (.int p1), .val (.int (p1.toUInt32.toUInt16.toUInt32.toInt32)), .val (.int ((p1.toUInt32.toUInt16.toUInt32.toInt32) ||| (32 : Int32))), .val (.int (((p1.toUInt32.toUInt16.toUInt32.toInt32) ||| (32 : Int32)) - (97 : Int32))), .unset] [])) := by
    intro  TJ27 lJ27 XJ27 eJ27 NJ27
    show Gl _ _ _ _ _ _ _ (Kv (some (.int (b0_28 p1 (0 : Int32)))) _) _
    refine go (fun t k => XS.iconst XJ27.here hx rfl (hb hby at_27) k) ?_
    show Gl _ _ _ _ _ _ _ _ (TJ27.setTop (mkF m 28 #[.val (.int p1), .val (.int (p1.toUInt32.toUInt16.toUInt32.toInt32)), .val (.int ((p1.toUInt32.toUInt16.toUInt32.toInt32) ||| (32 : Int32))), .val (.int (((p1.toUInt32.toUInt16.toUInt32.toInt32) ||| (32 : Int32)) - (97 : Int32))), .unset] [(.int (0 : Int32))]))
    exact J28 (0 : Int32) TJ27 _ XJ27 eJ27 NJ27
  refine gI (c := (((p1.toUInt32.toUInt16.toUInt32.toInt32) ||| (32 : Int32)) - (97 : Int32)) < (0 : Int32)) (fun hc14 => ?_) (fun hc14 => ?_)
  · refine go (fun t k => XS.ifYes X0.here hx rfl (pc0 := 14) (pc' := 27) rfl (hb hby at_14) rfl ((if0 _ _).trans (tlt hc14).1) (by decide) (by decide) k) ?_
    show Gl _ _ _ _ _ _ _ _ (s₁.setTop (mkF m 27 #[.val (.int p1), .val (.int (p1.toUInt32.toUInt16.toUInt32.toInt32)), .val (.int ((p1.toUInt32.toUInt16.toUInt32.toInt32) ||| (32 : Int32))), .val (.int (((p1.toUInt32.toUInt16.toUInt32.toInt32) ||| (32 : Int32)) - (97 : Int32))), .unset] []))
    exact J27  s₁ _ X0 e0 N0
  · refine go (fun t k => XS.ifNo X0.here hx rfl (hb hby at_14) rfl ((if0 _ _).trans (flt hc14).1) k) ?_
    show Gl _ _ _ _ _ _ _ _ (s₁.setTop (mkF m 17 #[.val (.int p1), .val (.int (p1.toUInt32.toUInt16.toUInt32.toInt32)), .val (.int ((p1.toUInt32.toUInt16.toUInt32.toInt32) ||| (32 : Int32))), .val (.int (((p1.toUInt32.toUInt16.toUInt32.toInt32) ||| (32 : Int32)) - (97 : Int32))), .unset] []))
    refine go (fun t k => XS.iloadN X0.here hx rfl (hb hby at_17) rfl  k) ?_
    show Gl _ _ _ _ _ _ _ _ (s₁.setTop (mkF m 18 #[.val (.int p1), .val (.int (p1.toUInt32.toUInt16.toUInt32.toInt32)), .val (.int ((p1.toUInt32.toUInt16.toUInt32.toInt32) ||| (32 : Int32))), .val (.int (((p1.toUInt32.toUInt16.toUInt32.toInt32) ||| (32 : Int32)) - (97 : Int32))), .unset] [(.int (((p1.toUInt32.toUInt16.toUInt32.toInt32) ||| (32 : Int32)) - (97 : Int32)))]))
    refine go (fun t k => XS.bipush X0.here hx rfl (hb hby at_18) k) ?_
    show Gl _ _ _ _ _ _ _ _ (s₁.setTop (mkF m 20 #[.val (.int p1), .val (.int (p1.toUInt32.toUInt16.toUInt32.toInt32)), .val (.int ((p1.toUInt32.toUInt16.toUInt32.toInt32) ||| (32 : Int32))), .val (.int (((p1.toUInt32.toUInt16.toUInt32.toInt32) ||| (32 : Int32)) - (97 : Int32))), .unset] [(.int (26 : Int32)), (.int (((p1.toUInt32.toUInt16.toUInt32.toInt32) ||| (32 : Int32)) - (97 : Int32)))]))
    refine gI (c := (((p1.toUInt32.toUInt16.toUInt32.toInt32) ||| (32 : Int32)) - (97 : Int32)) < (26 : Int32)) (fun hc20 => ?_) (fun hc20 => ?_)
    · refine go (fun t k => XS.icmpNo X0.here hx rfl (hb hby at_20) rfl (tlt hc20).2.1 k) ?_
      show Gl _ _ _ _ _ _ _ _ (s₁.setTop (mkF m 23 #[.val (.int p1), .val (.int (p1.toUInt32.toUInt16.toUInt32.toInt32)), .val (.int ((p1.toUInt32.toUInt16.toUInt32.toInt32) ||| (32 : Int32))), .val (.int (((p1.toUInt32.toUInt16.toUInt32.toInt32) ||| (32 : Int32)) - (97 : Int32))), .unset] []))
      refine go (fun t k => XS.iconst X0.here hx rfl (hb hby at_23) k) ?_
      show Gl _ _ _ _ _ _ _ _ (s₁.setTop (mkF m 24 #[.val (.int p1), .val (.int (p1.toUInt32.toUInt16.toUInt32.toInt32)), .val (.int ((p1.toUInt32.toUInt16.toUInt32.toInt32) ||| (32 : Int32))), .val (.int (((p1.toUInt32.toUInt16.toUInt32.toInt32) ||| (32 : Int32)) - (97 : Int32))), .unset] [(.int (1 : Int32))]))
      refine go (fun t k => XS.goto X0.here hx rfl (pc0 := 24) (pc' := 28) rfl (hb hby at_24) (by decide) (by decide) k) ?_
      show Gl _ _ _ _ _ _ _ _ (s₁.setTop (mkF m 28 #[.val (.int p1), .val (.int (p1.toUInt32.toUInt16.toUInt32.toInt32)), .val (.int ((p1.toUInt32.toUInt16.toUInt32.toInt32) ||| (32 : Int32))), .val (.int (((p1.toUInt32.toUInt16.toUInt32.toInt32) ||| (32 : Int32)) - (97 : Int32))), .unset] [(.int (1 : Int32))]))
      exact J28 (1 : Int32) s₁ _ X0 e0 N0
    · refine go (fun t k => XS.icmpYes X0.here hx rfl (pc0 := 20) (pc' := 27) rfl (hb hby at_20) rfl (flt hc20).2.1 (by decide) (by decide) k) ?_
      show Gl _ _ _ _ _ _ _ _ (s₁.setTop (mkF m 27 #[.val (.int p1), .val (.int (p1.toUInt32.toUInt16.toUInt32.toInt32)), .val (.int ((p1.toUInt32.toUInt16.toUInt32.toInt32) ||| (32 : Int32))), .val (.int (((p1.toUInt32.toUInt16.toUInt32.toInt32) ||| (32 : Int32)) - (97 : Int32))), .unset] []))
      exact J27  s₁ _ X0 e0 N0
theorem own_nat_or32 (n : Nat) : n ||| 32 = if n / 32 % 2 = 0 then n + 32 else n := by
  have h1 : ∀ r : Fin 64, (r.val ||| 32) < 64 ∧ r.val ||| 32 = if r.val / 32 % 2 = 0 then r.val + 32 else r.val := by decide
  have h2 := h1 ⟨n % 64, Nat.mod_lt _ (by decide)⟩
  dsimp only at h2
  have e1 : n = 2 ^ 6 * (n / 64) + n % 64 := by omega
  have e2 := Nat.two_pow_add_eq_or_of_lt (i := 6) (b := n % 64) (Nat.mod_lt _ (by decide)) (n / 64)
  have e3 := Nat.two_pow_add_eq_or_of_lt (i := 6) (b := (n % 64) ||| 32) h2.1 (n / 64)
  have e4 : n ||| 32 = 2 ^ 6 * (n / 64) + ((n % 64) ||| 32) := by
    rw [e3, ← Nat.or_assoc, ← e2, ← e1]
  rw [e4, h2.2]
  split <;> split <;> omega
theorem own_or32 (x : Int32) : (x ||| 32).toInt = if x.toInt / 32 % 2 = 0 then x.toInt + 32 else x.toInt := by
  have e : (x ||| 32).toInt = (x.toBitVec ||| 32#32).toInt := rfl
  have e' : x.toInt = x.toBitVec.toInt := rfl
  rw [e, e', BitVec.toInt_eq_toNat_cond, BitVec.toInt_eq_toNat_cond, BitVec.toNat_or]
  have h := x.toBitVec.isLt
  generalize x.toBitVec.toNat = n at *
  rw [show (32#32).toNat = 32 from rfl, own_nat_or32]
  (repeat' split) <;> omega
theorem own_sub {a b : Int32} (h1 : -2147483648 ≤ a.toInt - b.toInt) (h2 : a.toInt - b.toInt < 2147483648) : (a - b).toInt = a.toInt - b.toInt := by
  rw [Int32.toInt_sub]
  exact Int.bmod_eq_of_le (by omega) (by omega)
theorem own_char (x : Int32) : 0 ≤ (x.toUInt32.toUInt16.toUInt32.toInt32).toInt ∧ (x.toUInt32.toUInt16.toUInt32.toInt32).toInt ≤ 65535 := by
  have h : ∀ u : UInt16, (u.toUInt32.toInt32).toInt = u.toNat := fun u => by
    have hu := u.toNat_lt
    have e : (u.toUInt32.toInt32).toInt = u.toUInt32.toBitVec.toInt := rfl
    rw [e, BitVec.toInt_eq_toNat_cond]
    have e2 : u.toUInt32.toBitVec.toNat = u.toNat := by simp
    rw [e2]; split <;> omega
  rw [h]; have := (x.toUInt32.toUInt16).toNat_lt; omega
theorem law_eq (p1 : Int32) : b0_0 p1 = 1 := by
  have hc := own_char p1
  unfold b0_0 b0_27 b0_28
  generalize p1.toUInt32.toUInt16.toUInt32.toInt32 = c at *
  have h1 := own_or32 c
  have h2 : ((c ||| 32) - 97).toInt = (c ||| 32).toInt - 97 := own_sub (by rw [h1, show (97 : Int32).toInt = 97 from rfl]; split <;> omega) (by rw [h1, show (97 : Int32).toInt = 97 from rfl]; split <;> omega)
  generalize (c ||| 32) - 97 = d at *
  generalize c ||| 32 = f at *
  have k0 : b0_44 0 = 0 := rfl
  have k1 : b0_44 1 = 1 := rfl
  have k2 : b1_24 = 1 := rfl
  have k3 : b1_28 = 0 := rfl
  simp only [k0, k1]
  have e : b1_0 c = if d < 0 then 0 else if d < 26 then 1 else 0 := by
    unfold b1_0 b1_12
    simp only [k2, k3, Int32.lt_iff_toInt_lt, Int32.reduceToInt]
    (repeat' split) <;> first | rfl | (exfalso; split at h1 <;> omega)
  rw [e]
  (repeat' split) <;> first | rfl | (simp_all; done)
set_option maxRecDepth 65536 in
set_option maxHeartbeats 40000000 in
theorem comes_1 {Post : Tables → Env → Array Value → State → Outcome → State → Prop} (hpost : ∀ tb e args s v u, (limb_1_1.after args s (.returned v) u = true ∧ limb_1_2.after args s (.returned v) u = true ∧ True) → FrameEnd s (.returned v) u (Jvm.fieldLocs frame_1_writes args s ++ Jvm.arrayLocs frame_1_arrays args s ++ Jvm.staticLocs frame_1_statics s) 0 0 → Post tb e args s (.returned v) u) :
    ArmFor flags0 classFile x code maxLocals ret World_1 tables_1 room_1 Calls_1 rest_1 Pre_1 Post := by
  intro l hfl _ _ p e ha hc hk s m args below hf hA hF happ hP
  obtain ⟨hcalls, hrest, hpre⟩ := hP
  obtain ⟨-, -, -, hnamed, -, -, -, hat⟩ := (Spec.applies_iff hf).mp happ
  obtain ⟨hg, hn⟩ := and_e (Cond.before_iff.mp (show (Jvm.Cond.and given_1 narrow_1).before args s = true from hpre))
  obtain ⟨g1, g2⟩ := and_e hg
  obtain ⟨w0, rfl⟩ : ∃ w0 : Value, args = #[w0] := by
    have hs : args.size = 1 := by simpa [Cond.value, given_1] using g1
    obtain ⟨L⟩ := args
    match L, hs with
    | [w0], _ => exact ⟨w0, rfl⟩
  have hw := fun d (hd : d ∈ tables_1) => atoms_spec (ws := Jvm.Cond.code x code maxLocals ret :: tables_1) hat d (List.mem_cons_of_mem _ hd)
  have hfit : Fit s := fun {y c} hc i hi => by
    obtain ⟨ha, rfl⟩ := Array.getElem?_eq_some_iff.mp hc
    have q := List.all_eq_true.mp ((Array.all_eq_true_iff_forall_mem.mp hF) _ (Array.getElem_mem ha)) i (List.mem_range.mpr hi)
    simpa [Array.getElem?_eq_getElem hi] using q
  obtain ⟨i0, ei0⟩ := is_v g2
  obtain rfl : w0 = (.int i0) := Option.some.inj ei0
  obtain ⟨n, o, h1, h2, h3, _, L, rfl, ⟨⟨hv, -⟩, N⟩, hq⟩ := rm0 l s _ hw tables_1 i0  s.heap s.heap.size (Nat.le_refl _)  p e ha hc hk s m _ below hf ((Spec.applies_iff_loose hf).mp happ).1 ⟨rfl, State.Warmed39.refl s, rfl⟩ trivial
  rw [law_eq] at hv
  subst hv
  refine ⟨n, _, h1, h2, h3, hpost _ _ _ _ _ _ ⟨Cond.after_iff.mpr rfl, Cond.after_iff.mpr (eq_i res_at (Term.int_eval (1)) rfl), trivial⟩ ⟨hq.1, hq.2.1, (hq.2.2.sift fun y hy => Or.inr (N y hy)).mono (by decide) (by decide)⟩⟩
theorem main_1_1 : Claimed_1_1 := comes_1 fun _ _ _ _ _ _ h hF => ⟨h.1, hF⟩
theorem main_1_2 : Claimed_1_2 := comes_1 fun _ _ _ _ _ _ h hF => ⟨h.2.1, hF⟩
end Jvm.Pilot.@@N@@
namespace Jvm.Pilot.@@N@@
open Jvm Jvm.ClassFile Sem Op Lib Jvm.Free Jvm.Stand Jvm.Pilot.@@N@@.Jvm.D
/-! MADE BY PROGRAM (witnessworld.py) out of the Statement's table words and the real class files: 7 classes; the members and pool entries that the words name. The judged class is class 1, her method 1. -/
namespace start1
open Jvm.ClassFile
def u (s : String) : CpInfo := .utf8 (stringToUtf16 s)
/-- a pool by its gaps: so many unusable entries, then the entry; so many at the end -/
def gap : Nat → List CpInfo → List CpInfo
  | 0, r => r
  | n + 1, r => .unusable :: gap n r
def poolList (es : List (Nat × CpInfo)) (last : Nat) : List CpInfo := es.foldr (fun e r => gap e.1 (e.2 :: r)) (gap last [])
def pool (es : List (Nat × CpInfo)) (last : Nat) : Array CpInfo := ⟨poolList es last⟩
def fileOf (pool : Array CpInfo) (this : Nat) (attrs : Array Attribute := #[]) (ms : Array MethodInfo := #[]) (fl : Nat := 33) (sup : Nat := 0) (ifs : Array Nat := #[]) (fds : Array FieldInfo := #[]) : ClassFile where
  minorVersion := 0
  majorVersion := 65
  constantPool := pool
  accessFlags := fl
  thisClass := this
  superClass := sup
  interfaces := ifs
  fields := fds
  methods := ms
  attributes := attrs
def plain (name : String) (sup : Option ClassId) : Class where
  name := name
  kind := .ordinary
  loader := none
  accessFlags := 33
  super := sup
  interfaces := #[]
  cf := none
  fields := #[]
  methods := #[]
  instanceTypes := #[]
  staticTypes := #[]
  resolved := #[]
  callSites := []
  init := .initialized
  statics := none
  mirror := none

def pool0 : Array CpInfo := pool [(5, u "<init>"), (0, u "()V"), (1, .class_ 10), (1, u "java/lang/Object")] 113

def k0m0 : Method := { name := "<init>", desc := "()V", sig := { parameters := [], returnType := none }, accessFlags := 1, code := none }
/-- java/lang/Object -/
def k0 : Class := { plain "java/lang/Object" none with
  accessFlags := 33
  interfaces := #[]
  cf := some (fileOf pool0 8 #[] #[{ accessFlags := 1, nameIndex := 5, descriptorIndex := 6, attributes := #[] }] 33 0 #[] #[])
  fields := #[]
  methods := #[k0m0]
  instanceTypes := #[]
  staticTypes := #[]
  resolved := Array.replicate 124 none
  statics := none }

def pool1 : Array CpInfo := pool [(2, .class_ 4), (1, u "java/lang/Object"), (0, u "<init>"), (0, u "()V"), (0, .methodref 8 9), (0, .class_ 10), (0, .nameAndType 11 12), (0, u "com/example/policylint/policylint/compact/Lexer"), (0, u "isLetter"), (0, u "(C)Z"), (0, .class_ 14), (0, u "com/example/policylint/policylint/compact/LexerIsLetterPinLaw"), (2, u "law"), (0, u "(I)Z")] 3

def k1m0 : Method := { name := "<init>", desc := "()V", sig := { parameters := [], returnType := none }, accessFlags := 2, code := none }
def k1c1 : Code := { maxStack := 2, maxLocals := 5, code := code, exceptionTable := #[], attributes := #[] }
def k1m1 : Method := { name := "law", desc := "(I)Z", sig := { parameters := [.int], returnType := some .boolean }, accessFlags := 9, code := some k1c1 }
/-- com/example/policylint/policylint/compact/LexerIsLetterPinLaw -/
def k1 : Class := { plain "com/example/policylint/policylint/compact/LexerIsLetterPinLaw" (some 0) with
  accessFlags := 49
  interfaces := #[]
  cf := some (fileOf pool1 13 #[] #[{ accessFlags := 2, nameIndex := 5, descriptorIndex := 6, attributes := #[] }, { accessFlags := 9, nameIndex := 17, descriptorIndex := 18, attributes := #[] }] 49 2 #[] #[])
  fields := #[]
  methods := #[k1m0, k1m1]
  instanceTypes := #[]
  staticTypes := #[]
  resolved := Array.replicate 22 none
  statics := none }

def pool2 : Array CpInfo := pool [(2, .class_ 4), (1, u "java/lang/Object"), (3, .class_ 10), (1, u "com/example/policylint/policylint/compact/Lexer"), (0, u "text"), (0, u "Ljava/lang/String;"), (2, u "source"), (2, u "limit"), (0, u "I"), (2, u "endName"), (2, u "end"), (26, u "token"), (2, u "start"), (3, u "(C)Z"), (2, u "isLetter")] 121

def k2c0 : Code := { maxStack := 2, maxLocals := 1, code := prog_50_method_10_code, exceptionTable := #[], attributes := #[] }
def k2m0 : Method := { name := "isLetter", desc := "(C)Z", sig := { parameters := [.char], returnType := some .boolean }, accessFlags := 8, code := some k2c0 }
/-- com/example/policylint/policylint/compact/Lexer -/
def k2 : Class := { plain "com/example/policylint/policylint/compact/Lexer" (some 0) with
  accessFlags := 48
  interfaces := #[]
  cf := some (fileOf pool2 8 #[] #[{ accessFlags := 8, nameIndex := 62, descriptorIndex := 59, attributes := #[] }] 48 2 #[] #[{ accessFlags := 18, nameIndex := 11, descriptorIndex := 12, attributes := #[] }, { accessFlags := 18, nameIndex := 15, descriptorIndex := 12, attributes := #[] }, { accessFlags := 18, nameIndex := 18, descriptorIndex := 19, attributes := #[] }, { accessFlags := 18, nameIndex := 22, descriptorIndex := 12, attributes := #[] }, { accessFlags := 2, nameIndex := 52, descriptorIndex := 12, attributes := #[] }, { accessFlags := 2, nameIndex := 55, descriptorIndex := 19, attributes := #[] }, { accessFlags := 2, nameIndex := 25, descriptorIndex := 19, attributes := #[] }])
  fields := #[{ name := "text", type := (.object "java/lang/String"), accessFlags := 18, slot := 0, constantValue := 0 }, { name := "source", type := (.object "java/lang/String"), accessFlags := 18, slot := 1, constantValue := 0 }, { name := "limit", type := .int, accessFlags := 18, slot := 2, constantValue := 0 }, { name := "endName", type := (.object "java/lang/String"), accessFlags := 18, slot := 3, constantValue := 0 }, { name := "token", type := (.object "java/lang/String"), accessFlags := 2, slot := 4, constantValue := 0 }, { name := "start", type := .int, accessFlags := 2, slot := 5, constantValue := 0 }, { name := "end", type := .int, accessFlags := 2, slot := 6, constantValue := 0 }]
  methods := #[k2m0]
  instanceTypes := #[(.object "java/lang/String"), (.object "java/lang/String"), .int, (.object "java/lang/String"), (.object "java/lang/String"), .int, .int]
  staticTypes := #[]
  resolved := Array.replicate 184 none
  statics := none }

def pool3 : Array CpInfo := pool [(1, u "java/lang/Cloneable"), (0, .class_ 1), (0, u "java/lang/Object"), (0, .class_ 3)] 3

/-- java/lang/Cloneable -/
def k3 : Class := { plain "java/lang/Cloneable" (some 0) with
  accessFlags := 1537
  interfaces := #[]
  cf := some (fileOf pool3 2 #[] #[] 1537 4 #[] #[])
  fields := #[]
  methods := #[]
  instanceTypes := #[]
  staticTypes := #[]
  resolved := Array.replicate 8 none
  statics := none }

def pool4 : Array CpInfo := pool [(1, u "java/io/Serializable"), (0, .class_ 1), (0, u "java/lang/Object"), (0, .class_ 3)] 3

/-- java/io/Serializable -/
def k4 : Class := { plain "java/io/Serializable" (some 0) with
  accessFlags := 1537
  interfaces := #[]
  cf := some (fileOf pool4 2 #[] #[] 1537 4 #[] #[])
  fields := #[]
  methods := #[]
  instanceTypes := #[]
  staticTypes := #[]
  resolved := Array.replicate 8 none
  statics := none }

/-- the primitive byte -/
def k5 : Class := { plain "byte" none with kind := .primitive 'B', accessFlags := 0x411 }
/-- [B -/
def k6 : Class := { plain "[B" (some 0) with kind := .array 5 .byte, interfaces := #[3, 4], accessFlags := 1041 }

def heap : Heap := #[]
def classes : Array Class := #[k0, k1, k2, k3, k4, k5, k6]
def interned : List (Array UInt16 × Addr) := []
def slotsUsed : Nat := 0
def theMethod : MethodId := ⟨1, 1⟩
def args0 : Array Value := #[.int 5]
def aboutOver (below : List Frame) : State where
  vm := { classes := classes, interned := interned.toArray }
  heap := heap
  slotsUsed := slotsUsed
  threads := #[{ frames := .invoking theMethod args0 :: below }]
def below0 : List Frame := [.native { method := ⟨0, 0⟩, args := #[] }]
def about1 : State := aboutOver below0
def p0 : Program := .bare "" "" ""
def e0 : Env := launch0.env 0 0 0
theorem w_frames : about1.frames = Frame.invoking theMethod args0 :: below0 := rfl
set_option maxRecDepth 65536 in
theorem w_args : argsFit about1.vm theMethod args0 = true := by decide +kernel
set_option maxRecDepth 65536 in
theorem w_heap : heapFits about1 = true := by decide +kernel
set_option maxRecDepth 65536 in
theorem w_runnable : about1.curStatus? = some .runnable := by decide +kernel
set_option maxRecDepth 65536 in
theorem w_alone : about1.alone = true := by decide +kernel
set_option maxRecDepth 65536 in
theorem w_named : about1.methodNamed? x = some theMethod := by decide +kernel
set_option maxRecDepth 65536 in
theorem w_hears : about1.hears theMethod below0 = true := by decide +kernel
set_option maxRecDepth 65536 in
theorem w_ripe : about1.ripe theMethod args0 below0 = true := by decide +kernel
theorem w_running : about1.status = .running := rfl
set_option maxRecDepth 65536 in
theorem w_room : about1.hasRoom e0.platform room_1 = true :=
  launch0.hasRoom_least _ room_1 (by decide +kernel) (by decide +kernel) (by decide +kernel) (by decide +kernel) (by decide +kernel) (by decide +kernel)
theorem allAtoms_all (ts : List Jvm.Cond) (a : Array Jvm.Value) (st : Jvm.State) : (allAtoms ts).before a st = ts.all (fun c => c.before a st) := by
  induction ts with
  | nil => rfl
  | cons c t ih =>
    show (Jvm.Cond.and c (allAtoms t)).before a st = _
    rw [Jvm.Cond.before_and, ih, List.all_cons]
def words1 : List Jvm.Cond := Jvm.Cond.code x code maxLocals ret :: tables_1
/-- a 'code' word, met by the world's own term for the bytes: nothing is compared byte by byte -/
theorem code_word {y : MethodName} {bytes : ByteArray} {mx : Nat} {rt : Option FieldType} {a : Array Value} {s : State} {m : MethodId} {meth : Method} {c : Code} (h1 : s.methodNamed? y = some m) (h2 : s.vm.method? m = some meth) (h3 : meth.code = some c) (h4 : c.code = bytes)
    (h5 : (c.maxLocals == mx && c.exceptionTable.isEmpty && decide (c.maxStack ≤ mostOperands) && decide (meth.sig.returnType = rt) && !meth.locks && decide (parseMethodDescriptor y.desc = some meth.sig)) = true) : (Jvm.Cond.code y bytes mx rt).before a s = true := by
  simp only [Bool.and_eq_true, beq_iff_eq, Bool.not_eq_true', decide_eq_true_eq] at h5
  obtain ⟨⟨⟨⟨⟨g1, g2⟩, g3⟩, g4⟩, g5⟩, g6⟩ := h5
  simp [Cond.before, Cond.holds, Cond.value, h1, h2, h3, h4, g1, g2, g3, g4, g5, g6]
def isCode : Jvm.Cond → Bool
  | .code _ _ _ _ => true
  | _ => false
theorem all_split {L : List Jvm.Cond} {P : Jvm.Cond → Bool} (h1 : L.all (fun c => isCode c || P c) = true) (h2 : ∀ c ∈ L.filter isCode, P c = true) : L.all P = true := by
  refine List.all_eq_true.mpr fun c hc => ?_
  have h := List.all_eq_true.mp h1 c hc
  rcases Bool.eq_false_or_eq_true (isCode c) with hi | hi
  · exact h2 c (List.mem_filter.mpr ⟨hc, hi⟩)
  · simpa [hi] using h
set_option maxRecDepth 65536 in
theorem w_c0 : (Jvm.Cond.code x code maxLocals ret).before args0 about1 = true := code_word (m := ⟨1, 1⟩) (meth := k1m1) (c := k1c1) (by decide +kernel) rfl rfl rfl (by decide +kernel)
set_option maxRecDepth 65536 in
theorem w_c1 : (Jvm.Cond.code ({ cls := "com/example/policylint/policylint/compact/Lexer", name := "isLetter", desc := "(C)Z" } : Jvm.MethodName) prog_50_method_10_code (1 : Nat) (Option.some Jvm.ClassFile.FieldType.boolean)).before args0 about1 = true := code_word (m := ⟨2, 0⟩) (meth := k2m0) (c := k2c0) (by decide +kernel) rfl rfl rfl (by decide +kernel)
def codes1 : List Jvm.Cond := [Jvm.Cond.code x code maxLocals ret, Jvm.Cond.code ({ cls := "com/example/policylint/policylint/compact/Lexer", name := "isLetter", desc := "(C)Z" } : Jvm.MethodName) prog_50_method_10_code (1 : Nat) (Option.some Jvm.ClassFile.FieldType.boolean)]
set_option maxRecDepth 65536 in
theorem codes_eq : words1.filter isCode = codes1 := rfl
theorem w_codes : ∀ c ∈ words1.filter isCode, c.before args0 about1 = true := by
  rw [codes_eq]
  intro c hc
  simp only [codes1, List.mem_cons, List.not_mem_nil, or_false] at hc
  rcases hc with rfl | rfl
  · exact w_c0
  · exact w_c1
set_option maxRecDepth 65536 in
theorem w_t1 : words1.all (fun c => isCode c || c.before args0 about1) = true := by decide +kernel
theorem w_tables : (allAtoms (Jvm.Cond.code x code maxLocals ret :: tables_1)).before args0 about1 = true := by
  rw [allAtoms_all]
  show words1.all (fun c => c.before args0 about1) = true
  refine all_split ?_ w_codes
  rw [w_t1]
set_option maxRecDepth 65536 in
theorem w_case : (Jvm.Cond.and given_1 narrow_1).before args0 about1 = true := by decide +kernel
theorem w_applies : (headSpec (Jvm.Cond.code x code maxLocals ret :: tables_1) room_1).applies x e0.platform about1 = true :=
  (Spec.applies_iff w_frames).mpr ⟨w_running, w_runnable, w_alone, w_named, w_hears, w_ripe, w_room, w_tables⟩
theorem atStart : AtStart classFile x code maxLocals ret World_1 tables_1 room_1 Calls_1 rest_1 Pre_1 launch0 p0 e0 about1 theMethod args0 below0 :=
  ⟨lists_1, trivial, launch0.admits_env _ _ _, launch0.least_env, fairChoices_fair.cas, fairChoices_fair.clock, w_frames, w_args, w_heap, w_applies, trivial, trivial, w_case⟩
end start1
theorem witness_1 : WitnessClaimed_1 := ⟨start1.p0, start1.e0, start1.about1, start1.theMethod, start1.args0, start1.below0, start1.atStart⟩
end Jvm.Pilot.@@N@@
