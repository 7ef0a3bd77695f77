import JvmDerived
import JvmDerived.Pilot.@@N@@Statement
import JvmDerived.Pilot.@@N@@Code
set_option linter.unusedVariables false
set_option linter.unusedSimpArgs false
@@BLOCK:NumsL.lean.txt@@
namespace Jvm.Pilot.@@N@@
open Jvm Jvm.ClassFile Sem Op Lib Jvm.Free Jvm.Stand Jvm.LawKit Jvm.RoadKit Bundle Jvm.Pilot.@@N@@.Jvm.D
section OwnKit
variable {p : Program} {l : Launch} {e : Env} {R : Room} {s : State} {m : MethodId} {args : Array Value} {below : List Frame} {meth : Method} {c : Code} {T : State} {locs : List Loc} {cells slots : Nat} {n0 cc nn : Nat} {K : Option Value → Heap → Prop} {P : Heap → Prop} {A B : State}
/-- what a contract says of the value, the heap and the places written -/
def QK (n0 : Nat) (K : Option Value → Heap → Prop) (v : Option Value) (h : Heap) (L : List Loc) : Prop := K v h ∧ Fr n0 L
def Kv (w : Option Value) (P : Heap → Prop) (v : Option Value) (h : Heap) : Prop := v = w ∧ P h
/-- from A the run comes to this body's end, and K holds there -/
def Gl (p : Program) (e : Env) (below : List Frame) (s : State) (n0 cc nn : Nat) (K : Option Value → Heap → Prop) (A : State) : Prop :=
  ∃ t o, Steps p.tables e below A t ∧ t.status = .running ∧ Ended t below o ∧ ∃ v L, o = .returned v ∧ QK n0 K v t.heap L ∧ FrameEnd s o t L cc nn
theorem go (st : ∀ t, Steps p.tables e below B t → Steps p.tables e below A t) (h : Gl p e below s n0 cc nn K B) : Gl p e below s n0 cc nn K A := by
  obtain ⟨t, o, h1, h2⟩ := h; exact ⟨t, o, st t h1, h2⟩
theorem gl_start {g g' : JFrame} (q : g = g') (h : Gl p e below s n0 cc nn K (T.setTop g')) :
    ∃ t o, Steps p.tables e below (T.setTop g) t ∧ t.status = .running ∧ Ended t below o ∧ ∃ v L, o = .returned v ∧ QK n0 K v t.heap L ∧ FrameEnd s o t L cc nn := by
  subst q; exact h
theorem gI {c : Prop} [Decidable c] {a b : Int32} (h1 : c → Gl p e below s n0 cc nn (Kv (some (.int a)) P) A) (h2 : ¬ c → Gl p e below s n0 cc nn (Kv (some (.int b)) P) A) : Gl p e below s n0 cc nn (Kv (some (.int (if c then a else b))) P) A := by
  by_cases h : c
  · rw [if_pos h]; exact h1 h
  · rw [if_neg h]; exact h2 h
theorem gJ {c : Prop} [Decidable c] {a b : Int64} (h1 : c → Gl p e below s n0 cc nn (Kv (some (.long a)) P) A) (h2 : ¬ c → Gl p e below s n0 cc nn (Kv (some (.long b)) P) A) : Gl p e below s n0 cc nn (Kv (some (.long (if c then a else b))) P) A := by
  by_cases h : c
  · rw [if_pos h]; exact h1 h
  · rw [if_neg h]; exact h2 h
theorem gR {c : Prop} [Decidable c] {a b : Addr} (h1 : c → Gl p e below s n0 cc nn (Kv (some (.ref a)) P) A) (h2 : ¬ c → Gl p e below s n0 cc nn (Kv (some (.ref b)) P) A) : Gl p e below s n0 cc nn (Kv (some (.ref (if c then a else b))) P) A := by
  by_cases h : c
  · rw [if_pos h]; exact h1 h
  · rw [if_neg h]; exact h2 h
theorem gV {c : Prop} [Decidable c] (h1 : c → Gl p e below s n0 cc nn K A) (h2 : ¬ c → Gl p e below s n0 cc nn K A) : Gl p e below s n0 cc nn K A := by
  by_cases h : c
  · exact h1 h
  · exact h2 h
variable {x : MethodName} {S : Spec} {code' : ByteArray} {ml : Nat} {s₁ : State} {pc : Nat} {Ls : Array Slot} {rest : List Value}
theorem endN (X : Stand p l e R s m args below meth c T locs cells slots) (hx : p.tables.exec = Jvm.exec) {t : FieldType} (Bd : BodyLoose p l x S code' ml (some t) e s m args below meth c s₁) (ht : t = .boolean ∨ t = .byte ∨ t = .char ∨ t = .short) {z : Int32}
    (hd : decode c.code pc = .ok (.ireturn, 1)) (hK : K (some (.int (nar t z))) T.heap) (N : Fr n0 locs) (hc : cells ≤ cc) (hs : slots ≤ nn) : Gl p e below s n0 cc nn K (T.setTop (mkF m pc Ls (.int z :: rest))) := by
  obtain ⟨fs, hr, hrun, hended, hW, hsame⟩ := X.leave (v := some (.int (nar t z))) (fun h => by rw [Bd.returns] at h; cases h)
  exact ⟨_, _, retN X hx Bd.returns ht hd hr, hrun, hended, _, _, rfl, ⟨hK, N⟩, ⟨_, rfl⟩, hW, hsame.mono hc hs⟩
theorem endO (X : Stand p l e R s m args below meth c T locs cells slots) (hx : p.tables.exec = Jvm.exec) {t : FieldType} (Bd : BodyLoose p l x S code' ml (some t) e s m args below meth c s₁) {w : Value} {i : Instr} (hn : narrow t w = w)
    (hi : (i = .ireturn ∧ (t = .int ∨ t = .boolean ∨ t = .byte ∨ t = .char ∨ t = .short) ∧ ∃ z, w = .int z) ∨ (i = .lreturn ∧ t = .long ∧ ∃ z, w = .long z) ∨ (i = .dreturn ∧ t = .double ∧ ∃ z, w = .double z) ∨ (i = .freturn ∧ t = .float ∧ ∃ z, w = .float z) ∨ (i = .areturn ∧ t.isReference = true ∧ w.isRef = true))
    (hd : decode c.code pc = .ok (i, 1)) (hK : K (some w) T.heap) (N : Fr n0 locs) (hc : cells ≤ cc) (hs : slots ≤ nn) : Gl p e below s n0 cc nn K (T.setTop (mkF m pc Ls (w :: rest))) := by
  obtain ⟨fs, hr, hrun, hended, hW, hsame⟩ := X.leave (v := some w) (fun h => by rw [Bd.returns] at h; cases h)
  exact ⟨_, _, retOut X hx Bd.returns hn hi hd hr, hrun, hended, _, _, rfl, ⟨hK, N⟩, ⟨_, rfl⟩, hW, hsame.mono hc hs⟩
theorem endI (X : Stand p l e R s m args below meth c T locs cells slots) (hx : p.tables.exec = Jvm.exec) (Bd : BodyLoose p l x S code' ml (some .int) e s m args below meth c s₁) {z : Int32}
    (hd : decode c.code pc = .ok (.ireturn, 1)) (hK : K (some (.int z)) T.heap) (N : Fr n0 locs) (hc : cells ≤ cc) (hs : slots ≤ nn) : Gl p e below s n0 cc nn K (T.setTop (mkF m pc Ls (.int z :: rest))) :=
  endO X hx Bd rfl (Or.inl ⟨rfl, Or.inl rfl, z, rfl⟩) hd hK N hc hs
theorem endJ (X : Stand p l e R s m args below meth c T locs cells slots) (hx : p.tables.exec = Jvm.exec) (Bd : BodyLoose p l x S code' ml (some .long) e s m args below meth c s₁) {z : Int64}
    (hd : decode c.code pc = .ok (.lreturn, 1)) (hK : K (some (.long z)) T.heap) (N : Fr n0 locs) (hc : cells ≤ cc) (hs : slots ≤ nn) : Gl p e below s n0 cc nn K (T.setTop (mkF m pc Ls (.long z :: rest))) :=
  endO X hx Bd rfl (Or.inr (Or.inl ⟨rfl, rfl, z, rfl⟩)) hd hK N hc hs
theorem endR (X : Stand p l e R s m args below meth c T locs cells slots) (hx : p.tables.exec = Jvm.exec) {t : FieldType} (Bd : BodyLoose p l x S code' ml (some t) e s m args below meth c s₁) (ht : t.isReference = true) {a : Addr}
    (hd : decode c.code pc = .ok (.areturn, 1)) (hK : K (some (.ref a)) T.heap) (N : Fr n0 locs) (hc : cells ≤ cc) (hs : slots ≤ nn) : Gl p e below s n0 cc nn K (T.setTop (mkF m pc Ls (.ref a :: rest))) :=
  endO X hx Bd (by cases t <;> first | rfl | cases ht) (Or.inr (Or.inr (Or.inr (Or.inr ⟨rfl, ht, rfl⟩)))) hd hK N hc hs
theorem endV (X : Stand p l e R s m args below meth c T locs cells slots) (hx : p.tables.exec = Jvm.exec) (Bd : BodyLoose p l x S code' ml none e s m args below meth c s₁)
    (hd : decode c.code pc = .ok (.return_, 1)) (hK : K none T.heap) (N : Fr n0 locs) (hc : cells ≤ cc) (hs : slots ≤ nn) : Gl p e below s n0 cc nn K (T.setTop (mkF m pc Ls [])) := by
  obtain ⟨fs, hr, hrun, hended, hW, hsame⟩ := X.leave (v := none) (fun _ => rfl)
  exact ⟨_, _, X.returnOut hx Bd.returns hd hr, hrun, hended, _, _, rfl, ⟨hK, N⟩, ⟨_, rfl⟩, hW, hsame.mono hc hs⟩
theorem lremM {g : JFrame} {target : State} (X : Stand p l e R s m args below meth c T locs cells slots) (hx : p.tables.exec = Jvm.exec) (hg : g.method = m) {x y : Int64} {rest : List Value} (hd : decode c.code g.pc = .ok (.lrem, 1)) (hs : g.stack = .long y :: .long x :: rest) (hy : y ≠ 0)
    (hr : Steps p.tables e below (T.setTop { g with pc := g.pc + 1, stack := .long (x % y) :: rest }) target) : Steps p.tables e below (T.setTop g) target := by
  have q := lrem_mod x y
  exact XS.lrem X.here hx hg hd hs hy (by rw [q]; exact hr)
theorem sta_keep {Z : State} {h h' : Heap} {a : Addr} {C n d D : String} {w : Value} (F : Sta Z h C n d w) (Kp : Keep h h' [a]) (E : Exa Z h a D) : Sta Z h' C n d w := by
  obtain ⟨cf, i, k, f, st, cell, h1, h2, h3, h4, h5, h6, h7⟩ := F
  obtain ⟨cell', k', e1, -, -, e4, -⟩ := E
  refine ⟨cf, i, k, f, st, cell, h1, h2, h3, h4, Kp.2.1 st cell h5 (ninS (fun q => ?_) nin0), h6, h7⟩
  subst q; cases h5.symm.trans e1; rw [h6] at e4; cases e4
theorem sta_keepN {Z : State} {h h' : Heap} {ws : List Addr} {C n d : String} {w : Value} (F : Sta Z h C n d w) (Kp : Keep h h' ws) (hn : ∀ x ∈ ws, ∀ cell : Cell, h[x]? = some cell → cell.vm.isStatics = false) : Sta Z h' C n d w := by
  obtain ⟨cf, i, k, f, st, cell, h1, h2, h3, h4, h5, h6, h7⟩ := F
  refine ⟨cf, i, k, f, st, cell, h1, h2, h3, h4, Kp.2.1 st cell h5 (fun q => ?_), h6, h7⟩
  have := hn st q cell h5
  rw [h6] at this; cases this
theorem sta_keep0 {Z : State} {h h' : Heap} {C n d : String} {w : Value} (F : Sta Z h C n d w) (Kp : Keep h h' []) : Sta Z h' C n d w := by
  obtain ⟨cf, i, k, f, st, cell, h1, h2, h3, h4, h5, h6, h7⟩ := F
  exact ⟨cf, i, k, f, st, cell, h1, h2, h3, h4, Kp.2.1 st cell h5 nin0, h6, h7⟩
theorem sel_priv {Z s : State} {a0 args : Array Value} {y : MethodName} {n : Nat} (hZ : Z.Warmed39 s.vm) (wi : (Cond.instantiable y.cls n).before a0 Z = true) (wp : (Cond.privateMethod y).before a0 Z = true) (wm : (Cond.instanceMethod y).before a0 Z = true) (hy : y.cls ≠ "java/lang/invoke/MethodHandle" ∧ y.cls ≠ "java/lang/invoke/VarHandle") : (Cond.selects y.cls y y).before args s = true := by
  obtain ⟨c, k, h1, h2, -, h4, -⟩ := Cond.instantiable_spec (show (Cond.instantiable y.cls n).before args s = true from mvT hZ wi)
  exact Jvm.Stand.selects_self_of_private h1 h2 (by simp only [Bool.or_eq_false_iff] at h4; exact h4.1) (Cond.privateMethod_at (mvP hZ wp (args := args))) (mvT hZ wm) hy
theorem eqL_v {t : Term} {k : Int64} {a0 : Array Value} {first u : State} {o : Option Outcome} {idx : List Nat} (h : (Cond.eq t (.long k)).value a0 first o u idx = some true) : t.eval a0 first o idx u = some (.long k) := by
  simp only [Cond.value, Term.eval] at h
  cases ht : t.eval a0 first o idx u with
  | none => simp [ht] at h
  | some x => cases x <;> simp [ht] at h ⊢; exact h
theorem eqI_v {t : Term} {k : Int32} {a0 : Array Value} {first u : State} {o : Option Outcome} {idx : List Nat} (h : (Cond.eq t (.int k)).value a0 first o u idx = some true) : t.eval a0 first o idx u = some (.int k) := by
  simp only [Cond.value, Term.eval] at h
  cases ht : t.eval a0 first o idx u with
  | none => simp [ht] at h
  | some x => cases x <;> simp [ht] at h ⊢; exact h
end OwnKit
theorem d1_0 : decode prog_7_method_4_code 0 = .ok (.iload_n 0, 1) := by decide +kernel
theorem d1_1 : decode prog_7_method_4_code 1 = .ok (.bipush 31, 2) := by decide +kernel
theorem d1_3 : decode prog_7_method_4_code 3 = .ok (.if_icmp .le 16, 3) := by decide +kernel
theorem d1_6 : decode prog_7_method_4_code 6 = .ok (.iload_n 0, 1) := by decide +kernel
theorem d1_7 : decode prog_7_method_4_code 7 = .ok (.bipush 127, 2) := by decide +kernel
theorem d1_9 : decode prog_7_method_4_code 9 = .ok (.if_icmp .lt 14, 3) := by decide +kernel
theorem d1_12 : decode prog_7_method_4_code 12 = .ok (.iload_n 0, 1) := by decide +kernel
theorem d1_13 : decode prog_7_method_4_code 13 = .ok (.sipush 159, 3) := by decide +kernel
theorem d1_16 : decode prog_7_method_4_code 16 = .ok (.if_icmp .gt 7, 3) := by decide +kernel
theorem d1_19 : decode prog_7_method_4_code 19 = .ok (.iconst 1, 1) := by decide +kernel
theorem d1_20 : decode prog_7_method_4_code 20 = .ok (.goto 4, 3) := by decide +kernel
theorem d1_23 : decode prog_7_method_4_code 23 = .ok (.iconst 0, 1) := by decide +kernel
theorem d1_24 : decode prog_7_method_4_code 24 = .ok (.ireturn, 1) := by decide +kernel
theorem pn_0 : plainName "com/example/tercet/tercet/Iri" = true := by first | (simp [plainName, overriddenIn]; done) | decide +kernel
theorem ef_1 (m : MethodId) (p1 : Int32) : entryFrame m #[(.int p1)] 1 = mkF m 0 #[.val (.int p1)] [] := by first | (simp [entryFrame, mkF, argsToLocals, Value.category]; done) | rfl
def b1_24 (s0_24 : Int32) : Int32 := (nar .boolean s0_24)
def b1_19  : Int32 := (b1_24 (1 : Int32))
def b1_23  : Int32 := (b1_24 (0 : Int32))
def b1_0 (p1 : Int32) : Int32 := (if (31 : Int32) < p1 then (if p1 < (127 : Int32) then b1_23 else (if (159 : Int32) < p1 then b1_23 else b1_19)) else b1_19)
set_option maxRecDepth 65536 in
set_option maxHeartbeats 40000000 in
theorem rm1 (l : Launch) (Z : State) (a0 : Array Value) (hw : ∀ d ∈ tables_1, d.before a0 Z = true) (ws : List Jvm.Cond) (p1 : Int32) (h0 : Heap) (n0 : Nat) (Z0 : n0 ≤ h0.size) :
    MetFree l (⟨"com/example/tercet/tercet/Iri", "isControlCharacter", "(I)Z"⟩ : MethodName) (head1 (Jvm.Cond.code (⟨"com/example/tercet/tercet/Iri", "isControlCharacter", "(I)Z"⟩ : MethodName) prog_7_method_4_code 1 (some .boolean) :: ws) ({ frames := 0, cells := 0, slots := 0, locals := 0 } : Room)) (fun a U => a = #[(.int p1)] ∧ Z.Warmed39 U.vm ∧ U.heap = h0) (fun _ _ _ _ _ => True) (fun _ U o U' => ∃ v L, o = .returned v ∧ QK n0 (Kv (some (.int (b1_0 p1))) (fun h => h = h0)) v U'.heap L ∧ FrameEnd U o U' L ({ frames := 0, cells := 0, slots := 0, locals := 0 } : Room).cells ({ frames := 0, cells := 0, slots := 0, locals := 0 } : Room).slots) := by
  refine MetFree.of_bodySF (plainFor_of_name pn_0) hisR ?_
  intro p e s m args below meth c s₁ Bd hml0 hP hK
  obtain ⟨rfl, hZ, hh⟩ := hP
  have hx := Bd.exec
  have hby := Bd.bytes
  have hml : c.maxLocals = 1 := hml0
  have hown : s.vm.findClass "com/example/tercet/tercet/Iri" = some m.cls := findClass_of_methodNamed Bd.named
  have hnm := (name_of_methodNamed Bd.named Bd.method).1
  have X0 : Stand p l e ({ frames := 0, cells := 0, slots := 0, locals := 0 } : Room) s m #[(.int p1)] below meth c s₁ [] 0 0 := Stand.of_body Bd
  have e0 : s₁.heap = h0 := by rw [← hh, Bd.state]; rfl
  have N0 := Fr.nil n0
  refine gl_start (ef_1 m p1) ?_
  show Gl p e below s n0 ({ frames := 0, cells := 0, slots := 0, locals := 0 } : Room).cells ({ frames := 0, cells := 0, slots := 0, locals := 0 } : Room).slots (Kv (some (.int (if (31 : Int32) < p1 then (if p1 < (127 : Int32) then b1_23 else (if (159 : Int32) < p1 then b1_23 else b1_19)) else b1_19))) (fun h => h = h0)) (s₁.setTop (mkF m 0 #[.val (.int p1)] []))
  refine go (fun t k => XS.iloadN X0.here hx rfl (hb hby d1_0) rfl  k) ?_
  show Gl _ _ _ _ _ _ _ _ (s₁.setTop (mkF m 1 #[.val (.int p1)] [(.int p1)]))
  refine go (fun t k => XS.bipush X0.here hx rfl (hb hby d1_1) k) ?_
  show Gl _ _ _ _ _ _ _ _ (s₁.setTop (mkF m 3 #[.val (.int p1)] [(.int (31 : Int32)), (.int p1)]))
  have J24 : ∀ (s0_24 : Int32) (TJ24 : State) (lJ24 : List Loc) (XJ24 : Stand p l e ({ frames := 0, cells := 0, slots := 0, locals := 0 } : Room) s m #[(.int p1)] below meth c TJ24 lJ24 0 0) (eJ24 : TJ24.heap = h0) (NJ24 : Fr n0 lJ24), Gl p e below s n0 ({ frames := 0, cells := 0, slots := 0, locals := 0 } : Room).cells ({ frames := 0, cells := 0, slots := 0, locals := 0 } : Room).slots (Kv (some (.int (b1_24 s0_24))) (fun h => h = h0)) (TJ24.setTop (mkF m 24 #[.val (.int p1)] [(.int s0_24)])) := by
    intro s0_24 TJ24 lJ24 XJ24 eJ24 NJ24
    show Gl _ _ _ _ _ _ _ (Kv (some (.int (nar .boolean s0_24))) _) _
    exact endN XJ24 hx Bd (t := .boolean) (by simp) (hb hby d1_24) ⟨rfl, eJ24⟩ NJ24 (by decide) (by decide)
  have J19 : ∀  (TJ19 : State) (lJ19 : List Loc) (XJ19 : Stand p l e ({ frames := 0, cells := 0, slots := 0, locals := 0 } : Room) s m #[(.int p1)] below meth c TJ19 lJ19 0 0) (eJ19 : TJ19.heap = h0) (NJ19 : Fr n0 lJ19), Gl p e below s n0 ({ frames := 0, cells := 0, slots := 0, locals := 0 } : Room).cells ({ frames := 0, cells := 0, slots := 0, locals := 0 } : Room).slots (Kv (some (.int b1_19)) (fun h => h = h0)) (TJ19.setTop (mkF m 19 #[.val (.int p1)] [])) := by
    intro  TJ19 lJ19 XJ19 eJ19 NJ19
    show Gl _ _ _ _ _ _ _ (Kv (some (.int (b1_24 (1 : Int32)))) _) _
    refine go (fun t k => XS.iconst XJ19.here hx rfl (hb hby d1_19) k) ?_
    show Gl _ _ _ _ _ _ _ _ (TJ19.setTop (mkF m 20 #[.val (.int p1)] [(.int (1 : Int32))]))
    refine go (fun t k => XS.goto XJ19.here hx rfl (pc0 := 20) (pc' := 24) rfl (hb hby d1_20) (by decide) (by decide) k) ?_
    show Gl _ _ _ _ _ _ _ _ (TJ19.setTop (mkF m 24 #[.val (.int p1)] [(.int (1 : Int32))]))
    exact J24 (1 : Int32) TJ19 _ XJ19 eJ19 NJ19
  refine gI (c := (31 : Int32) < p1) (fun hc3 => ?_) (fun hc3 => ?_)
  · refine go (fun t k => XS.icmpNo X0.here hx rfl (hb hby d1_3) rfl (tlt hc3).2.2.2 k) ?_
    show Gl _ _ _ _ _ _ _ _ (s₁.setTop (mkF m 6 #[.val (.int p1)] []))
    refine go (fun t k => XS.iloadN X0.here hx rfl (hb hby d1_6) rfl  k) ?_
    show Gl _ _ _ _ _ _ _ _ (s₁.setTop (mkF m 7 #[.val (.int p1)] [(.int p1)]))
    refine go (fun t k => XS.bipush X0.here hx rfl (hb hby d1_7) k) ?_
    show Gl _ _ _ _ _ _ _ _ (s₁.setTop (mkF m 9 #[.val (.int p1)] [(.int (127 : Int32)), (.int p1)]))
    have J23 : ∀  (TJ23 : State) (lJ23 : List Loc) (XJ23 : Stand p l e ({ frames := 0, cells := 0, slots := 0, locals := 0 } : Room) s m #[(.int p1)] below meth c TJ23 lJ23 0 0) (eJ23 : TJ23.heap = h0) (NJ23 : Fr n0 lJ23), Gl p e below s n0 ({ frames := 0, cells := 0, slots := 0, locals := 0 } : Room).cells ({ frames := 0, cells := 0, slots := 0, locals := 0 } : Room).slots (Kv (some (.int b1_23)) (fun h => h = h0)) (TJ23.setTop (mkF m 23 #[.val (.int p1)] [])) := by
      intro  TJ23 lJ23 XJ23 eJ23 NJ23
      show Gl _ _ _ _ _ _ _ (Kv (some (.int (b1_24 (0 : Int32)))) _) _
      refine go (fun t k => XS.iconst XJ23.here hx rfl (hb hby d1_23) k) ?_
      show Gl _ _ _ _ _ _ _ _ (TJ23.setTop (mkF m 24 #[.val (.int p1)] [(.int (0 : Int32))]))
      exact J24 (0 : Int32) TJ23 _ XJ23 eJ23 NJ23
    refine gI (c := p1 < (127 : Int32)) (fun hc9 => ?_) (fun hc9 => ?_)
    · refine go (fun t k => XS.icmpYes X0.here hx rfl (pc0 := 9) (pc' := 23) rfl (hb hby d1_9) rfl (tlt hc9).1 (by decide) (by decide) k) ?_
      show Gl _ _ _ _ _ _ _ _ (s₁.setTop (mkF m 23 #[.val (.int p1)] []))
      exact J23  s₁ _ X0 e0 N0
    · refine go (fun t k => XS.icmpNo X0.here hx rfl (hb hby d1_9) rfl (flt hc9).1 k) ?_
      show Gl _ _ _ _ _ _ _ _ (s₁.setTop (mkF m 12 #[.val (.int p1)] []))
      refine go (fun t k => XS.iloadN X0.here hx rfl (hb hby d1_12) rfl  k) ?_
      show Gl _ _ _ _ _ _ _ _ (s₁.setTop (mkF m 13 #[.val (.int p1)] [(.int p1)]))
      refine go (fun t k => XS.sipush X0.here hx rfl (hb hby d1_13) k) ?_
      show Gl _ _ _ _ _ _ _ _ (s₁.setTop (mkF m 16 #[.val (.int p1)] [(.int (159 : Int32)), (.int p1)]))
      refine gI (c := (159 : Int32) < p1) (fun hc16 => ?_) (fun hc16 => ?_)
      · refine go (fun t k => XS.icmpYes X0.here hx rfl (pc0 := 16) (pc' := 23) rfl (hb hby d1_16) rfl (tlt hc16).2.2.1 (by decide) (by decide) k) ?_
        show Gl _ _ _ _ _ _ _ _ (s₁.setTop (mkF m 23 #[.val (.int p1)] []))
        exact J23  s₁ _ X0 e0 N0
      · refine go (fun t k => XS.icmpNo X0.here hx rfl (hb hby d1_16) rfl (flt hc16).2.2.1 k) ?_
        show Gl _ _ _ _ _ _ _ _ (s₁.setTop (mkF m 19 #[.val (.int p1)] []))
        exact J19  s₁ _ X0 e0 N0
  · refine go (fun t k => XS.icmpYes X0.here hx rfl (pc0 := 3) (pc' := 19) rfl (hb hby d1_3) rfl (flt hc3).2.2.2 (by decide) (by decide) k) ?_
    show Gl _ _ _ _ _ _ _ _ (s₁.setTop (mkF m 19 #[.val (.int p1)] []))
    exact J19  s₁ _ X0 e0 N0
theorem pd_0 : parseMethodDescriptor "(I)Z" = some ⟨[.int], some .boolean⟩ := by decide +kernel
theorem pn_1 : plainName "com/example/tercet/tercet/IriIsControlCharacterPinLaw" = true := by first | (simp [plainName, overriddenIn]; done) | decide +kernel
theorem ef_0 (m : MethodId) (p1 : Int32) (p2 : Int32) : entryFrame m #[(.int p1), (.int p2)] maxLocals = mkF m 0 #[.val (.int p1), .val (.int p2), .unset, .unset, .unset] [] := by first | (simp [entryFrame, mkF, argsToLocals, Value.category, maxLocals]; done) | rfl
def b0_63 (s0_63 : Int32) : Int32 := (nar .boolean s0_63)
def b0_47 (v2_23 : Int32) (s0_47 : Int32) : Int32 := (if (b1_0 v2_23) = s0_47 then (b0_63 (1 : Int32)) else (b0_63 (0 : Int32)))
def b0_42 (v2_23 : Int32) : Int32 := (b0_47 v2_23 (1 : Int32))
def b0_23 (v2_23 : Int32) : Int32 := (if (v2_23 >>> ((5 : Int32) &&& 31)) = (0 : Int32) then (b0_42 v2_23) else (if (v2_23 >>> ((5 : Int32) &&& 31)) = (4 : Int32) then (b0_42 v2_23) else (if v2_23 = (127 : Int32) then (b0_42 v2_23) else (b0_47 v2_23 (0 : Int32)))))
def b0_0 (p1 : Int32) (p2 : Int32) : Int32 := (if (p2 &&& (1 : Int32)) = (0 : Int32) then (b0_23 ((p1 &&& (2147483647 : Int32)) % (1114112 : Int32))) else (b0_23 (p1 &&& (255 : Int32))))
set_option maxRecDepth 65536 in
set_option maxHeartbeats 40000000 in
theorem rm0 (l : Launch) (Z : State) (a0 : Array Value) (hw : ∀ d ∈ tables_1, d.before a0 Z = true) (ws : List Jvm.Cond) (p1 : Int32) (p2 : Int32) (h0 : Heap) (n0 : Nat) (Z0 : n0 ≤ h0.size) :
    MetFree l x (head1 (Jvm.Cond.code x code maxLocals ret :: ws) room_1) (fun a U => a = #[(.int p1), (.int p2)] ∧ Z.Warmed39 U.vm ∧ U.heap = h0) (fun _ _ _ _ _ => True) (fun _ U o U' => ∃ v L, o = .returned v ∧ QK n0 (Kv (some (.int (b0_0 p1 p2))) (fun _ => True)) v U'.heap L ∧ FrameEnd U o U' L room_1.cells room_1.slots) := by
  refine MetFree.of_bodySF (plainFor_of_name pn_1) hisR ?_
  intro p e s m args below meth c s₁ Bd hml0 hP hK
  obtain ⟨rfl, hZ, hh⟩ := hP
  have hx := Bd.exec
  have hby := Bd.bytes
  have hml : c.maxLocals = 5 := hml0
  have hown : s.vm.findClass "com/example/tercet/tercet/IriIsControlCharacterPinLaw" = some m.cls := findClass_of_methodNamed Bd.named
  have hnm := (name_of_methodNamed Bd.named Bd.method).1
  have X0 : Stand p l e room_1 s m #[(.int p1), (.int p2)] below meth c s₁ [] 0 0 := Stand.of_body Bd
  have e0 : s₁.heap = h0 := by rw [← hh, Bd.state]; rfl
  have N0 := Fr.nil n0
  refine gl_start (ef_0 m p1 p2) ?_
  show Gl p e below s n0 room_1.cells room_1.slots (Kv (some (.int (if (p2 &&& (1 : Int32)) = (0 : Int32) then (b0_23 ((p1 &&& (2147483647 : Int32)) % (1114112 : Int32))) else (b0_23 (p1 &&& (255 : Int32)))))) (fun _ => True)) (s₁.setTop (mkF m 0 #[.val (.int p1), .val (.int p2), .unset, .unset, .unset] []))
  refine go (fun t k => XS.iloadN X0.here hx rfl (hb hby at_0) rfl  k) ?_
  show Gl _ _ _ _ _ _ _ _ (s₁.setTop (mkF m 1 #[.val (.int p1), .val (.int p2), .unset, .unset, .unset] [(.int p2)]))
  refine go (fun t k => XS.iconst X0.here hx rfl (hb hby at_1) k) ?_
  show Gl _ _ _ _ _ _ _ _ (s₁.setTop (mkF m 2 #[.val (.int p1), .val (.int p2), .unset, .unset, .unset] [(.int (1 : Int32)), (.int p2)]))
  refine go (fun t k => XS.iand X0.here hx rfl (hb hby at_2) rfl k) ?_
  show Gl _ _ _ _ _ _ _ _ (s₁.setTop (mkF m 3 #[.val (.int p1), .val (.int p2), .unset, .unset, .unset] [(.int (p2 &&& (1 : Int32)))]))
  have J23 : ∀ (v2_23 : Int32) (TJ23 : State) (lJ23 : List Loc) (XJ23 : Stand p l e room_1 s m #[(.int p1), (.int p2)] below meth c TJ23 lJ23 0 0) (eJ23 : TJ23.heap = h0) (NJ23 : Fr n0 lJ23), Gl p e below s n0 room_1.cells room_1.slots (Kv (some (.int (b0_23 v2_23))) (fun _ => True)) (TJ23.setTop (mkF m 23 #[.val (.int p1), .val (.int p2), .val (.int v2_23), .unset, .unset] [])) := by
    intro v2_23 TJ23 lJ23 XJ23 eJ23 NJ23
    show Gl _ _ _ _ _ _ _ (Kv (some (.int (if (v2_23 >>> ((5 : Int32) &&& 31)) = (0 : Int32) then (b0_42 v2_23) else (if (v2_23 >>> ((5 : Int32) &&& 31)) = (4 : Int32) then (b0_42 v2_23) else (if v2_23 = (127 : Int32) then (b0_42 v2_23) else (b0_47 v2_23 (0 : Int32))))))) _) _
    refine go (fun t k => XS.iloadN XJ23.here hx rfl (hb hby at_23) rfl  k) ?_
    show Gl _ _ _ _ _ _ _ _ (TJ23.setTop (mkF m 24 #[.val (.int p1), .val (.int p2), .val (.int v2_23), .unset, .unset] [(.int v2_23)]))
    refine go (fun t k => XS.iconst XJ23.here hx rfl (hb hby at_24) k) ?_
    show Gl _ _ _ _ _ _ _ _ (TJ23.setTop (mkF m 25 #[.val (.int p1), .val (.int p2), .val (.int v2_23), .unset, .unset] [(.int (5 : Int32)), (.int v2_23)]))
    refine go (fun t k => XS.ishr XJ23.here hx rfl (hb hby at_25) rfl k) ?_
    show Gl _ _ _ _ _ _ _ _ (TJ23.setTop (mkF m 26 #[.val (.int p1), .val (.int p2), .val (.int v2_23), .unset, .unset] [(.int (v2_23 >>> ((5 : Int32) &&& 31)))]))
    refine go (fun t k => XS.istoreN XJ23.here hx rfl (hb hby at_26) rfl (l' := #[.val (.int p1), .val (.int p2), .val (.int v2_23), .val (.int (v2_23 >>> ((5 : Int32) &&& 31))), .unset]) rfl k) ?_
    show Gl _ _ _ _ _ _ _ _ (TJ23.setTop (mkF m 27 #[.val (.int p1), .val (.int p2), .val (.int v2_23), .val (.int (v2_23 >>> ((5 : Int32) &&& 31))), .unset] []))
    refine go (fun t k => XS.iloadN XJ23.here hx rfl (hb hby at_27) rfl  k) ?_
    show Gl _ _ _ _ _ _ _ _ (TJ23.setTop (mkF m 28 #[.val (.int p1), .val (.int p2), .val (.int v2_23), .val (.int (v2_23 >>> ((5 : Int32) &&& 31))), .unset] [(.int (v2_23 >>> ((5 : Int32) &&& 31)))]))
    have J47 : ∀ (s0_47 : Int32) (TJ47 : State) (lJ47 : List Loc) (XJ47 : Stand p l e room_1 s m #[(.int p1), (.int p2)] below meth c TJ47 lJ47 0 0) (eJ47 : TJ47.heap = h0) (NJ47 : Fr n0 lJ47), Gl p e below s n0 room_1.cells room_1.slots (Kv (some (.int (b0_47 v2_23 s0_47))) (fun _ => True)) (TJ47.setTop (mkF m 47 #[.val (.int p1), .val (.int p2), .val (.int v2_23), .val (.int (v2_23 >>> ((5 : Int32) &&& 31))), .unset] [(.int s0_47)])) := by
      intro s0_47 TJ47 lJ47 XJ47 eJ47 NJ47
      show Gl _ _ _ _ _ _ _ (Kv (some (.int (if (b1_0 v2_23) = s0_47 then (b0_63 (1 : Int32)) else (b0_63 (0 : Int32))))) _) _
      refine go (fun t k => XS.istore XJ47.here hx rfl (hb hby at_47) rfl (l' := #[.val (.int p1), .val (.int p2), .val (.int v2_23), .val (.int (v2_23 >>> ((5 : Int32) &&& 31))), .val (.int s0_47)]) rfl k) ?_
      show Gl _ _ _ _ _ _ _ _ (TJ47.setTop (mkF m 49 #[.val (.int p1), .val (.int p2), .val (.int v2_23), .val (.int (v2_23 >>> ((5 : Int32) &&& 31))), .val (.int s0_47)] []))
      refine go (fun t k => XS.iloadN XJ47.here hx rfl (hb hby at_49) rfl  k) ?_
      show Gl _ _ _ _ _ _ _ _ (TJ47.setTop (mkF m 50 #[.val (.int p1), .val (.int p2), .val (.int v2_23), .val (.int (v2_23 >>> ((5 : Int32) &&& 31))), .val (.int s0_47)] [(.int v2_23)]))
      obtain ⟨_, _, ⟨T3, L3, k3, n3⟩, -, X3, ⟨Lc3, hQ3, l3, y3, z3⟩, st3⟩ := Jvm.LawKit.callS XJ47 hx (y := (⟨"com/example/tercet/tercet/Iri", "isControlCharacter", "(I)Z"⟩ : MethodName)) hown (mvT hZ (hw _ (List.mem_of_getElem? (i := 0) rfl))) (mvT hZ (hw _ (List.mem_of_getElem? (i := 1) rfl))) (mvT hZ (hw _ (List.mem_of_getElem? (i := 2) rfl))) (mvT hZ (hw _ (List.mem_of_getElem? (i := 3) rfl))) (by decide) (backOf (W := 0) (rm1 l Z a0 hw [] v2_23 h0 n0 Z0 ) hZ (hw _ (List.mem_of_getElem? (i := 3) rfl)) (hw _ (List.mem_of_getElem? (i := 2) rfl)) (by decide) (by decide)) (g := (mkF m 50 #[.val (.int p1), .val (.int p2), .val (.int v2_23), .val (.int (v2_23 >>> ((5 : Int32) &&& 31))), .val (.int s0_47)] [(.int v2_23)])) rfl (by rw [hml]; rfl) (argsL := [(.int v2_23)]) (rest := []) (lenOf pd_0 rfl) rfl (by show 2 * 0 + _ ≤ _; exact Nat.le_of_eq rfl) (hb hby at_50) (fun _ _ => ⟨rfl, eJ47, (by decide : 0 + 0 ≤ _), (by decide : 0 + 0 ≤ _)⟩)
      dsimp only [Pt.U, Pt.locs, Pt.cells, Pt.slots] at X3 l3 y3 z3 st3 hQ3
      subst l3 y3 z3
      have X3 : Stand p l e room_1 s m #[(.int p1), (.int p2)] below meth c T3 _ 0 0 := X3
      obtain ⟨⟨rfl, e3'⟩, N3q⟩ := hQ3
      have e3 : T3.heap = h0 := e3'
      have N3 := Fr.app NJ47 N3q
      refine go (fun t k => st3 _ k) ?_
      show Gl _ _ _ _ _ _ _ _ (T3.setTop (mkF m 53 #[.val (.int p1), .val (.int p2), .val (.int v2_23), .val (.int (v2_23 >>> ((5 : Int32) &&& 31))), .val (.int s0_47)] [(.int (b1_0 v2_23))]))
      refine go (fun t k => XS.iload X3.here hx rfl (hb hby at_53) rfl  k) ?_
      show Gl _ _ _ _ _ _ _ _ (T3.setTop (mkF m 55 #[.val (.int p1), .val (.int p2), .val (.int v2_23), .val (.int (v2_23 >>> ((5 : Int32) &&& 31))), .val (.int s0_47)] [(.int s0_47), (.int (b1_0 v2_23))]))
      have J63 : ∀ (s0_63 : Int32) (TJ63 : State) (lJ63 : List Loc) (XJ63 : Stand p l e room_1 s m #[(.int p1), (.int p2)] below meth c TJ63 lJ63 0 0) (eJ63 : TJ63.heap = h0) (NJ63 : Fr n0 lJ63), Gl p e below s n0 room_1.cells room_1.slots (Kv (some (.int (b0_63 s0_63))) (fun _ => True)) (TJ63.setTop (mkF m 63 #[.val (.int p1), .val (.int p2), .val (.int v2_23), .val (.int (v2_23 >>> ((5 : Int32) &&& 31))), .val (.int s0_47)] [(.int s0_63)])) := by
        intro s0_63 TJ63 lJ63 XJ63 eJ63 NJ63
        show Gl _ _ _ _ _ _ _ (Kv (some (.int (nar .boolean s0_63))) _) _
        exact endN XJ63 hx Bd (t := .boolean) (by simp) (hb hby at_63) ⟨rfl, trivial⟩ NJ63 (by decide) (by decide)
      refine gI (c := (b1_0 v2_23) = s0_47) (fun hc55 => ?_) (fun hc55 => ?_)
      · refine go (fun t k => XS.icmpNo X3.here hx rfl (hb hby at_55) rfl (teq hc55).2 k) ?_
        show Gl _ _ _ _ _ _ _ _ (T3.setTop (mkF m 58 #[.val (.int p1), .val (.int p2), .val (.int v2_23), .val (.int (v2_23 >>> ((5 : Int32) &&& 31))), .val (.int s0_47)] []))
        refine go (fun t k => XS.iconst X3.here hx rfl (hb hby at_58) k) ?_
        show Gl _ _ _ _ _ _ _ _ (T3.setTop (mkF m 59 #[.val (.int p1), .val (.int p2), .val (.int v2_23), .val (.int (v2_23 >>> ((5 : Int32) &&& 31))), .val (.int s0_47)] [(.int (1 : Int32))]))
        refine go (fun t k => XS.goto X3.here hx rfl (pc0 := 59) (pc' := 63) rfl (hb hby at_59) (by decide) (by decide) k) ?_
        show Gl _ _ _ _ _ _ _ _ (T3.setTop (mkF m 63 #[.val (.int p1), .val (.int p2), .val (.int v2_23), .val (.int (v2_23 >>> ((5 : Int32) &&& 31))), .val (.int s0_47)] [(.int (1 : Int32))]))
        exact J63 (1 : Int32) T3 _ X3 e3 N3
      · refine go (fun t k => XS.icmpYes X3.here hx rfl (pc0 := 55) (pc' := 62) rfl (hb hby at_55) rfl (feq hc55).2 (by decide) (by decide) k) ?_
        show Gl _ _ _ _ _ _ _ _ (T3.setTop (mkF m 62 #[.val (.int p1), .val (.int p2), .val (.int v2_23), .val (.int (v2_23 >>> ((5 : Int32) &&& 31))), .val (.int s0_47)] []))
        refine go (fun t k => XS.iconst X3.here hx rfl (hb hby at_62) k) ?_
        show Gl _ _ _ _ _ _ _ _ (T3.setTop (mkF m 63 #[.val (.int p1), .val (.int p2), .val (.int v2_23), .val (.int (v2_23 >>> ((5 : Int32) &&& 31))), .val (.int s0_47)] [(.int (0 : Int32))]))
        exact J63 (0 : Int32) T3 _ X3 e3 N3
    have J42 : ∀  (TJ42 : State) (lJ42 : List Loc) (XJ42 : Stand p l e room_1 s m #[(.int p1), (.int p2)] below meth c TJ42 lJ42 0 0) (eJ42 : TJ42.heap = h0) (NJ42 : Fr n0 lJ42), Gl p e below s n0 room_1.cells room_1.slots (Kv (some (.int (b0_42 v2_23))) (fun _ => True)) (TJ42.setTop (mkF m 42 #[.val (.int p1), .val (.int p2), .val (.int v2_23), .val (.int (v2_23 >>> ((5 : Int32) &&& 31))), .unset] [])) := by
      intro  TJ42 lJ42 XJ42 eJ42 NJ42
      show Gl _ _ _ _ _ _ _ (Kv (some (.int (b0_47 v2_23 (1 : Int32)))) _) _
      refine go (fun t k => XS.iconst XJ42.here hx rfl (hb hby at_42) k) ?_
      show Gl _ _ _ _ _ _ _ _ (TJ42.setTop (mkF m 43 #[.val (.int p1), .val (.int p2), .val (.int v2_23), .val (.int (v2_23 >>> ((5 : Int32) &&& 31))), .unset] [(.int (1 : Int32))]))
      refine go (fun t k => XS.goto XJ42.here hx rfl (pc0 := 43) (pc' := 47) rfl (hb hby at_43) (by decide) (by decide) k) ?_
      show Gl _ _ _ _ _ _ _ _ (TJ42.setTop (mkF m 47 #[.val (.int p1), .val (.int p2), .val (.int v2_23), .val (.int (v2_23 >>> ((5 : Int32) &&& 31))), .unset] [(.int (1 : Int32))]))
      exact J47 (1 : Int32) TJ42 _ XJ42 eJ42 NJ42
    refine gI (c := (v2_23 >>> ((5 : Int32) &&& 31)) = (0 : Int32)) (fun hc28 => ?_) (fun hc28 => ?_)
    · refine go (fun t k => XS.ifYes XJ23.here hx rfl (pc0 := 28) (pc' := 42) rfl (hb hby at_28) rfl ((if0 _ _).trans (teq hc28).1) (by decide) (by decide) k) ?_
      show Gl _ _ _ _ _ _ _ _ (TJ23.setTop (mkF m 42 #[.val (.int p1), .val (.int p2), .val (.int v2_23), .val (.int (v2_23 >>> ((5 : Int32) &&& 31))), .unset] []))
      exact J42  TJ23 _ XJ23 eJ23 NJ23
    · refine go (fun t k => XS.ifNo XJ23.here hx rfl (hb hby at_28) rfl ((if0 _ _).trans (feq hc28).1) k) ?_
      show Gl _ _ _ _ _ _ _ _ (TJ23.setTop (mkF m 31 #[.val (.int p1), .val (.int p2), .val (.int v2_23), .val (.int (v2_23 >>> ((5 : Int32) &&& 31))), .unset] []))
      refine go (fun t k => XS.iloadN XJ23.here hx rfl (hb hby at_31) rfl  k) ?_
      show Gl _ _ _ _ _ _ _ _ (TJ23.setTop (mkF m 32 #[.val (.int p1), .val (.int p2), .val (.int v2_23), .val (.int (v2_23 >>> ((5 : Int32) &&& 31))), .unset] [(.int (v2_23 >>> ((5 : Int32) &&& 31)))]))
      refine go (fun t k => XS.iconst XJ23.here hx rfl (hb hby at_32) k) ?_
      show Gl _ _ _ _ _ _ _ _ (TJ23.setTop (mkF m 33 #[.val (.int p1), .val (.int p2), .val (.int v2_23), .val (.int (v2_23 >>> ((5 : Int32) &&& 31))), .unset] [(.int (4 : Int32)), (.int (v2_23 >>> ((5 : Int32) &&& 31)))]))
      refine gI (c := (v2_23 >>> ((5 : Int32) &&& 31)) = (4 : Int32)) (fun hc33 => ?_) (fun hc33 => ?_)
      · refine go (fun t k => XS.icmpYes XJ23.here hx rfl (pc0 := 33) (pc' := 42) rfl (hb hby at_33) rfl (teq hc33).1 (by decide) (by decide) k) ?_
        show Gl _ _ _ _ _ _ _ _ (TJ23.setTop (mkF m 42 #[.val (.int p1), .val (.int p2), .val (.int v2_23), .val (.int (v2_23 >>> ((5 : Int32) &&& 31))), .unset] []))
        exact J42  TJ23 _ XJ23 eJ23 NJ23
      · refine go (fun t k => XS.icmpNo XJ23.here hx rfl (hb hby at_33) rfl (feq hc33).1 k) ?_
        show Gl _ _ _ _ _ _ _ _ (TJ23.setTop (mkF m 36 #[.val (.int p1), .val (.int p2), .val (.int v2_23), .val (.int (v2_23 >>> ((5 : Int32) &&& 31))), .unset] []))
        refine go (fun t k => XS.iloadN XJ23.here hx rfl (hb hby at_36) rfl  k) ?_
        show Gl _ _ _ _ _ _ _ _ (TJ23.setTop (mkF m 37 #[.val (.int p1), .val (.int p2), .val (.int v2_23), .val (.int (v2_23 >>> ((5 : Int32) &&& 31))), .unset] [(.int v2_23)]))
        refine go (fun t k => XS.bipush XJ23.here hx rfl (hb hby at_37) k) ?_
        show Gl _ _ _ _ _ _ _ _ (TJ23.setTop (mkF m 39 #[.val (.int p1), .val (.int p2), .val (.int v2_23), .val (.int (v2_23 >>> ((5 : Int32) &&& 31))), .unset] [(.int (127 : Int32)), (.int v2_23)]))
        refine gI (c := v2_23 = (127 : Int32)) (fun hc39 => ?_) (fun hc39 => ?_)
        · refine go (fun t k => XS.icmpNo XJ23.here hx rfl (hb hby at_39) rfl (teq hc39).2 k) ?_
          show Gl _ _ _ _ _ _ _ _ (TJ23.setTop (mkF m 42 #[.val (.int p1), .val (.int p2), .val (.int v2_23), .val (.int (v2_23 >>> ((5 : Int32) &&& 31))), .unset] []))
          exact J42  TJ23 _ XJ23 eJ23 NJ23
        · refine go (fun t k => XS.icmpYes XJ23.here hx rfl (pc0 := 39) (pc' := 46) rfl (hb hby at_39) rfl (feq hc39).2 (by decide) (by decide) k) ?_
          show Gl _ _ _ _ _ _ _ _ (TJ23.setTop (mkF m 46 #[.val (.int p1), .val (.int p2), .val (.int v2_23), .val (.int (v2_23 >>> ((5 : Int32) &&& 31))), .unset] []))
          refine go (fun t k => XS.iconst XJ23.here hx rfl (hb hby at_46) k) ?_
          show Gl _ _ _ _ _ _ _ _ (TJ23.setTop (mkF m 47 #[.val (.int p1), .val (.int p2), .val (.int v2_23), .val (.int (v2_23 >>> ((5 : Int32) &&& 31))), .unset] [(.int (0 : Int32))]))
          exact J47 (0 : Int32) TJ23 _ XJ23 eJ23 NJ23
  refine gI (c := (p2 &&& (1 : Int32)) = (0 : Int32)) (fun hc3 => ?_) (fun hc3 => ?_)
  · refine go (fun t k => XS.ifNo X0.here hx rfl (hb hby at_3) rfl ((if0 _ _).trans (teq hc3).2) k) ?_
    show Gl _ _ _ _ _ _ _ _ (s₁.setTop (mkF m 6 #[.val (.int p1), .val (.int p2), .unset, .unset, .unset] []))
    refine go (fun t k => XS.iloadN X0.here hx rfl (hb hby at_6) rfl  k) ?_
    show Gl _ _ _ _ _ _ _ _ (s₁.setTop (mkF m 7 #[.val (.int p1), .val (.int p2), .unset, .unset, .unset] [(.int p1)]))
    refine go (fun t k => X0.ldcInt hx hown (mvT hZ (hw _ (List.mem_of_getElem? (i := 4) rfl))) (g := (mkF m 7 #[.val (.int p1), .val (.int p2), .unset, .unset, .unset] [(.int p1)])) rfl (hb hby at_7) _ k) ?_
    show Gl _ _ _ _ _ _ _ _ (s₁.setTop (mkF m 9 #[.val (.int p1), .val (.int p2), .unset, .unset, .unset] [(.int (2147483647 : Int32)), (.int p1)]))
    refine go (fun t k => XS.iand X0.here hx rfl (hb hby at_9) rfl k) ?_
    show Gl _ _ _ _ _ _ _ _ (s₁.setTop (mkF m 10 #[.val (.int p1), .val (.int p2), .unset, .unset, .unset] [(.int (p1 &&& (2147483647 : Int32)))]))
    refine go (fun t k => X0.ldcInt hx hown (mvT hZ (hw _ (List.mem_of_getElem? (i := 5) rfl))) (g := (mkF m 10 #[.val (.int p1), .val (.int p2), .unset, .unset, .unset] [(.int (p1 &&& (2147483647 : Int32)))])) rfl (hb hby at_10) _ k) ?_
    show Gl _ _ _ _ _ _ _ _ (s₁.setTop (mkF m 12 #[.val (.int p1), .val (.int p2), .unset, .unset, .unset] [(.int (1114112 : Int32)), (.int (p1 &&& (2147483647 : Int32)))]))
    refine go (fun t k => iremM X0 hx rfl (hb hby at_12) rfl (by decide) k) ?_
    show Gl _ _ _ _ _ _ _ _ (s₁.setTop (mkF m 13 #[.val (.int p1), .val (.int p2), .unset, .unset, .unset] [(.int ((p1 &&& (2147483647 : Int32)) % (1114112 : Int32)))]))
    refine go (fun t k => XS.istoreN X0.here hx rfl (hb hby at_13) rfl (l' := #[.val (.int p1), .val (.int p2), .val (.int ((p1 &&& (2147483647 : Int32)) % (1114112 : Int32))), .unset, .unset]) rfl k) ?_
    show Gl _ _ _ _ _ _ _ _ (s₁.setTop (mkF m 14 #[.val (.int p1), .val (.int p2), .val (.int ((p1 &&& (2147483647 : Int32)) % (1114112 : Int32))), .unset, .unset] []))
    refine go (fun t k => XS.goto X0.here hx rfl (pc0 := 14) (pc' := 23) rfl (hb hby at_14) (by decide) (by decide) k) ?_
    show Gl _ _ _ _ _ _ _ _ (s₁.setTop (mkF m 23 #[.val (.int p1), .val (.int p2), .val (.int ((p1 &&& (2147483647 : Int32)) % (1114112 : Int32))), .unset, .unset] []))
    exact J23 ((p1 &&& (2147483647 : Int32)) % (1114112 : Int32)) s₁ _ X0 e0 N0
  · refine go (fun t k => XS.ifYes X0.here hx rfl (pc0 := 3) (pc' := 17) rfl (hb hby at_3) rfl ((if0 _ _).trans (feq hc3).2) (by decide) (by decide) k) ?_
    show Gl _ _ _ _ _ _ _ _ (s₁.setTop (mkF m 17 #[.val (.int p1), .val (.int p2), .unset, .unset, .unset] []))
    refine go (fun t k => XS.iloadN X0.here hx rfl (hb hby at_17) rfl  k) ?_
    show Gl _ _ _ _ _ _ _ _ (s₁.setTop (mkF m 18 #[.val (.int p1), .val (.int p2), .unset, .unset, .unset] [(.int p1)]))
    refine go (fun t k => XS.sipush X0.here hx rfl (hb hby at_18) k) ?_
    show Gl _ _ _ _ _ _ _ _ (s₁.setTop (mkF m 21 #[.val (.int p1), .val (.int p2), .unset, .unset, .unset] [(.int (255 : Int32)), (.int p1)]))
    refine go (fun t k => XS.iand X0.here hx rfl (hb hby at_21) rfl k) ?_
    show Gl _ _ _ _ _ _ _ _ (s₁.setTop (mkF m 22 #[.val (.int p1), .val (.int p2), .unset, .unset, .unset] [(.int (p1 &&& (255 : Int32)))]))
    refine go (fun t k => XS.istoreN X0.here hx rfl (hb hby at_22) rfl (l' := #[.val (.int p1), .val (.int p2), .val (.int (p1 &&& (255 : Int32))), .unset, .unset]) rfl k) ?_
    show Gl _ _ _ _ _ _ _ _ (s₁.setTop (mkF m 23 #[.val (.int p1), .val (.int p2), .val (.int (p1 &&& (255 : Int32))), .unset, .unset] []))
    exact J23 (p1 &&& (255 : Int32)) s₁ _ X0 e0 N0
theorem own_blk (v : Int32) (h : 0 ≤ v.toInt) : b0_23 v = 1 := by
  have e : (v >>> ((5 : Int32) &&& 31)).toInt = v.toInt / 2 ^ 5 := Jvm.Kit.i32_shr v _ (by decide)
  have k0 : b0_63 0 = 0 := rfl
  have k1 : b0_63 1 = 1 := rfl
  have k2 : b1_19 = 1 := rfl
  have k3 : b1_23 = 0 := rfl
  have q : b1_0 v = if v.toInt < 32 ∨ (127 ≤ v.toInt ∧ v.toInt < 160) then 1 else 0 := by
    unfold b1_0
    simp only [k2, k3, Int32.lt_iff_toInt_lt, Int32.reduceToInt]
    (repeat' split) <;> first | rfl | (exfalso; omega)
  unfold b0_23 b0_42 b0_47
  rw [q, k0, k1]
  generalize (v >>> ((5 : Int32) &&& 31)) = w at *
  by_cases c1 : v.toInt < 32 ∨ (127 ≤ v.toInt ∧ v.toInt < 160)
  · rw [if_pos c1]
    simp only [show ¬ ((1 : Int32) = 0) by decide, if_true, if_false]
    simp only [← Int32.toInt_inj, Int32.reduceToInt, e]
    (repeat' split) <;> first | rfl | (exfalso; omega)
  · rw [if_neg c1]
    simp only [show ¬ ((0 : Int32) = 1) by decide, if_true, if_false]
    simp only [← Int32.toInt_inj, Int32.reduceToInt, e]
    (repeat' split) <;> first | rfl | (exfalso; omega)
theorem law_eq (p1 p2 : Int32) : b0_0 p1 p2 = 1 := by
  unfold b0_0
  have e := Jvm.Kit.i32_mask p1 255 (k := 8) (by decide) (by decide)
  have e2 := Jvm.Kit.i32_mask p1 2147483647 (k := 31) (by decide) (by decide)
  have e3 : ((p1 &&& 2147483647) % 1114112).toInt = _ := Jvm.Kit.i32_rem_nonneg (by rw [e2]; omega)
  split
  · exact own_blk _ (by rw [e3, e2]; simp only [Int32.reduceToInt]; omega)
  · exact own_blk _ (by rw [e]; omega)
set_option maxRecDepth 65536 in
set_option maxHeartbeats 40000000 in
theorem comes_1 {Post : Tables → Env → Array Value → State → Outcome → State → Prop} (hpost : ∀ tb e args s v u, (limb_1_1.after args s (.returned v) u = true ∧ limb_1_2.after args s (.returned v) u = true ∧ True) → FrameEnd s (.returned v) u (Jvm.fieldLocs frame_1_writes args s ++ Jvm.arrayLocs frame_1_arrays args s ++ Jvm.staticLocs frame_1_statics s) 0 0 → Post tb e args s (.returned v) u) :
    ArmFor flags0 classFile x code maxLocals ret World_1 tables_1 room_1 Calls_1 rest_1 Pre_1 Post := by
  intro l hfl _ _ p e ha hc hk s m args below hf hA hF happ hP
  obtain ⟨hcalls, hrest, hpre⟩ := hP
  obtain ⟨-, -, -, hnamed, -, -, -, hat⟩ := (Spec.applies_iff hf).mp happ
  obtain ⟨hg, hn⟩ := and_e (Cond.before_iff.mp (show (Jvm.Cond.and given_1 narrow_1).before args s = true from hpre))
  obtain ⟨g1, g2⟩ := and_e hg
  obtain ⟨g3, g4⟩ := and_e g2
  obtain ⟨w0, w1, rfl⟩ : ∃ w0 w1 : Value, args = #[w0, w1] := by
    have hs : args.size = 2 := by simpa [Cond.value, given_1] using g1
    obtain ⟨L⟩ := args
    match L, hs with
    | [w0, w1], _ => exact ⟨w0, w1, rfl⟩
  have hw := fun d (hd : d ∈ tables_1) => atoms_spec (ws := Jvm.Cond.code x code maxLocals ret :: tables_1) hat d (List.mem_cons_of_mem _ hd)
  have hfit : Fit s := fun {y c} hc i hi => by
    obtain ⟨ha, rfl⟩ := Array.getElem?_eq_some_iff.mp hc
    have q := List.all_eq_true.mp ((Array.all_eq_true_iff_forall_mem.mp hF) _ (Array.getElem_mem ha)) i (List.mem_range.mpr hi)
    simpa [Array.getElem?_eq_getElem hi] using q
  obtain ⟨i0, ei0⟩ := is_v g3
  obtain rfl : w0 = (.int i0) := Option.some.inj ei0
  obtain ⟨i1, ei1⟩ := is_v g4
  obtain rfl : w1 = (.int i1) := Option.some.inj ei1
  obtain ⟨n, o, h1, h2, h3, _, L, rfl, ⟨⟨hv, -⟩, N⟩, hq⟩ := rm0 l s _ hw tables_1 i0 i1  s.heap s.heap.size (Nat.le_refl _)  p e ha hc hk s m _ below hf ((Spec.applies_iff_loose hf).mp happ).1 ⟨rfl, State.Warmed39.refl s, rfl⟩ trivial
  rw [law_eq] at hv
  subst hv
  refine ⟨n, _, h1, h2, h3, hpost _ _ _ _ _ _ ⟨Cond.after_iff.mpr rfl, Cond.after_iff.mpr (eq_i res_at (Term.int_eval (1)) rfl), trivial⟩ ⟨hq.1, hq.2.1, (hq.2.2.sift fun y hy => Or.inr (N y hy)).mono (by decide) (by decide)⟩⟩
theorem main_1_1 : Claimed_1_1 := comes_1 fun _ _ _ _ _ _ h hF => ⟨h.1, hF⟩
theorem main_1_2 : Claimed_1_2 := comes_1 fun _ _ _ _ _ _ h hF => ⟨h.2.1, hF⟩
end Jvm.Pilot.@@N@@
namespace Jvm.Pilot.@@N@@
open Jvm Jvm.ClassFile Sem Op Lib Jvm.Free Jvm.Stand Jvm.Pilot.@@N@@.Jvm.D
/-! MADE BY PROGRAM (witnessworld.py) out of the Statement's table words and the real class files: 8 classes; the members and pool entries that the words name. The judged class is class 1, her method 1. -/
namespace start1
open Jvm.ClassFile
def u (s : String) : CpInfo := .utf8 (stringToUtf16 s)
/-- a pool by its gaps: so many unusable entries, then the entry; so many at the end -/
def gap : Nat → List CpInfo → List CpInfo
  | 0, r => r
  | n + 1, r => .unusable :: gap n r
def poolList (es : List (Nat × CpInfo)) (last : Nat) : List CpInfo := es.foldr (fun e r => gap e.1 (e.2 :: r)) (gap last [])
def pool (es : List (Nat × CpInfo)) (last : Nat) : Array CpInfo := ⟨poolList es last⟩
def fileOf (pool : Array CpInfo) (this : Nat) (attrs : Array Attribute := #[]) (ms : Array MethodInfo := #[]) (fl : Nat := 33) (sup : Nat := 0) (ifs : Array Nat := #[]) (fds : Array FieldInfo := #[]) : ClassFile where
  minorVersion := 0
  majorVersion := 65
  constantPool := pool
  accessFlags := fl
  thisClass := this
  superClass := sup
  interfaces := ifs
  fields := fds
  methods := ms
  attributes := attrs
def plain (name : String) (sup : Option ClassId) : Class where
  name := name
  kind := .ordinary
  loader := none
  accessFlags := 33
  super := sup
  interfaces := #[]
  cf := none
  fields := #[]
  methods := #[]
  instanceTypes := #[]
  staticTypes := #[]
  resolved := #[]
  callSites := []
  init := .initialized
  statics := none
  mirror := none

def pool0 : Array CpInfo := pool [(5, u "<init>"), (0, u "()V"), (1, .class_ 10), (1, u "java/lang/Object")] 113

def k0m0 : Method := { name := "<init>", desc := "()V", sig := { parameters := [], returnType := none }, accessFlags := 1, code := none }
/-- java/lang/Object -/
def k0 : Class := { plain "java/lang/Object" none with
  accessFlags := 33
  interfaces := #[]
  cf := some (fileOf pool0 8 #[] #[{ accessFlags := 1, nameIndex := 5, descriptorIndex := 6, attributes := #[] }] 33 0 #[] #[])
  fields := #[]
  methods := #[k0m0]
  instanceTypes := #[]
  staticTypes := #[]
  resolved := Array.replicate 124 none
  statics := none }

def pool1 : Array CpInfo := pool [(2, .class_ 4), (1, u "java/lang/Object"), (0, u "<init>"), (0, u "()V"), (0, .integer 2147483647), (0, .integer 1114112), (0, .methodref 10 11), (0, .class_ 12), (0, .nameAndType 13 14), (0, u "com/example/tercet/tercet/Iri"), (0, u "isControlCharacter"), (0, u "(I)Z"), (0, .class_ 16), (0, u "com/example/tercet/tercet/IriIsControlCharacterPinLaw"), (2, u "law"), (0, u "(II)Z")] 3

def k1m0 : Method := { name := "<init>", desc := "()V", sig := { parameters := [], returnType := none }, accessFlags := 2, code := none }
def k1c1 : Code := { maxStack := 2, maxLocals := 5, code := code, exceptionTable := #[], attributes := #[] }
def k1m1 : Method := { name := "law", desc := "(II)Z", sig := { parameters := [.int, .int], returnType := some .boolean }, accessFlags := 9, code := some k1c1 }
/-- com/example/tercet/tercet/IriIsControlCharacterPinLaw -/
def k1 : Class := { plain "com/example/tercet/tercet/IriIsControlCharacterPinLaw" (some 0) with
  accessFlags := 49
  interfaces := #[]
  cf := some (fileOf pool1 15 #[] #[{ accessFlags := 2, nameIndex := 5, descriptorIndex := 6, attributes := #[] }, { accessFlags := 9, nameIndex := 19, descriptorIndex := 20, attributes := #[] }] 49 2 #[] #[])
  fields := #[]
  methods := #[k1m0, k1m1]
  instanceTypes := #[]
  staticTypes := #[]
  resolved := Array.replicate 24 none
  statics := none }

def pool2 : Array CpInfo := pool [(1, .class_ 2), (0, u "com/example/tercet/tercet/Term"), (0, .class_ 4), (0, u "java/lang/Object")] 9

/-- com/example/tercet/tercet/Term -/
def k2 : Class := { plain "com/example/tercet/tercet/Term" (some 0) with
  accessFlags := 1537
  interfaces := #[]
  cf := some (fileOf pool2 1 #[] #[] 1537 3 #[] #[])
  fields := #[]
  methods := #[]
  instanceTypes := #[]
  staticTypes := #[]
  resolved := Array.replicate 14 none
  statics := none }

def pool3 : Array CpInfo := pool [(2, .class_ 4), (1, u "java/lang/Object"), (3, u "value"), (9, .class_ 20), (1, u "com/example/tercet/tercet/Iri"), (0, u "Ljava/lang/String;"), (11, .class_ 34), (0, u "com/example/tercet/tercet/Iri$Components"), (150, .class_ 186), (0, u "com/example/tercet/tercet/Term"), (5, u "isControlCharacter"), (0, u "(I)Z")] 27

def k3c0 : Code := { maxStack := 2, maxLocals := 1, code := prog_7_method_4_code, exceptionTable := #[], attributes := #[] }
def k3m0 : Method := { name := "isControlCharacter", desc := "(I)Z", sig := { parameters := [.int], returnType := some .boolean }, accessFlags := 9, code := some k3c0 }
/-- com/example/tercet/tercet/Iri -/
def k3 : Class := { plain "com/example/tercet/tercet/Iri" (some 0) with
  accessFlags := 49
  interfaces := #[2]
  cf := some (fileOf pool3 18 #[.nestMembers #[33]] #[{ accessFlags := 9, nameIndex := 192, descriptorIndex := 193, attributes := #[] }] 49 2 #[185] #[{ accessFlags := 18, nameIndex := 8, descriptorIndex := 21, attributes := #[] }])
  fields := #[{ name := "value", type := (.object "java/lang/String"), accessFlags := 18, slot := 0, constantValue := 0 }]
  methods := #[k3m0]
  instanceTypes := #[(.object "java/lang/String")]
  staticTypes := #[]
  resolved := Array.replicate 221 none
  statics := none }

def pool4 : Array CpInfo := pool [(1, u "java/lang/Cloneable"), (0, .class_ 1), (0, u "java/lang/Object"), (0, .class_ 3)] 3

/-- java/lang/Cloneable -/
def k4 : Class := { plain "java/lang/Cloneable" (some 0) with
  accessFlags := 1537
  interfaces := #[]
  cf := some (fileOf pool4 2 #[] #[] 1537 4 #[] #[])
  fields := #[]
  methods := #[]
  instanceTypes := #[]
  staticTypes := #[]
  resolved := Array.replicate 8 none
  statics := none }

def pool5 : Array CpInfo := pool [(1, u "java/io/Serializable"), (0, .class_ 1), (0, u "java/lang/Object"), (0, .class_ 3)] 3

/-- java/io/Serializable -/
def k5 : Class := { plain "java/io/Serializable" (some 0) with
  accessFlags := 1537
  interfaces := #[]
  cf := some (fileOf pool5 2 #[] #[] 1537 4 #[] #[])
  fields := #[]
  methods := #[]
  instanceTypes := #[]
  staticTypes := #[]
  resolved := Array.replicate 8 none
  statics := none }

/-- the primitive byte -/
def k6 : Class := { plain "byte" none with kind := .primitive 'B', accessFlags := 0x411 }
/-- [B -/
def k7 : Class := { plain "[B" (some 0) with kind := .array 6 .byte, interfaces := #[4, 5], accessFlags := 1041 }

def heap : Heap := #[]
def classes : Array Class := #[k0, k1, k2, k3, k4, k5, k6, k7]
def interned : List (Array UInt16 × Addr) := []
def slotsUsed : Nat := 0
def theMethod : MethodId := ⟨1, 1⟩
def args0 : Array Value := #[.int 5, .int 6]
def aboutOver (below : List Frame) : State where
  vm := { classes := classes, interned := interned.toArray }
  heap := heap
  slotsUsed := slotsUsed
  threads := #[{ frames := .invoking theMethod args0 :: below }]
def below0 : List Frame := [.native { method := ⟨0, 0⟩, args := #[] }]
def about1 : State := aboutOver below0
def p0 : Program := .bare "" "" ""
def e0 : Env := launch0.env 0 0 0
theorem w_frames : about1.frames = Frame.invoking theMethod args0 :: below0 := rfl
set_option maxRecDepth 65536 in
theorem w_args : argsFit about1.vm theMethod args0 = true := by decide +kernel
set_option maxRecDepth 65536 in
theorem w_heap : heapFits about1 = true := by decide +kernel
set_option maxRecDepth 65536 in
theorem w_runnable : about1.curStatus? = some .runnable := by decide +kernel
set_option maxRecDepth 65536 in
theorem w_alone : about1.alone = true := by decide +kernel
set_option maxRecDepth 65536 in
theorem w_named : about1.methodNamed? x = some theMethod := by decide +kernel
set_option maxRecDepth 65536 in
theorem w_hears : about1.hears theMethod below0 = true := by decide +kernel
set_option maxRecDepth 65536 in
theorem w_ripe : about1.ripe theMethod args0 below0 = true := by decide +kernel
theorem w_running : about1.status = .running := rfl
set_option maxRecDepth 65536 in
theorem w_room : about1.hasRoom e0.platform room_1 = true :=
  launch0.hasRoom_least _ room_1 (by decide +kernel) (by decide +kernel) (by decide +kernel) (by decide +kernel) (by decide +kernel) (by decide +kernel)
theorem allAtoms_all (ts : List Jvm.Cond) (a : Array Jvm.Value) (st : Jvm.State) : (allAtoms ts).before a st = ts.all (fun c => c.before a st) := by
  induction ts with
  | nil => rfl
  | cons c t ih =>
    show (Jvm.Cond.and c (allAtoms t)).before a st = _
    rw [Jvm.Cond.before_and, ih, List.all_cons]
def words1 : List Jvm.Cond := Jvm.Cond.code x code maxLocals ret :: tables_1
/-- a 'code' word, met by the world's own term for the bytes: nothing is compared byte by byte -/
theorem code_word {y : MethodName} {bytes : ByteArray} {mx : Nat} {rt : Option FieldType} {a : Array Value} {s : State} {m : MethodId} {meth : Method} {c : Code} (h1 : s.methodNamed? y = some m) (h2 : s.vm.method? m = some meth) (h3 : meth.code = some c) (h4 : c.code = bytes)
    (h5 : (c.maxLocals == mx && c.exceptionTable.isEmpty && decide (c.maxStack ≤ mostOperands) && decide (meth.sig.returnType = rt) && !meth.locks && decide (parseMethodDescriptor y.desc = some meth.sig)) = true) : (Jvm.Cond.code y bytes mx rt).before a s = true := by
  simp only [Bool.and_eq_true, beq_iff_eq, Bool.not_eq_true', decide_eq_true_eq] at h5
  obtain ⟨⟨⟨⟨⟨g1, g2⟩, g3⟩, g4⟩, g5⟩, g6⟩ := h5
  simp [Cond.before, Cond.holds, Cond.value, h1, h2, h3, h4, g1, g2, g3, g4, g5, g6]
def isCode : Jvm.Cond → Bool
  | .code _ _ _ _ => true
  | _ => false
theorem all_split {L : List Jvm.Cond} {P : Jvm.Cond → Bool} (h1 : L.all (fun c => isCode c || P c) = true) (h2 : ∀ c ∈ L.filter isCode, P c = true) : L.all P = true := by
  refine List.all_eq_true.mpr fun c hc => ?_
  have h := List.all_eq_true.mp h1 c hc
  rcases Bool.eq_false_or_eq_true (isCode c) with hi | hi
  · exact h2 c (List.mem_filter.mpr ⟨hc, hi⟩)
  · simpa [hi] using h
set_option maxRecDepth 65536 in
theorem w_c0 : (Jvm.Cond.code x code maxLocals ret).before args0 about1 = true := code_word (m := ⟨1, 1⟩) (meth := k1m1) (c := k1c1) (by decide +kernel) rfl rfl rfl (by decide +kernel)
set_option maxRecDepth 65536 in
theorem w_c1 : (Jvm.Cond.code ({ cls := "com/example/tercet/tercet/Iri", name := "isControlCharacter", desc := "(I)Z" } : Jvm.MethodName) prog_7_method_4_code (1 : Nat) (Option.some Jvm.ClassFile.FieldType.boolean)).before args0 about1 = true := code_word (m := ⟨3, 0⟩) (meth := k3m0) (c := k3c0) (by decide +kernel) rfl rfl rfl (by decide +kernel)
def codes1 : List Jvm.Cond := [Jvm.Cond.code x code maxLocals ret, Jvm.Cond.code ({ cls := "com/example/tercet/tercet/Iri", name := "isControlCharacter", desc := "(I)Z" } : Jvm.MethodName) prog_7_method_4_code (1 : Nat) (Option.some Jvm.ClassFile.FieldType.boolean)]
set_option maxRecDepth 65536 in
theorem codes_eq : words1.filter isCode = codes1 := rfl
theorem w_codes : ∀ c ∈ words1.filter isCode, c.before args0 about1 = true := by
  rw [codes_eq]
  intro c hc
  simp only [codes1, List.mem_cons, List.not_mem_nil, or_false] at hc
  rcases hc with rfl | rfl
  · exact w_c0
  · exact w_c1
set_option maxRecDepth 65536 in
theorem w_t1 : words1.all (fun c => isCode c || c.before args0 about1) = true := by decide +kernel
theorem w_tables : (allAtoms (Jvm.Cond.code x code maxLocals ret :: tables_1)).before args0 about1 = true := by
  rw [allAtoms_all]
  show words1.all (fun c => c.before args0 about1) = true
  refine all_split ?_ w_codes
  rw [w_t1]
set_option maxRecDepth 65536 in
theorem w_case : (Jvm.Cond.and given_1 narrow_1).before args0 about1 = true := by decide +kernel
theorem w_applies : (headSpec (Jvm.Cond.code x code maxLocals ret :: tables_1) room_1).applies x e0.platform about1 = true :=
  (Spec.applies_iff w_frames).mpr ⟨w_running, w_runnable, w_alone, w_named, w_hears, w_ripe, w_room, w_tables⟩
theorem atStart : AtStart classFile x code maxLocals ret World_1 tables_1 room_1 Calls_1 rest_1 Pre_1 launch0 p0 e0 about1 theMethod args0 below0 :=
  ⟨lists_1, trivial, launch0.admits_env _ _ _, launch0.least_env, fairChoices_fair.cas, fairChoices_fair.clock, w_frames, w_args, w_heap, w_applies, trivial, trivial, w_case⟩
end start1
theorem witness_1 : WitnessClaimed_1 := ⟨start1.p0, start1.e0, start1.about1, start1.theMethod, start1.args0, start1.below0, start1.atStart⟩
end Jvm.Pilot.@@N@@
