import JvmDerived
import JvmDerived.Pilot.@@N@@Statement
import JvmDerived.Pilot.@@N@@Code
set_option linter.unusedVariables false
set_option linter.unusedSimpArgs false
@@BLOCK:NumsL.lean.txt@@
namespace Jvm.Pilot.@@N@@
open Jvm Jvm.ClassFile Sem Op Lib Jvm.Free Jvm.Stand Jvm.LawKit Jvm.RoadKit Bundle Jvm.Pilot.@@N@@.Jvm.D
section OwnKit
variable {p : Program} {l : Launch} {e : Env} {R : Room} {s : State} {m : MethodId} {args : Array Value} {below : List Frame} {meth : Method} {c : Code} {T : State} {locs : List Loc} {cells slots : Nat} {n0 cc nn : Nat} {K : Option Value → Heap → Prop} {P : Heap → Prop} {A B : State}
/-- what a contract says of the value, the heap and the places written -/
def QK (n0 : Nat) (K : Option Value → Heap → Prop) (v : Option Value) (h : Heap) (L : List Loc) : Prop := K v h ∧ Fr n0 L
def Kv (w : Option Value) (P : Heap → Prop) (v : Option Value) (h : Heap) : Prop := v = w ∧ P h
/-- from A the run comes to this body's end, and K holds there -/
def Gl (p : Program) (e : Env) (below : List Frame) (s : State) (n0 cc nn : Nat) (K : Option Value → Heap → Prop) (A : State) : Prop :=
  ∃ t o, Steps p.tables e below A t ∧ t.status = .running ∧ Ended t below o ∧ ∃ v L, o = .returned v ∧ QK n0 K v t.heap L ∧ FrameEnd s o t L cc nn
theorem go (st : ∀ t, Steps p.tables e below B t → Steps p.tables e below A t) (h : Gl p e below s n0 cc nn K B) : Gl p e below s n0 cc nn K A := by
  obtain ⟨t, o, h1, h2⟩ := h; exact ⟨t, o, st t h1, h2⟩
theorem gl_start {g g' : JFrame} (q : g = g') (h : Gl p e below s n0 cc nn K (T.setTop g')) :
    ∃ t o, Steps p.tables e below (T.setTop g) t ∧ t.status = .running ∧ Ended t below o ∧ ∃ v L, o = .returned v ∧ QK n0 K v t.heap L ∧ FrameEnd s o t L cc nn := by
  subst q; exact h
theorem gI {c : Prop} [Decidable c] {a b : Int32} (h1 : c → Gl p e below s n0 cc nn (Kv (some (.int a)) P) A) (h2 : ¬ c → Gl p e below s n0 cc nn (Kv (some (.int b)) P) A) : Gl p e below s n0 cc nn (Kv (some (.int (if c then a else b))) P) A := by
  by_cases h : c
  · rw [if_pos h]; exact h1 h
  · rw [if_neg h]; exact h2 h
theorem gJ {c : Prop} [Decidable c] {a b : Int64} (h1 : c → Gl p e below s n0 cc nn (Kv (some (.long a)) P) A) (h2 : ¬ c → Gl p e below s n0 cc nn (Kv (some (.long b)) P) A) : Gl p e below s n0 cc nn (Kv (some (.long (if c then a else b))) P) A := by
  by_cases h : c
  · rw [if_pos h]; exact h1 h
  · rw [if_neg h]; exact h2 h
theorem gR {c : Prop} [Decidable c] {a b : Addr} (h1 : c → Gl p e below s n0 cc nn (Kv (some (.ref a)) P) A) (h2 : ¬ c → Gl p e below s n0 cc nn (Kv (some (.ref b)) P) A) : Gl p e below s n0 cc nn (Kv (some (.ref (if c then a else b))) P) A := by
  by_cases h : c
  · rw [if_pos h]; exact h1 h
  · rw [if_neg h]; exact h2 h
theorem gV {c : Prop} [Decidable c] (h1 : c → Gl p e below s n0 cc nn K A) (h2 : ¬ c → Gl p e below s n0 cc nn K A) : Gl p e below s n0 cc nn K A := by
  by_cases h : c
  · exact h1 h
  · exact h2 h
variable {x : MethodName} {S : Spec} {code' : ByteArray} {ml : Nat} {s₁ : State} {pc : Nat} {Ls : Array Slot} {rest : List Value}
theorem endN (X : Stand p l e R s m args below meth c T locs cells slots) (hx : p.tables.exec = Jvm.exec) {t : FieldType} (Bd : BodyLoose p l x S code' ml (some t) e s m args below meth c s₁) (ht : t = .boolean ∨ t = .byte ∨ t = .char ∨ t = .short) {z : Int32}
    (hd : decode c.code pc = .ok (.ireturn, 1)) (hK : K (some (.int (nar t z))) T.heap) (N : Fr n0 locs) (hc : cells ≤ cc) (hs : slots ≤ nn) : Gl p e below s n0 cc nn K (T.setTop (mkF m pc Ls (.int z :: rest))) := by
  obtain ⟨fs, hr, hrun, hended, hW, hsame⟩ := X.leave (v := some (.int (nar t z))) (fun h => by rw [Bd.returns] at h; cases h)
  exact ⟨_, _, retN X hx Bd.returns ht hd hr, hrun, hended, _, _, rfl, ⟨hK, N⟩, ⟨_, rfl⟩, hW, hsame.mono hc hs⟩
theorem endO (X : Stand p l e R s m args below meth c T locs cells slots) (hx : p.tables.exec = Jvm.exec) {t : FieldType} (Bd : BodyLoose p l x S code' ml (some t) e s m args below meth c s₁) {w : Value} {i : Instr} (hn : narrow t w = w)
    (hi : (i = .ireturn ∧ (t = .int ∨ t = .boolean ∨ t = .byte ∨ t = .char ∨ t = .short) ∧ ∃ z, w = .int z) ∨ (i = .lreturn ∧ t = .long ∧ ∃ z, w = .long z) ∨ (i = .dreturn ∧ t = .double ∧ ∃ z, w = .double z) ∨ (i = .freturn ∧ t = .float ∧ ∃ z, w = .float z) ∨ (i = .areturn ∧ t.isReference = true ∧ w.isRef = true))
    (hd : decode c.code pc = .ok (i, 1)) (hK : K (some w) T.heap) (N : Fr n0 locs) (hc : cells ≤ cc) (hs : slots ≤ nn) : Gl p e below s n0 cc nn K (T.setTop (mkF m pc Ls (w :: rest))) := by
  obtain ⟨fs, hr, hrun, hended, hW, hsame⟩ := X.leave (v := some w) (fun h => by rw [Bd.returns] at h; cases h)
  exact ⟨_, _, retOut X hx Bd.returns hn hi hd hr, hrun, hended, _, _, rfl, ⟨hK, N⟩, ⟨_, rfl⟩, hW, hsame.mono hc hs⟩
theorem endI (X : Stand p l e R s m args below meth c T locs cells slots) (hx : p.tables.exec = Jvm.exec) (Bd : BodyLoose p l x S code' ml (some .int) e s m args below meth c s₁) {z : Int32}
    (hd : decode c.code pc = .ok (.ireturn, 1)) (hK : K (some (.int z)) T.heap) (N : Fr n0 locs) (hc : cells ≤ cc) (hs : slots ≤ nn) : Gl p e below s n0 cc nn K (T.setTop (mkF m pc Ls (.int z :: rest))) :=
  endO X hx Bd rfl (Or.inl ⟨rfl, Or.inl rfl, z, rfl⟩) hd hK N hc hs
theorem endJ (X : Stand p l e R s m args below meth c T locs cells slots) (hx : p.tables.exec = Jvm.exec) (Bd : BodyLoose p l x S code' ml (some .long) e s m args below meth c s₁) {z : Int64}
    (hd : decode c.code pc = .ok (.lreturn, 1)) (hK : K (some (.long z)) T.heap) (N : Fr n0 locs) (hc : cells ≤ cc) (hs : slots ≤ nn) : Gl p e below s n0 cc nn K (T.setTop (mkF m pc Ls (.long z :: rest))) :=
  endO X hx Bd rfl (Or.inr (Or.inl ⟨rfl, rfl, z, rfl⟩)) hd hK N hc hs
theorem endR (X : Stand p l e R s m args below meth c T locs cells slots) (hx : p.tables.exec = Jvm.exec) {t : FieldType} (Bd : BodyLoose p l x S code' ml (some t) e s m args below meth c s₁) (ht : t.isReference = true) {a : Addr}
    (hd : decode c.code pc = .ok (.areturn, 1)) (hK : K (some (.ref a)) T.heap) (N : Fr n0 locs) (hc : cells ≤ cc) (hs : slots ≤ nn) : Gl p e below s n0 cc nn K (T.setTop (mkF m pc Ls (.ref a :: rest))) :=
  endO X hx Bd (by cases t <;> first | rfl | cases ht) (Or.inr (Or.inr (Or.inr (Or.inr ⟨rfl, ht, rfl⟩)))) hd hK N hc hs
theorem endV (X : Stand p l e R s m args below meth c T locs cells slots) (hx : p.tables.exec = Jvm.exec) (Bd : BodyLoose p l x S code' ml none e s m args below meth c s₁)
    (hd : decode c.code pc = .ok (.return_, 1)) (hK : K none T.heap) (N : Fr n0 locs) (hc : cells ≤ cc) (hs : slots ≤ nn) : Gl p e below s n0 cc nn K (T.setTop (mkF m pc Ls [])) := by
  obtain ⟨fs, hr, hrun, hended, hW, hsame⟩ := X.leave (v := none) (fun _ => rfl)
  exact ⟨_, _, X.returnOut hx Bd.returns hd hr, hrun, hended, _, _, rfl, ⟨hK, N⟩, ⟨_, rfl⟩, hW, hsame.mono hc hs⟩
theorem lremM {g : JFrame} {target : State} (X : Stand p l e R s m args below meth c T locs cells slots) (hx : p.tables.exec = Jvm.exec) (hg : g.method = m) {x y : Int64} {rest : List Value} (hd : decode c.code g.pc = .ok (.lrem, 1)) (hs : g.stack = .long y :: .long x :: rest) (hy : y ≠ 0)
    (hr : Steps p.tables e below (T.setTop { g with pc := g.pc + 1, stack := .long (x % y) :: rest }) target) : Steps p.tables e below (T.setTop g) target := by
  have q := lrem_mod x y
  exact XS.lrem X.here hx hg hd hs hy (by rw [q]; exact hr)
theorem sta_keep {Z : State} {h h' : Heap} {a : Addr} {C n d D : String} {w : Value} (F : Sta Z h C n d w) (Kp : Keep h h' [a]) (E : Exa Z h a D) : Sta Z h' C n d w := by
  obtain ⟨cf, i, k, f, st, cell, h1, h2, h3, h4, h5, h6, h7⟩ := F
  obtain ⟨cell', k', e1, -, -, e4, -⟩ := E
  refine ⟨cf, i, k, f, st, cell, h1, h2, h3, h4, Kp.2.1 st cell h5 (ninS (fun q => ?_) nin0), h6, h7⟩
  subst q; cases h5.symm.trans e1; rw [h6] at e4; cases e4
theorem sta_keepN {Z : State} {h h' : Heap} {ws : List Addr} {C n d : String} {w : Value} (F : Sta Z h C n d w) (Kp : Keep h h' ws) (hn : ∀ x ∈ ws, ∀ cell : Cell, h[x]? = some cell → cell.vm.isStatics = false) : Sta Z h' C n d w := by
  obtain ⟨cf, i, k, f, st, cell, h1, h2, h3, h4, h5, h6, h7⟩ := F
  refine ⟨cf, i, k, f, st, cell, h1, h2, h3, h4, Kp.2.1 st cell h5 (fun q => ?_), h6, h7⟩
  have := hn st q cell h5
  rw [h6] at this; cases this
theorem sta_keep0 {Z : State} {h h' : Heap} {C n d : String} {w : Value} (F : Sta Z h C n d w) (Kp : Keep h h' []) : Sta Z h' C n d w := by
  obtain ⟨cf, i, k, f, st, cell, h1, h2, h3, h4, h5, h6, h7⟩ := F
  exact ⟨cf, i, k, f, st, cell, h1, h2, h3, h4, Kp.2.1 st cell h5 nin0, h6, h7⟩
theorem sel_priv {Z s : State} {a0 args : Array Value} {y : MethodName} {n : Nat} (hZ : Z.Warmed39 s.vm) (wi : (Cond.instantiable y.cls n).before a0 Z = true) (wp : (Cond.privateMethod y).before a0 Z = true) (wm : (Cond.instanceMethod y).before a0 Z = true) (hy : y.cls ≠ "java/lang/invoke/MethodHandle" ∧ y.cls ≠ "java/lang/invoke/VarHandle") : (Cond.selects y.cls y y).before args s = true := by
  obtain ⟨c, k, h1, h2, -, h4, -⟩ := Cond.instantiable_spec (show (Cond.instantiable y.cls n).before args s = true from mvT hZ wi)
  exact Jvm.Stand.selects_self_of_private h1 h2 (by simp only [Bool.or_eq_false_iff] at h4; exact h4.1) (Cond.privateMethod_at (mvP hZ wp (args := args))) (mvT hZ wm) hy
theorem eqL_v {t : Term} {k : Int64} {a0 : Array Value} {first u : State} {o : Option Outcome} {idx : List Nat} (h : (Cond.eq t (.long k)).value a0 first o u idx = some true) : t.eval a0 first o idx u = some (.long k) := by
  simp only [Cond.value, Term.eval] at h
  cases ht : t.eval a0 first o idx u with
  | none => simp [ht] at h
  | some x => cases x <;> simp [ht] at h ⊢; exact h
theorem eqI_v {t : Term} {k : Int32} {a0 : Array Value} {first u : State} {o : Option Outcome} {idx : List Nat} (h : (Cond.eq t (.int k)).value a0 first o u idx = some true) : t.eval a0 first o idx u = some (.int k) := by
  simp only [Cond.value, Term.eval] at h
  cases ht : t.eval a0 first o idx u with
  | none => simp [ht] at h
  | some x => cases x <;> simp [ht] at h ⊢; exact h
end OwnKit
theorem d1_0 : decode prog_14_method_10_code 0 = .ok (.iload_n 0, 1) := by decide +kernel
theorem d1_1 : decode prog_14_method_10_code 1 = .ok (.bipush 48, 2) := by decide +kernel
theorem d1_3 : decode prog_14_method_10_code 3 = .ok (.if_icmp .lt 9, 3) := by decide +kernel
theorem d1_6 : decode prog_14_method_10_code 6 = .ok (.iload_n 0, 1) := by decide +kernel
theorem d1_7 : decode prog_14_method_10_code 7 = .ok (.bipush 57, 2) := by decide +kernel
theorem d1_9 : decode prog_14_method_10_code 9 = .ok (.if_icmp .le 27, 3) := by decide +kernel
theorem d1_12 : decode prog_14_method_10_code 12 = .ok (.iload_n 0, 1) := by decide +kernel
theorem d1_13 : decode prog_14_method_10_code 13 = .ok (.bipush 97, 2) := by decide +kernel
theorem d1_15 : decode prog_14_method_10_code 15 = .ok (.if_icmp .lt 9, 3) := by decide +kernel
theorem d1_18 : decode prog_14_method_10_code 18 = .ok (.iload_n 0, 1) := by decide +kernel
theorem d1_19 : decode prog_14_method_10_code 19 = .ok (.bipush 102, 2) := by decide +kernel
theorem d1_21 : decode prog_14_method_10_code 21 = .ok (.if_icmp .le 15, 3) := by decide +kernel
theorem d1_24 : decode prog_14_method_10_code 24 = .ok (.iload_n 0, 1) := by decide +kernel
theorem d1_25 : decode prog_14_method_10_code 25 = .ok (.bipush 65, 2) := by decide +kernel
theorem d1_27 : decode prog_14_method_10_code 27 = .ok (.if_icmp .lt 13, 3) := by decide +kernel
theorem d1_30 : decode prog_14_method_10_code 30 = .ok (.iload_n 0, 1) := by decide +kernel
theorem d1_31 : decode prog_14_method_10_code 31 = .ok (.bipush 70, 2) := by decide +kernel
theorem d1_33 : decode prog_14_method_10_code 33 = .ok (.if_icmp .gt 7, 3) := by decide +kernel
theorem d1_36 : decode prog_14_method_10_code 36 = .ok (.iconst 1, 1) := by decide +kernel
theorem d1_37 : decode prog_14_method_10_code 37 = .ok (.goto 4, 3) := by decide +kernel
theorem d1_40 : decode prog_14_method_10_code 40 = .ok (.iconst 0, 1) := by decide +kernel
theorem d1_41 : decode prog_14_method_10_code 41 = .ok (.ireturn, 1) := by decide +kernel
theorem pn_0 : plainName "com/example/kette/kette/DlgpSyntax" = true := by first | (simp [plainName, overriddenIn]; done) | decide +kernel
theorem ef_1 (m : MethodId) (p1 : Int32) : entryFrame m #[(.int p1)] 1 = mkF m 0 #[.val (.int p1)] [] := by first | (simp [entryFrame, mkF, argsToLocals, Value.category]; done) | rfl
def b1_41 (s0_41 : Int32) : Int32 := (nar .boolean s0_41)
def b1_36  : Int32 := (b1_41 (1 : Int32))
def b1_40  : Int32 := (b1_41 (0 : Int32))
def b1_24 (p1 : Int32) : Int32 := (if p1 < (65 : Int32) then b1_40 else (if (70 : Int32) < p1 then b1_40 else b1_36))
def b1_12 (p1 : Int32) : Int32 := (if p1 < (97 : Int32) then (b1_24 p1) else (if (102 : Int32) < p1 then (b1_24 p1) else b1_36))
def b1_0 (p1 : Int32) : Int32 := (if p1 < (48 : Int32) then (b1_12 p1) else (if (57 : Int32) < p1 then (b1_12 p1) else b1_36))
set_option maxRecDepth 65536 in
set_option maxHeartbeats 40000000 in
theorem rm1 (l : Launch) (Z : State) (a0 : Array Value) (hw : ∀ d ∈ tables_1, d.before a0 Z = true) (ws : List Jvm.Cond) (p1 : Int32) (h0 : Heap) (n0 : Nat) (Z0 : n0 ≤ h0.size) :
    MetFree l (⟨"com/example/kette/kette/DlgpSyntax", "isHexDigit", "(I)Z"⟩ : MethodName) (head1 (Jvm.Cond.code (⟨"com/example/kette/kette/DlgpSyntax", "isHexDigit", "(I)Z"⟩ : MethodName) prog_14_method_10_code 1 (some .boolean) :: ws) ({ frames := 0, cells := 0, slots := 0, locals := 0 } : Room)) (fun a U => a = #[(.int p1)] ∧ Z.Warmed39 U.vm ∧ U.heap = h0) (fun _ _ _ _ _ => True) (fun _ U o U' => ∃ v L, o = .returned v ∧ QK n0 (Kv (some (.int (b1_0 p1))) (fun h => h = h0)) v U'.heap L ∧ FrameEnd U o U' L ({ frames := 0, cells := 0, slots := 0, locals := 0 } : Room).cells ({ frames := 0, cells := 0, slots := 0, locals := 0 } : Room).slots) := by
  refine MetFree.of_bodySF (plainFor_of_name pn_0) hisR ?_
  intro p e s m args below meth c s₁ Bd hml0 hP hK
  obtain ⟨rfl, hZ, hh⟩ := hP
  have hx := Bd.exec
  have hby := Bd.bytes
  have hml : c.maxLocals = 1 := hml0
  have hown : s.vm.findClass "com/example/kette/kette/DlgpSyntax" = some m.cls := findClass_of_methodNamed Bd.named
  have hnm := (name_of_methodNamed Bd.named Bd.method).1
  have X0 : Stand p l e ({ frames := 0, cells := 0, slots := 0, locals := 0 } : Room) s m #[(.int p1)] below meth c s₁ [] 0 0 := Stand.of_body Bd
  have e0 : s₁.heap = h0 := by rw [← hh, Bd.state]; rfl
  have N0 := Fr.nil n0
  refine gl_start (ef_1 m p1) ?_
  show Gl p e below s n0 ({ frames := 0, cells := 0, slots := 0, locals := 0 } : Room).cells ({ frames := 0, cells := 0, slots := 0, locals := 0 } : Room).slots (Kv (some (.int (if p1 < (48 : Int32) then (b1_12 p1) else (if (57 : Int32) < p1 then (b1_12 p1) else b1_36)))) (fun h => h = h0)) (s₁.setTop (mkF m 0 #[.val (.int p1)] []))
  refine go (fun t k => XS.iloadN X0.here hx rfl (hb hby d1_0) rfl  k) ?_
  show Gl _ _ _ _ _ _ _ _ (s₁.setTop (mkF m 1 #[.val (.int p1)] [(.int p1)]))
  refine go (fun t k => XS.bipush X0.here hx rfl (hb hby d1_1) k) ?_
  show Gl _ _ _ _ _ _ _ _ (s₁.setTop (mkF m 3 #[.val (.int p1)] [(.int (48 : Int32)), (.int p1)]))
  have J41 : ∀ (s0_41 : Int32) (TJ41 : State) (lJ41 : List Loc) (XJ41 : Stand p l e ({ frames := 0, cells := 0, slots := 0, locals := 0 } : Room) s m #[(.int p1)] below meth c TJ41 lJ41 0 0) (eJ41 : TJ41.heap = h0) (NJ41 : Fr n0 lJ41), Gl p e below s n0 ({ frames := 0, cells := 0, slots := 0, locals := 0 } : Room).cells ({ frames := 0, cells := 0, slots := 0, locals := 0 } : Room).slots (Kv (some (.int (b1_41 s0_41))) (fun h => h = h0)) (TJ41.setTop (mkF m 41 #[.val (.int p1)] [(.int s0_41)])) := by
    intro s0_41 TJ41 lJ41 XJ41 eJ41 NJ41
    show Gl _ _ _ _ _ _ _ (Kv (some (.int (nar .boolean s0_41))) _) _
    exact endN XJ41 hx Bd (t := .boolean) (by simp) (hb hby d1_41) ⟨rfl, eJ41⟩ NJ41 (by decide) (by decide)
  have J36 : ∀  (TJ36 : State) (lJ36 : List Loc) (XJ36 : Stand p l e ({ frames := 0, cells := 0, slots := 0, locals := 0 } : Room) s m #[(.int p1)] below meth c TJ36 lJ36 0 0) (eJ36 : TJ36.heap = h0) (NJ36 : Fr n0 lJ36), Gl p e below s n0 ({ frames := 0, cells := 0, slots := 0, locals := 0 } : Room).cells ({ frames := 0, cells := 0, slots := 0, locals := 0 } : Room).slots (Kv (some (.int b1_36)) (fun h => h = h0)) (TJ36.setTop (mkF m 36 #[.val (.int p1)] [])) := by
    intro  TJ36 lJ36 XJ36 eJ36 NJ36
    show Gl _ _ _ _ _ _ _ (Kv (some (.int (b1_41 (1 : Int32)))) _) _
    refine go (fun t k => XS.iconst XJ36.here hx rfl (hb hby d1_36) k) ?_
    show Gl _ _ _ _ _ _ _ _ (TJ36.setTop (mkF m 37 #[.val (.int p1)] [(.int (1 : Int32))]))
    refine go (fun t k => XS.goto XJ36.here hx rfl (pc0 := 37) (pc' := 41) rfl (hb hby d1_37) (by decide) (by decide) k) ?_
    show Gl _ _ _ _ _ _ _ _ (TJ36.setTop (mkF m 41 #[.val (.int p1)] [(.int (1 : Int32))]))
    exact J41 (1 : Int32) TJ36 _ XJ36 eJ36 NJ36
  have J12 : ∀  (TJ12 : State) (lJ12 : List Loc) (XJ12 : Stand p l e ({ frames := 0, cells := 0, slots := 0, locals := 0 } : Room) s m #[(.int p1)] below meth c TJ12 lJ12 0 0) (eJ12 : TJ12.heap = h0) (NJ12 : Fr n0 lJ12), Gl p e below s n0 ({ frames := 0, cells := 0, slots := 0, locals := 0 } : Room).cells ({ frames := 0, cells := 0, slots := 0, locals := 0 } : Room).slots (Kv (some (.int (b1_12 p1))) (fun h => h = h0)) (TJ12.setTop (mkF m 12 #[.val (.int p1)] [])) := by
    intro  TJ12 lJ12 XJ12 eJ12 NJ12
    show Gl _ _ _ _ _ _ _ (Kv (some (.int (if p1 < (97 : Int32) then (b1_24 p1) else (if (102 : Int32) < p1 then (b1_24 p1) else b1_36)))) _) _
    refine go (fun t k => XS.iloadN XJ12.here hx rfl (hb hby d1_12) rfl  k) ?_
    show Gl _ _ _ _ _ _ _ _ (TJ12.setTop (mkF m 13 #[.val (.int p1)] [(.int p1)]))
    refine go (fun t k => XS.bipush XJ12.here hx rfl (hb hby d1_13) k) ?_
    show Gl _ _ _ _ _ _ _ _ (TJ12.setTop (mkF m 15 #[.val (.int p1)] [(.int (97 : Int32)), (.int p1)]))
    have J24 : ∀  (TJ24 : State) (lJ24 : List Loc) (XJ24 : Stand p l e ({ frames := 0, cells := 0, slots := 0, locals := 0 } : Room) s m #[(.int p1)] below meth c TJ24 lJ24 0 0) (eJ24 : TJ24.heap = h0) (NJ24 : Fr n0 lJ24), Gl p e below s n0 ({ frames := 0, cells := 0, slots := 0, locals := 0 } : Room).cells ({ frames := 0, cells := 0, slots := 0, locals := 0 } : Room).slots (Kv (some (.int (b1_24 p1))) (fun h => h = h0)) (TJ24.setTop (mkF m 24 #[.val (.int p1)] [])) := by
      intro  TJ24 lJ24 XJ24 eJ24 NJ24
      show Gl _ _ _ _ _ _ _ (Kv (some (.int (if p1 < (65 : Int32) then b1_40 else (if (70 : Int32) < p1 then b1_40 else b1_36)))) _) _
      refine go (fun t k => XS.iloadN XJ24.here hx rfl (hb hby d1_24) rfl  k) ?_
      show Gl _ _ _ _ _ _ _ _ (TJ24.setTop (mkF m 25 #[.val (.int p1)] [(.int p1)]))
      refine go (fun t k => XS.bipush XJ24.here hx rfl (hb hby d1_25) k) ?_
      show Gl _ _ _ _ _ _ _ _ (TJ24.setTop (mkF m 27 #[.val (.int p1)] [(.int (65 : Int32)), (.int p1)]))
      have J40 : ∀  (TJ40 : State) (lJ40 : List Loc) (XJ40 : Stand p l e ({ frames := 0, cells := 0, slots := 0, locals := 0 } : Room) s m #[(.int p1)] below meth c TJ40 lJ40 0 0) (eJ40 : TJ40.heap = h0) (NJ40 : Fr n0 lJ40), Gl p e below s n0 ({ frames := 0, cells := 0, slots := 0, locals := 0 } : Room).cells ({ frames := 0, cells := 0, slots := 0, locals := 0 } : Room).slots (Kv (some (.int b1_40)) (fun h => h = h0)) (TJ40.setTop (mkF m 40 #[.val (.int p1)] [])) := by
        intro  TJ40 lJ40 XJ40 eJ40 NJ40
        show Gl _ _ _ _ _ _ _ (Kv (some (.int (b1_41 (0 : Int32)))) _) _
        refine go (fun t k => XS.iconst XJ40.here hx rfl (hb hby d1_40) k) ?_
        show Gl _ _ _ _ _ _ _ _ (TJ40.setTop (mkF m 41 #[.val (.int p1)] [(.int (0 : Int32))]))
        exact J41 (0 : Int32) TJ40 _ XJ40 eJ40 NJ40
      refine gI (c := p1 < (65 : Int32)) (fun hc27 => ?_) (fun hc27 => ?_)
      · refine go (fun t k => XS.icmpYes XJ24.here hx rfl (pc0 := 27) (pc' := 40) rfl (hb hby d1_27) rfl (tlt hc27).1 (by decide) (by decide) k) ?_
        show Gl _ _ _ _ _ _ _ _ (TJ24.setTop (mkF m 40 #[.val (.int p1)] []))
        exact J40  TJ24 _ XJ24 eJ24 NJ24
      · refine go (fun t k => XS.icmpNo XJ24.here hx rfl (hb hby d1_27) rfl (flt hc27).1 k) ?_
        show Gl _ _ _ _ _ _ _ _ (TJ24.setTop (mkF m 30 #[.val (.int p1)] []))
        refine go (fun t k => XS.iloadN XJ24.here hx rfl (hb hby d1_30) rfl  k) ?_
        show Gl _ _ _ _ _ _ _ _ (TJ24.setTop (mkF m 31 #[.val (.int p1)] [(.int p1)]))
        refine go (fun t k => XS.bipush XJ24.here hx rfl (hb hby d1_31) k) ?_
        show Gl _ _ _ _ _ _ _ _ (TJ24.setTop (mkF m 33 #[.val (.int p1)] [(.int (70 : Int32)), (.int p1)]))
        refine gI (c := (70 : Int32) < p1) (fun hc33 => ?_) (fun hc33 => ?_)
        · refine go (fun t k => XS.icmpYes XJ24.here hx rfl (pc0 := 33) (pc' := 40) rfl (hb hby d1_33) rfl (tlt hc33).2.2.1 (by decide) (by decide) k) ?_
          show Gl _ _ _ _ _ _ _ _ (TJ24.setTop (mkF m 40 #[.val (.int p1)] []))
          exact J40  TJ24 _ XJ24 eJ24 NJ24
        · refine go (fun t k => XS.icmpNo XJ24.here hx rfl (hb hby d1_33) rfl (flt hc33).2.2.1 k) ?_
          show Gl _ _ _ _ _ _ _ _ (TJ24.setTop (mkF m 36 #[.val (.int p1)] []))
          exact J36  TJ24 _ XJ24 eJ24 NJ24
    refine gI (c := p1 < (97 : Int32)) (fun hc15 => ?_) (fun hc15 => ?_)
    · refine go (fun t k => XS.icmpYes XJ12.here hx rfl (pc0 := 15) (pc' := 24) rfl (hb hby d1_15) rfl (tlt hc15).1 (by decide) (by decide) k) ?_
      show Gl _ _ _ _ _ _ _ _ (TJ12.setTop (mkF m 24 #[.val (.int p1)] []))
      exact J24  TJ12 _ XJ12 eJ12 NJ12
    · refine go (fun t k => XS.icmpNo XJ12.here hx rfl (hb hby d1_15) rfl (flt hc15).1 k) ?_
      show Gl _ _ _ _ _ _ _ _ (TJ12.setTop (mkF m 18 #[.val (.int p1)] []))
      refine go (fun t k => XS.iloadN XJ12.here hx rfl (hb hby d1_18) rfl  k) ?_
      show Gl _ _ _ _ _ _ _ _ (TJ12.setTop (mkF m 19 #[.val (.int p1)] [(.int p1)]))
      refine go (fun t k => XS.bipush XJ12.here hx rfl (hb hby d1_19) k) ?_
      show Gl _ _ _ _ _ _ _ _ (TJ12.setTop (mkF m 21 #[.val (.int p1)] [(.int (102 : Int32)), (.int p1)]))
      refine gI (c := (102 : Int32) < p1) (fun hc21 => ?_) (fun hc21 => ?_)
      · refine go (fun t k => XS.icmpNo XJ12.here hx rfl (hb hby d1_21) rfl (tlt hc21).2.2.2 k) ?_
        show Gl _ _ _ _ _ _ _ _ (TJ12.setTop (mkF m 24 #[.val (.int p1)] []))
        exact J24  TJ12 _ XJ12 eJ12 NJ12
      · refine go (fun t k => XS.icmpYes XJ12.here hx rfl (pc0 := 21) (pc' := 36) rfl (hb hby d1_21) rfl (flt hc21).2.2.2 (by decide) (by decide) k) ?_
        show Gl _ _ _ _ _ _ _ _ (TJ12.setTop (mkF m 36 #[.val (.int p1)] []))
        exact J36  TJ12 _ XJ12 eJ12 NJ12
  refine gI (c := p1 < (48 : Int32)) (fun hc3 => ?_) (fun hc3 => ?_)
  · refine go (fun t k => XS.icmpYes X0.here hx rfl (pc0 := 3) (pc' := 12) rfl (hb hby d1_3) rfl (tlt hc3).1 (by decide) (by decide) k) ?_
    show Gl _ _ _ _ _ _ _ _ (s₁.setTop (mkF m 12 #[.val (.int p1)] []))
    exact J12  s₁ _ X0 e0 N0
  · refine go (fun t k => XS.icmpNo X0.here hx rfl (hb hby d1_3) rfl (flt hc3).1 k) ?_
    show Gl _ _ _ _ _ _ _ _ (s₁.setTop (mkF m 6 #[.val (.int p1)] []))
    refine go (fun t k => XS.iloadN X0.here hx rfl (hb hby d1_6) rfl  k) ?_
    show Gl _ _ _ _ _ _ _ _ (s₁.setTop (mkF m 7 #[.val (.int p1)] [(.int p1)]))
    refine go (fun t k => XS.bipush X0.here hx rfl (hb hby d1_7) k) ?_
    show Gl _ _ _ _ _ _ _ _ (s₁.setTop (mkF m 9 #[.val (.int p1)] [(.int (57 : Int32)), (.int p1)]))
    refine gI (c := (57 : Int32) < p1) (fun hc9 => ?_) (fun hc9 => ?_)
    · refine go (fun t k => XS.icmpNo X0.here hx rfl (hb hby d1_9) rfl (tlt hc9).2.2.2 k) ?_
      show Gl _ _ _ _ _ _ _ _ (s₁.setTop (mkF m 12 #[.val (.int p1)] []))
      exact J12  s₁ _ X0 e0 N0
    · refine go (fun t k => XS.icmpYes X0.here hx rfl (pc0 := 9) (pc' := 36) rfl (hb hby d1_9) rfl (flt hc9).2.2.2 (by decide) (by decide) k) ?_
      show Gl _ _ _ _ _ _ _ _ (s₁.setTop (mkF m 36 #[.val (.int p1)] []))
      exact J36  s₁ _ X0 e0 N0
theorem d2_0 : decode method_2_code 0 = .ok (.iload_n 0, 1) := by decide +kernel
theorem d2_1 : decode method_2_code 1 = .ok (.bipush 32, 2) := by decide +kernel
theorem d2_3 : decode method_2_code 3 = .ok (.ior, 1) := by decide +kernel
theorem d2_4 : decode method_2_code 4 = .ok (.istore_n 1, 1) := by decide +kernel
theorem d2_5 : decode method_2_code 5 = .ok (.iload_n 0, 1) := by decide +kernel
theorem d2_6 : decode method_2_code 6 = .ok (.bipush 48, 2) := by decide +kernel
theorem d2_8 : decode method_2_code 8 = .ok (.if_icmp .lt 13, 3) := by decide +kernel
theorem d2_11 : decode method_2_code 11 = .ok (.iload_n 0, 1) := by decide +kernel
theorem d2_12 : decode method_2_code 12 = .ok (.bipush 57, 2) := by decide +kernel
theorem d2_14 : decode method_2_code 14 = .ok (.if_icmp .gt 7, 3) := by decide +kernel
theorem d2_17 : decode method_2_code 17 = .ok (.iconst 1, 1) := by decide +kernel
theorem d2_18 : decode method_2_code 18 = .ok (.goto 4, 3) := by decide +kernel
theorem d2_21 : decode method_2_code 21 = .ok (.iconst 0, 1) := by decide +kernel
theorem d2_22 : decode method_2_code 22 = .ok (.istore_n 2, 1) := by decide +kernel
theorem d2_23 : decode method_2_code 23 = .ok (.iload_n 1, 1) := by decide +kernel
theorem d2_24 : decode method_2_code 24 = .ok (.bipush 97, 2) := by decide +kernel
theorem d2_26 : decode method_2_code 26 = .ok (.if_icmp .lt 13, 3) := by decide +kernel
theorem d2_29 : decode method_2_code 29 = .ok (.iload_n 1, 1) := by decide +kernel
theorem d2_30 : decode method_2_code 30 = .ok (.bipush 102, 2) := by decide +kernel
theorem d2_32 : decode method_2_code 32 = .ok (.if_icmp .gt 7, 3) := by decide +kernel
theorem d2_35 : decode method_2_code 35 = .ok (.iconst 1, 1) := by decide +kernel
theorem d2_36 : decode method_2_code 36 = .ok (.goto 4, 3) := by decide +kernel
theorem d2_39 : decode method_2_code 39 = .ok (.iconst 0, 1) := by decide +kernel
theorem d2_40 : decode method_2_code 40 = .ok (.istore_n 3, 1) := by decide +kernel
theorem d2_41 : decode method_2_code 41 = .ok (.iload_n 2, 1) := by decide +kernel
theorem d2_42 : decode method_2_code 42 = .ok (.ifCond .ne 7, 3) := by decide +kernel
theorem d2_45 : decode method_2_code 45 = .ok (.iload_n 3, 1) := by decide +kernel
theorem d2_46 : decode method_2_code 46 = .ok (.ifCond .eq 7, 3) := by decide +kernel
theorem d2_49 : decode method_2_code 49 = .ok (.iconst 1, 1) := by decide +kernel
theorem d2_50 : decode method_2_code 50 = .ok (.goto 4, 3) := by decide +kernel
theorem d2_53 : decode method_2_code 53 = .ok (.iconst 0, 1) := by decide +kernel
theorem d2_54 : decode method_2_code 54 = .ok (.ireturn, 1) := by decide +kernel
theorem pn_1 : plainName "com/example/kette/kette/DlgpSyntaxIsHexDigitPinLaw" = true := by first | (simp [plainName, overriddenIn]; done) | decide +kernel
theorem ef_2 (m : MethodId) (p1 : Int32) : entryFrame m #[(.int p1)] 4 = mkF m 0 #[.val (.int p1), .unset, .unset, .unset] [] := by first | (simp [entryFrame, mkF, argsToLocals, Value.category]; done) | rfl
def b2_54 (s0_54 : Int32) : Int32 := (nar .boolean s0_54)
def b2_49  : Int32 := (b2_54 (1 : Int32))
def b2_40 (s0_22 : Int32) (s0_40 : Int32) : Int32 := (if s0_22 = (0 : Int32) then (if s0_40 = (0 : Int32) then (b2_54 (0 : Int32)) else b2_49) else b2_49)
def b2_39 (s0_22 : Int32) : Int32 := (b2_40 s0_22 (0 : Int32))
def b2_22 (p1 : Int32) (s0_22 : Int32) : Int32 := (if (p1 ||| (32 : Int32)) < (97 : Int32) then (b2_39 s0_22) else (if (102 : Int32) < (p1 ||| (32 : Int32)) then (b2_39 s0_22) else (b2_40 s0_22 (1 : Int32))))
def b2_21 (p1 : Int32) : Int32 := (b2_22 p1 (0 : Int32))
def b2_0 (p1 : Int32) : Int32 := (if p1 < (48 : Int32) then (b2_21 p1) else (if (57 : Int32) < p1 then (b2_21 p1) else (b2_22 p1 (1 : Int32))))
set_option maxRecDepth 65536 in
set_option maxHeartbeats 40000000 in
theorem rm2 (l : Launch) (Z : State) (a0 : Array Value) (hw : ∀ d ∈ tables_1, d.before a0 Z = true) (ws : List Jvm.Cond) (p1 : Int32) (h0 : Heap) (n0 : Nat) (Z0 : n0 ≤ h0.size) :
    MetFree l (⟨"com/example/kette/kette/DlgpSyntaxIsHexDigitPinLaw", "ref", "(I)Z"⟩ : MethodName) (head1 (Jvm.Cond.code (⟨"com/example/kette/kette/DlgpSyntaxIsHexDigitPinLaw", "ref", "(I)Z"⟩ : MethodName) method_2_code 4 (some .boolean) :: ws) ({ frames := 0, cells := 0, slots := 0, locals := 0 } : Room)) (fun a U => a = #[(.int p1)] ∧ Z.Warmed39 U.vm ∧ U.heap = h0) (fun _ _ _ _ _ => True) (fun _ U o U' => ∃ v L, o = .returned v ∧ QK n0 (Kv (some (.int (b2_0 p1))) (fun h => h = h0)) v U'.heap L ∧ FrameEnd U o U' L ({ frames := 0, cells := 0, slots := 0, locals := 0 } : Room).cells ({ frames := 0, cells := 0, slots := 0, locals := 0 } : Room).slots) := by
  refine MetFree.of_bodySF (plainFor_of_name pn_1) hisR ?_
  intro p e s m args below meth c s₁ Bd hml0 hP hK
  obtain ⟨rfl, hZ, hh⟩ := hP
  have hx := Bd.exec
  have hby := Bd.bytes
  have hml : c.maxLocals = 4 := hml0
  have hown : s.vm.findClass "com/example/kette/kette/DlgpSyntaxIsHexDigitPinLaw" = some m.cls := findClass_of_methodNamed Bd.named
  have hnm := (name_of_methodNamed Bd.named Bd.method).1
  have X0 : Stand p l e ({ frames := 0, cells := 0, slots := 0, locals := 0 } : Room) s m #[(.int p1)] below meth c s₁ [] 0 0 := Stand.of_body Bd
  have e0 : s₁.heap = h0 := by rw [← hh, Bd.state]; rfl
  have N0 := Fr.nil n0
  refine gl_start (ef_2 m p1) ?_
  show Gl p e below s n0 ({ frames := 0, cells := 0, slots := 0, locals := 0 } : Room).cells ({ frames := 0, cells := 0, slots := 0, locals := 0 } : Room).slots (Kv (some (.int (if p1 < (48 : Int32) then (b2_21 p1) else (if (57 : Int32) < p1 then (b2_21 p1) else (b2_22 p1 (1 : Int32)))))) (fun h => h = h0)) (s₁.setTop (mkF m 0 #[.val (.int p1), .unset, .unset, .unset] []))
  refine go (fun t k => XS.iloadN X0.here hx rfl (hb hby d2_0) rfl  k) ?_
  show Gl _ _ _ _ _ _ _ _ (s₁.setTop (mkF m 1 #[.val (.int p1), .unset, .unset, .unset] [(.int p1)]))
  refine go (fun t k => XS.bipush X0.here hx rfl (hb hby d2_1) k) ?_
  show Gl _ _ _ _ _ _ _ _ (s₁.setTop (mkF m 3 #[.val (.int p1), .unset, .unset, .unset] [(.int (32 : Int32)), (.int p1)]))
  refine go (fun t k => XS.ior X0.here hx rfl (hb hby d2_3) rfl k) ?_
  show Gl _ _ _ _ _ _ _ _ (s₁.setTop (mkF m 4 #[.val (.int p1), .unset, .unset, .unset] [(.int (p1 ||| (32 : Int32)))]))
  refine go (fun t k => XS.istoreN X0.here hx rfl (hb hby d2_4) rfl (l' := #[.val (.int p1), .val (.int (p1 ||| (32 : Int32))), .unset, .unset]) rfl k) ?_
  show Gl _ _ _ _ _ _ _ _ (s₁.setTop (mkF m 5 #[.val (.int p1), .val (.int (p1 ||| (32 : Int32))), .unset, .unset] []))
  refine go (fun t k => XS.iloadN X0.here hx rfl (hb hby d2_5) rfl  k) ?_
  show Gl _ _ _ _ _ _ _ _ (s₁.setTop (mkF m 6 #[.val (.int p1), .val (.int (p1 ||| (32 : Int32))), .unset, .unset] [(.int p1)]))
  refine go (fun t k => XS.bipush X0.here hx rfl (hb hby d2_6) k) ?_
  show Gl _ _ _ _ _ _ _ _ (s₁.setTop (mkF m 8 #[.val (.int p1), .val (.int (p1 ||| (32 : Int32))), .unset, .unset] [(.int (48 : Int32)), (.int p1)]))
  have J22 : ∀ (s0_22 : Int32) (TJ22 : State) (lJ22 : List Loc) (XJ22 : Stand p l e ({ frames := 0, cells := 0, slots := 0, locals := 0 } : Room) s m #[(.int p1)] below meth c TJ22 lJ22 0 0) (eJ22 : TJ22.heap = h0) (NJ22 : Fr n0 lJ22), Gl p e below s n0 ({ frames := 0, cells := 0, slots := 0, locals := 0 } : Room).cells ({ frames := 0, cells := 0, slots := 0, locals := 0 } : Room).slots (Kv (some (.int (b2_22 p1 s0_22))) (fun h => h = h0)) (TJ22.setTop (mkF m 22 #[.val (.int p1), .val (.int (p1 ||| (32 : Int32))), .unset, .unset] [(.int s0_22)])) := by
    intro s0_22 TJ22 lJ22 XJ22 eJ22 NJ22
    show Gl _ _ _ _ _ _ _ (Kv (some (.int (if (p1 ||| (32 : Int32)) < (97 : Int32) then (b2_39 s0_22) else (if (102 : Int32) < (p1 ||| (32 : Int32)) then (b2_39 s0_22) else (b2_40 s0_22 (1 : Int32)))))) _) _
    refine go (fun t k => XS.istoreN XJ22.here hx rfl (hb hby d2_22) rfl (l' := #[.val (.int p1), .val (.int (p1 ||| (32 : Int32))), .val (.int s0_22), .unset]) rfl k) ?_
    show Gl _ _ _ _ _ _ _ _ (TJ22.setTop (mkF m 23 #[.val (.int p1), .val (.int (p1 ||| (32 : Int32))), .val (.int s0_22), .unset] []))
    refine go (fun t k => XS.iloadN XJ22.here hx rfl (hb hby d2_23) rfl  k) ?_
    show Gl _ _ _ _ _ _ _ _ (TJ22.setTop (mkF m 24 #[.val (.int p1), .val (.int (p1 ||| (32 : Int32))), .val (.int s0_22), .unset] [(.int (p1 ||| (32 : Int32)))]))
    refine go (fun t k => XS.bipush XJ22.here hx rfl (hb hby d2_24) k) ?_
    show Gl _ _ _ _ _ _ _ _ (TJ22.setTop (mkF m 26 #[.val (.int p1), .val (.int (p1 ||| (32 : Int32))), .val (.int s0_22), .unset] [(.int (97 : Int32)), (.int (p1 ||| (32 : Int32)))]))
    have J40 : ∀ (s0_40 : Int32) (TJ40 : State) (lJ40 : List Loc) (XJ40 : Stand p l e ({ frames := 0, cells := 0, slots := 0, locals := 0 } : Room) s m #[(.int p1)] below meth c TJ40 lJ40 0 0) (eJ40 : TJ40.heap = h0) (NJ40 : Fr n0 lJ40), Gl p e below s n0 ({ frames := 0, cells := 0, slots := 0, locals := 0 } : Room).cells ({ frames := 0, cells := 0, slots := 0, locals := 0 } : Room).slots (Kv (some (.int (b2_40 s0_22 s0_40))) (fun h => h = h0)) (TJ40.setTop (mkF m 40 #[.val (.int p1), .val (.int (p1 ||| (32 : Int32))), .val (.int s0_22), .unset] [(.int s0_40)])) := by
      intro s0_40 TJ40 lJ40 XJ40 eJ40 NJ40
      show Gl _ _ _ _ _ _ _ (Kv (some (.int (if s0_22 = (0 : Int32) then (if s0_40 = (0 : Int32) then (b2_54 (0 : Int32)) else b2_49) else b2_49))) _) _
      refine go (fun t k => XS.istoreN XJ40.here hx rfl (hb hby d2_40) rfl (l' := #[.val (.int p1), .val (.int (p1 ||| (32 : Int32))), .val (.int s0_22), .val (.int s0_40)]) rfl k) ?_
      show Gl _ _ _ _ _ _ _ _ (TJ40.setTop (mkF m 41 #[.val (.int p1), .val (.int (p1 ||| (32 : Int32))), .val (.int s0_22), .val (.int s0_40)] []))
      refine go (fun t k => XS.iloadN XJ40.here hx rfl (hb hby d2_41) rfl  k) ?_
      show Gl _ _ _ _ _ _ _ _ (TJ40.setTop (mkF m 42 #[.val (.int p1), .val (.int (p1 ||| (32 : Int32))), .val (.int s0_22), .val (.int s0_40)] [(.int s0_22)]))
      have J54 : ∀ (s0_54 : Int32) (TJ54 : State) (lJ54 : List Loc) (XJ54 : Stand p l e ({ frames := 0, cells := 0, slots := 0, locals := 0 } : Room) s m #[(.int p1)] below meth c TJ54 lJ54 0 0) (eJ54 : TJ54.heap = h0) (NJ54 : Fr n0 lJ54), Gl p e below s n0 ({ frames := 0, cells := 0, slots := 0, locals := 0 } : Room).cells ({ frames := 0, cells := 0, slots := 0, locals := 0 } : Room).slots (Kv (some (.int (b2_54 s0_54))) (fun h => h = h0)) (TJ54.setTop (mkF m 54 #[.val (.int p1), .val (.int (p1 ||| (32 : Int32))), .val (.int s0_22), .val (.int s0_40)] [(.int s0_54)])) := by
        intro s0_54 TJ54 lJ54 XJ54 eJ54 NJ54
        show Gl _ _ _ _ _ _ _ (Kv (some (.int (nar .boolean s0_54))) _) _
        exact endN XJ54 hx Bd (t := .boolean) (by simp) (hb hby d2_54) ⟨rfl, eJ54⟩ NJ54 (by decide) (by decide)
      have J49 : ∀  (TJ49 : State) (lJ49 : List Loc) (XJ49 : Stand p l e ({ frames := 0, cells := 0, slots := 0, locals := 0 } : Room) s m #[(.int p1)] below meth c TJ49 lJ49 0 0) (eJ49 : TJ49.heap = h0) (NJ49 : Fr n0 lJ49), Gl p e below s n0 ({ frames := 0, cells := 0, slots := 0, locals := 0 } : Room).cells ({ frames := 0, cells := 0, slots := 0, locals := 0 } : Room).slots (Kv (some (.int b2_49)) (fun h => h = h0)) (TJ49.setTop (mkF m 49 #[.val (.int p1), .val (.int (p1 ||| (32 : Int32))), .val (.int s0_22), .val (.int s0_40)] [])) := by
        intro  TJ49 lJ49 XJ49 eJ49 NJ49
        show Gl _ _ _ _ _ _ _ (Kv (some (.int (b2_54 (1 : Int32)))) _) _
        refine go (fun t k => XS.iconst XJ49.here hx rfl (hb hby d2_49) k) ?_
        show Gl _ _ _ _ _ _ _ _ (TJ49.setTop (mkF m 50 #[.val (.int p1), .val (.int (p1 ||| (32 : Int32))), .val (.int s0_22), .val (.int s0_40)] [(.int (1 : Int32))]))
        refine go (fun t k => XS.goto XJ49.here hx rfl (pc0 := 50) (pc' := 54) rfl (hb hby d2_50) (by decide) (by decide) k) ?_
        show Gl _ _ _ _ _ _ _ _ (TJ49.setTop (mkF m 54 #[.val (.int p1), .val (.int (p1 ||| (32 : Int32))), .val (.int s0_22), .val (.int s0_40)] [(.int (1 : Int32))]))
        exact J54 (1 : Int32) TJ49 _ XJ49 eJ49 NJ49
      refine gI (c := s0_22 = (0 : Int32)) (fun hc42 => ?_) (fun hc42 => ?_)
      · refine go (fun t k => XS.ifNo XJ40.here hx rfl (hb hby d2_42) rfl ((if0 _ _).trans (teq hc42).2) k) ?_
        show Gl _ _ _ _ _ _ _ _ (TJ40.setTop (mkF m 45 #[.val (.int p1), .val (.int (p1 ||| (32 : Int32))), .val (.int s0_22), .val (.int s0_40)] []))
        refine go (fun t k => XS.iloadN XJ40.here hx rfl (hb hby d2_45) rfl  k) ?_
        show Gl _ _ _ _ _ _ _ _ (TJ40.setTop (mkF m 46 #[.val (.int p1), .val (.int (p1 ||| (32 : Int32))), .val (.int s0_22), .val (.int s0_40)] [(.int s0_40)]))
        refine gI (c := s0_40 = (0 : Int32)) (fun hc46 => ?_) (fun hc46 => ?_)
        · refine go (fun t k => XS.ifYes XJ40.here hx rfl (pc0 := 46) (pc' := 53) rfl (hb hby d2_46) rfl ((if0 _ _).trans (teq hc46).1) (by decide) (by decide) k) ?_
          show Gl _ _ _ _ _ _ _ _ (TJ40.setTop (mkF m 53 #[.val (.int p1), .val (.int (p1 ||| (32 : Int32))), .val (.int s0_22), .val (.int s0_40)] []))
          refine go (fun t k => XS.iconst XJ40.here hx rfl (hb hby d2_53) k) ?_
          show Gl _ _ _ _ _ _ _ _ (TJ40.setTop (mkF m 54 #[.val (.int p1), .val (.int (p1 ||| (32 : Int32))), .val (.int s0_22), .val (.int s0_40)] [(.int (0 : Int32))]))
          exact J54 (0 : Int32) TJ40 _ XJ40 eJ40 NJ40
        · refine go (fun t k => XS.ifNo XJ40.here hx rfl (hb hby d2_46) rfl ((if0 _ _).trans (feq hc46).1) k) ?_
          show Gl _ _ _ _ _ _ _ _ (TJ40.setTop (mkF m 49 #[.val (.int p1), .val (.int (p1 ||| (32 : Int32))), .val (.int s0_22), .val (.int s0_40)] []))
          exact J49  TJ40 _ XJ40 eJ40 NJ40
      · refine go (fun t k => XS.ifYes XJ40.here hx rfl (pc0 := 42) (pc' := 49) rfl (hb hby d2_42) rfl ((if0 _ _).trans (feq hc42).2) (by decide) (by decide) k) ?_
        show Gl _ _ _ _ _ _ _ _ (TJ40.setTop (mkF m 49 #[.val (.int p1), .val (.int (p1 ||| (32 : Int32))), .val (.int s0_22), .val (.int s0_40)] []))
        exact J49  TJ40 _ XJ40 eJ40 NJ40
    have J39 : ∀  (TJ39 : State) (lJ39 : List Loc) (XJ39 : Stand p l e ({ frames := 0, cells := 0, slots := 0, locals := 0 } : Room) s m #[(.int p1)] below meth c TJ39 lJ39 0 0) (eJ39 : TJ39.heap = h0) (NJ39 : Fr n0 lJ39), Gl p e below s n0 ({ frames := 0, cells := 0, slots := 0, locals := 0 } : Room).cells ({ frames := 0, cells := 0, slots := 0, locals := 0 } : Room).slots (Kv (some (.int (b2_39 s0_22))) (fun h => h = h0)) (TJ39.setTop (mkF m 39 #[.val (.int p1), .val (.int (p1 ||| (32 : Int32))), .val (.int s0_22), .unset] [])) := by
      intro  TJ39 lJ39 XJ39 eJ39 NJ39
      show Gl _ _ _ _ _ _ _ (Kv (some (.int (b2_40 s0_22 (0 : Int32)))) _) _
      refine go (fun t k => XS.iconst XJ39.here hx rfl (hb hby d2_39) k) ?_
      show Gl _ _ _ _ _ _ _ _ (TJ39.setTop (mkF m 40 #[.val (.int p1), .val (.int (p1 ||| (32 : Int32))), .val (.int s0_22), .unset] [(.int (0 : Int32))]))
      exact J40 (0 : Int32) TJ39 _ XJ39 eJ39 NJ39
    refine gI (c := (p1 ||| (32 : Int32)) < (97 : Int32)) (fun hc26 => ?_) (fun hc26 => ?_)
    · refine go (fun t k => XS.icmpYes XJ22.here hx rfl (pc0 := 26) (pc' := 39) rfl (hb hby d2_26) rfl (tlt hc26).1 (by decide) (by decide) k) ?_
      show Gl _ _ _ _ _ _ _ _ (TJ22.setTop (mkF m 39 #[.val (.int p1), .val (.int (p1 ||| (32 : Int32))), .val (.int s0_22), .unset] []))
      exact J39  TJ22 _ XJ22 eJ22 NJ22
    · refine go (fun t k => XS.icmpNo XJ22.here hx rfl (hb hby d2_26) rfl (flt hc26).1 k) ?_
      show Gl _ _ _ _ _ _ _ _ (TJ22.setTop (mkF m 29 #[.val (.int p1), .val (.int (p1 ||| (32 : Int32))), .val (.int s0_22), .unset] []))
      refine go (fun t k => XS.iloadN XJ22.here hx rfl (hb hby d2_29) rfl  k) ?_
      show Gl _ _ _ _ _ _ _ _ (TJ22.setTop (mkF m 30 #[.val (.int p1), .val (.int (p1 ||| (32 : Int32))), .val (.int s0_22), .unset] [(.int (p1 ||| (32 : Int32)))]))
      refine go (fun t k => XS.bipush XJ22.here hx rfl (hb hby d2_30) k) ?_
      show Gl _ _ _ _ _ _ _ _ (TJ22.setTop (mkF m 32 #[.val (.int p1), .val (.int (p1 ||| (32 : Int32))), .val (.int s0_22), .unset] [(.int (102 : Int32)), (.int (p1 ||| (32 : Int32)))]))
      refine gI (c := (102 : Int32) < (p1 ||| (32 : Int32))) (fun hc32 => ?_) (fun hc32 => ?_)
      · refine go (fun t k => XS.icmpYes XJ22.here hx rfl (pc0 := 32) (pc' := 39) rfl (hb hby d2_32) rfl (tlt hc32).2.2.1 (by decide) (by decide) k) ?_
        show Gl _ _ _ _ _ _ _ _ (TJ22.setTop (mkF m 39 #[.val (.int p1), .val (.int (p1 ||| (32 : Int32))), .val (.int s0_22), .unset] []))
        exact J39  TJ22 _ XJ22 eJ22 NJ22
      · refine go (fun t k => XS.icmpNo XJ22.here hx rfl (hb hby d2_32) rfl (flt hc32).2.2.1 k) ?_
        show Gl _ _ _ _ _ _ _ _ (TJ22.setTop (mkF m 35 #[.val (.int p1), .val (.int (p1 ||| (32 : Int32))), .val (.int s0_22), .unset] []))
        refine go (fun t k => XS.iconst XJ22.here hx rfl (hb hby d2_35) k) ?_
        show Gl _ _ _ _ _ _ _ _ (TJ22.setTop (mkF m 36 #[.val (.int p1), .val (.int (p1 ||| (32 : Int32))), .val (.int s0_22), .unset] [(.int (1 : Int32))]))
        refine go (fun t k => XS.goto XJ22.here hx rfl (pc0 := 36) (pc' := 40) rfl (hb hby d2_36) (by decide) (by decide) k) ?_
        show Gl _ _ _ _ _ _ _ _ (TJ22.setTop (mkF m 40 #[.val (.int p1), .val (.int (p1 ||| (32 : Int32))), .val (.int s0_22), .unset] [(.int (1 : Int32))]))
        exact J40 (1 : Int32) TJ22 _ XJ22 eJ22 NJ22
  have J21 : ∀  (TJ21 : State) (lJ21 : List Loc) (XJ21 : Stand p l e ({ frames := 0, cells := 0, slots := 0, locals := 0 } : Room) s m #[(.int p1)] below meth c TJ21 lJ21 0 0) (eJ21 : TJ21.heap = h0) (NJ21 : Fr n0 lJ21), Gl p e below s n0 ({ frames := 0, cells := 0, slots := 0, locals := 0 } : Room).cells ({ frames := 0, cells := 0, slots := 0, locals := 0 } : Room).slots (Kv (some (.int (b2_21 p1))) (fun h => h = h0)) (TJ21.setTop (mkF m 21 #[.val (.int p1), .val (.int (p1 ||| (32 : Int32))), .unset, .unset] [])) := by
    intro  TJ21 lJ21 XJ21 eJ21 NJ21
    show Gl _ _ _ _ _ _ _ (Kv (some (.int (b2_22 p1 (0 : Int32)))) _) _
    refine go (fun t k => XS.iconst XJ21.here hx rfl (hb hby d2_21) k) ?_
    show Gl _ _ _ _ _ _ _ _ (TJ21.setTop (mkF m 22 #[.val (.int p1), .val (.int (p1 ||| (32 : Int32))), .unset, .unset] [(.int (0 : Int32))]))
    exact J22 (0 : Int32) TJ21 _ XJ21 eJ21 NJ21
  refine gI (c := p1 < (48 : Int32)) (fun hc8 => ?_) (fun hc8 => ?_)
  · refine go (fun t k => XS.icmpYes X0.here hx rfl (pc0 := 8) (pc' := 21) rfl (hb hby d2_8) rfl (tlt hc8).1 (by decide) (by decide) k) ?_
    show Gl _ _ _ _ _ _ _ _ (s₁.setTop (mkF m 21 #[.val (.int p1), .val (.int (p1 ||| (32 : Int32))), .unset, .unset] []))
    exact J21  s₁ _ X0 e0 N0
  · refine go (fun t k => XS.icmpNo X0.here hx rfl (hb hby d2_8) rfl (flt hc8).1 k) ?_
    show Gl _ _ _ _ _ _ _ _ (s₁.setTop (mkF m 11 #[.val (.int p1), .val (.int (p1 ||| (32 : Int32))), .unset, .unset] []))
    refine go (fun t k => XS.iloadN X0.here hx rfl (hb hby d2_11) rfl  k) ?_
    show Gl _ _ _ _ _ _ _ _ (s₁.setTop (mkF m 12 #[.val (.int p1), .val (.int (p1 ||| (32 : Int32))), .unset, .unset] [(.int p1)]))
    refine go (fun t k => XS.bipush X0.here hx rfl (hb hby d2_12) k) ?_
    show Gl _ _ _ _ _ _ _ _ (s₁.setTop (mkF m 14 #[.val (.int p1), .val (.int (p1 ||| (32 : Int32))), .unset, .unset] [(.int (57 : Int32)), (.int p1)]))
    refine gI (c := (57 : Int32) < p1) (fun hc14 => ?_) (fun hc14 => ?_)
    · refine go (fun t k => XS.icmpYes X0.here hx rfl (pc0 := 14) (pc' := 21) rfl (hb hby d2_14) rfl (tlt hc14).2.2.1 (by decide) (by decide) k) ?_
      show Gl _ _ _ _ _ _ _ _ (s₁.setTop (mkF m 21 #[.val (.int p1), .val (.int (p1 ||| (32 : Int32))), .unset, .unset] []))
      exact J21  s₁ _ X0 e0 N0
    · refine go (fun t k => XS.icmpNo X0.here hx rfl (hb hby d2_14) rfl (flt hc14).2.2.1 k) ?_
      show Gl _ _ _ _ _ _ _ _ (s₁.setTop (mkF m 17 #[.val (.int p1), .val (.int (p1 ||| (32 : Int32))), .unset, .unset] []))
      refine go (fun t k => XS.iconst X0.here hx rfl (hb hby d2_17) k) ?_
      show Gl _ _ _ _ _ _ _ _ (s₁.setTop (mkF m 18 #[.val (.int p1), .val (.int (p1 ||| (32 : Int32))), .unset, .unset] [(.int (1 : Int32))]))
      refine go (fun t k => XS.goto X0.here hx rfl (pc0 := 18) (pc' := 22) rfl (hb hby d2_18) (by decide) (by decide) k) ?_
      show Gl _ _ _ _ _ _ _ _ (s₁.setTop (mkF m 22 #[.val (.int p1), .val (.int (p1 ||| (32 : Int32))), .unset, .unset] [(.int (1 : Int32))]))
      exact J22 (1 : Int32) s₁ _ X0 e0 N0
theorem pd_0 : parseMethodDescriptor "(I)Z" = some ⟨[.int], some .boolean⟩ := by decide +kernel
theorem ef_0 (m : MethodId) (p1 : Int32) (p2 : Int32) : entryFrame m #[(.int p1), (.int p2)] maxLocals = mkF m 0 #[.val (.int p1), .val (.int p2), .unset, .unset, .unset, .unset, .unset] [] := by first | (simp [entryFrame, mkF, argsToLocals, Value.category, maxLocals]; done) | rfl
def b0_89 (s0_89 : Int32) : Int32 := (nar .boolean s0_89)
def b0_88  : Int32 := (b0_89 (0 : Int32))
def b0_67 (s0_31 : Int32) (s0_49 : Int32) (s0_67 : Int32) : Int32 := (if s0_31 = (0 : Int32) then b0_88 else (if s0_49 = (0 : Int32) then b0_88 else (if s0_67 = (0 : Int32) then b0_88 else (b0_89 (1 : Int32)))))
def b0_49 (p2 : Int32) (s0_31 : Int32) (s0_49 : Int32) : Int32 := (if (b1_0 (((47 : Int32) + (p2 &&& (127 : Int32))) ^^^ (p2 &&& (-65536 : Int32)))) = (b2_0 (((47 : Int32) + (p2 &&& (127 : Int32))) ^^^ (p2 &&& (-65536 : Int32)))) then (b0_67 s0_31 s0_49 (1 : Int32)) else (b0_67 s0_31 s0_49 (0 : Int32)))
def b0_31 (p2 : Int32) (s0_31 : Int32) : Int32 := (if (b1_0 ((47 : Int32) + (p2 &&& (127 : Int32)))) = (b2_0 ((47 : Int32) + (p2 &&& (127 : Int32)))) then (b0_49 p2 s0_31 (1 : Int32)) else (b0_49 p2 s0_31 (0 : Int32)))
def b0_0 (p1 : Int32) (p2 : Int32) : Int32 := (if (b1_0 p1) = (b2_0 p1) then (b0_31 p2 (1 : Int32)) else (b0_31 p2 (0 : Int32)))
set_option maxRecDepth 65536 in
set_option maxHeartbeats 40000000 in
theorem rm0 (l : Launch) (Z : State) (a0 : Array Value) (hw : ∀ d ∈ tables_1, d.before a0 Z = true) (ws : List Jvm.Cond) (p1 : Int32) (p2 : Int32) (h0 : Heap) (n0 : Nat) (Z0 : n0 ≤ h0.size) :
    MetFree l x (head1 (Jvm.Cond.code x code maxLocals ret :: ws) room_1) (fun a U => a = #[(.int p1), (.int p2)] ∧ Z.Warmed39 U.vm ∧ U.heap = h0) (fun _ _ _ _ _ => True) (fun _ U o U' => ∃ v L, o = .returned v ∧ QK n0 (Kv (some (.int (b0_0 p1 p2))) (fun _ => True)) v U'.heap L ∧ FrameEnd U o U' L room_1.cells room_1.slots) := by
  refine MetFree.of_bodySF (plainFor_of_name pn_1) hisR ?_
  intro p e s m args below meth c s₁ Bd hml0 hP hK
  obtain ⟨rfl, hZ, hh⟩ := hP
  have hx := Bd.exec
  have hby := Bd.bytes
  have hml : c.maxLocals = 7 := hml0
  have hown : s.vm.findClass "com/example/kette/kette/DlgpSyntaxIsHexDigitPinLaw" = some m.cls := findClass_of_methodNamed Bd.named
  have hnm := (name_of_methodNamed Bd.named Bd.method).1
  have X0 : Stand p l e room_1 s m #[(.int p1), (.int p2)] below meth c s₁ [] 0 0 := Stand.of_body Bd
  have e0 : s₁.heap = h0 := by rw [← hh, Bd.state]; rfl
  have N0 := Fr.nil n0
  refine gl_start (ef_0 m p1 p2) ?_
  show Gl p e below s n0 room_1.cells room_1.slots (Kv (some (.int (if (b1_0 p1) = (b2_0 p1) then (b0_31 p2 (1 : Int32)) else (b0_31 p2 (0 : Int32))))) (fun _ => True)) (s₁.setTop (mkF m 0 #[.val (.int p1), .val (.int p2), .unset, .unset, .unset, .unset, .unset] []))
  refine go (fun t k => XS.bipush X0.here hx rfl (hb hby at_0) k) ?_
  show Gl _ _ _ _ _ _ _ _ (s₁.setTop (mkF m 2 #[.val (.int p1), .val (.int p2), .unset, .unset, .unset, .unset, .unset] [(.int (47 : Int32))]))
  refine go (fun t k => XS.iloadN X0.here hx rfl (hb hby at_2) rfl  k) ?_
  show Gl _ _ _ _ _ _ _ _ (s₁.setTop (mkF m 3 #[.val (.int p1), .val (.int p2), .unset, .unset, .unset, .unset, .unset] [(.int p2), (.int (47 : Int32))]))
  refine go (fun t k => XS.bipush X0.here hx rfl (hb hby at_3) k) ?_
  show Gl _ _ _ _ _ _ _ _ (s₁.setTop (mkF m 5 #[.val (.int p1), .val (.int p2), .unset, .unset, .unset, .unset, .unset] [(.int (127 : Int32)), (.int p2), (.int (47 : Int32))]))
  refine go (fun t k => XS.iand X0.here hx rfl (hb hby at_5) rfl k) ?_
  show Gl _ _ _ _ _ _ _ _ (s₁.setTop (mkF m 6 #[.val (.int p1), .val (.int p2), .unset, .unset, .unset, .unset, .unset] [(.int (p2 &&& (127 : Int32))), (.int (47 : Int32))]))
  refine go (fun t k => XS.iadd X0.here hx rfl (hb hby at_6) rfl k) ?_
  show Gl _ _ _ _ _ _ _ _ (s₁.setTop (mkF m 7 #[.val (.int p1), .val (.int p2), .unset, .unset, .unset, .unset, .unset] [(.int ((47 : Int32) + (p2 &&& (127 : Int32))))]))
  refine go (fun t k => XS.istoreN X0.here hx rfl (hb hby at_7) rfl (l' := #[.val (.int p1), .val (.int p2), .val (.int ((47 : Int32) + (p2 &&& (127 : Int32)))), .unset, .unset, .unset, .unset]) rfl k) ?_
  show Gl _ _ _ _ _ _ _ _ (s₁.setTop (mkF m 8 #[.val (.int p1), .val (.int p2), .val (.int ((47 : Int32) + (p2 &&& (127 : Int32)))), .unset, .unset, .unset, .unset] []))
  refine go (fun t k => XS.iloadN X0.here hx rfl (hb hby at_8) rfl  k) ?_
  show Gl _ _ _ _ _ _ _ _ (s₁.setTop (mkF m 9 #[.val (.int p1), .val (.int p2), .val (.int ((47 : Int32) + (p2 &&& (127 : Int32)))), .unset, .unset, .unset, .unset] [(.int ((47 : Int32) + (p2 &&& (127 : Int32))))]))
  refine go (fun t k => XS.iloadN X0.here hx rfl (hb hby at_9) rfl  k) ?_
  show Gl _ _ _ _ _ _ _ _ (s₁.setTop (mkF m 10 #[.val (.int p1), .val (.int p2), .val (.int ((47 : Int32) + (p2 &&& (127 : Int32)))), .unset, .unset, .unset, .unset] [(.int p2), (.int ((47 : Int32) + (p2 &&& (127 : Int32))))]))
  refine go (fun t k => X0.ldcInt hx hown (mvT hZ (hw _ (List.mem_of_getElem? (i := 0) rfl))) (g := (mkF m 10 #[.val (.int p1), .val (.int p2), .val (.int ((47 : Int32) + (p2 &&& (127 : Int32)))), .unset, .unset, .unset, .unset] [(.int p2), (.int ((47 : Int32) + (p2 &&& (127 : Int32))))])) rfl (hb hby at_10) _ k) ?_
  show Gl _ _ _ _ _ _ _ _ (s₁.setTop (mkF m 12 #[.val (.int p1), .val (.int p2), .val (.int ((47 : Int32) + (p2 &&& (127 : Int32)))), .unset, .unset, .unset, .unset] [(.int (-65536 : Int32)), (.int p2), (.int ((47 : Int32) + (p2 &&& (127 : Int32))))]))
  refine go (fun t k => XS.iand X0.here hx rfl (hb hby at_12) rfl k) ?_
  show Gl _ _ _ _ _ _ _ _ (s₁.setTop (mkF m 13 #[.val (.int p1), .val (.int p2), .val (.int ((47 : Int32) + (p2 &&& (127 : Int32)))), .unset, .unset, .unset, .unset] [(.int (p2 &&& (-65536 : Int32))), (.int ((47 : Int32) + (p2 &&& (127 : Int32))))]))
  refine go (fun t k => XS.ixor X0.here hx rfl (hb hby at_13) rfl k) ?_
  show Gl _ _ _ _ _ _ _ _ (s₁.setTop (mkF m 14 #[.val (.int p1), .val (.int p2), .val (.int ((47 : Int32) + (p2 &&& (127 : Int32)))), .unset, .unset, .unset, .unset] [(.int (((47 : Int32) + (p2 &&& (127 : Int32))) ^^^ (p2 &&& (-65536 : Int32))))]))
  refine go (fun t k => XS.istoreN X0.here hx rfl (hb hby at_14) rfl (l' := #[.val (.int p1), .val (.int p2), .val (.int ((47 : Int32) + (p2 &&& (127 : Int32)))), .val (.int (((47 : Int32) + (p2 &&& (127 : Int32))) ^^^ (p2 &&& (-65536 : Int32)))), .unset, .unset, .unset]) rfl k) ?_
  show Gl _ _ _ _ _ _ _ _ (s₁.setTop (mkF m 15 #[.val (.int p1), .val (.int p2), .val (.int ((47 : Int32) + (p2 &&& (127 : Int32)))), .val (.int (((47 : Int32) + (p2 &&& (127 : Int32))) ^^^ (p2 &&& (-65536 : Int32)))), .unset, .unset, .unset] []))
  refine go (fun t k => XS.iloadN X0.here hx rfl (hb hby at_15) rfl  k) ?_
  show Gl _ _ _ _ _ _ _ _ (s₁.setTop (mkF m 16 #[.val (.int p1), .val (.int p2), .val (.int ((47 : Int32) + (p2 &&& (127 : Int32)))), .val (.int (((47 : Int32) + (p2 &&& (127 : Int32))) ^^^ (p2 &&& (-65536 : Int32)))), .unset, .unset, .unset] [(.int p1)]))
  obtain ⟨_, _, ⟨T1, L1, k1, n1⟩, -, X1, ⟨Lc1, hQ1, l1, y1, z1⟩, st1⟩ := Jvm.LawKit.callS X0 hx (y := (⟨"com/example/kette/kette/DlgpSyntax", "isHexDigit", "(I)Z"⟩ : MethodName)) hown (mvT hZ (hw _ (List.mem_of_getElem? (i := 1) rfl))) (mvT hZ (hw _ (List.mem_of_getElem? (i := 2) rfl))) (mvT hZ (hw _ (List.mem_of_getElem? (i := 3) rfl))) (mvT hZ (hw _ (List.mem_of_getElem? (i := 4) rfl))) (by decide) (backOf (W := 0) (rm1 l Z a0 hw [] p1 h0 n0 Z0 ) hZ (hw _ (List.mem_of_getElem? (i := 4) rfl)) (hw _ (List.mem_of_getElem? (i := 3) rfl)) (by decide) (by decide)) (g := (mkF m 16 #[.val (.int p1), .val (.int p2), .val (.int ((47 : Int32) + (p2 &&& (127 : Int32)))), .val (.int (((47 : Int32) + (p2 &&& (127 : Int32))) ^^^ (p2 &&& (-65536 : Int32)))), .unset, .unset, .unset] [(.int p1)])) rfl (by rw [hml]; rfl) (argsL := [(.int p1)]) (rest := []) (lenOf pd_0 rfl) rfl (by show 2 * 0 + _ ≤ _; exact Nat.le_of_eq rfl) (hb hby at_16) (fun _ _ => ⟨rfl, e0, (by decide : 0 + 0 ≤ _), (by decide : 0 + 0 ≤ _)⟩)
  dsimp only [Pt.U, Pt.locs, Pt.cells, Pt.slots] at X1 l1 y1 z1 st1 hQ1
  subst l1 y1 z1
  have X1 : Stand p l e room_1 s m #[(.int p1), (.int p2)] below meth c T1 _ 0 0 := X1
  obtain ⟨⟨rfl, e1'⟩, N1q⟩ := hQ1
  have e1 : T1.heap = h0 := e1'
  have N1 := Fr.app N0 N1q
  refine go (fun t k => st1 _ k) ?_
  show Gl _ _ _ _ _ _ _ _ (T1.setTop (mkF m 19 #[.val (.int p1), .val (.int p2), .val (.int ((47 : Int32) + (p2 &&& (127 : Int32)))), .val (.int (((47 : Int32) + (p2 &&& (127 : Int32))) ^^^ (p2 &&& (-65536 : Int32)))), .unset, .unset, .unset] [(.int (b1_0 p1))]))
  refine go (fun t k => XS.iloadN X1.here hx rfl (hb hby at_19) rfl  k) ?_
  show Gl _ _ _ _ _ _ _ _ (T1.setTop (mkF m 20 #[.val (.int p1), .val (.int p2), .val (.int ((47 : Int32) + (p2 &&& (127 : Int32)))), .val (.int (((47 : Int32) + (p2 &&& (127 : Int32))) ^^^ (p2 &&& (-65536 : Int32)))), .unset, .unset, .unset] [(.int p1), (.int (b1_0 p1))]))
  obtain ⟨_, _, ⟨T2, L2, k2, n2⟩, -, X2, ⟨Lc2, hQ2, l2, y2, z2⟩, st2⟩ := Jvm.LawKit.callS X1 hx (y := (⟨"com/example/kette/kette/DlgpSyntaxIsHexDigitPinLaw", "ref", "(I)Z"⟩ : MethodName)) hown (mvT hZ (hw _ (List.mem_of_getElem? (i := 5) rfl))) (mvT hZ (hw _ (List.mem_of_getElem? (i := 6) rfl))) (mvT hZ (hw _ (List.mem_of_getElem? (i := 7) rfl))) (mvT hZ (hw _ (List.mem_of_getElem? (i := 8) rfl))) (by decide) (backOf (W := 1) (rm2 l Z a0 hw [] p1 h0 n0 Z0 ) hZ (hw _ (List.mem_of_getElem? (i := 8) rfl)) (hw _ (List.mem_of_getElem? (i := 7) rfl)) (by decide) (by decide)) (g := (mkF m 20 #[.val (.int p1), .val (.int p2), .val (.int ((47 : Int32) + (p2 &&& (127 : Int32)))), .val (.int (((47 : Int32) + (p2 &&& (127 : Int32))) ^^^ (p2 &&& (-65536 : Int32)))), .unset, .unset, .unset] [(.int p1), (.int (b1_0 p1))])) rfl (by rw [hml]; rfl) (argsL := [(.int p1)]) (rest := [(.int (b1_0 p1))]) (lenOf pd_0 rfl) rfl (by show 2 * 0 + _ ≤ _; exact Nat.le_of_eq rfl) (hb hby at_20) (fun _ _ => ⟨rfl, e1, (by decide : 0 + 0 ≤ _), (by decide : 0 + 0 ≤ _)⟩)
  dsimp only [Pt.U, Pt.locs, Pt.cells, Pt.slots] at X2 l2 y2 z2 st2 hQ2
  subst l2 y2 z2
  have X2 : Stand p l e room_1 s m #[(.int p1), (.int p2)] below meth c T2 _ 0 0 := X2
  obtain ⟨⟨rfl, e2'⟩, N2q⟩ := hQ2
  have e2 : T2.heap = h0 := e2'
  have N2 := Fr.app N1 N2q
  refine go (fun t k => st2 _ k) ?_
  show Gl _ _ _ _ _ _ _ _ (T2.setTop (mkF m 23 #[.val (.int p1), .val (.int p2), .val (.int ((47 : Int32) + (p2 &&& (127 : Int32)))), .val (.int (((47 : Int32) + (p2 &&& (127 : Int32))) ^^^ (p2 &&& (-65536 : Int32)))), .unset, .unset, .unset] [(.int (b2_0 p1)), (.int (b1_0 p1))]))
  have J31 : ∀ (s0_31 : Int32) (TJ31 : State) (lJ31 : List Loc) (XJ31 : Stand p l e room_1 s m #[(.int p1), (.int p2)] below meth c TJ31 lJ31 0 0) (eJ31 : TJ31.heap = h0) (NJ31 : Fr n0 lJ31), Gl p e below s n0 room_1.cells room_1.slots (Kv (some (.int (b0_31 p2 s0_31))) (fun _ => True)) (TJ31.setTop (mkF m 31 #[.val (.int p1), .val (.int p2), .val (.int ((47 : Int32) + (p2 &&& (127 : Int32)))), .val (.int (((47 : Int32) + (p2 &&& (127 : Int32))) ^^^ (p2 &&& (-65536 : Int32)))), .unset, .unset, .unset] [(.int s0_31)])) := by
    intro s0_31 TJ31 lJ31 XJ31 eJ31 NJ31
    show Gl _ _ _ _ _ _ _ (Kv (some (.int (if (b1_0 ((47 : Int32) + (p2 &&& (127 : Int32)))) = (b2_0 ((47 : Int32) + (p2 &&& (127 : Int32)))) then (b0_49 p2 s0_31 (1 : Int32)) else (b0_49 p2 s0_31 (0 : Int32))))) _) _
    refine go (fun t k => XS.istore XJ31.here hx rfl (hb hby at_31) rfl (l' := #[.val (.int p1), .val (.int p2), .val (.int ((47 : Int32) + (p2 &&& (127 : Int32)))), .val (.int (((47 : Int32) + (p2 &&& (127 : Int32))) ^^^ (p2 &&& (-65536 : Int32)))), .val (.int s0_31), .unset, .unset]) rfl k) ?_
    show Gl _ _ _ _ _ _ _ _ (TJ31.setTop (mkF m 33 #[.val (.int p1), .val (.int p2), .val (.int ((47 : Int32) + (p2 &&& (127 : Int32)))), .val (.int (((47 : Int32) + (p2 &&& (127 : Int32))) ^^^ (p2 &&& (-65536 : Int32)))), .val (.int s0_31), .unset, .unset] []))
    refine go (fun t k => XS.iloadN XJ31.here hx rfl (hb hby at_33) rfl  k) ?_
    show Gl _ _ _ _ _ _ _ _ (TJ31.setTop (mkF m 34 #[.val (.int p1), .val (.int p2), .val (.int ((47 : Int32) + (p2 &&& (127 : Int32)))), .val (.int (((47 : Int32) + (p2 &&& (127 : Int32))) ^^^ (p2 &&& (-65536 : Int32)))), .val (.int s0_31), .unset, .unset] [(.int ((47 : Int32) + (p2 &&& (127 : Int32))))]))
    obtain ⟨_, _, ⟨T4, L4, k4, n4⟩, -, X4, ⟨Lc4, hQ4, l4, y4, z4⟩, st4⟩ := Jvm.LawKit.callS XJ31 hx (y := (⟨"com/example/kette/kette/DlgpSyntax", "isHexDigit", "(I)Z"⟩ : MethodName)) hown (mvT hZ (hw _ (List.mem_of_getElem? (i := 1) rfl))) (mvT hZ (hw _ (List.mem_of_getElem? (i := 2) rfl))) (mvT hZ (hw _ (List.mem_of_getElem? (i := 3) rfl))) (mvT hZ (hw _ (List.mem_of_getElem? (i := 4) rfl))) (by decide) (backOf (W := 0) (rm1 l Z a0 hw [] ((47 : Int32) + (p2 &&& (127 : Int32))) h0 n0 Z0 ) hZ (hw _ (List.mem_of_getElem? (i := 4) rfl)) (hw _ (List.mem_of_getElem? (i := 3) rfl)) (by decide) (by decide)) (g := (mkF m 34 #[.val (.int p1), .val (.int p2), .val (.int ((47 : Int32) + (p2 &&& (127 : Int32)))), .val (.int (((47 : Int32) + (p2 &&& (127 : Int32))) ^^^ (p2 &&& (-65536 : Int32)))), .val (.int s0_31), .unset, .unset] [(.int ((47 : Int32) + (p2 &&& (127 : Int32))))])) rfl (by rw [hml]; rfl) (argsL := [(.int ((47 : Int32) + (p2 &&& (127 : Int32))))]) (rest := []) (lenOf pd_0 rfl) rfl (by show 2 * 0 + _ ≤ _; exact Nat.le_of_eq rfl) (hb hby at_34) (fun _ _ => ⟨rfl, eJ31, (by decide : 0 + 0 ≤ _), (by decide : 0 + 0 ≤ _)⟩)
    dsimp only [Pt.U, Pt.locs, Pt.cells, Pt.slots] at X4 l4 y4 z4 st4 hQ4
    subst l4 y4 z4
    have X4 : Stand p l e room_1 s m #[(.int p1), (.int p2)] below meth c T4 _ 0 0 := X4
    obtain ⟨⟨rfl, e4'⟩, N4q⟩ := hQ4
    have e4 : T4.heap = h0 := e4'
    have N4 := Fr.app NJ31 N4q
    refine go (fun t k => st4 _ k) ?_
    show Gl _ _ _ _ _ _ _ _ (T4.setTop (mkF m 37 #[.val (.int p1), .val (.int p2), .val (.int ((47 : Int32) + (p2 &&& (127 : Int32)))), .val (.int (((47 : Int32) + (p2 &&& (127 : Int32))) ^^^ (p2 &&& (-65536 : Int32)))), .val (.int s0_31), .unset, .unset] [(.int (b1_0 ((47 : Int32) + (p2 &&& (127 : Int32)))))]))
    refine go (fun t k => XS.iloadN X4.here hx rfl (hb hby at_37) rfl  k) ?_
    show Gl _ _ _ _ _ _ _ _ (T4.setTop (mkF m 38 #[.val (.int p1), .val (.int p2), .val (.int ((47 : Int32) + (p2 &&& (127 : Int32)))), .val (.int (((47 : Int32) + (p2 &&& (127 : Int32))) ^^^ (p2 &&& (-65536 : Int32)))), .val (.int s0_31), .unset, .unset] [(.int ((47 : Int32) + (p2 &&& (127 : Int32)))), (.int (b1_0 ((47 : Int32) + (p2 &&& (127 : Int32)))))]))
    obtain ⟨_, _, ⟨T5, L5, k5, n5⟩, -, X5, ⟨Lc5, hQ5, l5, y5, z5⟩, st5⟩ := Jvm.LawKit.callS X4 hx (y := (⟨"com/example/kette/kette/DlgpSyntaxIsHexDigitPinLaw", "ref", "(I)Z"⟩ : MethodName)) hown (mvT hZ (hw _ (List.mem_of_getElem? (i := 5) rfl))) (mvT hZ (hw _ (List.mem_of_getElem? (i := 6) rfl))) (mvT hZ (hw _ (List.mem_of_getElem? (i := 7) rfl))) (mvT hZ (hw _ (List.mem_of_getElem? (i := 8) rfl))) (by decide) (backOf (W := 1) (rm2 l Z a0 hw [] ((47 : Int32) + (p2 &&& (127 : Int32))) h0 n0 Z0 ) hZ (hw _ (List.mem_of_getElem? (i := 8) rfl)) (hw _ (List.mem_of_getElem? (i := 7) rfl)) (by decide) (by decide)) (g := (mkF m 38 #[.val (.int p1), .val (.int p2), .val (.int ((47 : Int32) + (p2 &&& (127 : Int32)))), .val (.int (((47 : Int32) + (p2 &&& (127 : Int32))) ^^^ (p2 &&& (-65536 : Int32)))), .val (.int s0_31), .unset, .unset] [(.int ((47 : Int32) + (p2 &&& (127 : Int32)))), (.int (b1_0 ((47 : Int32) + (p2 &&& (127 : Int32)))))])) rfl (by rw [hml]; rfl) (argsL := [(.int ((47 : Int32) + (p2 &&& (127 : Int32))))]) (rest := [(.int (b1_0 ((47 : Int32) + (p2 &&& (127 : Int32)))))]) (lenOf pd_0 rfl) rfl (by show 2 * 0 + _ ≤ _; exact Nat.le_of_eq rfl) (hb hby at_38) (fun _ _ => ⟨rfl, e4, (by decide : 0 + 0 ≤ _), (by decide : 0 + 0 ≤ _)⟩)
    dsimp only [Pt.U, Pt.locs, Pt.cells, Pt.slots] at X5 l5 y5 z5 st5 hQ5
    subst l5 y5 z5
    have X5 : Stand p l e room_1 s m #[(.int p1), (.int p2)] below meth c T5 _ 0 0 := X5
    obtain ⟨⟨rfl, e5'⟩, N5q⟩ := hQ5
    have e5 : T5.heap = h0 := e5'
    have N5 := Fr.app N4 N5q
    refine go (fun t k => st5 _ k) ?_
    show Gl _ _ _ _ _ _ _ _ (T5.setTop (mkF m 41 #[.val (.int p1), .val (.int p2), .val (.int ((47 : Int32) + (p2 &&& (127 : Int32)))), .val (.int (((47 : Int32) + (p2 &&& (127 : Int32))) ^^^ (p2 &&& (-65536 : Int32)))), .val (.int s0_31), .unset, .unset] [(.int (b2_0 ((47 : Int32) + (p2 &&& (127 : Int32))))), (.int (b1_0 ((47 : Int32) + (p2 &&& (127 : Int32)))))]))
    have J49 : ∀ (s0_49 : Int32) (TJ49 : State) (lJ49 : List Loc) (XJ49 : Stand p l e room_1 s m #[(.int p1), (.int p2)] below meth c TJ49 lJ49 0 0) (eJ49 : TJ49.heap = h0) (NJ49 : Fr n0 lJ49), Gl p e below s n0 room_1.cells room_1.slots (Kv (some (.int (b0_49 p2 s0_31 s0_49))) (fun _ => True)) (TJ49.setTop (mkF m 49 #[.val (.int p1), .val (.int p2), .val (.int ((47 : Int32) + (p2 &&& (127 : Int32)))), .val (.int (((47 : Int32) + (p2 &&& (127 : Int32))) ^^^ (p2 &&& (-65536 : Int32)))), .val (.int s0_31), .unset, .unset] [(.int s0_49)])) := by
      intro s0_49 TJ49 lJ49 XJ49 eJ49 NJ49
      show Gl _ _ _ _ _ _ _ (Kv (some (.int (if (b1_0 (((47 : Int32) + (p2 &&& (127 : Int32))) ^^^ (p2 &&& (-65536 : Int32)))) = (b2_0 (((47 : Int32) + (p2 &&& (127 : Int32))) ^^^ (p2 &&& (-65536 : Int32)))) then (b0_67 s0_31 s0_49 (1 : Int32)) else (b0_67 s0_31 s0_49 (0 : Int32))))) _) _
      refine go (fun t k => XS.istore XJ49.here hx rfl (hb hby at_49) rfl (l' := #[.val (.int p1), .val (.int p2), .val (.int ((47 : Int32) + (p2 &&& (127 : Int32)))), .val (.int (((47 : Int32) + (p2 &&& (127 : Int32))) ^^^ (p2 &&& (-65536 : Int32)))), .val (.int s0_31), .val (.int s0_49), .unset]) rfl k) ?_
      show Gl _ _ _ _ _ _ _ _ (TJ49.setTop (mkF m 51 #[.val (.int p1), .val (.int p2), .val (.int ((47 : Int32) + (p2 &&& (127 : Int32)))), .val (.int (((47 : Int32) + (p2 &&& (127 : Int32))) ^^^ (p2 &&& (-65536 : Int32)))), .val (.int s0_31), .val (.int s0_49), .unset] []))
      refine go (fun t k => XS.iloadN XJ49.here hx rfl (hb hby at_51) rfl  k) ?_
      show Gl _ _ _ _ _ _ _ _ (TJ49.setTop (mkF m 52 #[.val (.int p1), .val (.int p2), .val (.int ((47 : Int32) + (p2 &&& (127 : Int32)))), .val (.int (((47 : Int32) + (p2 &&& (127 : Int32))) ^^^ (p2 &&& (-65536 : Int32)))), .val (.int s0_31), .val (.int s0_49), .unset] [(.int (((47 : Int32) + (p2 &&& (127 : Int32))) ^^^ (p2 &&& (-65536 : Int32))))]))
      obtain ⟨_, _, ⟨T7, L7, k7, n7⟩, -, X7, ⟨Lc7, hQ7, l7, y7, z7⟩, st7⟩ := Jvm.LawKit.callS XJ49 hx (y := (⟨"com/example/kette/kette/DlgpSyntax", "isHexDigit", "(I)Z"⟩ : MethodName)) hown (mvT hZ (hw _ (List.mem_of_getElem? (i := 1) rfl))) (mvT hZ (hw _ (List.mem_of_getElem? (i := 2) rfl))) (mvT hZ (hw _ (List.mem_of_getElem? (i := 3) rfl))) (mvT hZ (hw _ (List.mem_of_getElem? (i := 4) rfl))) (by decide) (backOf (W := 0) (rm1 l Z a0 hw [] (((47 : Int32) + (p2 &&& (127 : Int32))) ^^^ (p2 &&& (-65536 : Int32))) h0 n0 Z0 ) hZ (hw _ (List.mem_of_getElem? (i := 4) rfl)) (hw _ (List.mem_of_getElem? (i := 3) rfl)) (by decide) (by decide)) (g := (mkF m 52 #[.val (.int p1), .val (.int p2), .val (.int ((47 : Int32) + (p2 &&& (127 : Int32)))), .val (.int (((47 : Int32) + (p2 &&& (127 : Int32))) ^^^ (p2 &&& (-65536 : Int32)))), .val (.int s0_31), .val (.int s0_49), .unset] [(.int (((47 : Int32) + (p2 &&& (127 : Int32))) ^^^ (p2 &&& (-65536 : Int32))))])) rfl (by rw [hml]; rfl) (argsL := [(.int (((47 : Int32) + (p2 &&& (127 : Int32))) ^^^ (p2 &&& (-65536 : Int32))))]) (rest := []) (lenOf pd_0 rfl) rfl (by show 2 * 0 + _ ≤ _; exact Nat.le_of_eq rfl) (hb hby at_52) (fun _ _ => ⟨rfl, eJ49, (by decide : 0 + 0 ≤ _), (by decide : 0 + 0 ≤ _)⟩)
      dsimp only [Pt.U, Pt.locs, Pt.cells, Pt.slots] at X7 l7 y7 z7 st7 hQ7
      subst l7 y7 z7
      have X7 : Stand p l e room_1 s m #[(.int p1), (.int p2)] below meth c T7 _ 0 0 := X7
      obtain ⟨⟨rfl, e7'⟩, N7q⟩ := hQ7
      have e7 : T7.heap = h0 := e7'
      have N7 := Fr.app NJ49 N7q
      refine go (fun t k => st7 _ k) ?_
      show Gl _ _ _ _ _ _ _ _ (T7.setTop (mkF m 55 #[.val (.int p1), .val (.int p2), .val (.int ((47 : Int32) + (p2 &&& (127 : Int32)))), .val (.int (((47 : Int32) + (p2 &&& (127 : Int32))) ^^^ (p2 &&& (-65536 : Int32)))), .val (.int s0_31), .val (.int s0_49), .unset] [(.int (b1_0 (((47 : Int32) + (p2 &&& (127 : Int32))) ^^^ (p2 &&& (-65536 : Int32)))))]))
      refine go (fun t k => XS.iloadN X7.here hx rfl (hb hby at_55) rfl  k) ?_
      show Gl _ _ _ _ _ _ _ _ (T7.setTop (mkF m 56 #[.val (.int p1), .val (.int p2), .val (.int ((47 : Int32) + (p2 &&& (127 : Int32)))), .val (.int (((47 : Int32) + (p2 &&& (127 : Int32))) ^^^ (p2 &&& (-65536 : Int32)))), .val (.int s0_31), .val (.int s0_49), .unset] [(.int (((47 : Int32) + (p2 &&& (127 : Int32))) ^^^ (p2 &&& (-65536 : Int32)))), (.int (b1_0 (((47 : Int32) + (p2 &&& (127 : Int32))) ^^^ (p2 &&& (-65536 : Int32)))))]))
      obtain ⟨_, _, ⟨T8, L8, k8, n8⟩, -, X8, ⟨Lc8, hQ8, l8, y8, z8⟩, st8⟩ := Jvm.LawKit.callS X7 hx (y := (⟨"com/example/kette/kette/DlgpSyntaxIsHexDigitPinLaw", "ref", "(I)Z"⟩ : MethodName)) hown (mvT hZ (hw _ (List.mem_of_getElem? (i := 5) rfl))) (mvT hZ (hw _ (List.mem_of_getElem? (i := 6) rfl))) (mvT hZ (hw _ (List.mem_of_getElem? (i := 7) rfl))) (mvT hZ (hw _ (List.mem_of_getElem? (i := 8) rfl))) (by decide) (backOf (W := 1) (rm2 l Z a0 hw [] (((47 : Int32) + (p2 &&& (127 : Int32))) ^^^ (p2 &&& (-65536 : Int32))) h0 n0 Z0 ) hZ (hw _ (List.mem_of_getElem? (i := 8) rfl)) (hw _ (List.mem_of_getElem? (i := 7) rfl)) (by decide) (by decide)) (g := (mkF m 56 #[.val (.int p1), .val (.int p2), .val (.int ((47 : Int32) + (p2 &&& (127 : Int32)))), .val (.int (((47 : Int32) + (p2 &&& (127 : Int32))) ^^^ (p2 &&& (-65536 : Int32)))), .val (.int s0_31), .val (.int s0_49), .unset] [(.int (((47 : Int32) + (p2 &&& (127 : Int32))) ^^^ (p2 &&& (-65536 : Int32)))), (.int (b1_0 (((47 : Int32) + (p2 &&& (127 : Int32))) ^^^ (p2 &&& (-65536 : Int32)))))])) rfl (by rw [hml]; rfl) (argsL := [(.int (((47 : Int32) + (p2 &&& (127 : Int32))) ^^^ (p2 &&& (-65536 : Int32))))]) (rest := [(.int (b1_0 (((47 : Int32) + (p2 &&& (127 : Int32))) ^^^ (p2 &&& (-65536 : Int32)))))]) (lenOf pd_0 rfl) rfl (by show 2 * 0 + _ ≤ _; exact Nat.le_of_eq rfl) (hb hby at_56) (fun _ _ => ⟨rfl, e7, (by decide : 0 + 0 ≤ _), (by decide : 0 + 0 ≤ _)⟩)
      dsimp only [Pt.U, Pt.locs, Pt.cells, Pt.slots] at X8 l8 y8 z8 st8 hQ8
      subst l8 y8 z8
      have X8 : Stand p l e room_1 s m #[(.int p1), (.int p2)] below meth c T8 _ 0 0 := X8
      obtain ⟨⟨rfl, e8'⟩, N8q⟩ := hQ8
      have e8 : T8.heap = h0 := e8'
      have N8 := Fr.app N7 N8q
      refine go (fun t k => st8 _ k) ?_
      show Gl _ _ _ _ _ _ _ _ (T8.setTop (mkF m 59 #[.val (.int p1), .val (.int p2), .val (.int ((47 : Int32) + (p2 &&& (127 : Int32)))), .val (.int (((47 : Int32) + (p2 &&& (127 : Int32))) ^^^ (p2 &&& (-65536 : Int32)))), .val (.int s0_31), .val (.int s0_49), .unset] [(.int (b2_0 (((47 : Int32) + (p2 &&& (127 : Int32))) ^^^ (p2 &&& (-65536 : Int32))))), (.int (b1_0 (((47 : Int32) + (p2 &&& (127 : Int32))) ^^^ (p2 &&& (-65536 : Int32)))))]))
      have J67 : ∀ (s0_67 : Int32) (TJ67 : State) (lJ67 : List Loc) (XJ67 : Stand p l e room_1 s m #[(.int p1), (.int p2)] below meth c TJ67 lJ67 0 0) (eJ67 : TJ67.heap = h0) (NJ67 : Fr n0 lJ67), Gl p e below s n0 room_1.cells room_1.slots (Kv (some (.int (b0_67 s0_31 s0_49 s0_67))) (fun _ => True)) (TJ67.setTop (mkF m 67 #[.val (.int p1), .val (.int p2), .val (.int ((47 : Int32) + (p2 &&& (127 : Int32)))), .val (.int (((47 : Int32) + (p2 &&& (127 : Int32))) ^^^ (p2 &&& (-65536 : Int32)))), .val (.int s0_31), .val (.int s0_49), .unset] [(.int s0_67)])) := by
        intro s0_67 TJ67 lJ67 XJ67 eJ67 NJ67
        show Gl _ _ _ _ _ _ _ (Kv (some (.int (if s0_31 = (0 : Int32) then b0_88 else (if s0_49 = (0 : Int32) then b0_88 else (if s0_67 = (0 : Int32) then b0_88 else (b0_89 (1 : Int32))))))) _) _
        refine go (fun t k => XS.istore XJ67.here hx rfl (hb hby at_67) rfl (l' := #[.val (.int p1), .val (.int p2), .val (.int ((47 : Int32) + (p2 &&& (127 : Int32)))), .val (.int (((47 : Int32) + (p2 &&& (127 : Int32))) ^^^ (p2 &&& (-65536 : Int32)))), .val (.int s0_31), .val (.int s0_49), .val (.int s0_67)]) rfl k) ?_
        show Gl _ _ _ _ _ _ _ _ (TJ67.setTop (mkF m 69 #[.val (.int p1), .val (.int p2), .val (.int ((47 : Int32) + (p2 &&& (127 : Int32)))), .val (.int (((47 : Int32) + (p2 &&& (127 : Int32))) ^^^ (p2 &&& (-65536 : Int32)))), .val (.int s0_31), .val (.int s0_49), .val (.int s0_67)] []))
        refine go (fun t k => XS.iload XJ67.here hx rfl (hb hby at_69) rfl  k) ?_
        show Gl _ _ _ _ _ _ _ _ (TJ67.setTop (mkF m 71 #[.val (.int p1), .val (.int p2), .val (.int ((47 : Int32) + (p2 &&& (127 : Int32)))), .val (.int (((47 : Int32) + (p2 &&& (127 : Int32))) ^^^ (p2 &&& (-65536 : Int32)))), .val (.int s0_31), .val (.int s0_49), .val (.int s0_67)] [(.int s0_31)]))
        have J89 : ∀ (s0_89 : Int32) (TJ89 : State) (lJ89 : List Loc) (XJ89 : Stand p l e room_1 s m #[(.int p1), (.int p2)] below meth c TJ89 lJ89 0 0) (eJ89 : TJ89.heap = h0) (NJ89 : Fr n0 lJ89), Gl p e below s n0 room_1.cells room_1.slots (Kv (some (.int (b0_89 s0_89))) (fun _ => True)) (TJ89.setTop (mkF m 89 #[.val (.int p1), .val (.int p2), .val (.int ((47 : Int32) + (p2 &&& (127 : Int32)))), .val (.int (((47 : Int32) + (p2 &&& (127 : Int32))) ^^^ (p2 &&& (-65536 : Int32)))), .val (.int s0_31), .val (.int s0_49), .val (.int s0_67)] [(.int s0_89)])) := by
          intro s0_89 TJ89 lJ89 XJ89 eJ89 NJ89
          show Gl _ _ _ _ _ _ _ (Kv (some (.int (nar .boolean s0_89))) _) _
          exact endN XJ89 hx Bd (t := .boolean) (by simp) (hb hby at_89) ⟨rfl, trivial⟩ NJ89 (by decide) (by decide)
        have J88 : ∀  (TJ88 : State) (lJ88 : List Loc) (XJ88 : Stand p l e room_1 s m #[(.int p1), (.int p2)] below meth c TJ88 lJ88 0 0) (eJ88 : TJ88.heap = h0) (NJ88 : Fr n0 lJ88), Gl p e below s n0 room_1.cells room_1.slots (Kv (some (.int b0_88)) (fun _ => True)) (TJ88.setTop (mkF m 88 #[.val (.int p1), .val (.int p2), .val (.int ((47 : Int32) + (p2 &&& (127 : Int32)))), .val (.int (((47 : Int32) + (p2 &&& (127 : Int32))) ^^^ (p2 &&& (-65536 : Int32)))), .val (.int s0_31), .val (.int s0_49), .val (.int s0_67)] [])) := by
          intro  TJ88 lJ88 XJ88 eJ88 NJ88
          show Gl _ _ _ _ _ _ _ (Kv (some (.int (b0_89 (0 : Int32)))) _) _
          refine go (fun t k => XS.iconst XJ88.here hx rfl (hb hby at_88) k) ?_
          show Gl _ _ _ _ _ _ _ _ (TJ88.setTop (mkF m 89 #[.val (.int p1), .val (.int p2), .val (.int ((47 : Int32) + (p2 &&& (127 : Int32)))), .val (.int (((47 : Int32) + (p2 &&& (127 : Int32))) ^^^ (p2 &&& (-65536 : Int32)))), .val (.int s0_31), .val (.int s0_49), .val (.int s0_67)] [(.int (0 : Int32))]))
          exact J89 (0 : Int32) TJ88 _ XJ88 eJ88 NJ88
        refine gI (c := s0_31 = (0 : Int32)) (fun hc71 => ?_) (fun hc71 => ?_)
        · refine go (fun t k => XS.ifYes XJ67.here hx rfl (pc0 := 71) (pc' := 88) rfl (hb hby at_71) rfl ((if0 _ _).trans (teq hc71).1) (by decide) (by decide) k) ?_
          show Gl _ _ _ _ _ _ _ _ (TJ67.setTop (mkF m 88 #[.val (.int p1), .val (.int p2), .val (.int ((47 : Int32) + (p2 &&& (127 : Int32)))), .val (.int (((47 : Int32) + (p2 &&& (127 : Int32))) ^^^ (p2 &&& (-65536 : Int32)))), .val (.int s0_31), .val (.int s0_49), .val (.int s0_67)] []))
          exact J88  TJ67 _ XJ67 eJ67 NJ67
        · refine go (fun t k => XS.ifNo XJ67.here hx rfl (hb hby at_71) rfl ((if0 _ _).trans (feq hc71).1) k) ?_
          show Gl _ _ _ _ _ _ _ _ (TJ67.setTop (mkF m 74 #[.val (.int p1), .val (.int p2), .val (.int ((47 : Int32) + (p2 &&& (127 : Int32)))), .val (.int (((47 : Int32) + (p2 &&& (127 : Int32))) ^^^ (p2 &&& (-65536 : Int32)))), .val (.int s0_31), .val (.int s0_49), .val (.int s0_67)] []))
          refine go (fun t k => XS.iload XJ67.here hx rfl (hb hby at_74) rfl  k) ?_
          show Gl _ _ _ _ _ _ _ _ (TJ67.setTop (mkF m 76 #[.val (.int p1), .val (.int p2), .val (.int ((47 : Int32) + (p2 &&& (127 : Int32)))), .val (.int (((47 : Int32) + (p2 &&& (127 : Int32))) ^^^ (p2 &&& (-65536 : Int32)))), .val (.int s0_31), .val (.int s0_49), .val (.int s0_67)] [(.int s0_49)]))
          refine gI (c := s0_49 = (0 : Int32)) (fun hc76 => ?_) (fun hc76 => ?_)
          · refine go (fun t k => XS.ifYes XJ67.here hx rfl (pc0 := 76) (pc' := 88) rfl (hb hby at_76) rfl ((if0 _ _).trans (teq hc76).1) (by decide) (by decide) k) ?_
            show Gl _ _ _ _ _ _ _ _ (TJ67.setTop (mkF m 88 #[.val (.int p1), .val (.int p2), .val (.int ((47 : Int32) + (p2 &&& (127 : Int32)))), .val (.int (((47 : Int32) + (p2 &&& (127 : Int32))) ^^^ (p2 &&& (-65536 : Int32)))), .val (.int s0_31), .val (.int s0_49), .val (.int s0_67)] []))
            exact J88  TJ67 _ XJ67 eJ67 NJ67
          · refine go (fun t k => XS.ifNo XJ67.here hx rfl (hb hby at_76) rfl ((if0 _ _).trans (feq hc76).1) k) ?_
            show Gl _ _ _ _ _ _ _ _ (TJ67.setTop (mkF m 79 #[.val (.int p1), .val (.int p2), .val (.int ((47 : Int32) + (p2 &&& (127 : Int32)))), .val (.int (((47 : Int32) + (p2 &&& (127 : Int32))) ^^^ (p2 &&& (-65536 : Int32)))), .val (.int s0_31), .val (.int s0_49), .val (.int s0_67)] []))
            refine go (fun t k => XS.iload XJ67.here hx rfl (hb hby at_79) rfl  k) ?_
            show Gl _ _ _ _ _ _ _ _ (TJ67.setTop (mkF m 81 #[.val (.int p1), .val (.int p2), .val (.int ((47 : Int32) + (p2 &&& (127 : Int32)))), .val (.int (((47 : Int32) + (p2 &&& (127 : Int32))) ^^^ (p2 &&& (-65536 : Int32)))), .val (.int s0_31), .val (.int s0_49), .val (.int s0_67)] [(.int s0_67)]))
            refine gI (c := s0_67 = (0 : Int32)) (fun hc81 => ?_) (fun hc81 => ?_)
            · refine go (fun t k => XS.ifYes XJ67.here hx rfl (pc0 := 81) (pc' := 88) rfl (hb hby at_81) rfl ((if0 _ _).trans (teq hc81).1) (by decide) (by decide) k) ?_
              show Gl _ _ _ _ _ _ _ _ (TJ67.setTop (mkF m 88 #[.val (.int p1), .val (.int p2), .val (.int ((47 : Int32) + (p2 &&& (127 : Int32)))), .val (.int (((47 : Int32) + (p2 &&& (127 : Int32))) ^^^ (p2 &&& (-65536 : Int32)))), .val (.int s0_31), .val (.int s0_49), .val (.int s0_67)] []))
              exact J88  TJ67 _ XJ67 eJ67 NJ67
            · refine go (fun t k => XS.ifNo XJ67.here hx rfl (hb hby at_81) rfl ((if0 _ _).trans (feq hc81).1) k) ?_
              show Gl _ _ _ _ _ _ _ _ (TJ67.setTop (mkF m 84 #[.val (.int p1), .val (.int p2), .val (.int ((47 : Int32) + (p2 &&& (127 : Int32)))), .val (.int (((47 : Int32) + (p2 &&& (127 : Int32))) ^^^ (p2 &&& (-65536 : Int32)))), .val (.int s0_31), .val (.int s0_49), .val (.int s0_67)] []))
              refine go (fun t k => XS.iconst XJ67.here hx rfl (hb hby at_84) k) ?_
              show Gl _ _ _ _ _ _ _ _ (TJ67.setTop (mkF m 85 #[.val (.int p1), .val (.int p2), .val (.int ((47 : Int32) + (p2 &&& (127 : Int32)))), .val (.int (((47 : Int32) + (p2 &&& (127 : Int32))) ^^^ (p2 &&& (-65536 : Int32)))), .val (.int s0_31), .val (.int s0_49), .val (.int s0_67)] [(.int (1 : Int32))]))
              refine go (fun t k => XS.goto XJ67.here hx rfl (pc0 := 85) (pc' := 89) rfl (hb hby at_85) (by decide) (by decide) k) ?_
              show Gl _ _ _ _ _ _ _ _ (TJ67.setTop (mkF m 89 #[.val (.int p1), .val (.int p2), .val (.int ((47 : Int32) + (p2 &&& (127 : Int32)))), .val (.int (((47 : Int32) + (p2 &&& (127 : Int32))) ^^^ (p2 &&& (-65536 : Int32)))), .val (.int s0_31), .val (.int s0_49), .val (.int s0_67)] [(.int (1 : Int32))]))
              exact J89 (1 : Int32) TJ67 _ XJ67 eJ67 NJ67
      refine gI (c := (b1_0 (((47 : Int32) + (p2 &&& (127 : Int32))) ^^^ (p2 &&& (-65536 : Int32)))) = (b2_0 (((47 : Int32) + (p2 &&& (127 : Int32))) ^^^ (p2 &&& (-65536 : Int32))))) (fun hc59 => ?_) (fun hc59 => ?_)
      · refine go (fun t k => XS.icmpNo X8.here hx rfl (hb hby at_59) rfl (teq hc59).2 k) ?_
        show Gl _ _ _ _ _ _ _ _ (T8.setTop (mkF m 62 #[.val (.int p1), .val (.int p2), .val (.int ((47 : Int32) + (p2 &&& (127 : Int32)))), .val (.int (((47 : Int32) + (p2 &&& (127 : Int32))) ^^^ (p2 &&& (-65536 : Int32)))), .val (.int s0_31), .val (.int s0_49), .unset] []))
        refine go (fun t k => XS.iconst X8.here hx rfl (hb hby at_62) k) ?_
        show Gl _ _ _ _ _ _ _ _ (T8.setTop (mkF m 63 #[.val (.int p1), .val (.int p2), .val (.int ((47 : Int32) + (p2 &&& (127 : Int32)))), .val (.int (((47 : Int32) + (p2 &&& (127 : Int32))) ^^^ (p2 &&& (-65536 : Int32)))), .val (.int s0_31), .val (.int s0_49), .unset] [(.int (1 : Int32))]))
        refine go (fun t k => XS.goto X8.here hx rfl (pc0 := 63) (pc' := 67) rfl (hb hby at_63) (by decide) (by decide) k) ?_
        show Gl _ _ _ _ _ _ _ _ (T8.setTop (mkF m 67 #[.val (.int p1), .val (.int p2), .val (.int ((47 : Int32) + (p2 &&& (127 : Int32)))), .val (.int (((47 : Int32) + (p2 &&& (127 : Int32))) ^^^ (p2 &&& (-65536 : Int32)))), .val (.int s0_31), .val (.int s0_49), .unset] [(.int (1 : Int32))]))
        exact J67 (1 : Int32) T8 _ X8 e8 N8
      · refine go (fun t k => XS.icmpYes X8.here hx rfl (pc0 := 59) (pc' := 66) rfl (hb hby at_59) rfl (feq hc59).2 (by decide) (by decide) k) ?_
        show Gl _ _ _ _ _ _ _ _ (T8.setTop (mkF m 66 #[.val (.int p1), .val (.int p2), .val (.int ((47 : Int32) + (p2 &&& (127 : Int32)))), .val (.int (((47 : Int32) + (p2 &&& (127 : Int32))) ^^^ (p2 &&& (-65536 : Int32)))), .val (.int s0_31), .val (.int s0_49), .unset] []))
        refine go (fun t k => XS.iconst X8.here hx rfl (hb hby at_66) k) ?_
        show Gl _ _ _ _ _ _ _ _ (T8.setTop (mkF m 67 #[.val (.int p1), .val (.int p2), .val (.int ((47 : Int32) + (p2 &&& (127 : Int32)))), .val (.int (((47 : Int32) + (p2 &&& (127 : Int32))) ^^^ (p2 &&& (-65536 : Int32)))), .val (.int s0_31), .val (.int s0_49), .unset] [(.int (0 : Int32))]))
        exact J67 (0 : Int32) T8 _ X8 e8 N8
    refine gI (c := (b1_0 ((47 : Int32) + (p2 &&& (127 : Int32)))) = (b2_0 ((47 : Int32) + (p2 &&& (127 : Int32))))) (fun hc41 => ?_) (fun hc41 => ?_)
    · refine go (fun t k => XS.icmpNo X5.here hx rfl (hb hby at_41) rfl (teq hc41).2 k) ?_
      show Gl _ _ _ _ _ _ _ _ (T5.setTop (mkF m 44 #[.val (.int p1), .val (.int p2), .val (.int ((47 : Int32) + (p2 &&& (127 : Int32)))), .val (.int (((47 : Int32) + (p2 &&& (127 : Int32))) ^^^ (p2 &&& (-65536 : Int32)))), .val (.int s0_31), .unset, .unset] []))
      refine go (fun t k => XS.iconst X5.here hx rfl (hb hby at_44) k) ?_
      show Gl _ _ _ _ _ _ _ _ (T5.setTop (mkF m 45 #[.val (.int p1), .val (.int p2), .val (.int ((47 : Int32) + (p2 &&& (127 : Int32)))), .val (.int (((47 : Int32) + (p2 &&& (127 : Int32))) ^^^ (p2 &&& (-65536 : Int32)))), .val (.int s0_31), .unset, .unset] [(.int (1 : Int32))]))
      refine go (fun t k => XS.goto X5.here hx rfl (pc0 := 45) (pc' := 49) rfl (hb hby at_45) (by decide) (by decide) k) ?_
      show Gl _ _ _ _ _ _ _ _ (T5.setTop (mkF m 49 #[.val (.int p1), .val (.int p2), .val (.int ((47 : Int32) + (p2 &&& (127 : Int32)))), .val (.int (((47 : Int32) + (p2 &&& (127 : Int32))) ^^^ (p2 &&& (-65536 : Int32)))), .val (.int s0_31), .unset, .unset] [(.int (1 : Int32))]))
      exact J49 (1 : Int32) T5 _ X5 e5 N5
    · refine go (fun t k => XS.icmpYes X5.here hx rfl (pc0 := 41) (pc' := 48) rfl (hb hby at_41) rfl (feq hc41).2 (by decide) (by decide) k) ?_
      show Gl _ _ _ _ _ _ _ _ (T5.setTop (mkF m 48 #[.val (.int p1), .val (.int p2), .val (.int ((47 : Int32) + (p2 &&& (127 : Int32)))), .val (.int (((47 : Int32) + (p2 &&& (127 : Int32))) ^^^ (p2 &&& (-65536 : Int32)))), .val (.int s0_31), .unset, .unset] []))
      refine go (fun t k => XS.iconst X5.here hx rfl (hb hby at_48) k) ?_
      show Gl _ _ _ _ _ _ _ _ (T5.setTop (mkF m 49 #[.val (.int p1), .val (.int p2), .val (.int ((47 : Int32) + (p2 &&& (127 : Int32)))), .val (.int (((47 : Int32) + (p2 &&& (127 : Int32))) ^^^ (p2 &&& (-65536 : Int32)))), .val (.int s0_31), .unset, .unset] [(.int (0 : Int32))]))
      exact J49 (0 : Int32) T5 _ X5 e5 N5
  refine gI (c := (b1_0 p1) = (b2_0 p1)) (fun hc23 => ?_) (fun hc23 => ?_)
  · refine go (fun t k => XS.icmpNo X2.here hx rfl (hb hby at_23) rfl (teq hc23).2 k) ?_
    show Gl _ _ _ _ _ _ _ _ (T2.setTop (mkF m 26 #[.val (.int p1), .val (.int p2), .val (.int ((47 : Int32) + (p2 &&& (127 : Int32)))), .val (.int (((47 : Int32) + (p2 &&& (127 : Int32))) ^^^ (p2 &&& (-65536 : Int32)))), .unset, .unset, .unset] []))
    refine go (fun t k => XS.iconst X2.here hx rfl (hb hby at_26) k) ?_
    show Gl _ _ _ _ _ _ _ _ (T2.setTop (mkF m 27 #[.val (.int p1), .val (.int p2), .val (.int ((47 : Int32) + (p2 &&& (127 : Int32)))), .val (.int (((47 : Int32) + (p2 &&& (127 : Int32))) ^^^ (p2 &&& (-65536 : Int32)))), .unset, .unset, .unset] [(.int (1 : Int32))]))
    refine go (fun t k => XS.goto X2.here hx rfl (pc0 := 27) (pc' := 31) rfl (hb hby at_27) (by decide) (by decide) k) ?_
    show Gl _ _ _ _ _ _ _ _ (T2.setTop (mkF m 31 #[.val (.int p1), .val (.int p2), .val (.int ((47 : Int32) + (p2 &&& (127 : Int32)))), .val (.int (((47 : Int32) + (p2 &&& (127 : Int32))) ^^^ (p2 &&& (-65536 : Int32)))), .unset, .unset, .unset] [(.int (1 : Int32))]))
    exact J31 (1 : Int32) T2 _ X2 e2 N2
  · refine go (fun t k => XS.icmpYes X2.here hx rfl (pc0 := 23) (pc' := 30) rfl (hb hby at_23) rfl (feq hc23).2 (by decide) (by decide) k) ?_
    show Gl _ _ _ _ _ _ _ _ (T2.setTop (mkF m 30 #[.val (.int p1), .val (.int p2), .val (.int ((47 : Int32) + (p2 &&& (127 : Int32)))), .val (.int (((47 : Int32) + (p2 &&& (127 : Int32))) ^^^ (p2 &&& (-65536 : Int32)))), .unset, .unset, .unset] []))
    refine go (fun t k => XS.iconst X2.here hx rfl (hb hby at_30) k) ?_
    show Gl _ _ _ _ _ _ _ _ (T2.setTop (mkF m 31 #[.val (.int p1), .val (.int p2), .val (.int ((47 : Int32) + (p2 &&& (127 : Int32)))), .val (.int (((47 : Int32) + (p2 &&& (127 : Int32))) ^^^ (p2 &&& (-65536 : Int32)))), .unset, .unset, .unset] [(.int (0 : Int32))]))
    exact J31 (0 : Int32) T2 _ X2 e2 N2
theorem own_nat_or32 (n : Nat) : n ||| 32 = if n / 32 % 2 = 0 then n + 32 else n := by
  have h1 : ∀ r : Fin 64, (r.val ||| 32) < 64 ∧ r.val ||| 32 = if r.val / 32 % 2 = 0 then r.val + 32 else r.val := by decide
  have h2 := h1 ⟨n % 64, Nat.mod_lt _ (by decide)⟩
  dsimp only at h2
  have e1 : n = 2 ^ 6 * (n / 64) + n % 64 := by omega
  have e2 := Nat.two_pow_add_eq_or_of_lt (i := 6) (b := n % 64) (Nat.mod_lt _ (by decide)) (n / 64)
  have e3 := Nat.two_pow_add_eq_or_of_lt (i := 6) (b := (n % 64) ||| 32) h2.1 (n / 64)
  have e4 : n ||| 32 = 2 ^ 6 * (n / 64) + ((n % 64) ||| 32) := by
    rw [e3, ← Nat.or_assoc, ← e2, ← e1]
  rw [e4, h2.2]
  split <;> split <;> omega
theorem own_or32 (x : Int32) : (x ||| 32).toInt = if x.toInt / 32 % 2 = 0 then x.toInt + 32 else x.toInt := by
  have e : (x ||| 32).toInt = (x.toBitVec ||| 32#32).toInt := rfl
  have e' : x.toInt = x.toBitVec.toInt := rfl
  rw [e, e', BitVec.toInt_eq_toNat_cond, BitVec.toInt_eq_toNat_cond, BitVec.toNat_or]
  have h := x.toBitVec.isLt
  generalize x.toBitVec.toNat = n at *
  rw [show (32#32).toNat = 32 from rfl, own_nat_or32]
  (repeat' split) <;> omega
theorem own_same (c : Int32) : b1_0 c = b2_0 c := by
  have h1 := own_or32 c
  have k0 : b1_40 = 0 := rfl
  have k1 : b1_36 = 1 := rfl
  have m0 : b2_54 0 = 0 := rfl
  have m1 : b2_49 = 1 := rfl
  have q1 : b1_0 c = if (48 ≤ c.toInt ∧ c.toInt ≤ 57) ∨ (97 ≤ c.toInt ∧ c.toInt ≤ 102) ∨ (65 ≤ c.toInt ∧ c.toInt ≤ 70) then 1 else 0 := by
    unfold b1_0 b1_12 b1_24
    simp only [k0, k1, Int32.lt_iff_toInt_lt, Int32.reduceToInt]
    (repeat' split) <;> first | rfl | (exfalso; omega)
  have q2 : ∀ s : Int32, b2_22 c s = if s ≠ 0 ∨ (97 ≤ (c ||| 32).toInt ∧ (c ||| 32).toInt ≤ 102) then 1 else 0 := by
    intro s
    unfold b2_22 b2_39 b2_40
    simp only [m0, m1, Int32.lt_iff_toInt_lt, Int32.reduceToInt]
    by_cases hs : s = 0
    · simp only [hs, if_true, ne_eq, not_true, false_or, show ¬ ((1 : Int32) = 0) by decide, if_false]
      (repeat' split) <;> first | rfl | (exfalso; omega)
    · simp only [hs, if_false, ne_eq, not_false_eq_true, true_or, if_true]
      (repeat' split) <;> rfl
  have q3 : b2_0 c = if (48 ≤ c.toInt ∧ c.toInt ≤ 57) ∨ (97 ≤ (c ||| 32).toInt ∧ (c ||| 32).toInt ≤ 102) then 1 else 0 := by
    unfold b2_0 b2_21
    rw [q2, q2]
    simp only [Int32.lt_iff_toInt_lt, Int32.reduceToInt, ne_eq, not_true, false_or, show ¬ ((1 : Int32) = 0) by decide, not_false_eq_true, true_or, if_true]
    (repeat' split) <;> first | rfl | (exfalso; omega)
  rw [q1, q3]
  generalize (c ||| 32) = d at *
  (repeat' split) <;> first | rfl | (exfalso; split at h1 <;> omega)
theorem law_eq (p1 p2 : Int32) : b0_0 p1 p2 = 1 := by
  unfold b0_0 b0_31 b0_49
  rw [if_pos (own_same _), if_pos (own_same _), if_pos (own_same _)]; rfl
set_option maxRecDepth 65536 in
set_option maxHeartbeats 40000000 in
theorem comes_1 {Post : Tables → Env → Array Value → State → Outcome → State → Prop} (hpost : ∀ tb e args s v u, (limb_1_1.after args s (.returned v) u = true ∧ limb_1_2.after args s (.returned v) u = true ∧ True) → FrameEnd s (.returned v) u (Jvm.fieldLocs frame_1_writes args s ++ Jvm.arrayLocs frame_1_arrays args s ++ Jvm.staticLocs frame_1_statics s) 0 0 → Post tb e args s (.returned v) u) :
    ArmFor flags0 classFile x code maxLocals ret World_1 tables_1 room_1 Calls_1 rest_1 Pre_1 Post := by
  intro l hfl _ _ p e ha hc hk s m args below hf hA hF happ hP
  obtain ⟨hcalls, hrest, hpre⟩ := hP
  obtain ⟨-, -, -, hnamed, -, -, -, hat⟩ := (Spec.applies_iff hf).mp happ
  obtain ⟨hg, hn⟩ := and_e (Cond.before_iff.mp (show (Jvm.Cond.and given_1 narrow_1).before args s = true from hpre))
  obtain ⟨g1, g2⟩ := and_e hg
  obtain ⟨g3, g4⟩ := and_e g2
  obtain ⟨w0, w1, rfl⟩ : ∃ w0 w1 : Value, args = #[w0, w1] := by
    have hs : args.size = 2 := by simpa [Cond.value, given_1] using g1
    obtain ⟨L⟩ := args
    match L, hs with
    | [w0, w1], _ => exact ⟨w0, w1, rfl⟩
  have hw := fun d (hd : d ∈ tables_1) => atoms_spec (ws := Jvm.Cond.code x code maxLocals ret :: tables_1) hat d (List.mem_cons_of_mem _ hd)
  have hfit : Fit s := fun {y c} hc i hi => by
    obtain ⟨ha, rfl⟩ := Array.getElem?_eq_some_iff.mp hc
    have q := List.all_eq_true.mp ((Array.all_eq_true_iff_forall_mem.mp hF) _ (Array.getElem_mem ha)) i (List.mem_range.mpr hi)
    simpa [Array.getElem?_eq_getElem hi] using q
  obtain ⟨i0, ei0⟩ := is_v g3
  obtain rfl : w0 = (.int i0) := Option.some.inj ei0
  obtain ⟨i1, ei1⟩ := is_v g4
  obtain rfl : w1 = (.int i1) := Option.some.inj ei1
  obtain ⟨n, o, h1, h2, h3, _, L, rfl, ⟨⟨hv, -⟩, N⟩, hq⟩ := rm0 l s _ hw tables_1 i0 i1  s.heap s.heap.size (Nat.le_refl _)  p e ha hc hk s m _ below hf ((Spec.applies_iff_loose hf).mp happ).1 ⟨rfl, State.Warmed39.refl s, rfl⟩ trivial
  rw [law_eq] at hv
  subst hv
  refine ⟨n, _, h1, h2, h3, hpost _ _ _ _ _ _ ⟨Cond.after_iff.mpr rfl, Cond.after_iff.mpr (eq_i res_at (Term.int_eval (1)) rfl), trivial⟩ ⟨hq.1, hq.2.1, (hq.2.2.sift fun y hy => Or.inr (N y hy)).mono (by decide) (by decide)⟩⟩
theorem main_1_1 : Claimed_1_1 := comes_1 fun _ _ _ _ _ _ h hF => ⟨h.1, hF⟩
theorem main_1_2 : Claimed_1_2 := comes_1 fun _ _ _ _ _ _ h hF => ⟨h.2.1, hF⟩
end Jvm.Pilot.@@N@@
namespace Jvm.Pilot.@@N@@
open Jvm Jvm.ClassFile Sem Op Lib Jvm.Free Jvm.Stand Jvm.Pilot.@@N@@.Jvm.D
/-! MADE BY PROGRAM (witnessworld.py) out of the Statement's table words and the real class files: 7 classes; the members and pool entries that the words name. The judged class is class 1, her method 2. -/
namespace start1
open Jvm.ClassFile
def u (s : String) : CpInfo := .utf8 (stringToUtf16 s)
/-- a pool by its gaps: so many unusable entries, then the entry; so many at the end -/
def gap : Nat → List CpInfo → List CpInfo
  | 0, r => r
  | n + 1, r => .unusable :: gap n r
def poolList (es : List (Nat × CpInfo)) (last : Nat) : List CpInfo := es.foldr (fun e r => gap e.1 (e.2 :: r)) (gap last [])
def pool (es : List (Nat × CpInfo)) (last : Nat) : Array CpInfo := ⟨poolList es last⟩
def fileOf (pool : Array CpInfo) (this : Nat) (attrs : Array Attribute := #[]) (ms : Array MethodInfo := #[]) (fl : Nat := 33) (sup : Nat := 0) (ifs : Array Nat := #[]) (fds : Array FieldInfo := #[]) : ClassFile where
  minorVersion := 0
  majorVersion := 65
  constantPool := pool
  accessFlags := fl
  thisClass := this
  superClass := sup
  interfaces := ifs
  fields := fds
  methods := ms
  attributes := attrs
def plain (name : String) (sup : Option ClassId) : Class where
  name := name
  kind := .ordinary
  loader := none
  accessFlags := 33
  super := sup
  interfaces := #[]
  cf := none
  fields := #[]
  methods := #[]
  instanceTypes := #[]
  staticTypes := #[]
  resolved := #[]
  callSites := []
  init := .initialized
  statics := none
  mirror := none

def pool0 : Array CpInfo := pool [(5, u "<init>"), (0, u "()V"), (1, .class_ 10), (1, u "java/lang/Object")] 113

def k0m0 : Method := { name := "<init>", desc := "()V", sig := { parameters := [], returnType := none }, accessFlags := 1, code := none }
/-- java/lang/Object -/
def k0 : Class := { plain "java/lang/Object" none with
  accessFlags := 33
  interfaces := #[]
  cf := some (fileOf pool0 8 #[] #[{ accessFlags := 1, nameIndex := 5, descriptorIndex := 6, attributes := #[] }] 33 0 #[] #[])
  fields := #[]
  methods := #[k0m0]
  instanceTypes := #[]
  staticTypes := #[]
  resolved := Array.replicate 124 none
  statics := none }

def pool1 : Array CpInfo := pool [(2, .class_ 4), (1, u "java/lang/Object"), (0, u "<init>"), (0, u "()V"), (0, .integer 4294901760), (0, .methodref 9 10), (0, .class_ 11), (0, .nameAndType 12 13), (0, u "com/example/kette/kette/DlgpSyntax"), (0, u "isHexDigit"), (0, u "(I)Z"), (0, .methodref 15 16), (0, .class_ 17), (0, .nameAndType 18 13), (0, u "com/example/kette/kette/DlgpSyntaxIsHexDigitPinLaw"), (0, u "ref"), (3, u "law"), (0, u "(II)Z")] 2

def k1m0 : Method := { name := "<init>", desc := "()V", sig := { parameters := [], returnType := none }, accessFlags := 1, code := none }
def k1c1 : Code := { maxStack := 2, maxLocals := 4, code := method_2_code, exceptionTable := #[], attributes := #[] }
def k1m1 : Method := { name := "ref", desc := "(I)Z", sig := { parameters := [.int], returnType := some .boolean }, accessFlags := 10, code := some k1c1 }
def k1c2 : Code := { maxStack := 3, maxLocals := 7, code := code, exceptionTable := #[], attributes := #[] }
def k1m2 : Method := { name := "law", desc := "(II)Z", sig := { parameters := [.int, .int], returnType := some .boolean }, accessFlags := 9, code := some k1c2 }
/-- com/example/kette/kette/DlgpSyntaxIsHexDigitPinLaw -/
def k1 : Class := { plain "com/example/kette/kette/DlgpSyntaxIsHexDigitPinLaw" (some 0) with
  accessFlags := 49
  interfaces := #[]
  cf := some (fileOf pool1 15 #[] #[{ accessFlags := 1, nameIndex := 5, descriptorIndex := 6, attributes := #[] }, { accessFlags := 10, nameIndex := 18, descriptorIndex := 13, attributes := #[] }, { accessFlags := 9, nameIndex := 22, descriptorIndex := 23, attributes := #[] }] 49 2 #[] #[])
  fields := #[]
  methods := #[k1m0, k1m1, k1m2]
  instanceTypes := #[]
  staticTypes := #[]
  resolved := Array.replicate 26 none
  statics := none }

def pool2 : Array CpInfo := pool [(1, .class_ 2), (0, u "com/example/kette/kette/DlgpSyntax"), (1, .class_ 6), (1, u "java/lang/Object"), (0, u "<init>"), (0, u "()V"), (17, u "(I)Z"), (14, u "ASCII_IRI"), (0, u "[Z"), (2, u "ASCII_NAME_START"), (2, u "NAME_START_RANGES"), (0, u "[I"), (6, u "ASCII_NAME_PART"), (5, u "NAME_PART_RANGES"), (105, u "XSD"), (0, u "Ljava/lang/String;"), (3, u "XSD_STRING"), (2, u "XSD_INTEGER"), (0, u "XSD_DECIMAL"), (0, u "XSD_DOUBLE"), (0, u "XSD_BOOLEAN"), (0, u "RDF_LANG_STRING"), (2, u "FORBIDDEN_IN_IRI"), (0, u "LOCAL_ESCAPES"), (8, u "isHexDigit")] 46

def k2m0 : Method := { name := "<init>", desc := "()V", sig := { parameters := [], returnType := none }, accessFlags := 2, code := none }
def k2c1 : Code := { maxStack := 2, maxLocals := 1, code := prog_14_method_10_code, exceptionTable := #[], attributes := #[] }
def k2m1 : Method := { name := "isHexDigit", desc := "(I)Z", sig := { parameters := [.int], returnType := some .boolean }, accessFlags := 8, code := some k2c1 }
/-- com/example/kette/kette/DlgpSyntax -/
def k2 : Class := { plain "com/example/kette/kette/DlgpSyntax" (some 0) with
  accessFlags := 48
  interfaces := #[]
  cf := some (fileOf pool2 1 #[] #[{ accessFlags := 2, nameIndex := 7, descriptorIndex := 8, attributes := #[] }, { accessFlags := 8, nameIndex := 193, descriptorIndex := 26, attributes := #[] }] 48 4 #[] #[{ accessFlags := 26, nameIndex := 168, descriptorIndex := 169, attributes := #[] }, { accessFlags := 24, nameIndex := 173, descriptorIndex := 169, attributes := #[] }, { accessFlags := 24, nameIndex := 176, descriptorIndex := 169, attributes := #[] }, { accessFlags := 24, nameIndex := 177, descriptorIndex := 169, attributes := #[] }, { accessFlags := 24, nameIndex := 178, descriptorIndex := 169, attributes := #[] }, { accessFlags := 24, nameIndex := 179, descriptorIndex := 169, attributes := #[] }, { accessFlags := 24, nameIndex := 180, descriptorIndex := 169, attributes := #[] }, { accessFlags := 26, nameIndex := 183, descriptorIndex := 169, attributes := #[] }, { accessFlags := 26, nameIndex := 48, descriptorIndex := 49, attributes := #[] }, { accessFlags := 26, nameIndex := 62, descriptorIndex := 49, attributes := #[] }, { accessFlags := 26, nameIndex := 41, descriptorIndex := 42, attributes := #[] }, { accessFlags := 26, nameIndex := 45, descriptorIndex := 42, attributes := #[] }, { accessFlags := 26, nameIndex := 56, descriptorIndex := 42, attributes := #[] }, { accessFlags := 24, nameIndex := 184, descriptorIndex := 169, attributes := #[] }])
  fields := #[{ name := "XSD", type := (.object "java/lang/String"), accessFlags := 26, slot := 0, constantValue := 0 }, { name := "XSD_STRING", type := (.object "java/lang/String"), accessFlags := 24, slot := 1, constantValue := 0 }, { name := "XSD_INTEGER", type := (.object "java/lang/String"), accessFlags := 24, slot := 2, constantValue := 0 }, { name := "XSD_DECIMAL", type := (.object "java/lang/String"), accessFlags := 24, slot := 3, constantValue := 0 }, { name := "XSD_DOUBLE", type := (.object "java/lang/String"), accessFlags := 24, slot := 4, constantValue := 0 }, { name := "XSD_BOOLEAN", type := (.object "java/lang/String"), accessFlags := 24, slot := 5, constantValue := 0 }, { name := "RDF_LANG_STRING", type := (.object "java/lang/String"), accessFlags := 24, slot := 6, constantValue := 0 }, { name := "FORBIDDEN_IN_IRI", type := (.object "java/lang/String"), accessFlags := 26, slot := 7, constantValue := 0 }, { name := "NAME_START_RANGES", type := (.array .int), accessFlags := 26, slot := 8, constantValue := 0 }, { name := "NAME_PART_RANGES", type := (.array .int), accessFlags := 26, slot := 9, constantValue := 0 }, { name := "ASCII_IRI", type := (.array .boolean), accessFlags := 26, slot := 10, constantValue := 0 }, { name := "ASCII_NAME_START", type := (.array .boolean), accessFlags := 26, slot := 11, constantValue := 0 }, { name := "ASCII_NAME_PART", type := (.array .boolean), accessFlags := 26, slot := 12, constantValue := 0 }, { name := "LOCAL_ESCAPES", type := (.object "java/lang/String"), accessFlags := 24, slot := 13, constantValue := 0 }]
  methods := #[k2m0, k2m1]
  instanceTypes := #[]
  staticTypes := #[(.object "java/lang/String"), (.object "java/lang/String"), (.object "java/lang/String"), (.object "java/lang/String"), (.object "java/lang/String"), (.object "java/lang/String"), (.object "java/lang/String"), (.object "java/lang/String"), (.array .int), (.array .int), (.array .boolean), (.array .boolean), (.array .boolean), (.object "java/lang/String")]
  resolved := Array.replicate 240 none
  statics := none }

def pool3 : Array CpInfo := pool [(1, u "java/lang/Cloneable"), (0, .class_ 1), (0, u "java/lang/Object"), (0, .class_ 3)] 3

/-- java/lang/Cloneable -/
def k3 : Class := { plain "java/lang/Cloneable" (some 0) with
  accessFlags := 1537
  interfaces := #[]
  cf := some (fileOf pool3 2 #[] #[] 1537 4 #[] #[])
  fields := #[]
  methods := #[]
  instanceTypes := #[]
  staticTypes := #[]
  resolved := Array.replicate 8 none
  statics := none }

def pool4 : Array CpInfo := pool [(1, u "java/io/Serializable"), (0, .class_ 1), (0, u "java/lang/Object"), (0, .class_ 3)] 3

/-- java/io/Serializable -/
def k4 : Class := { plain "java/io/Serializable" (some 0) with
  accessFlags := 1537
  interfaces := #[]
  cf := some (fileOf pool4 2 #[] #[] 1537 4 #[] #[])
  fields := #[]
  methods := #[]
  instanceTypes := #[]
  staticTypes := #[]
  resolved := Array.replicate 8 none
  statics := none }

/-- the primitive byte -/
def k5 : Class := { plain "byte" none with kind := .primitive 'B', accessFlags := 0x411 }
/-- [B -/
def k6 : Class := { plain "[B" (some 0) with kind := .array 5 .byte, interfaces := #[3, 4], accessFlags := 1041 }

def heap : Heap := #[]
def classes : Array Class := #[k0, k1, k2, k3, k4, k5, k6]
def interned : List (Array UInt16 × Addr) := []
def slotsUsed : Nat := 0
def theMethod : MethodId := ⟨1, 2⟩
def args0 : Array Value := #[.int 5, .int 6]
def aboutOver (below : List Frame) : State where
  vm := { classes := classes, interned := interned.toArray }
  heap := heap
  slotsUsed := slotsUsed
  threads := #[{ frames := .invoking theMethod args0 :: below }]
def below0 : List Frame := [.native { method := ⟨0, 0⟩, args := #[] }]
def about1 : State := aboutOver below0
def p0 : Program := .bare "" "" ""
def e0 : Env := launch0.env 0 0 0
theorem w_frames : about1.frames = Frame.invoking theMethod args0 :: below0 := rfl
set_option maxRecDepth 65536 in
theorem w_args : argsFit about1.vm theMethod args0 = true := by decide +kernel
set_option maxRecDepth 65536 in
theorem w_heap : heapFits about1 = true := by decide +kernel
set_option maxRecDepth 65536 in
theorem w_runnable : about1.curStatus? = some .runnable := by decide +kernel
set_option maxRecDepth 65536 in
theorem w_alone : about1.alone = true := by decide +kernel
set_option maxRecDepth 65536 in
theorem w_named : about1.methodNamed? x = some theMethod := by decide +kernel
set_option maxRecDepth 65536 in
theorem w_hears : about1.hears theMethod below0 = true := by decide +kernel
set_option maxRecDepth 65536 in
theorem w_ripe : about1.ripe theMethod args0 below0 = true := by decide +kernel
theorem w_running : about1.status = .running := rfl
set_option maxRecDepth 65536 in
theorem w_room : about1.hasRoom e0.platform room_1 = true :=
  launch0.hasRoom_least _ room_1 (by decide +kernel) (by decide +kernel) (by decide +kernel) (by decide +kernel) (by decide +kernel) (by decide +kernel)
theorem allAtoms_all (ts : List Jvm.Cond) (a : Array Jvm.Value) (st : Jvm.State) : (allAtoms ts).before a st = ts.all (fun c => c.before a st) := by
  induction ts with
  | nil => rfl
  | cons c t ih =>
    show (Jvm.Cond.and c (allAtoms t)).before a st = _
    rw [Jvm.Cond.before_and, ih, List.all_cons]
def words1 : List Jvm.Cond := Jvm.Cond.code x code maxLocals ret :: tables_1
/-- a 'code' word, met by the world's own term for the bytes: nothing is compared byte by byte -/
theorem code_word {y : MethodName} {bytes : ByteArray} {mx : Nat} {rt : Option FieldType} {a : Array Value} {s : State} {m : MethodId} {meth : Method} {c : Code} (h1 : s.methodNamed? y = some m) (h2 : s.vm.method? m = some meth) (h3 : meth.code = some c) (h4 : c.code = bytes)
    (h5 : (c.maxLocals == mx && c.exceptionTable.isEmpty && decide (c.maxStack ≤ mostOperands) && decide (meth.sig.returnType = rt) && !meth.locks && decide (parseMethodDescriptor y.desc = some meth.sig)) = true) : (Jvm.Cond.code y bytes mx rt).before a s = true := by
  simp only [Bool.and_eq_true, beq_iff_eq, Bool.not_eq_true', decide_eq_true_eq] at h5
  obtain ⟨⟨⟨⟨⟨g1, g2⟩, g3⟩, g4⟩, g5⟩, g6⟩ := h5
  simp [Cond.before, Cond.holds, Cond.value, h1, h2, h3, h4, g1, g2, g3, g4, g5, g6]
def isCode : Jvm.Cond → Bool
  | .code _ _ _ _ => true
  | _ => false
theorem all_split {L : List Jvm.Cond} {P : Jvm.Cond → Bool} (h1 : L.all (fun c => isCode c || P c) = true) (h2 : ∀ c ∈ L.filter isCode, P c = true) : L.all P = true := by
  refine List.all_eq_true.mpr fun c hc => ?_
  have h := List.all_eq_true.mp h1 c hc
  rcases Bool.eq_false_or_eq_true (isCode c) with hi | hi
  · exact h2 c (List.mem_filter.mpr ⟨hc, hi⟩)
  · simpa [hi] using h
set_option maxRecDepth 65536 in
theorem w_c0 : (Jvm.Cond.code x code maxLocals ret).before args0 about1 = true := code_word (m := ⟨1, 2⟩) (meth := k1m2) (c := k1c2) (by decide +kernel) rfl rfl rfl (by decide +kernel)
set_option maxRecDepth 65536 in
theorem w_c1 : (Jvm.Cond.code ({ cls := "com/example/kette/kette/DlgpSyntax", name := "isHexDigit", desc := "(I)Z" } : Jvm.MethodName) prog_14_method_10_code (1 : Nat) (Option.some Jvm.ClassFile.FieldType.boolean)).before args0 about1 = true := code_word (m := ⟨2, 1⟩) (meth := k2m1) (c := k2c1) (by decide +kernel) rfl rfl rfl (by decide +kernel)
set_option maxRecDepth 65536 in
theorem w_c2 : (Jvm.Cond.code ({ cls := "com/example/kette/kette/DlgpSyntaxIsHexDigitPinLaw", name := "ref", desc := "(I)Z" } : Jvm.MethodName) method_2_code (4 : Nat) (Option.some Jvm.ClassFile.FieldType.boolean)).before args0 about1 = true := code_word (m := ⟨1, 1⟩) (meth := k1m1) (c := k1c1) (by decide +kernel) rfl rfl rfl (by decide +kernel)
def codes1 : List Jvm.Cond := [Jvm.Cond.code x code maxLocals ret, Jvm.Cond.code ({ cls := "com/example/kette/kette/DlgpSyntax", name := "isHexDigit", desc := "(I)Z" } : Jvm.MethodName) prog_14_method_10_code (1 : Nat) (Option.some Jvm.ClassFile.FieldType.boolean), Jvm.Cond.code ({ cls := "com/example/kette/kette/DlgpSyntaxIsHexDigitPinLaw", name := "ref", desc := "(I)Z" } : Jvm.MethodName) method_2_code (4 : Nat) (Option.some Jvm.ClassFile.FieldType.boolean)]
set_option maxRecDepth 65536 in
theorem codes_eq : words1.filter isCode = codes1 := rfl
theorem w_codes : ∀ c ∈ words1.filter isCode, c.before args0 about1 = true := by
  rw [codes_eq]
  intro c hc
  simp only [codes1, List.mem_cons, List.not_mem_nil, or_false] at hc
  rcases hc with rfl | rfl | rfl
  · exact w_c0
  · exact w_c1
  · exact w_c2
set_option maxRecDepth 65536 in
theorem w_t1 : words1.all (fun c => isCode c || c.before args0 about1) = true := by decide +kernel
theorem w_tables : (allAtoms (Jvm.Cond.code x code maxLocals ret :: tables_1)).before args0 about1 = true := by
  rw [allAtoms_all]
  show words1.all (fun c => c.before args0 about1) = true
  refine all_split ?_ w_codes
  rw [w_t1]
set_option maxRecDepth 65536 in
theorem w_case : (Jvm.Cond.and given_1 narrow_1).before args0 about1 = true := by decide +kernel
theorem w_applies : (headSpec (Jvm.Cond.code x code maxLocals ret :: tables_1) room_1).applies x e0.platform about1 = true :=
  (Spec.applies_iff w_frames).mpr ⟨w_running, w_runnable, w_alone, w_named, w_hears, w_ripe, w_room, w_tables⟩
theorem atStart : AtStart classFile x code maxLocals ret World_1 tables_1 room_1 Calls_1 rest_1 Pre_1 launch0 p0 e0 about1 theMethod args0 below0 :=
  ⟨lists_1, trivial, launch0.admits_env _ _ _, launch0.least_env, fairChoices_fair.cas, fairChoices_fair.clock, w_frames, w_args, w_heap, w_applies, trivial, trivial, w_case⟩
end start1
theorem witness_1 : WitnessClaimed_1 := ⟨start1.p0, start1.e0, start1.about1, start1.theMethod, start1.args0, start1.below0, start1.atStart⟩
end Jvm.Pilot.@@N@@
