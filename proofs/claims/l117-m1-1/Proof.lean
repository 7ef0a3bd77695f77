import JvmDerived
import JvmDerived.Pilot.@@N@@Statement
import JvmDerived.Pilot.@@N@@Code
set_option linter.unusedVariables false
set_option linter.unusedSimpArgs false
@@BLOCK:NumsL.lean.txt@@
namespace Jvm.Pilot.@@N@@
open Jvm Jvm.ClassFile Sem Op Lib Jvm.Free Jvm.Stand Jvm.LawKit Jvm.RoadKit Bundle Jvm.Pilot.@@N@@.Jvm.D
section OwnKit
variable {p : Program} {l : Launch} {e : Env} {R : Room} {s : State} {m : MethodId} {args : Array Value} {below : List Frame} {meth : Method} {c : Code} {T : State} {locs : List Loc} {cells slots : Nat} {n0 cc nn : Nat} {K : Option Value → Heap → Prop} {P : Heap → Prop} {A B : State}
/-- what a contract says of the value, the heap and the places written -/
def QK (n0 : Nat) (K : Option Value → Heap → Prop) (v : Option Value) (h : Heap) (L : List Loc) : Prop := K v h ∧ Fr n0 L
def Kv (w : Option Value) (P : Heap → Prop) (v : Option Value) (h : Heap) : Prop := v = w ∧ P h
/-- from A the run comes to this body's end, and K holds there -/
def Gl (p : Program) (e : Env) (below : List Frame) (s : State) (n0 cc nn : Nat) (K : Option Value → Heap → Prop) (A : State) : Prop :=
  ∃ t o, Steps p.tables e below A t ∧ t.status = .running ∧ Ended t below o ∧ ∃ v L, o = .returned v ∧ QK n0 K v t.heap L ∧ FrameEnd s o t L cc nn
theorem go (st : ∀ t, Steps p.tables e below B t → Steps p.tables e below A t) (h : Gl p e below s n0 cc nn K B) : Gl p e below s n0 cc nn K A := by
  obtain ⟨t, o, h1, h2⟩ := h; exact ⟨t, o, st t h1, h2⟩
theorem gl_start {g g' : JFrame} (q : g = g') (h : Gl p e below s n0 cc nn K (T.setTop g')) :
    ∃ t o, Steps p.tables e below (T.setTop g) t ∧ t.status = .running ∧ Ended t below o ∧ ∃ v L, o = .returned v ∧ QK n0 K v t.heap L ∧ FrameEnd s o t L cc nn := by
  subst q; exact h
theorem gI {c : Prop} [Decidable c] {a b : Int32} (h1 : c → Gl p e below s n0 cc nn (Kv (some (.int a)) P) A) (h2 : ¬ c → Gl p e below s n0 cc nn (Kv (some (.int b)) P) A) : Gl p e below s n0 cc nn (Kv (some (.int (if c then a else b))) P) A := by
  by_cases h : c
  · rw [if_pos h]; exact h1 h
  · rw [if_neg h]; exact h2 h
theorem gJ {c : Prop} [Decidable c] {a b : Int64} (h1 : c → Gl p e below s n0 cc nn (Kv (some (.long a)) P) A) (h2 : ¬ c → Gl p e below s n0 cc nn (Kv (some (.long b)) P) A) : Gl p e below s n0 cc nn (Kv (some (.long (if c then a else b))) P) A := by
  by_cases h : c
  · rw [if_pos h]; exact h1 h
  · rw [if_neg h]; exact h2 h
theorem gR {c : Prop} [Decidable c] {a b : Addr} (h1 : c → Gl p e below s n0 cc nn (Kv (some (.ref a)) P) A) (h2 : ¬ c → Gl p e below s n0 cc nn (Kv (some (.ref b)) P) A) : Gl p e below s n0 cc nn (Kv (some (.ref (if c then a else b))) P) A := by
  by_cases h : c
  · rw [if_pos h]; exact h1 h
  · rw [if_neg h]; exact h2 h
theorem gV {c : Prop} [Decidable c] (h1 : c → Gl p e below s n0 cc nn K A) (h2 : ¬ c → Gl p e below s n0 cc nn K A) : Gl p e below s n0 cc nn K A := by
  by_cases h : c
  · exact h1 h
  · exact h2 h
variable {x : MethodName} {S : Spec} {code' : ByteArray} {ml : Nat} {s₁ : State} {pc : Nat} {Ls : Array Slot} {rest : List Value}
theorem endN (X : Stand p l e R s m args below meth c T locs cells slots) (hx : p.tables.exec = Jvm.exec) {t : FieldType} (Bd : BodyLoose p l x S code' ml (some t) e s m args below meth c s₁) (ht : t = .boolean ∨ t = .byte ∨ t = .char ∨ t = .short) {z : Int32}
    (hd : decode c.code pc = .ok (.ireturn, 1)) (hK : K (some (.int (nar t z))) T.heap) (N : Fr n0 locs) (hc : cells ≤ cc) (hs : slots ≤ nn) : Gl p e below s n0 cc nn K (T.setTop (mkF m pc Ls (.int z :: rest))) := by
  obtain ⟨fs, hr, hrun, hended, hW, hsame⟩ := X.leave (v := some (.int (nar t z))) (fun h => by rw [Bd.returns] at h; cases h)
  exact ⟨_, _, retN X hx Bd.returns ht hd hr, hrun, hended, _, _, rfl, ⟨hK, N⟩, ⟨_, rfl⟩, hW, hsame.mono hc hs⟩
theorem endO (X : Stand p l e R s m args below meth c T locs cells slots) (hx : p.tables.exec = Jvm.exec) {t : FieldType} (Bd : BodyLoose p l x S code' ml (some t) e s m args below meth c s₁) {w : Value} {i : Instr} (hn : narrow t w = w)
    (hi : (i = .ireturn ∧ (t = .int ∨ t = .boolean ∨ t = .byte ∨ t = .char ∨ t = .short) ∧ ∃ z, w = .int z) ∨ (i = .lreturn ∧ t = .long ∧ ∃ z, w = .long z) ∨ (i = .dreturn ∧ t = .double ∧ ∃ z, w = .double z) ∨ (i = .freturn ∧ t = .float ∧ ∃ z, w = .float z) ∨ (i = .areturn ∧ t.isReference = true ∧ w.isRef = true))
    (hd : decode c.code pc = .ok (i, 1)) (hK : K (some w) T.heap) (N : Fr n0 locs) (hc : cells ≤ cc) (hs : slots ≤ nn) : Gl p e below s n0 cc nn K (T.setTop (mkF m pc Ls (w :: rest))) := by
  obtain ⟨fs, hr, hrun, hended, hW, hsame⟩ := X.leave (v := some w) (fun h => by rw [Bd.returns] at h; cases h)
  exact ⟨_, _, retOut X hx Bd.returns hn hi hd hr, hrun, hended, _, _, rfl, ⟨hK, N⟩, ⟨_, rfl⟩, hW, hsame.mono hc hs⟩
theorem endI (X : Stand p l e R s m args below meth c T locs cells slots) (hx : p.tables.exec = Jvm.exec) (Bd : BodyLoose p l x S code' ml (some .int) e s m args below meth c s₁) {z : Int32}
    (hd : decode c.code pc = .ok (.ireturn, 1)) (hK : K (some (.int z)) T.heap) (N : Fr n0 locs) (hc : cells ≤ cc) (hs : slots ≤ nn) : Gl p e below s n0 cc nn K (T.setTop (mkF m pc Ls (.int z :: rest))) :=
  endO X hx Bd rfl (Or.inl ⟨rfl, Or.inl rfl, z, rfl⟩) hd hK N hc hs
theorem endJ (X : Stand p l e R s m args below meth c T locs cells slots) (hx : p.tables.exec = Jvm.exec) (Bd : BodyLoose p l x S code' ml (some .long) e s m args below meth c s₁) {z : Int64}
    (hd : decode c.code pc = .ok (.lreturn, 1)) (hK : K (some (.long z)) T.heap) (N : Fr n0 locs) (hc : cells ≤ cc) (hs : slots ≤ nn) : Gl p e below s n0 cc nn K (T.setTop (mkF m pc Ls (.long z :: rest))) :=
  endO X hx Bd rfl (Or.inr (Or.inl ⟨rfl, rfl, z, rfl⟩)) hd hK N hc hs
theorem endR (X : Stand p l e R s m args below meth c T locs cells slots) (hx : p.tables.exec = Jvm.exec) {t : FieldType} (Bd : BodyLoose p l x S code' ml (some t) e s m args below meth c s₁) (ht : t.isReference = true) {a : Addr}
    (hd : decode c.code pc = .ok (.areturn, 1)) (hK : K (some (.ref a)) T.heap) (N : Fr n0 locs) (hc : cells ≤ cc) (hs : slots ≤ nn) : Gl p e below s n0 cc nn K (T.setTop (mkF m pc Ls (.ref a :: rest))) :=
  endO X hx Bd (by cases t <;> first | rfl | cases ht) (Or.inr (Or.inr (Or.inr (Or.inr ⟨rfl, ht, rfl⟩)))) hd hK N hc hs
theorem endV (X : Stand p l e R s m args below meth c T locs cells slots) (hx : p.tables.exec = Jvm.exec) (Bd : BodyLoose p l x S code' ml none e s m args below meth c s₁)
    (hd : decode c.code pc = .ok (.return_, 1)) (hK : K none T.heap) (N : Fr n0 locs) (hc : cells ≤ cc) (hs : slots ≤ nn) : Gl p e below s n0 cc nn K (T.setTop (mkF m pc Ls [])) := by
  obtain ⟨fs, hr, hrun, hended, hW, hsame⟩ := X.leave (v := none) (fun _ => rfl)
  exact ⟨_, _, X.returnOut hx Bd.returns hd hr, hrun, hended, _, _, rfl, ⟨hK, N⟩, ⟨_, rfl⟩, hW, hsame.mono hc hs⟩
theorem lremM {g : JFrame} {target : State} (X : Stand p l e R s m args below meth c T locs cells slots) (hx : p.tables.exec = Jvm.exec) (hg : g.method = m) {x y : Int64} {rest : List Value} (hd : decode c.code g.pc = .ok (.lrem, 1)) (hs : g.stack = .long y :: .long x :: rest) (hy : y ≠ 0)
    (hr : Steps p.tables e below (T.setTop { g with pc := g.pc + 1, stack := .long (x % y) :: rest }) target) : Steps p.tables e below (T.setTop g) target := by
  have q := lrem_mod x y
  exact XS.lrem X.here hx hg hd hs hy (by rw [q]; exact hr)
theorem sta_keep {Z : State} {h h' : Heap} {a : Addr} {C n d D : String} {w : Value} (F : Sta Z h C n d w) (Kp : Keep h h' [a]) (E : Exa Z h a D) : Sta Z h' C n d w := by
  obtain ⟨cf, i, k, f, st, cell, h1, h2, h3, h4, h5, h6, h7⟩ := F
  obtain ⟨cell', k', e1, -, -, e4, -⟩ := E
  refine ⟨cf, i, k, f, st, cell, h1, h2, h3, h4, Kp.2.1 st cell h5 (ninS (fun q => ?_) nin0), h6, h7⟩
  subst q; cases h5.symm.trans e1; rw [h6] at e4; cases e4
theorem sta_keepN {Z : State} {h h' : Heap} {ws : List Addr} {C n d : String} {w : Value} (F : Sta Z h C n d w) (Kp : Keep h h' ws) (hn : ∀ x ∈ ws, ∀ cell : Cell, h[x]? = some cell → cell.vm.isStatics = false) : Sta Z h' C n d w := by
  obtain ⟨cf, i, k, f, st, cell, h1, h2, h3, h4, h5, h6, h7⟩ := F
  refine ⟨cf, i, k, f, st, cell, h1, h2, h3, h4, Kp.2.1 st cell h5 (fun q => ?_), h6, h7⟩
  have := hn st q cell h5
  rw [h6] at this; cases this
theorem sta_keep0 {Z : State} {h h' : Heap} {C n d : String} {w : Value} (F : Sta Z h C n d w) (Kp : Keep h h' []) : Sta Z h' C n d w := by
  obtain ⟨cf, i, k, f, st, cell, h1, h2, h3, h4, h5, h6, h7⟩ := F
  exact ⟨cf, i, k, f, st, cell, h1, h2, h3, h4, Kp.2.1 st cell h5 nin0, h6, h7⟩
theorem sel_priv {Z s : State} {a0 args : Array Value} {y : MethodName} {n : Nat} (hZ : Z.Warmed39 s.vm) (wi : (Cond.instantiable y.cls n).before a0 Z = true) (wp : (Cond.privateMethod y).before a0 Z = true) (wm : (Cond.instanceMethod y).before a0 Z = true) (hy : y.cls ≠ "java/lang/invoke/MethodHandle" ∧ y.cls ≠ "java/lang/invoke/VarHandle") : (Cond.selects y.cls y y).before args s = true := by
  obtain ⟨c, k, h1, h2, -, h4, -⟩ := Cond.instantiable_spec (show (Cond.instantiable y.cls n).before args s = true from mvT hZ wi)
  exact Jvm.Stand.selects_self_of_private h1 h2 (by simp only [Bool.or_eq_false_iff] at h4; exact h4.1) (Cond.privateMethod_at (mvP hZ wp (args := args))) (mvT hZ wm) hy
theorem eqL_v {t : Term} {k : Int64} {a0 : Array Value} {first u : State} {o : Option Outcome} {idx : List Nat} (h : (Cond.eq t (.long k)).value a0 first o u idx = some true) : t.eval a0 first o idx u = some (.long k) := by
  simp only [Cond.value, Term.eval] at h
  cases ht : t.eval a0 first o idx u with
  | none => simp [ht] at h
  | some x => cases x <;> simp [ht] at h ⊢; exact h
theorem eqI_v {t : Term} {k : Int32} {a0 : Array Value} {first u : State} {o : Option Outcome} {idx : List Nat} (h : (Cond.eq t (.int k)).value a0 first o u idx = some true) : t.eval a0 first o idx u = some (.int k) := by
  simp only [Cond.value, Term.eval] at h
  cases ht : t.eval a0 first o idx u with
  | none => simp [ht] at h
  | some x => cases x <;> simp [ht] at h ⊢; exact h
end OwnKit
theorem d1_0 : decode prog_14_method_3_code 0 = .ok (.iload_n 0, 1) := by decide +kernel
theorem d1_1 : decode prog_14_method_3_code 1 = .ok (.bipush 97, 2) := by decide +kernel
theorem d1_3 : decode prog_14_method_3_code 3 = .ok (.if_icmp .lt 9, 3) := by decide +kernel
theorem d1_6 : decode prog_14_method_3_code 6 = .ok (.iload_n 0, 1) := by decide +kernel
theorem d1_7 : decode prog_14_method_3_code 7 = .ok (.bipush 122, 2) := by decide +kernel
theorem d1_9 : decode prog_14_method_3_code 9 = .ok (.if_icmp .le 33, 3) := by decide +kernel
theorem d1_12 : decode prog_14_method_3_code 12 = .ok (.iload_n 0, 1) := by decide +kernel
theorem d1_13 : decode prog_14_method_3_code 13 = .ok (.bipush 65, 2) := by decide +kernel
theorem d1_15 : decode prog_14_method_3_code 15 = .ok (.if_icmp .lt 9, 3) := by decide +kernel
theorem d1_18 : decode prog_14_method_3_code 18 = .ok (.iload_n 0, 1) := by decide +kernel
theorem d1_19 : decode prog_14_method_3_code 19 = .ok (.bipush 90, 2) := by decide +kernel
theorem d1_21 : decode prog_14_method_3_code 21 = .ok (.if_icmp .le 21, 3) := by decide +kernel
theorem d1_24 : decode prog_14_method_3_code 24 = .ok (.iload_n 0, 1) := by decide +kernel
theorem d1_25 : decode prog_14_method_3_code 25 = .ok (.bipush 48, 2) := by decide +kernel
theorem d1_27 : decode prog_14_method_3_code 27 = .ok (.if_icmp .lt 9, 3) := by decide +kernel
theorem d1_30 : decode prog_14_method_3_code 30 = .ok (.iload_n 0, 1) := by decide +kernel
theorem d1_31 : decode prog_14_method_3_code 31 = .ok (.bipush 57, 2) := by decide +kernel
theorem d1_33 : decode prog_14_method_3_code 33 = .ok (.if_icmp .le 9, 3) := by decide +kernel
theorem d1_36 : decode prog_14_method_3_code 36 = .ok (.iload_n 0, 1) := by decide +kernel
theorem d1_37 : decode prog_14_method_3_code 37 = .ok (.bipush 95, 2) := by decide +kernel
theorem d1_39 : decode prog_14_method_3_code 39 = .ok (.if_icmp .ne 7, 3) := by decide +kernel
theorem d1_42 : decode prog_14_method_3_code 42 = .ok (.iconst 1, 1) := by decide +kernel
theorem d1_43 : decode prog_14_method_3_code 43 = .ok (.goto 4, 3) := by decide +kernel
theorem d1_46 : decode prog_14_method_3_code 46 = .ok (.iconst 0, 1) := by decide +kernel
theorem d1_47 : decode prog_14_method_3_code 47 = .ok (.ireturn, 1) := by decide +kernel
theorem pn_0 : plainName "com/example/kette/kette/DlgpSyntax" = true := by first | (simp [plainName, overriddenIn]; done) | decide +kernel
theorem ef_1 (m : MethodId) (p1 : Int32) : entryFrame m #[(.int p1)] 1 = mkF m 0 #[.val (.int p1)] [] := by first | (simp [entryFrame, mkF, argsToLocals, Value.category]; done) | rfl
def b1_47 (s0_47 : Int32) : Int32 := (nar .boolean s0_47)
def b1_42  : Int32 := (b1_47 (1 : Int32))
def b1_36 (p1 : Int32) : Int32 := (if p1 = (95 : Int32) then b1_42 else (b1_47 (0 : Int32)))
def b1_24 (p1 : Int32) : Int32 := (if p1 < (48 : Int32) then (b1_36 p1) else (if (57 : Int32) < p1 then (b1_36 p1) else b1_42))
def b1_12 (p1 : Int32) : Int32 := (if p1 < (65 : Int32) then (b1_24 p1) else (if (90 : Int32) < p1 then (b1_24 p1) else b1_42))
def b1_0 (p1 : Int32) : Int32 := (if p1 < (97 : Int32) then (b1_12 p1) else (if (122 : Int32) < p1 then (b1_12 p1) else b1_42))
set_option maxRecDepth 65536 in
set_option maxHeartbeats 40000000 in
theorem rm1 (l : Launch) (Z : State) (a0 : Array Value) (hw : ∀ d ∈ tables_1, d.before a0 Z = true) (ws : List Jvm.Cond) (p1 : Int32) (h0 : Heap) (n0 : Nat) (Z0 : n0 ≤ h0.size) :
    MetFree l (⟨"com/example/kette/kette/DlgpSyntax", "isIdentifierPart", "(I)Z"⟩ : MethodName) (head1 (Jvm.Cond.code (⟨"com/example/kette/kette/DlgpSyntax", "isIdentifierPart", "(I)Z"⟩ : MethodName) prog_14_method_3_code 1 (some .boolean) :: ws) ({ frames := 0, cells := 0, slots := 0, locals := 0 } : Room)) (fun a U => a = #[(.int p1)] ∧ Z.Warmed39 U.vm ∧ U.heap = h0) (fun _ _ _ _ _ => True) (fun _ U o U' => ∃ v L, o = .returned v ∧ QK n0 (Kv (some (.int (b1_0 p1))) (fun h => h = h0)) v U'.heap L ∧ FrameEnd U o U' L ({ frames := 0, cells := 0, slots := 0, locals := 0 } : Room).cells ({ frames := 0, cells := 0, slots := 0, locals := 0 } : Room).slots) := by
  refine MetFree.of_bodySF (plainFor_of_name pn_0) hisR ?_
  intro p e s m args below meth c s₁ Bd hml0 hP hK
  obtain ⟨rfl, hZ, hh⟩ := hP
  have hx := Bd.exec
  have hby := Bd.bytes
  have hml : c.maxLocals = 1 := hml0
  have hown : s.vm.findClass "com/example/kette/kette/DlgpSyntax" = some m.cls := findClass_of_methodNamed Bd.named
  have hnm := (name_of_methodNamed Bd.named Bd.method).1
  have X0 : Stand p l e ({ frames := 0, cells := 0, slots := 0, locals := 0 } : Room) s m #[(.int p1)] below meth c s₁ [] 0 0 := Stand.of_body Bd
  have e0 : s₁.heap = h0 := by rw [← hh, Bd.state]; rfl
  have N0 := Fr.nil n0
  refine gl_start (ef_1 m p1) ?_
  show Gl p e below s n0 ({ frames := 0, cells := 0, slots := 0, locals := 0 } : Room).cells ({ frames := 0, cells := 0, slots := 0, locals := 0 } : Room).slots (Kv (some (.int (if p1 < (97 : Int32) then (b1_12 p1) else (if (122 : Int32) < p1 then (b1_12 p1) else b1_42)))) (fun h => h = h0)) (s₁.setTop (mkF m 0 #[.val (.int p1)] []))
  refine go (fun t k => XS.iloadN X0.here hx rfl (hb hby d1_0) rfl  k) ?_
  show Gl _ _ _ _ _ _ _ _ (s₁.setTop (mkF m 1 #[.val (.int p1)] [(.int p1)]))
  refine go (fun t k => XS.bipush X0.here hx rfl (hb hby d1_1) k) ?_
  show Gl _ _ _ _ _ _ _ _ (s₁.setTop (mkF m 3 #[.val (.int p1)] [(.int (97 : Int32)), (.int p1)]))
  have J47 : ∀ (s0_47 : Int32) (TJ47 : State) (lJ47 : List Loc) (XJ47 : Stand p l e ({ frames := 0, cells := 0, slots := 0, locals := 0 } : Room) s m #[(.int p1)] below meth c TJ47 lJ47 0 0) (eJ47 : TJ47.heap = h0) (NJ47 : Fr n0 lJ47), Gl p e below s n0 ({ frames := 0, cells := 0, slots := 0, locals := 0 } : Room).cells ({ frames := 0, cells := 0, slots := 0, locals := 0 } : Room).slots (Kv (some (.int (b1_47 s0_47))) (fun h => h = h0)) (TJ47.setTop (mkF m 47 #[.val (.int p1)] [(.int s0_47)])) := by
    intro s0_47 TJ47 lJ47 XJ47 eJ47 NJ47
    show Gl _ _ _ _ _ _ _ (Kv (some (.int (nar .boolean s0_47))) _) _
    exact endN XJ47 hx Bd (t := .boolean) (by simp) (hb hby d1_47) ⟨rfl, eJ47⟩ NJ47 (by decide) (by decide)
  have J42 : ∀  (TJ42 : State) (lJ42 : List Loc) (XJ42 : Stand p l e ({ frames := 0, cells := 0, slots := 0, locals := 0 } : Room) s m #[(.int p1)] below meth c TJ42 lJ42 0 0) (eJ42 : TJ42.heap = h0) (NJ42 : Fr n0 lJ42), Gl p e below s n0 ({ frames := 0, cells := 0, slots := 0, locals := 0 } : Room).cells ({ frames := 0, cells := 0, slots := 0, locals := 0 } : Room).slots (Kv (some (.int b1_42)) (fun h => h = h0)) (TJ42.setTop (mkF m 42 #[.val (.int p1)] [])) := by
    intro  TJ42 lJ42 XJ42 eJ42 NJ42
    show Gl _ _ _ _ _ _ _ (Kv (some (.int (b1_47 (1 : Int32)))) _) _
    refine go (fun t k => XS.iconst XJ42.here hx rfl (hb hby d1_42) k) ?_
    show Gl _ _ _ _ _ _ _ _ (TJ42.setTop (mkF m 43 #[.val (.int p1)] [(.int (1 : Int32))]))
    refine go (fun t k => XS.goto XJ42.here hx rfl (pc0 := 43) (pc' := 47) rfl (hb hby d1_43) (by decide) (by decide) k) ?_
    show Gl _ _ _ _ _ _ _ _ (TJ42.setTop (mkF m 47 #[.val (.int p1)] [(.int (1 : Int32))]))
    exact J47 (1 : Int32) TJ42 _ XJ42 eJ42 NJ42
  have J12 : ∀  (TJ12 : State) (lJ12 : List Loc) (XJ12 : Stand p l e ({ frames := 0, cells := 0, slots := 0, locals := 0 } : Room) s m #[(.int p1)] below meth c TJ12 lJ12 0 0) (eJ12 : TJ12.heap = h0) (NJ12 : Fr n0 lJ12), Gl p e below s n0 ({ frames := 0, cells := 0, slots := 0, locals := 0 } : Room).cells ({ frames := 0, cells := 0, slots := 0, locals := 0 } : Room).slots (Kv (some (.int (b1_12 p1))) (fun h => h = h0)) (TJ12.setTop (mkF m 12 #[.val (.int p1)] [])) := by
    intro  TJ12 lJ12 XJ12 eJ12 NJ12
    show Gl _ _ _ _ _ _ _ (Kv (some (.int (if p1 < (65 : Int32) then (b1_24 p1) else (if (90 : Int32) < p1 then (b1_24 p1) else b1_42)))) _) _
    refine go (fun t k => XS.iloadN XJ12.here hx rfl (hb hby d1_12) rfl  k) ?_
    show Gl _ _ _ _ _ _ _ _ (TJ12.setTop (mkF m 13 #[.val (.int p1)] [(.int p1)]))
    refine go (fun t k => XS.bipush XJ12.here hx rfl (hb hby d1_13) k) ?_
    show Gl _ _ _ _ _ _ _ _ (TJ12.setTop (mkF m 15 #[.val (.int p1)] [(.int (65 : Int32)), (.int p1)]))
    have J24 : ∀  (TJ24 : State) (lJ24 : List Loc) (XJ24 : Stand p l e ({ frames := 0, cells := 0, slots := 0, locals := 0 } : Room) s m #[(.int p1)] below meth c TJ24 lJ24 0 0) (eJ24 : TJ24.heap = h0) (NJ24 : Fr n0 lJ24), Gl p e below s n0 ({ frames := 0, cells := 0, slots := 0, locals := 0 } : Room).cells ({ frames := 0, cells := 0, slots := 0, locals := 0 } : Room).slots (Kv (some (.int (b1_24 p1))) (fun h => h = h0)) (TJ24.setTop (mkF m 24 #[.val (.int p1)] [])) := by
      intro  TJ24 lJ24 XJ24 eJ24 NJ24
      show Gl _ _ _ _ _ _ _ (Kv (some (.int (if p1 < (48 : Int32) then (b1_36 p1) else (if (57 : Int32) < p1 then (b1_36 p1) else b1_42)))) _) _
      refine go (fun t k => XS.iloadN XJ24.here hx rfl (hb hby d1_24) rfl  k) ?_
      show Gl _ _ _ _ _ _ _ _ (TJ24.setTop (mkF m 25 #[.val (.int p1)] [(.int p1)]))
      refine go (fun t k => XS.bipush XJ24.here hx rfl (hb hby d1_25) k) ?_
      show Gl _ _ _ _ _ _ _ _ (TJ24.setTop (mkF m 27 #[.val (.int p1)] [(.int (48 : Int32)), (.int p1)]))
      have J36 : ∀  (TJ36 : State) (lJ36 : List Loc) (XJ36 : Stand p l e ({ frames := 0, cells := 0, slots := 0, locals := 0 } : Room) s m #[(.int p1)] below meth c TJ36 lJ36 0 0) (eJ36 : TJ36.heap = h0) (NJ36 : Fr n0 lJ36), Gl p e below s n0 ({ frames := 0, cells := 0, slots := 0, locals := 0 } : Room).cells ({ frames := 0, cells := 0, slots := 0, locals := 0 } : Room).slots (Kv (some (.int (b1_36 p1))) (fun h => h = h0)) (TJ36.setTop (mkF m 36 #[.val (.int p1)] [])) := by
        intro  TJ36 lJ36 XJ36 eJ36 NJ36
        show Gl _ _ _ _ _ _ _ (Kv (some (.int (if p1 = (95 : Int32) then b1_42 else (b1_47 (0 : Int32))))) _) _
        refine go (fun t k => XS.iloadN XJ36.here hx rfl (hb hby d1_36) rfl  k) ?_
        show Gl _ _ _ _ _ _ _ _ (TJ36.setTop (mkF m 37 #[.val (.int p1)] [(.int p1)]))
        refine go (fun t k => XS.bipush XJ36.here hx rfl (hb hby d1_37) k) ?_
        show Gl _ _ _ _ _ _ _ _ (TJ36.setTop (mkF m 39 #[.val (.int p1)] [(.int (95 : Int32)), (.int p1)]))
        refine gI (c := p1 = (95 : Int32)) (fun hc39 => ?_) (fun hc39 => ?_)
        · refine go (fun t k => XS.icmpNo XJ36.here hx rfl (hb hby d1_39) rfl (teq hc39).2 k) ?_
          show Gl _ _ _ _ _ _ _ _ (TJ36.setTop (mkF m 42 #[.val (.int p1)] []))
          exact J42  TJ36 _ XJ36 eJ36 NJ36
        · refine go (fun t k => XS.icmpYes XJ36.here hx rfl (pc0 := 39) (pc' := 46) rfl (hb hby d1_39) rfl (feq hc39).2 (by decide) (by decide) k) ?_
          show Gl _ _ _ _ _ _ _ _ (TJ36.setTop (mkF m 46 #[.val (.int p1)] []))
          refine go (fun t k => XS.iconst XJ36.here hx rfl (hb hby d1_46) k) ?_
          show Gl _ _ _ _ _ _ _ _ (TJ36.setTop (mkF m 47 #[.val (.int p1)] [(.int (0 : Int32))]))
          exact J47 (0 : Int32) TJ36 _ XJ36 eJ36 NJ36
      refine gI (c := p1 < (48 : Int32)) (fun hc27 => ?_) (fun hc27 => ?_)
      · refine go (fun t k => XS.icmpYes XJ24.here hx rfl (pc0 := 27) (pc' := 36) rfl (hb hby d1_27) rfl (tlt hc27).1 (by decide) (by decide) k) ?_
        show Gl _ _ _ _ _ _ _ _ (TJ24.setTop (mkF m 36 #[.val (.int p1)] []))
        exact J36  TJ24 _ XJ24 eJ24 NJ24
      · refine go (fun t k => XS.icmpNo XJ24.here hx rfl (hb hby d1_27) rfl (flt hc27).1 k) ?_
        show Gl _ _ _ _ _ _ _ _ (TJ24.setTop (mkF m 30 #[.val (.int p1)] []))
        refine go (fun t k => XS.iloadN XJ24.here hx rfl (hb hby d1_30) rfl  k) ?_
        show Gl _ _ _ _ _ _ _ _ (TJ24.setTop (mkF m 31 #[.val (.int p1)] [(.int p1)]))
        refine go (fun t k => XS.bipush XJ24.here hx rfl (hb hby d1_31) k) ?_
        show Gl _ _ _ _ _ _ _ _ (TJ24.setTop (mkF m 33 #[.val (.int p1)] [(.int (57 : Int32)), (.int p1)]))
        refine gI (c := (57 : Int32) < p1) (fun hc33 => ?_) (fun hc33 => ?_)
        · refine go (fun t k => XS.icmpNo XJ24.here hx rfl (hb hby d1_33) rfl (tlt hc33).2.2.2 k) ?_
          show Gl _ _ _ _ _ _ _ _ (TJ24.setTop (mkF m 36 #[.val (.int p1)] []))
          exact J36  TJ24 _ XJ24 eJ24 NJ24
        · refine go (fun t k => XS.icmpYes XJ24.here hx rfl (pc0 := 33) (pc' := 42) rfl (hb hby d1_33) rfl (flt hc33).2.2.2 (by decide) (by decide) k) ?_
          show Gl _ _ _ _ _ _ _ _ (TJ24.setTop (mkF m 42 #[.val (.int p1)] []))
          exact J42  TJ24 _ XJ24 eJ24 NJ24
    refine gI (c := p1 < (65 : Int32)) (fun hc15 => ?_) (fun hc15 => ?_)
    · refine go (fun t k => XS.icmpYes XJ12.here hx rfl (pc0 := 15) (pc' := 24) rfl (hb hby d1_15) rfl (tlt hc15).1 (by decide) (by decide) k) ?_
      show Gl _ _ _ _ _ _ _ _ (TJ12.setTop (mkF m 24 #[.val (.int p1)] []))
      exact J24  TJ12 _ XJ12 eJ12 NJ12
    · refine go (fun t k => XS.icmpNo XJ12.here hx rfl (hb hby d1_15) rfl (flt hc15).1 k) ?_
      show Gl _ _ _ _ _ _ _ _ (TJ12.setTop (mkF m 18 #[.val (.int p1)] []))
      refine go (fun t k => XS.iloadN XJ12.here hx rfl (hb hby d1_18) rfl  k) ?_
      show Gl _ _ _ _ _ _ _ _ (TJ12.setTop (mkF m 19 #[.val (.int p1)] [(.int p1)]))
      refine go (fun t k => XS.bipush XJ12.here hx rfl (hb hby d1_19) k) ?_
      show Gl _ _ _ _ _ _ _ _ (TJ12.setTop (mkF m 21 #[.val (.int p1)] [(.int (90 : Int32)), (.int p1)]))
      refine gI (c := (90 : Int32) < p1) (fun hc21 => ?_) (fun hc21 => ?_)
      · refine go (fun t k => XS.icmpNo XJ12.here hx rfl (hb hby d1_21) rfl (tlt hc21).2.2.2 k) ?_
        show Gl _ _ _ _ _ _ _ _ (TJ12.setTop (mkF m 24 #[.val (.int p1)] []))
        exact J24  TJ12 _ XJ12 eJ12 NJ12
      · refine go (fun t k => XS.icmpYes XJ12.here hx rfl (pc0 := 21) (pc' := 42) rfl (hb hby d1_21) rfl (flt hc21).2.2.2 (by decide) (by decide) k) ?_
        show Gl _ _ _ _ _ _ _ _ (TJ12.setTop (mkF m 42 #[.val (.int p1)] []))
        exact J42  TJ12 _ XJ12 eJ12 NJ12
  refine gI (c := p1 < (97 : Int32)) (fun hc3 => ?_) (fun hc3 => ?_)
  · refine go (fun t k => XS.icmpYes X0.here hx rfl (pc0 := 3) (pc' := 12) rfl (hb hby d1_3) rfl (tlt hc3).1 (by decide) (by decide) k) ?_
    show Gl _ _ _ _ _ _ _ _ (s₁.setTop (mkF m 12 #[.val (.int p1)] []))
    exact J12  s₁ _ X0 e0 N0
  · refine go (fun t k => XS.icmpNo X0.here hx rfl (hb hby d1_3) rfl (flt hc3).1 k) ?_
    show Gl _ _ _ _ _ _ _ _ (s₁.setTop (mkF m 6 #[.val (.int p1)] []))
    refine go (fun t k => XS.iloadN X0.here hx rfl (hb hby d1_6) rfl  k) ?_
    show Gl _ _ _ _ _ _ _ _ (s₁.setTop (mkF m 7 #[.val (.int p1)] [(.int p1)]))
    refine go (fun t k => XS.bipush X0.here hx rfl (hb hby d1_7) k) ?_
    show Gl _ _ _ _ _ _ _ _ (s₁.setTop (mkF m 9 #[.val (.int p1)] [(.int (122 : Int32)), (.int p1)]))
    refine gI (c := (122 : Int32) < p1) (fun hc9 => ?_) (fun hc9 => ?_)
    · refine go (fun t k => XS.icmpNo X0.here hx rfl (hb hby d1_9) rfl (tlt hc9).2.2.2 k) ?_
      show Gl _ _ _ _ _ _ _ _ (s₁.setTop (mkF m 12 #[.val (.int p1)] []))
      exact J12  s₁ _ X0 e0 N0
    · refine go (fun t k => XS.icmpYes X0.here hx rfl (pc0 := 9) (pc' := 42) rfl (hb hby d1_9) rfl (flt hc9).2.2.2 (by decide) (by decide) k) ?_
      show Gl _ _ _ _ _ _ _ _ (s₁.setTop (mkF m 42 #[.val (.int p1)] []))
      exact J42  s₁ _ X0 e0 N0
theorem d2_0 : decode method_2_code 0 = .ok (.iload_n 0, 1) := by decide +kernel
theorem d2_1 : decode method_2_code 1 = .ok (.i2l, 1) := by decide +kernel
theorem d2_2 : decode method_2_code 2 = .ok (.ldc2_w 7, 3) := by decide +kernel
theorem d2_5 : decode method_2_code 5 = .ok (.lsub, 1) := by decide +kernel
theorem d2_6 : decode method_2_code 6 = .ok (.lstore_n 1, 1) := by decide +kernel
theorem d2_7 : decode method_2_code 7 = .ok (.lload_n 1, 1) := by decide +kernel
theorem d2_8 : decode method_2_code 8 = .ok (.lconst 0, 1) := by decide +kernel
theorem d2_9 : decode method_2_code 9 = .ok (.lcmp, 1) := by decide +kernel
theorem d2_10 : decode method_2_code 10 = .ok (.ifCond .lt 15, 3) := by decide +kernel
theorem d2_13 : decode method_2_code 13 = .ok (.lload_n 1, 1) := by decide +kernel
theorem d2_14 : decode method_2_code 14 = .ok (.ldc2_w 9, 3) := by decide +kernel
theorem d2_17 : decode method_2_code 17 = .ok (.lcmp, 1) := by decide +kernel
theorem d2_18 : decode method_2_code 18 = .ok (.ifCond .ge 7, 3) := by decide +kernel
theorem d2_21 : decode method_2_code 21 = .ok (.iconst 1, 1) := by decide +kernel
theorem d2_22 : decode method_2_code 22 = .ok (.goto 4, 3) := by decide +kernel
theorem d2_25 : decode method_2_code 25 = .ok (.iconst 0, 1) := by decide +kernel
theorem d2_26 : decode method_2_code 26 = .ok (.istore_n 3, 1) := by decide +kernel
theorem d2_27 : decode method_2_code 27 = .ok (.iload_n 0, 1) := by decide +kernel
theorem d2_28 : decode method_2_code 28 = .ok (.bipush 32, 2) := by decide +kernel
theorem d2_30 : decode method_2_code 30 = .ok (.ior, 1) := by decide +kernel
theorem d2_31 : decode method_2_code 31 = .ok (.istore 4, 2) := by decide +kernel
theorem d2_33 : decode method_2_code 33 = .ok (.iload 4, 2) := by decide +kernel
theorem d2_35 : decode method_2_code 35 = .ok (.bipush 97, 2) := by decide +kernel
theorem d2_37 : decode method_2_code 37 = .ok (.if_icmp .lt 14, 3) := by decide +kernel
theorem d2_40 : decode method_2_code 40 = .ok (.iload 4, 2) := by decide +kernel
theorem d2_42 : decode method_2_code 42 = .ok (.bipush 122, 2) := by decide +kernel
theorem d2_44 : decode method_2_code 44 = .ok (.if_icmp .gt 7, 3) := by decide +kernel
theorem d2_47 : decode method_2_code 47 = .ok (.iconst 1, 1) := by decide +kernel
theorem d2_48 : decode method_2_code 48 = .ok (.goto 4, 3) := by decide +kernel
theorem d2_51 : decode method_2_code 51 = .ok (.iconst 0, 1) := by decide +kernel
theorem d2_52 : decode method_2_code 52 = .ok (.istore 5, 2) := by decide +kernel
theorem d2_54 : decode method_2_code 54 = .ok (.iload_n 0, 1) := by decide +kernel
theorem d2_55 : decode method_2_code 55 = .ok (.bipush 95, 2) := by decide +kernel
theorem d2_57 : decode method_2_code 57 = .ok (.if_icmp .ne 7, 3) := by decide +kernel
theorem d2_60 : decode method_2_code 60 = .ok (.iconst 1, 1) := by decide +kernel
theorem d2_61 : decode method_2_code 61 = .ok (.goto 4, 3) := by decide +kernel
theorem d2_64 : decode method_2_code 64 = .ok (.iconst 0, 1) := by decide +kernel
theorem d2_65 : decode method_2_code 65 = .ok (.istore 6, 2) := by decide +kernel
theorem d2_67 : decode method_2_code 67 = .ok (.iload_n 3, 1) := by decide +kernel
theorem d2_68 : decode method_2_code 68 = .ok (.ifCond .ne 13, 3) := by decide +kernel
theorem d2_71 : decode method_2_code 71 = .ok (.iload 5, 2) := by decide +kernel
theorem d2_73 : decode method_2_code 73 = .ok (.ifCond .ne 8, 3) := by decide +kernel
theorem d2_76 : decode method_2_code 76 = .ok (.iload 6, 2) := by decide +kernel
theorem d2_78 : decode method_2_code 78 = .ok (.ifCond .eq 7, 3) := by decide +kernel
theorem d2_81 : decode method_2_code 81 = .ok (.iconst 1, 1) := by decide +kernel
theorem d2_82 : decode method_2_code 82 = .ok (.goto 4, 3) := by decide +kernel
theorem d2_85 : decode method_2_code 85 = .ok (.iconst 0, 1) := by decide +kernel
theorem d2_86 : decode method_2_code 86 = .ok (.ireturn, 1) := by decide +kernel
theorem pn_1 : plainName "com/example/kette/kette/DlgpSyntaxIsIdentifierPartPinLaw" = true := by first | (simp [plainName, overriddenIn]; done) | decide +kernel
theorem ef_2 (m : MethodId) (p1 : Int32) : entryFrame m #[(.int p1)] 7 = mkF m 0 #[.val (.int p1), .unset, .unset, .unset, .unset, .unset, .unset] [] := by first | (simp [entryFrame, mkF, argsToLocals, Value.category]; done) | rfl
def b2_86 (s0_86 : Int32) : Int32 := (nar .boolean s0_86)
def b2_81  : Int32 := (b2_86 (1 : Int32))
def b2_65 (s0_26 : Int32) (s0_52 : Int32) (s0_65 : Int32) : Int32 := (if s0_26 = (0 : Int32) then (if s0_52 = (0 : Int32) then (if s0_65 = (0 : Int32) then (b2_86 (0 : Int32)) else b2_81) else b2_81) else b2_81)
def b2_52 (p1 : Int32) (s0_26 : Int32) (s0_52 : Int32) : Int32 := (if p1 = (95 : Int32) then (b2_65 s0_26 s0_52 (1 : Int32)) else (b2_65 s0_26 s0_52 (0 : Int32)))
def b2_51 (p1 : Int32) (s0_26 : Int32) : Int32 := (b2_52 p1 s0_26 (0 : Int32))
def b2_26 (p1 : Int32) (s0_26 : Int32) : Int32 := (if (p1 ||| (32 : Int32)) < (97 : Int32) then (b2_51 p1 s0_26) else (if (122 : Int32) < (p1 ||| (32 : Int32)) then (b2_51 p1 s0_26) else (b2_52 p1 s0_26 (1 : Int32))))
def b2_25 (p1 : Int32) : Int32 := (b2_26 p1 (0 : Int32))
def b2_0 (p1 : Int32) : Int32 := (if ((p1.toInt64) - (48 : Int64)) < (0 : Int64) then (b2_25 p1) else (if ((p1.toInt64) - (48 : Int64)) < (10 : Int64) then (b2_26 p1 (1 : Int32)) else (b2_25 p1)))
set_option maxRecDepth 65536 in
set_option maxHeartbeats 40000000 in
theorem rm2 (l : Launch) (Z : State) (a0 : Array Value) (hw : ∀ d ∈ tables_1, d.before a0 Z = true) (ws : List Jvm.Cond) (p1 : Int32) (h0 : Heap) (n0 : Nat) (Z0 : n0 ≤ h0.size) :
    MetFree l (⟨"com/example/kette/kette/DlgpSyntaxIsIdentifierPartPinLaw", "expected", "(I)Z"⟩ : MethodName) (head1 (Jvm.Cond.code (⟨"com/example/kette/kette/DlgpSyntaxIsIdentifierPartPinLaw", "expected", "(I)Z"⟩ : MethodName) method_2_code 7 (some .boolean) :: ws) ({ frames := 0, cells := 0, slots := 0, locals := 0 } : Room)) (fun a U => a = #[(.int p1)] ∧ Z.Warmed39 U.vm ∧ U.heap = h0) (fun _ _ _ _ _ => True) (fun _ U o U' => ∃ v L, o = .returned v ∧ QK n0 (Kv (some (.int (b2_0 p1))) (fun h => h = h0)) v U'.heap L ∧ FrameEnd U o U' L ({ frames := 0, cells := 0, slots := 0, locals := 0 } : Room).cells ({ frames := 0, cells := 0, slots := 0, locals := 0 } : Room).slots) := by
  refine MetFree.of_bodySF (plainFor_of_name pn_1) hisR ?_
  intro p e s m args below meth c s₁ Bd hml0 hP hK
  obtain ⟨rfl, hZ, hh⟩ := hP
  have hx := Bd.exec
  have hby := Bd.bytes
  have hml : c.maxLocals = 7 := hml0
  have hown : s.vm.findClass "com/example/kette/kette/DlgpSyntaxIsIdentifierPartPinLaw" = some m.cls := findClass_of_methodNamed Bd.named
  have hnm := (name_of_methodNamed Bd.named Bd.method).1
  have X0 : Stand p l e ({ frames := 0, cells := 0, slots := 0, locals := 0 } : Room) s m #[(.int p1)] below meth c s₁ [] 0 0 := Stand.of_body Bd
  have e0 : s₁.heap = h0 := by rw [← hh, Bd.state]; rfl
  have N0 := Fr.nil n0
  refine gl_start (ef_2 m p1) ?_
  show Gl p e below s n0 ({ frames := 0, cells := 0, slots := 0, locals := 0 } : Room).cells ({ frames := 0, cells := 0, slots := 0, locals := 0 } : Room).slots (Kv (some (.int (if ((p1.toInt64) - (48 : Int64)) < (0 : Int64) then (b2_25 p1) else (if ((p1.toInt64) - (48 : Int64)) < (10 : Int64) then (b2_26 p1 (1 : Int32)) else (b2_25 p1))))) (fun h => h = h0)) (s₁.setTop (mkF m 0 #[.val (.int p1), .unset, .unset, .unset, .unset, .unset, .unset] []))
  refine go (fun t k => XS.iloadN X0.here hx rfl (hb hby d2_0) rfl  k) ?_
  show Gl _ _ _ _ _ _ _ _ (s₁.setTop (mkF m 1 #[.val (.int p1), .unset, .unset, .unset, .unset, .unset, .unset] [(.int p1)]))
  refine go (fun t k => XS.i2l X0.here hx rfl (hb hby d2_1) rfl k) ?_
  show Gl _ _ _ _ _ _ _ _ (s₁.setTop (mkF m 2 #[.val (.int p1), .unset, .unset, .unset, .unset, .unset, .unset] [(.long (p1.toInt64))]))
  refine go (fun t k => X0.ldc2Long hx hown (mvT hZ (hw _ (List.mem_of_getElem? (i := 8) rfl))) (g := (mkF m 2 #[.val (.int p1), .unset, .unset, .unset, .unset, .unset, .unset] [(.long (p1.toInt64))])) rfl (hb hby d2_2) _ k) ?_
  show Gl _ _ _ _ _ _ _ _ (s₁.setTop (mkF m 5 #[.val (.int p1), .unset, .unset, .unset, .unset, .unset, .unset] [(.long (48 : Int64)), (.long (p1.toInt64))]))
  refine go (fun t k => XS.lsub X0.here hx rfl (hb hby d2_5) rfl k) ?_
  show Gl _ _ _ _ _ _ _ _ (s₁.setTop (mkF m 6 #[.val (.int p1), .unset, .unset, .unset, .unset, .unset, .unset] [(.long ((p1.toInt64) - (48 : Int64)))]))
  refine go (fun t k => XS.lstoreN X0.here hx rfl (hb hby d2_6) rfl (l' := #[.val (.int p1), .val (.long ((p1.toInt64) - (48 : Int64))), .second, .unset, .unset, .unset, .unset]) rfl k) ?_
  show Gl _ _ _ _ _ _ _ _ (s₁.setTop (mkF m 7 #[.val (.int p1), .val (.long ((p1.toInt64) - (48 : Int64))), .second, .unset, .unset, .unset, .unset] []))
  refine go (fun t k => XS.lloadN X0.here hx rfl (hb hby d2_7) rfl  k) ?_
  show Gl _ _ _ _ _ _ _ _ (s₁.setTop (mkF m 8 #[.val (.int p1), .val (.long ((p1.toInt64) - (48 : Int64))), .second, .unset, .unset, .unset, .unset] [(.long ((p1.toInt64) - (48 : Int64)))]))
  refine go (fun t k => XS.lconst X0.here hx rfl (hb hby d2_8) k) ?_
  show Gl _ _ _ _ _ _ _ _ (s₁.setTop (mkF m 9 #[.val (.int p1), .val (.long ((p1.toInt64) - (48 : Int64))), .second, .unset, .unset, .unset, .unset] [(.long (0 : Int64)), (.long ((p1.toInt64) - (48 : Int64)))]))
  refine go (fun t k => XS.lcmp X0.here hx rfl (hb hby d2_9) rfl k) ?_
  show Gl _ _ _ _ _ _ _ _ (s₁.setTop (mkF m 10 #[.val (.int p1), .val (.long ((p1.toInt64) - (48 : Int64))), .second, .unset, .unset, .unset, .unset] [(.int (lcmpW ((p1.toInt64) - (48 : Int64)) (0 : Int64)))]))
  have J26 : ∀ (s0_26 : Int32) (TJ26 : State) (lJ26 : List Loc) (XJ26 : Stand p l e ({ frames := 0, cells := 0, slots := 0, locals := 0 } : Room) s m #[(.int p1)] below meth c TJ26 lJ26 0 0) (eJ26 : TJ26.heap = h0) (NJ26 : Fr n0 lJ26), Gl p e below s n0 ({ frames := 0, cells := 0, slots := 0, locals := 0 } : Room).cells ({ frames := 0, cells := 0, slots := 0, locals := 0 } : Room).slots (Kv (some (.int (b2_26 p1 s0_26))) (fun h => h = h0)) (TJ26.setTop (mkF m 26 #[.val (.int p1), .val (.long ((p1.toInt64) - (48 : Int64))), .second, .unset, .unset, .unset, .unset] [(.int s0_26)])) := by
    intro s0_26 TJ26 lJ26 XJ26 eJ26 NJ26
    show Gl _ _ _ _ _ _ _ (Kv (some (.int (if (p1 ||| (32 : Int32)) < (97 : Int32) then (b2_51 p1 s0_26) else (if (122 : Int32) < (p1 ||| (32 : Int32)) then (b2_51 p1 s0_26) else (b2_52 p1 s0_26 (1 : Int32)))))) _) _
    refine go (fun t k => XS.istoreN XJ26.here hx rfl (hb hby d2_26) rfl (l' := #[.val (.int p1), .val (.long ((p1.toInt64) - (48 : Int64))), .second, .val (.int s0_26), .unset, .unset, .unset]) rfl k) ?_
    show Gl _ _ _ _ _ _ _ _ (TJ26.setTop (mkF m 27 #[.val (.int p1), .val (.long ((p1.toInt64) - (48 : Int64))), .second, .val (.int s0_26), .unset, .unset, .unset] []))
    refine go (fun t k => XS.iloadN XJ26.here hx rfl (hb hby d2_27) rfl  k) ?_
    show Gl _ _ _ _ _ _ _ _ (TJ26.setTop (mkF m 28 #[.val (.int p1), .val (.long ((p1.toInt64) - (48 : Int64))), .second, .val (.int s0_26), .unset, .unset, .unset] [(.int p1)]))
    refine go (fun t k => XS.bipush XJ26.here hx rfl (hb hby d2_28) k) ?_
    show Gl _ _ _ _ _ _ _ _ (TJ26.setTop (mkF m 30 #[.val (.int p1), .val (.long ((p1.toInt64) - (48 : Int64))), .second, .val (.int s0_26), .unset, .unset, .unset] [(.int (32 : Int32)), (.int p1)]))
    refine go (fun t k => XS.ior XJ26.here hx rfl (hb hby d2_30) rfl k) ?_
    show Gl _ _ _ _ _ _ _ _ (TJ26.setTop (mkF m 31 #[.val (.int p1), .val (.long ((p1.toInt64) - (48 : Int64))), .second, .val (.int s0_26), .unset, .unset, .unset] [(.int (p1 ||| (32 : Int32)))]))
    refine go (fun t k => XS.istore XJ26.here hx rfl (hb hby d2_31) rfl (l' := #[.val (.int p1), .val (.long ((p1.toInt64) - (48 : Int64))), .second, .val (.int s0_26), .val (.int (p1 ||| (32 : Int32))), .unset, .unset]) rfl k) ?_
    show Gl _ _ _ _ _ _ _ _ (TJ26.setTop (mkF m 33 #[.val (.int p1), .val (.long ((p1.toInt64) - (48 : Int64))), .second, .val (.int s0_26), .val (.int (p1 ||| (32 : Int32))), .unset, .unset] []))
    refine go (fun t k => XS.iload XJ26.here hx rfl (hb hby d2_33) rfl  k) ?_
    show Gl _ _ _ _ _ _ _ _ (TJ26.setTop (mkF m 35 #[.val (.int p1), .val (.long ((p1.toInt64) - (48 : Int64))), .second, .val (.int s0_26), .val (.int (p1 ||| (32 : Int32))), .unset, .unset] [(.int (p1 ||| (32 : Int32)))]))
    refine go (fun t k => XS.bipush XJ26.here hx rfl (hb hby d2_35) k) ?_
    show Gl _ _ _ _ _ _ _ _ (TJ26.setTop (mkF m 37 #[.val (.int p1), .val (.long ((p1.toInt64) - (48 : Int64))), .second, .val (.int s0_26), .val (.int (p1 ||| (32 : Int32))), .unset, .unset] [(.int (97 : Int32)), (.int (p1 ||| (32 : Int32)))]))
    have J52 : ∀ (s0_52 : Int32) (TJ52 : State) (lJ52 : List Loc) (XJ52 : Stand p l e ({ frames := 0, cells := 0, slots := 0, locals := 0 } : Room) s m #[(.int p1)] below meth c TJ52 lJ52 0 0) (eJ52 : TJ52.heap = h0) (NJ52 : Fr n0 lJ52), Gl p e below s n0 ({ frames := 0, cells := 0, slots := 0, locals := 0 } : Room).cells ({ frames := 0, cells := 0, slots := 0, locals := 0 } : Room).slots (Kv (some (.int (b2_52 p1 s0_26 s0_52))) (fun h => h = h0)) (TJ52.setTop (mkF m 52 #[.val (.int p1), .val (.long ((p1.toInt64) - (48 : Int64))), .second, .val (.int s0_26), .val (.int (p1 ||| (32 : Int32))), .unset, .unset] [(.int s0_52)])) := by
      intro s0_52 TJ52 lJ52 XJ52 eJ52 NJ52
      show Gl _ _ _ _ _ _ _ (Kv (some (.int (if p1 = (95 : Int32) then (b2_65 s0_26 s0_52 (1 : Int32)) else (b2_65 s0_26 s0_52 (0 : Int32))))) _) _
      refine go (fun t k => XS.istore XJ52.here hx rfl (hb hby d2_52) rfl (l' := #[.val (.int p1), .val (.long ((p1.toInt64) - (48 : Int64))), .second, .val (.int s0_26), .val (.int (p1 ||| (32 : Int32))), .val (.int s0_52), .unset]) rfl k) ?_
      show Gl _ _ _ _ _ _ _ _ (TJ52.setTop (mkF m 54 #[.val (.int p1), .val (.long ((p1.toInt64) - (48 : Int64))), .second, .val (.int s0_26), .val (.int (p1 ||| (32 : Int32))), .val (.int s0_52), .unset] []))
      refine go (fun t k => XS.iloadN XJ52.here hx rfl (hb hby d2_54) rfl  k) ?_
      show Gl _ _ _ _ _ _ _ _ (TJ52.setTop (mkF m 55 #[.val (.int p1), .val (.long ((p1.toInt64) - (48 : Int64))), .second, .val (.int s0_26), .val (.int (p1 ||| (32 : Int32))), .val (.int s0_52), .unset] [(.int p1)]))
      refine go (fun t k => XS.bipush XJ52.here hx rfl (hb hby d2_55) k) ?_
      show Gl _ _ _ _ _ _ _ _ (TJ52.setTop (mkF m 57 #[.val (.int p1), .val (.long ((p1.toInt64) - (48 : Int64))), .second, .val (.int s0_26), .val (.int (p1 ||| (32 : Int32))), .val (.int s0_52), .unset] [(.int (95 : Int32)), (.int p1)]))
      have J65 : ∀ (s0_65 : Int32) (TJ65 : State) (lJ65 : List Loc) (XJ65 : Stand p l e ({ frames := 0, cells := 0, slots := 0, locals := 0 } : Room) s m #[(.int p1)] below meth c TJ65 lJ65 0 0) (eJ65 : TJ65.heap = h0) (NJ65 : Fr n0 lJ65), Gl p e below s n0 ({ frames := 0, cells := 0, slots := 0, locals := 0 } : Room).cells ({ frames := 0, cells := 0, slots := 0, locals := 0 } : Room).slots (Kv (some (.int (b2_65 s0_26 s0_52 s0_65))) (fun h => h = h0)) (TJ65.setTop (mkF m 65 #[.val (.int p1), .val (.long ((p1.toInt64) - (48 : Int64))), .second, .val (.int s0_26), .val (.int (p1 ||| (32 : Int32))), .val (.int s0_52), .unset] [(.int s0_65)])) := by
        intro s0_65 TJ65 lJ65 XJ65 eJ65 NJ65
        show Gl _ _ _ _ _ _ _ (Kv (some (.int (if s0_26 = (0 : Int32) then (if s0_52 = (0 : Int32) then (if s0_65 = (0 : Int32) then (b2_86 (0 : Int32)) else b2_81) else b2_81) else b2_81))) _) _
        refine go (fun t k => XS.istore XJ65.here hx rfl (hb hby d2_65) rfl (l' := #[.val (.int p1), .val (.long ((p1.toInt64) - (48 : Int64))), .second, .val (.int s0_26), .val (.int (p1 ||| (32 : Int32))), .val (.int s0_52), .val (.int s0_65)]) rfl k) ?_
        show Gl _ _ _ _ _ _ _ _ (TJ65.setTop (mkF m 67 #[.val (.int p1), .val (.long ((p1.toInt64) - (48 : Int64))), .second, .val (.int s0_26), .val (.int (p1 ||| (32 : Int32))), .val (.int s0_52), .val (.int s0_65)] []))
        refine go (fun t k => XS.iloadN XJ65.here hx rfl (hb hby d2_67) rfl  k) ?_
        show Gl _ _ _ _ _ _ _ _ (TJ65.setTop (mkF m 68 #[.val (.int p1), .val (.long ((p1.toInt64) - (48 : Int64))), .second, .val (.int s0_26), .val (.int (p1 ||| (32 : Int32))), .val (.int s0_52), .val (.int s0_65)] [(.int s0_26)]))
        have J86 : ∀ (s0_86 : Int32) (TJ86 : State) (lJ86 : List Loc) (XJ86 : Stand p l e ({ frames := 0, cells := 0, slots := 0, locals := 0 } : Room) s m #[(.int p1)] below meth c TJ86 lJ86 0 0) (eJ86 : TJ86.heap = h0) (NJ86 : Fr n0 lJ86), Gl p e below s n0 ({ frames := 0, cells := 0, slots := 0, locals := 0 } : Room).cells ({ frames := 0, cells := 0, slots := 0, locals := 0 } : Room).slots (Kv (some (.int (b2_86 s0_86))) (fun h => h = h0)) (TJ86.setTop (mkF m 86 #[.val (.int p1), .val (.long ((p1.toInt64) - (48 : Int64))), .second, .val (.int s0_26), .val (.int (p1 ||| (32 : Int32))), .val (.int s0_52), .val (.int s0_65)] [(.int s0_86)])) := by
          intro s0_86 TJ86 lJ86 XJ86 eJ86 NJ86
          show Gl _ _ _ _ _ _ _ (Kv (some (.int (nar .boolean s0_86))) _) _
          exact endN XJ86 hx Bd (t := .boolean) (by simp) (hb hby d2_86) ⟨rfl, eJ86⟩ NJ86 (by decide) (by decide)
        have J81 : ∀  (TJ81 : State) (lJ81 : List Loc) (XJ81 : Stand p l e ({ frames := 0, cells := 0, slots := 0, locals := 0 } : Room) s m #[(.int p1)] below meth c TJ81 lJ81 0 0) (eJ81 : TJ81.heap = h0) (NJ81 : Fr n0 lJ81), Gl p e below s n0 ({ frames := 0, cells := 0, slots := 0, locals := 0 } : Room).cells ({ frames := 0, cells := 0, slots := 0, locals := 0 } : Room).slots (Kv (some (.int b2_81)) (fun h => h = h0)) (TJ81.setTop (mkF m 81 #[.val (.int p1), .val (.long ((p1.toInt64) - (48 : Int64))), .second, .val (.int s0_26), .val (.int (p1 ||| (32 : Int32))), .val (.int s0_52), .val (.int s0_65)] [])) := by
          intro  TJ81 lJ81 XJ81 eJ81 NJ81
          show Gl _ _ _ _ _ _ _ (Kv (some (.int (b2_86 (1 : Int32)))) _) _
          refine go (fun t k => XS.iconst XJ81.here hx rfl (hb hby d2_81) k) ?_
          show Gl _ _ _ _ _ _ _ _ (TJ81.setTop (mkF m 82 #[.val (.int p1), .val (.long ((p1.toInt64) - (48 : Int64))), .second, .val (.int s0_26), .val (.int (p1 ||| (32 : Int32))), .val (.int s0_52), .val (.int s0_65)] [(.int (1 : Int32))]))
          refine go (fun t k => XS.goto XJ81.here hx rfl (pc0 := 82) (pc' := 86) rfl (hb hby d2_82) (by decide) (by decide) k) ?_
          show Gl _ _ _ _ _ _ _ _ (TJ81.setTop (mkF m 86 #[.val (.int p1), .val (.long ((p1.toInt64) - (48 : Int64))), .second, .val (.int s0_26), .val (.int (p1 ||| (32 : Int32))), .val (.int s0_52), .val (.int s0_65)] [(.int (1 : Int32))]))
          exact J86 (1 : Int32) TJ81 _ XJ81 eJ81 NJ81
        refine gI (c := s0_26 = (0 : Int32)) (fun hc68 => ?_) (fun hc68 => ?_)
        · refine go (fun t k => XS.ifNo XJ65.here hx rfl (hb hby d2_68) rfl ((if0 _ _).trans (teq hc68).2) k) ?_
          show Gl _ _ _ _ _ _ _ _ (TJ65.setTop (mkF m 71 #[.val (.int p1), .val (.long ((p1.toInt64) - (48 : Int64))), .second, .val (.int s0_26), .val (.int (p1 ||| (32 : Int32))), .val (.int s0_52), .val (.int s0_65)] []))
          refine go (fun t k => XS.iload XJ65.here hx rfl (hb hby d2_71) rfl  k) ?_
          show Gl _ _ _ _ _ _ _ _ (TJ65.setTop (mkF m 73 #[.val (.int p1), .val (.long ((p1.toInt64) - (48 : Int64))), .second, .val (.int s0_26), .val (.int (p1 ||| (32 : Int32))), .val (.int s0_52), .val (.int s0_65)] [(.int s0_52)]))
          refine gI (c := s0_52 = (0 : Int32)) (fun hc73 => ?_) (fun hc73 => ?_)
          · refine go (fun t k => XS.ifNo XJ65.here hx rfl (hb hby d2_73) rfl ((if0 _ _).trans (teq hc73).2) k) ?_
            show Gl _ _ _ _ _ _ _ _ (TJ65.setTop (mkF m 76 #[.val (.int p1), .val (.long ((p1.toInt64) - (48 : Int64))), .second, .val (.int s0_26), .val (.int (p1 ||| (32 : Int32))), .val (.int s0_52), .val (.int s0_65)] []))
            refine go (fun t k => XS.iload XJ65.here hx rfl (hb hby d2_76) rfl  k) ?_
            show Gl _ _ _ _ _ _ _ _ (TJ65.setTop (mkF m 78 #[.val (.int p1), .val (.long ((p1.toInt64) - (48 : Int64))), .second, .val (.int s0_26), .val (.int (p1 ||| (32 : Int32))), .val (.int s0_52), .val (.int s0_65)] [(.int s0_65)]))
            refine gI (c := s0_65 = (0 : Int32)) (fun hc78 => ?_) (fun hc78 => ?_)
            · refine go (fun t k => XS.ifYes XJ65.here hx rfl (pc0 := 78) (pc' := 85) rfl (hb hby d2_78) rfl ((if0 _ _).trans (teq hc78).1) (by decide) (by decide) k) ?_
              show Gl _ _ _ _ _ _ _ _ (TJ65.setTop (mkF m 85 #[.val (.int p1), .val (.long ((p1.toInt64) - (48 : Int64))), .second, .val (.int s0_26), .val (.int (p1 ||| (32 : Int32))), .val (.int s0_52), .val (.int s0_65)] []))
              refine go (fun t k => XS.iconst XJ65.here hx rfl (hb hby d2_85) k) ?_
              show Gl _ _ _ _ _ _ _ _ (TJ65.setTop (mkF m 86 #[.val (.int p1), .val (.long ((p1.toInt64) - (48 : Int64))), .second, .val (.int s0_26), .val (.int (p1 ||| (32 : Int32))), .val (.int s0_52), .val (.int s0_65)] [(.int (0 : Int32))]))
              exact J86 (0 : Int32) TJ65 _ XJ65 eJ65 NJ65
            · refine go (fun t k => XS.ifNo XJ65.here hx rfl (hb hby d2_78) rfl ((if0 _ _).trans (feq hc78).1) k) ?_
              show Gl _ _ _ _ _ _ _ _ (TJ65.setTop (mkF m 81 #[.val (.int p1), .val (.long ((p1.toInt64) - (48 : Int64))), .second, .val (.int s0_26), .val (.int (p1 ||| (32 : Int32))), .val (.int s0_52), .val (.int s0_65)] []))
              exact J81  TJ65 _ XJ65 eJ65 NJ65
          · refine go (fun t k => XS.ifYes XJ65.here hx rfl (pc0 := 73) (pc' := 81) rfl (hb hby d2_73) rfl ((if0 _ _).trans (feq hc73).2) (by decide) (by decide) k) ?_
            show Gl _ _ _ _ _ _ _ _ (TJ65.setTop (mkF m 81 #[.val (.int p1), .val (.long ((p1.toInt64) - (48 : Int64))), .second, .val (.int s0_26), .val (.int (p1 ||| (32 : Int32))), .val (.int s0_52), .val (.int s0_65)] []))
            exact J81  TJ65 _ XJ65 eJ65 NJ65
        · refine go (fun t k => XS.ifYes XJ65.here hx rfl (pc0 := 68) (pc' := 81) rfl (hb hby d2_68) rfl ((if0 _ _).trans (feq hc68).2) (by decide) (by decide) k) ?_
          show Gl _ _ _ _ _ _ _ _ (TJ65.setTop (mkF m 81 #[.val (.int p1), .val (.long ((p1.toInt64) - (48 : Int64))), .second, .val (.int s0_26), .val (.int (p1 ||| (32 : Int32))), .val (.int s0_52), .val (.int s0_65)] []))
          exact J81  TJ65 _ XJ65 eJ65 NJ65
      refine gI (c := p1 = (95 : Int32)) (fun hc57 => ?_) (fun hc57 => ?_)
      · refine go (fun t k => XS.icmpNo XJ52.here hx rfl (hb hby d2_57) rfl (teq hc57).2 k) ?_
        show Gl _ _ _ _ _ _ _ _ (TJ52.setTop (mkF m 60 #[.val (.int p1), .val (.long ((p1.toInt64) - (48 : Int64))), .second, .val (.int s0_26), .val (.int (p1 ||| (32 : Int32))), .val (.int s0_52), .unset] []))
        refine go (fun t k => XS.iconst XJ52.here hx rfl (hb hby d2_60) k) ?_
        show Gl _ _ _ _ _ _ _ _ (TJ52.setTop (mkF m 61 #[.val (.int p1), .val (.long ((p1.toInt64) - (48 : Int64))), .second, .val (.int s0_26), .val (.int (p1 ||| (32 : Int32))), .val (.int s0_52), .unset] [(.int (1 : Int32))]))
        refine go (fun t k => XS.goto XJ52.here hx rfl (pc0 := 61) (pc' := 65) rfl (hb hby d2_61) (by decide) (by decide) k) ?_
        show Gl _ _ _ _ _ _ _ _ (TJ52.setTop (mkF m 65 #[.val (.int p1), .val (.long ((p1.toInt64) - (48 : Int64))), .second, .val (.int s0_26), .val (.int (p1 ||| (32 : Int32))), .val (.int s0_52), .unset] [(.int (1 : Int32))]))
        exact J65 (1 : Int32) TJ52 _ XJ52 eJ52 NJ52
      · refine go (fun t k => XS.icmpYes XJ52.here hx rfl (pc0 := 57) (pc' := 64) rfl (hb hby d2_57) rfl (feq hc57).2 (by decide) (by decide) k) ?_
        show Gl _ _ _ _ _ _ _ _ (TJ52.setTop (mkF m 64 #[.val (.int p1), .val (.long ((p1.toInt64) - (48 : Int64))), .second, .val (.int s0_26), .val (.int (p1 ||| (32 : Int32))), .val (.int s0_52), .unset] []))
        refine go (fun t k => XS.iconst XJ52.here hx rfl (hb hby d2_64) k) ?_
        show Gl _ _ _ _ _ _ _ _ (TJ52.setTop (mkF m 65 #[.val (.int p1), .val (.long ((p1.toInt64) - (48 : Int64))), .second, .val (.int s0_26), .val (.int (p1 ||| (32 : Int32))), .val (.int s0_52), .unset] [(.int (0 : Int32))]))
        exact J65 (0 : Int32) TJ52 _ XJ52 eJ52 NJ52
    have J51 : ∀  (TJ51 : State) (lJ51 : List Loc) (XJ51 : Stand p l e ({ frames := 0, cells := 0, slots := 0, locals := 0 } : Room) s m #[(.int p1)] below meth c TJ51 lJ51 0 0) (eJ51 : TJ51.heap = h0) (NJ51 : Fr n0 lJ51), Gl p e below s n0 ({ frames := 0, cells := 0, slots := 0, locals := 0 } : Room).cells ({ frames := 0, cells := 0, slots := 0, locals := 0 } : Room).slots (Kv (some (.int (b2_51 p1 s0_26))) (fun h => h = h0)) (TJ51.setTop (mkF m 51 #[.val (.int p1), .val (.long ((p1.toInt64) - (48 : Int64))), .second, .val (.int s0_26), .val (.int (p1 ||| (32 : Int32))), .unset, .unset] [])) := by
      intro  TJ51 lJ51 XJ51 eJ51 NJ51
      show Gl _ _ _ _ _ _ _ (Kv (some (.int (b2_52 p1 s0_26 (0 : Int32)))) _) _
      refine go (fun t k => XS.iconst XJ51.here hx rfl (hb hby d2_51) k) ?_
      show Gl _ _ _ _ _ _ _ _ (TJ51.setTop (mkF m 52 #[.val (.int p1), .val (.long ((p1.toInt64) - (48 : Int64))), .second, .val (.int s0_26), .val (.int (p1 ||| (32 : Int32))), .unset, .unset] [(.int (0 : Int32))]))
      exact J52 (0 : Int32) TJ51 _ XJ51 eJ51 NJ51
    refine gI (c := (p1 ||| (32 : Int32)) < (97 : Int32)) (fun hc37 => ?_) (fun hc37 => ?_)
    · refine go (fun t k => XS.icmpYes XJ26.here hx rfl (pc0 := 37) (pc' := 51) rfl (hb hby d2_37) rfl (tlt hc37).1 (by decide) (by decide) k) ?_
      show Gl _ _ _ _ _ _ _ _ (TJ26.setTop (mkF m 51 #[.val (.int p1), .val (.long ((p1.toInt64) - (48 : Int64))), .second, .val (.int s0_26), .val (.int (p1 ||| (32 : Int32))), .unset, .unset] []))
      exact J51  TJ26 _ XJ26 eJ26 NJ26
    · refine go (fun t k => XS.icmpNo XJ26.here hx rfl (hb hby d2_37) rfl (flt hc37).1 k) ?_
      show Gl _ _ _ _ _ _ _ _ (TJ26.setTop (mkF m 40 #[.val (.int p1), .val (.long ((p1.toInt64) - (48 : Int64))), .second, .val (.int s0_26), .val (.int (p1 ||| (32 : Int32))), .unset, .unset] []))
      refine go (fun t k => XS.iload XJ26.here hx rfl (hb hby d2_40) rfl  k) ?_
      show Gl _ _ _ _ _ _ _ _ (TJ26.setTop (mkF m 42 #[.val (.int p1), .val (.long ((p1.toInt64) - (48 : Int64))), .second, .val (.int s0_26), .val (.int (p1 ||| (32 : Int32))), .unset, .unset] [(.int (p1 ||| (32 : Int32)))]))
      refine go (fun t k => XS.bipush XJ26.here hx rfl (hb hby d2_42) k) ?_
      show Gl _ _ _ _ _ _ _ _ (TJ26.setTop (mkF m 44 #[.val (.int p1), .val (.long ((p1.toInt64) - (48 : Int64))), .second, .val (.int s0_26), .val (.int (p1 ||| (32 : Int32))), .unset, .unset] [(.int (122 : Int32)), (.int (p1 ||| (32 : Int32)))]))
      refine gI (c := (122 : Int32) < (p1 ||| (32 : Int32))) (fun hc44 => ?_) (fun hc44 => ?_)
      · refine go (fun t k => XS.icmpYes XJ26.here hx rfl (pc0 := 44) (pc' := 51) rfl (hb hby d2_44) rfl (tlt hc44).2.2.1 (by decide) (by decide) k) ?_
        show Gl _ _ _ _ _ _ _ _ (TJ26.setTop (mkF m 51 #[.val (.int p1), .val (.long ((p1.toInt64) - (48 : Int64))), .second, .val (.int s0_26), .val (.int (p1 ||| (32 : Int32))), .unset, .unset] []))
        exact J51  TJ26 _ XJ26 eJ26 NJ26
      · refine go (fun t k => XS.icmpNo XJ26.here hx rfl (hb hby d2_44) rfl (flt hc44).2.2.1 k) ?_
        show Gl _ _ _ _ _ _ _ _ (TJ26.setTop (mkF m 47 #[.val (.int p1), .val (.long ((p1.toInt64) - (48 : Int64))), .second, .val (.int s0_26), .val (.int (p1 ||| (32 : Int32))), .unset, .unset] []))
        refine go (fun t k => XS.iconst XJ26.here hx rfl (hb hby d2_47) k) ?_
        show Gl _ _ _ _ _ _ _ _ (TJ26.setTop (mkF m 48 #[.val (.int p1), .val (.long ((p1.toInt64) - (48 : Int64))), .second, .val (.int s0_26), .val (.int (p1 ||| (32 : Int32))), .unset, .unset] [(.int (1 : Int32))]))
        refine go (fun t k => XS.goto XJ26.here hx rfl (pc0 := 48) (pc' := 52) rfl (hb hby d2_48) (by decide) (by decide) k) ?_
        show Gl _ _ _ _ _ _ _ _ (TJ26.setTop (mkF m 52 #[.val (.int p1), .val (.long ((p1.toInt64) - (48 : Int64))), .second, .val (.int s0_26), .val (.int (p1 ||| (32 : Int32))), .unset, .unset] [(.int (1 : Int32))]))
        exact J52 (1 : Int32) TJ26 _ XJ26 eJ26 NJ26
  have J25 : ∀  (TJ25 : State) (lJ25 : List Loc) (XJ25 : Stand p l e ({ frames := 0, cells := 0, slots := 0, locals := 0 } : Room) s m #[(.int p1)] below meth c TJ25 lJ25 0 0) (eJ25 : TJ25.heap = h0) (NJ25 : Fr n0 lJ25), Gl p e below s n0 ({ frames := 0, cells := 0, slots := 0, locals := 0 } : Room).cells ({ frames := 0, cells := 0, slots := 0, locals := 0 } : Room).slots (Kv (some (.int (b2_25 p1))) (fun h => h = h0)) (TJ25.setTop (mkF m 25 #[.val (.int p1), .val (.long ((p1.toInt64) - (48 : Int64))), .second, .unset, .unset, .unset, .unset] [])) := by
    intro  TJ25 lJ25 XJ25 eJ25 NJ25
    show Gl _ _ _ _ _ _ _ (Kv (some (.int (b2_26 p1 (0 : Int32)))) _) _
    refine go (fun t k => XS.iconst XJ25.here hx rfl (hb hby d2_25) k) ?_
    show Gl _ _ _ _ _ _ _ _ (TJ25.setTop (mkF m 26 #[.val (.int p1), .val (.long ((p1.toInt64) - (48 : Int64))), .second, .unset, .unset, .unset, .unset] [(.int (0 : Int32))]))
    exact J26 (0 : Int32) TJ25 _ XJ25 eJ25 NJ25
  refine gI (c := ((p1.toInt64) - (48 : Int64)) < (0 : Int64)) (fun hc10 => ?_) (fun hc10 => ?_)
  · refine go (fun t k => XS.ifYes X0.here hx rfl (pc0 := 10) (pc' := 25) rfl (hb hby d2_10) rfl ((if0 _ _).trans (tlt ((lw_lt ((p1.toInt64) - (48 : Int64)) (0 : Int64)).mpr hc10)).1) (by decide) (by decide) k) ?_
    show Gl _ _ _ _ _ _ _ _ (s₁.setTop (mkF m 25 #[.val (.int p1), .val (.long ((p1.toInt64) - (48 : Int64))), .second, .unset, .unset, .unset, .unset] []))
    exact J25  s₁ _ X0 e0 N0
  · refine go (fun t k => XS.ifNo X0.here hx rfl (hb hby d2_10) rfl ((if0 _ _).trans (flt (mt (lw_lt ((p1.toInt64) - (48 : Int64)) (0 : Int64)).mp hc10)).1) k) ?_
    show Gl _ _ _ _ _ _ _ _ (s₁.setTop (mkF m 13 #[.val (.int p1), .val (.long ((p1.toInt64) - (48 : Int64))), .second, .unset, .unset, .unset, .unset] []))
    refine go (fun t k => XS.lloadN X0.here hx rfl (hb hby d2_13) rfl  k) ?_
    show Gl _ _ _ _ _ _ _ _ (s₁.setTop (mkF m 14 #[.val (.int p1), .val (.long ((p1.toInt64) - (48 : Int64))), .second, .unset, .unset, .unset, .unset] [(.long ((p1.toInt64) - (48 : Int64)))]))
    refine go (fun t k => X0.ldc2Long hx hown (mvT hZ (hw _ (List.mem_of_getElem? (i := 9) rfl))) (g := (mkF m 14 #[.val (.int p1), .val (.long ((p1.toInt64) - (48 : Int64))), .second, .unset, .unset, .unset, .unset] [(.long ((p1.toInt64) - (48 : Int64)))])) rfl (hb hby d2_14) _ k) ?_
    show Gl _ _ _ _ _ _ _ _ (s₁.setTop (mkF m 17 #[.val (.int p1), .val (.long ((p1.toInt64) - (48 : Int64))), .second, .unset, .unset, .unset, .unset] [(.long (10 : Int64)), (.long ((p1.toInt64) - (48 : Int64)))]))
    refine go (fun t k => XS.lcmp X0.here hx rfl (hb hby d2_17) rfl k) ?_
    show Gl _ _ _ _ _ _ _ _ (s₁.setTop (mkF m 18 #[.val (.int p1), .val (.long ((p1.toInt64) - (48 : Int64))), .second, .unset, .unset, .unset, .unset] [(.int (lcmpW ((p1.toInt64) - (48 : Int64)) (10 : Int64)))]))
    refine gI (c := ((p1.toInt64) - (48 : Int64)) < (10 : Int64)) (fun hc18 => ?_) (fun hc18 => ?_)
    · refine go (fun t k => XS.ifNo X0.here hx rfl (hb hby d2_18) rfl ((if0 _ _).trans (tlt ((lw_lt ((p1.toInt64) - (48 : Int64)) (10 : Int64)).mpr hc18)).2.1) k) ?_
      show Gl _ _ _ _ _ _ _ _ (s₁.setTop (mkF m 21 #[.val (.int p1), .val (.long ((p1.toInt64) - (48 : Int64))), .second, .unset, .unset, .unset, .unset] []))
      refine go (fun t k => XS.iconst X0.here hx rfl (hb hby d2_21) k) ?_
      show Gl _ _ _ _ _ _ _ _ (s₁.setTop (mkF m 22 #[.val (.int p1), .val (.long ((p1.toInt64) - (48 : Int64))), .second, .unset, .unset, .unset, .unset] [(.int (1 : Int32))]))
      refine go (fun t k => XS.goto X0.here hx rfl (pc0 := 22) (pc' := 26) rfl (hb hby d2_22) (by decide) (by decide) k) ?_
      show Gl _ _ _ _ _ _ _ _ (s₁.setTop (mkF m 26 #[.val (.int p1), .val (.long ((p1.toInt64) - (48 : Int64))), .second, .unset, .unset, .unset, .unset] [(.int (1 : Int32))]))
      exact J26 (1 : Int32) s₁ _ X0 e0 N0
    · refine go (fun t k => XS.ifYes X0.here hx rfl (pc0 := 18) (pc' := 25) rfl (hb hby d2_18) rfl ((if0 _ _).trans (flt (mt (lw_lt ((p1.toInt64) - (48 : Int64)) (10 : Int64)).mp hc18)).2.1) (by decide) (by decide) k) ?_
      show Gl _ _ _ _ _ _ _ _ (s₁.setTop (mkF m 25 #[.val (.int p1), .val (.long ((p1.toInt64) - (48 : Int64))), .second, .unset, .unset, .unset, .unset] []))
      exact J25  s₁ _ X0 e0 N0
theorem pd_0 : parseMethodDescriptor "(I)Z" = some ⟨[.int], some .boolean⟩ := by decide +kernel
theorem ef_0 (m : MethodId) (p1 : Int32) (p2 : Int32) : entryFrame m #[(.int p1), (.int p2)] maxLocals = mkF m 0 #[.val (.int p1), .val (.int p2), .unset, .unset, .unset] [] := by first | (simp [entryFrame, mkF, argsToLocals, Value.category, maxLocals]; done) | rfl
def b0_54 (s0_54 : Int32) : Int32 := (nar .boolean s0_54)
def b0_53  : Int32 := (b0_54 (0 : Int32))
def b0_38 (s0_21 : Int32) (s0_38 : Int32) : Int32 := (if s0_21 = (0 : Int32) then b0_53 else (if s0_38 = (0 : Int32) then b0_53 else (b0_54 (1 : Int32))))
def b0_21 (p2 : Int32) (s0_21 : Int32) : Int32 := (if (b1_0 (p2 &&& (127 : Int32))) = (b2_0 (p2 &&& (127 : Int32))) then (b0_38 s0_21 (1 : Int32)) else (b0_38 s0_21 (0 : Int32)))
def b0_0 (p1 : Int32) (p2 : Int32) : Int32 := (if (b1_0 p1) = (b2_0 p1) then (b0_21 p2 (1 : Int32)) else (b0_21 p2 (0 : Int32)))
set_option maxRecDepth 65536 in
set_option maxHeartbeats 40000000 in
theorem rm0 (l : Launch) (Z : State) (a0 : Array Value) (hw : ∀ d ∈ tables_1, d.before a0 Z = true) (ws : List Jvm.Cond) (p1 : Int32) (p2 : Int32) (h0 : Heap) (n0 : Nat) (Z0 : n0 ≤ h0.size) :
    MetFree l x (head1 (Jvm.Cond.code x code maxLocals ret :: ws) room_1) (fun a U => a = #[(.int p1), (.int p2)] ∧ Z.Warmed39 U.vm ∧ U.heap = h0) (fun _ _ _ _ _ => True) (fun _ U o U' => ∃ v L, o = .returned v ∧ QK n0 (Kv (some (.int (b0_0 p1 p2))) (fun _ => True)) v U'.heap L ∧ FrameEnd U o U' L room_1.cells room_1.slots) := by
  refine MetFree.of_bodySF (plainFor_of_name pn_1) hisR ?_
  intro p e s m args below meth c s₁ Bd hml0 hP hK
  obtain ⟨rfl, hZ, hh⟩ := hP
  have hx := Bd.exec
  have hby := Bd.bytes
  have hml : c.maxLocals = 5 := hml0
  have hown : s.vm.findClass "com/example/kette/kette/DlgpSyntaxIsIdentifierPartPinLaw" = some m.cls := findClass_of_methodNamed Bd.named
  have hnm := (name_of_methodNamed Bd.named Bd.method).1
  have X0 : Stand p l e room_1 s m #[(.int p1), (.int p2)] below meth c s₁ [] 0 0 := Stand.of_body Bd
  have e0 : s₁.heap = h0 := by rw [← hh, Bd.state]; rfl
  have N0 := Fr.nil n0
  refine gl_start (ef_0 m p1 p2) ?_
  show Gl p e below s n0 room_1.cells room_1.slots (Kv (some (.int (if (b1_0 p1) = (b2_0 p1) then (b0_21 p2 (1 : Int32)) else (b0_21 p2 (0 : Int32))))) (fun _ => True)) (s₁.setTop (mkF m 0 #[.val (.int p1), .val (.int p2), .unset, .unset, .unset] []))
  refine go (fun t k => XS.iloadN X0.here hx rfl (hb hby at_0) rfl  k) ?_
  show Gl _ _ _ _ _ _ _ _ (s₁.setTop (mkF m 1 #[.val (.int p1), .val (.int p2), .unset, .unset, .unset] [(.int p2)]))
  refine go (fun t k => XS.bipush X0.here hx rfl (hb hby at_1) k) ?_
  show Gl _ _ _ _ _ _ _ _ (s₁.setTop (mkF m 3 #[.val (.int p1), .val (.int p2), .unset, .unset, .unset] [(.int (127 : Int32)), (.int p2)]))
  refine go (fun t k => XS.iand X0.here hx rfl (hb hby at_3) rfl k) ?_
  show Gl _ _ _ _ _ _ _ _ (s₁.setTop (mkF m 4 #[.val (.int p1), .val (.int p2), .unset, .unset, .unset] [(.int (p2 &&& (127 : Int32)))]))
  refine go (fun t k => XS.istoreN X0.here hx rfl (hb hby at_4) rfl (l' := #[.val (.int p1), .val (.int p2), .val (.int (p2 &&& (127 : Int32))), .unset, .unset]) rfl k) ?_
  show Gl _ _ _ _ _ _ _ _ (s₁.setTop (mkF m 5 #[.val (.int p1), .val (.int p2), .val (.int (p2 &&& (127 : Int32))), .unset, .unset] []))
  refine go (fun t k => XS.iloadN X0.here hx rfl (hb hby at_5) rfl  k) ?_
  show Gl _ _ _ _ _ _ _ _ (s₁.setTop (mkF m 6 #[.val (.int p1), .val (.int p2), .val (.int (p2 &&& (127 : Int32))), .unset, .unset] [(.int p1)]))
  obtain ⟨_, _, ⟨T1, L1, k1, n1⟩, -, X1, ⟨Lc1, hQ1, l1, y1, z1⟩, st1⟩ := Jvm.LawKit.callS X0 hx (y := (⟨"com/example/kette/kette/DlgpSyntax", "isIdentifierPart", "(I)Z"⟩ : MethodName)) hown (mvT hZ (hw _ (List.mem_of_getElem? (i := 0) rfl))) (mvT hZ (hw _ (List.mem_of_getElem? (i := 1) rfl))) (mvT hZ (hw _ (List.mem_of_getElem? (i := 2) rfl))) (mvT hZ (hw _ (List.mem_of_getElem? (i := 3) rfl))) (by decide) (backOf (W := 0) (rm1 l Z a0 hw [] p1 h0 n0 Z0 ) hZ (hw _ (List.mem_of_getElem? (i := 3) rfl)) (hw _ (List.mem_of_getElem? (i := 2) rfl)) (by decide) (by decide)) (g := (mkF m 6 #[.val (.int p1), .val (.int p2), .val (.int (p2 &&& (127 : Int32))), .unset, .unset] [(.int p1)])) rfl (by rw [hml]; rfl) (argsL := [(.int p1)]) (rest := []) (lenOf pd_0 rfl) rfl (by show 2 * 0 + _ ≤ _; exact Nat.le_of_eq rfl) (hb hby at_6) (fun _ _ => ⟨rfl, e0, (by decide : 0 + 0 ≤ _), (by decide : 0 + 0 ≤ _)⟩)
  dsimp only [Pt.U, Pt.locs, Pt.cells, Pt.slots] at X1 l1 y1 z1 st1 hQ1
  subst l1 y1 z1
  have X1 : Stand p l e room_1 s m #[(.int p1), (.int p2)] below meth c T1 _ 0 0 := X1
  obtain ⟨⟨rfl, e1'⟩, N1q⟩ := hQ1
  have e1 : T1.heap = h0 := e1'
  have N1 := Fr.app N0 N1q
  refine go (fun t k => st1 _ k) ?_
  show Gl _ _ _ _ _ _ _ _ (T1.setTop (mkF m 9 #[.val (.int p1), .val (.int p2), .val (.int (p2 &&& (127 : Int32))), .unset, .unset] [(.int (b1_0 p1))]))
  refine go (fun t k => XS.iloadN X1.here hx rfl (hb hby at_9) rfl  k) ?_
  show Gl _ _ _ _ _ _ _ _ (T1.setTop (mkF m 10 #[.val (.int p1), .val (.int p2), .val (.int (p2 &&& (127 : Int32))), .unset, .unset] [(.int p1), (.int (b1_0 p1))]))
  obtain ⟨_, _, ⟨T2, L2, k2, n2⟩, -, X2, ⟨Lc2, hQ2, l2, y2, z2⟩, st2⟩ := Jvm.LawKit.callS X1 hx (y := (⟨"com/example/kette/kette/DlgpSyntaxIsIdentifierPartPinLaw", "expected", "(I)Z"⟩ : MethodName)) hown (mvT hZ (hw _ (List.mem_of_getElem? (i := 4) rfl))) (mvT hZ (hw _ (List.mem_of_getElem? (i := 5) rfl))) (mvT hZ (hw _ (List.mem_of_getElem? (i := 6) rfl))) (mvT hZ (hw _ (List.mem_of_getElem? (i := 7) rfl))) (by decide) (backOf (W := 1) (rm2 l Z a0 hw [] p1 h0 n0 Z0 ) hZ (hw _ (List.mem_of_getElem? (i := 7) rfl)) (hw _ (List.mem_of_getElem? (i := 6) rfl)) (by decide) (by decide)) (g := (mkF m 10 #[.val (.int p1), .val (.int p2), .val (.int (p2 &&& (127 : Int32))), .unset, .unset] [(.int p1), (.int (b1_0 p1))])) rfl (by rw [hml]; rfl) (argsL := [(.int p1)]) (rest := [(.int (b1_0 p1))]) (lenOf pd_0 rfl) rfl (by show 2 * 0 + _ ≤ _; exact Nat.le_of_eq rfl) (hb hby at_10) (fun _ _ => ⟨rfl, e1, (by decide : 0 + 0 ≤ _), (by decide : 0 + 0 ≤ _)⟩)
  dsimp only [Pt.U, Pt.locs, Pt.cells, Pt.slots] at X2 l2 y2 z2 st2 hQ2
  subst l2 y2 z2
  have X2 : Stand p l e room_1 s m #[(.int p1), (.int p2)] below meth c T2 _ 0 0 := X2
  obtain ⟨⟨rfl, e2'⟩, N2q⟩ := hQ2
  have e2 : T2.heap = h0 := e2'
  have N2 := Fr.app N1 N2q
  refine go (fun t k => st2 _ k) ?_
  show Gl _ _ _ _ _ _ _ _ (T2.setTop (mkF m 13 #[.val (.int p1), .val (.int p2), .val (.int (p2 &&& (127 : Int32))), .unset, .unset] [(.int (b2_0 p1)), (.int (b1_0 p1))]))
  have J21 : ∀ (s0_21 : Int32) (TJ21 : State) (lJ21 : List Loc) (XJ21 : Stand p l e room_1 s m #[(.int p1), (.int p2)] below meth c TJ21 lJ21 0 0) (eJ21 : TJ21.heap = h0) (NJ21 : Fr n0 lJ21), Gl p e below s n0 room_1.cells room_1.slots (Kv (some (.int (b0_21 p2 s0_21))) (fun _ => True)) (TJ21.setTop (mkF m 21 #[.val (.int p1), .val (.int p2), .val (.int (p2 &&& (127 : Int32))), .unset, .unset] [(.int s0_21)])) := by
    intro s0_21 TJ21 lJ21 XJ21 eJ21 NJ21
    show Gl _ _ _ _ _ _ _ (Kv (some (.int (if (b1_0 (p2 &&& (127 : Int32))) = (b2_0 (p2 &&& (127 : Int32))) then (b0_38 s0_21 (1 : Int32)) else (b0_38 s0_21 (0 : Int32))))) _) _
    refine go (fun t k => XS.istoreN XJ21.here hx rfl (hb hby at_21) rfl (l' := #[.val (.int p1), .val (.int p2), .val (.int (p2 &&& (127 : Int32))), .val (.int s0_21), .unset]) rfl k) ?_
    show Gl _ _ _ _ _ _ _ _ (TJ21.setTop (mkF m 22 #[.val (.int p1), .val (.int p2), .val (.int (p2 &&& (127 : Int32))), .val (.int s0_21), .unset] []))
    refine go (fun t k => XS.iloadN XJ21.here hx rfl (hb hby at_22) rfl  k) ?_
    show Gl _ _ _ _ _ _ _ _ (TJ21.setTop (mkF m 23 #[.val (.int p1), .val (.int p2), .val (.int (p2 &&& (127 : Int32))), .val (.int s0_21), .unset] [(.int (p2 &&& (127 : Int32)))]))
    obtain ⟨_, _, ⟨T4, L4, k4, n4⟩, -, X4, ⟨Lc4, hQ4, l4, y4, z4⟩, st4⟩ := Jvm.LawKit.callS XJ21 hx (y := (⟨"com/example/kette/kette/DlgpSyntax", "isIdentifierPart", "(I)Z"⟩ : MethodName)) hown (mvT hZ (hw _ (List.mem_of_getElem? (i := 0) rfl))) (mvT hZ (hw _ (List.mem_of_getElem? (i := 1) rfl))) (mvT hZ (hw _ (List.mem_of_getElem? (i := 2) rfl))) (mvT hZ (hw _ (List.mem_of_getElem? (i := 3) rfl))) (by decide) (backOf (W := 0) (rm1 l Z a0 hw [] (p2 &&& (127 : Int32)) h0 n0 Z0 ) hZ (hw _ (List.mem_of_getElem? (i := 3) rfl)) (hw _ (List.mem_of_getElem? (i := 2) rfl)) (by decide) (by decide)) (g := (mkF m 23 #[.val (.int p1), .val (.int p2), .val (.int (p2 &&& (127 : Int32))), .val (.int s0_21), .unset] [(.int (p2 &&& (127 : Int32)))])) rfl (by rw [hml]; rfl) (argsL := [(.int (p2 &&& (127 : Int32)))]) (rest := []) (lenOf pd_0 rfl) rfl (by show 2 * 0 + _ ≤ _; exact Nat.le_of_eq rfl) (hb hby at_23) (fun _ _ => ⟨rfl, eJ21, (by decide : 0 + 0 ≤ _), (by decide : 0 + 0 ≤ _)⟩)
    dsimp only [Pt.U, Pt.locs, Pt.cells, Pt.slots] at X4 l4 y4 z4 st4 hQ4
    subst l4 y4 z4
    have X4 : Stand p l e room_1 s m #[(.int p1), (.int p2)] below meth c T4 _ 0 0 := X4
    obtain ⟨⟨rfl, e4'⟩, N4q⟩ := hQ4
    have e4 : T4.heap = h0 := e4'
    have N4 := Fr.app NJ21 N4q
    refine go (fun t k => st4 _ k) ?_
    show Gl _ _ _ _ _ _ _ _ (T4.setTop (mkF m 26 #[.val (.int p1), .val (.int p2), .val (.int (p2 &&& (127 : Int32))), .val (.int s0_21), .unset] [(.int (b1_0 (p2 &&& (127 : Int32))))]))
    refine go (fun t k => XS.iloadN X4.here hx rfl (hb hby at_26) rfl  k) ?_
    show Gl _ _ _ _ _ _ _ _ (T4.setTop (mkF m 27 #[.val (.int p1), .val (.int p2), .val (.int (p2 &&& (127 : Int32))), .val (.int s0_21), .unset] [(.int (p2 &&& (127 : Int32))), (.int (b1_0 (p2 &&& (127 : Int32))))]))
    obtain ⟨_, _, ⟨T5, L5, k5, n5⟩, -, X5, ⟨Lc5, hQ5, l5, y5, z5⟩, st5⟩ := Jvm.LawKit.callS X4 hx (y := (⟨"com/example/kette/kette/DlgpSyntaxIsIdentifierPartPinLaw", "expected", "(I)Z"⟩ : MethodName)) hown (mvT hZ (hw _ (List.mem_of_getElem? (i := 4) rfl))) (mvT hZ (hw _ (List.mem_of_getElem? (i := 5) rfl))) (mvT hZ (hw _ (List.mem_of_getElem? (i := 6) rfl))) (mvT hZ (hw _ (List.mem_of_getElem? (i := 7) rfl))) (by decide) (backOf (W := 1) (rm2 l Z a0 hw [] (p2 &&& (127 : Int32)) h0 n0 Z0 ) hZ (hw _ (List.mem_of_getElem? (i := 7) rfl)) (hw _ (List.mem_of_getElem? (i := 6) rfl)) (by decide) (by decide)) (g := (mkF m 27 #[.val (.int p1), .val (.int p2), .val (.int (p2 &&& (127 : Int32))), .val (.int s0_21), .unset] [(.int (p2 &&& (127 : Int32))), (.int (b1_0 (p2 &&& (127 : Int32))))])) rfl (by rw [hml]; rfl) (argsL := [(.int (p2 &&& (127 : Int32)))]) (rest := [(.int (b1_0 (p2 &&& (127 : Int32))))]) (lenOf pd_0 rfl) rfl (by show 2 * 0 + _ ≤ _; exact Nat.le_of_eq rfl) (hb hby at_27) (fun _ _ => ⟨rfl, e4, (by decide : 0 + 0 ≤ _), (by decide : 0 + 0 ≤ _)⟩)
    dsimp only [Pt.U, Pt.locs, Pt.cells, Pt.slots] at X5 l5 y5 z5 st5 hQ5
    subst l5 y5 z5
    have X5 : Stand p l e room_1 s m #[(.int p1), (.int p2)] below meth c T5 _ 0 0 := X5
    obtain ⟨⟨rfl, e5'⟩, N5q⟩ := hQ5
    have e5 : T5.heap = h0 := e5'
    have N5 := Fr.app N4 N5q
    refine go (fun t k => st5 _ k) ?_
    show Gl _ _ _ _ _ _ _ _ (T5.setTop (mkF m 30 #[.val (.int p1), .val (.int p2), .val (.int (p2 &&& (127 : Int32))), .val (.int s0_21), .unset] [(.int (b2_0 (p2 &&& (127 : Int32)))), (.int (b1_0 (p2 &&& (127 : Int32))))]))
    have J38 : ∀ (s0_38 : Int32) (TJ38 : State) (lJ38 : List Loc) (XJ38 : Stand p l e room_1 s m #[(.int p1), (.int p2)] below meth c TJ38 lJ38 0 0) (eJ38 : TJ38.heap = h0) (NJ38 : Fr n0 lJ38), Gl p e below s n0 room_1.cells room_1.slots (Kv (some (.int (b0_38 s0_21 s0_38))) (fun _ => True)) (TJ38.setTop (mkF m 38 #[.val (.int p1), .val (.int p2), .val (.int (p2 &&& (127 : Int32))), .val (.int s0_21), .unset] [(.int s0_38)])) := by
      intro s0_38 TJ38 lJ38 XJ38 eJ38 NJ38
      show Gl _ _ _ _ _ _ _ (Kv (some (.int (if s0_21 = (0 : Int32) then b0_53 else (if s0_38 = (0 : Int32) then b0_53 else (b0_54 (1 : Int32)))))) _) _
      refine go (fun t k => XS.istore XJ38.here hx rfl (hb hby at_38) rfl (l' := #[.val (.int p1), .val (.int p2), .val (.int (p2 &&& (127 : Int32))), .val (.int s0_21), .val (.int s0_38)]) rfl k) ?_
      show Gl _ _ _ _ _ _ _ _ (TJ38.setTop (mkF m 40 #[.val (.int p1), .val (.int p2), .val (.int (p2 &&& (127 : Int32))), .val (.int s0_21), .val (.int s0_38)] []))
      refine go (fun t k => XS.iloadN XJ38.here hx rfl (hb hby at_40) rfl  k) ?_
      show Gl _ _ _ _ _ _ _ _ (TJ38.setTop (mkF m 41 #[.val (.int p1), .val (.int p2), .val (.int (p2 &&& (127 : Int32))), .val (.int s0_21), .val (.int s0_38)] [(.int s0_21)]))
      have J54 : ∀ (s0_54 : Int32) (TJ54 : State) (lJ54 : List Loc) (XJ54 : Stand p l e room_1 s m #[(.int p1), (.int p2)] below meth c TJ54 lJ54 0 0) (eJ54 : TJ54.heap = h0) (NJ54 : Fr n0 lJ54), Gl p e below s n0 room_1.cells room_1.slots (Kv (some (.int (b0_54 s0_54))) (fun _ => True)) (TJ54.setTop (mkF m 54 #[.val (.int p1), .val (.int p2), .val (.int (p2 &&& (127 : Int32))), .val (.int s0_21), .val (.int s0_38)] [(.int s0_54)])) := by
        intro s0_54 TJ54 lJ54 XJ54 eJ54 NJ54
        show Gl _ _ _ _ _ _ _ (Kv (some (.int (nar .boolean s0_54))) _) _
        exact endN XJ54 hx Bd (t := .boolean) (by simp) (hb hby at_54) ⟨rfl, trivial⟩ NJ54 (by decide) (by decide)
      have J53 : ∀  (TJ53 : State) (lJ53 : List Loc) (XJ53 : Stand p l e room_1 s m #[(.int p1), (.int p2)] below meth c TJ53 lJ53 0 0) (eJ53 : TJ53.heap = h0) (NJ53 : Fr n0 lJ53), Gl p e below s n0 room_1.cells room_1.slots (Kv (some (.int b0_53)) (fun _ => True)) (TJ53.setTop (mkF m 53 #[.val (.int p1), .val (.int p2), .val (.int (p2 &&& (127 : Int32))), .val (.int s0_21), .val (.int s0_38)] [])) := by
        intro  TJ53 lJ53 XJ53 eJ53 NJ53
        show Gl _ _ _ _ _ _ _ (Kv (some (.int (b0_54 (0 : Int32)))) _) _
        refine go (fun t k => XS.iconst XJ53.here hx rfl (hb hby at_53) k) ?_
        show Gl _ _ _ _ _ _ _ _ (TJ53.setTop (mkF m 54 #[.val (.int p1), .val (.int p2), .val (.int (p2 &&& (127 : Int32))), .val (.int s0_21), .val (.int s0_38)] [(.int (0 : Int32))]))
        exact J54 (0 : Int32) TJ53 _ XJ53 eJ53 NJ53
      refine gI (c := s0_21 = (0 : Int32)) (fun hc41 => ?_) (fun hc41 => ?_)
      · refine go (fun t k => XS.ifYes XJ38.here hx rfl (pc0 := 41) (pc' := 53) rfl (hb hby at_41) rfl ((if0 _ _).trans (teq hc41).1) (by decide) (by decide) k) ?_
        show Gl _ _ _ _ _ _ _ _ (TJ38.setTop (mkF m 53 #[.val (.int p1), .val (.int p2), .val (.int (p2 &&& (127 : Int32))), .val (.int s0_21), .val (.int s0_38)] []))
        exact J53  TJ38 _ XJ38 eJ38 NJ38
      · refine go (fun t k => XS.ifNo XJ38.here hx rfl (hb hby at_41) rfl ((if0 _ _).trans (feq hc41).1) k) ?_
        show Gl _ _ _ _ _ _ _ _ (TJ38.setTop (mkF m 44 #[.val (.int p1), .val (.int p2), .val (.int (p2 &&& (127 : Int32))), .val (.int s0_21), .val (.int s0_38)] []))
        refine go (fun t k => XS.iload XJ38.here hx rfl (hb hby at_44) rfl  k) ?_
        show Gl _ _ _ _ _ _ _ _ (TJ38.setTop (mkF m 46 #[.val (.int p1), .val (.int p2), .val (.int (p2 &&& (127 : Int32))), .val (.int s0_21), .val (.int s0_38)] [(.int s0_38)]))
        refine gI (c := s0_38 = (0 : Int32)) (fun hc46 => ?_) (fun hc46 => ?_)
        · refine go (fun t k => XS.ifYes XJ38.here hx rfl (pc0 := 46) (pc' := 53) rfl (hb hby at_46) rfl ((if0 _ _).trans (teq hc46).1) (by decide) (by decide) k) ?_
          show Gl _ _ _ _ _ _ _ _ (TJ38.setTop (mkF m 53 #[.val (.int p1), .val (.int p2), .val (.int (p2 &&& (127 : Int32))), .val (.int s0_21), .val (.int s0_38)] []))
          exact J53  TJ38 _ XJ38 eJ38 NJ38
        · refine go (fun t k => XS.ifNo XJ38.here hx rfl (hb hby at_46) rfl ((if0 _ _).trans (feq hc46).1) k) ?_
          show Gl _ _ _ _ _ _ _ _ (TJ38.setTop (mkF m 49 #[.val (.int p1), .val (.int p2), .val (.int (p2 &&& (127 : Int32))), .val (.int s0_21), .val (.int s0_38)] []))
          refine go (fun t k => XS.iconst XJ38.here hx rfl (hb hby at_49) k) ?_
          show Gl _ _ _ _ _ _ _ _ (TJ38.setTop (mkF m 50 #[.val (.int p1), .val (.int p2), .val (.int (p2 &&& (127 : Int32))), .val (.int s0_21), .val (.int s0_38)] [(.int (1 : Int32))]))
          refine go (fun t k => XS.goto XJ38.here hx rfl (pc0 := 50) (pc' := 54) rfl (hb hby at_50) (by decide) (by decide) k) ?_
          show Gl _ _ _ _ _ _ _ _ (TJ38.setTop (mkF m 54 #[.val (.int p1), .val (.int p2), .val (.int (p2 &&& (127 : Int32))), .val (.int s0_21), .val (.int s0_38)] [(.int (1 : Int32))]))
          exact J54 (1 : Int32) TJ38 _ XJ38 eJ38 NJ38
    refine gI (c := (b1_0 (p2 &&& (127 : Int32))) = (b2_0 (p2 &&& (127 : Int32)))) (fun hc30 => ?_) (fun hc30 => ?_)
    · refine go (fun t k => XS.icmpNo X5.here hx rfl (hb hby at_30) rfl (teq hc30).2 k) ?_
      show Gl _ _ _ _ _ _ _ _ (T5.setTop (mkF m 33 #[.val (.int p1), .val (.int p2), .val (.int (p2 &&& (127 : Int32))), .val (.int s0_21), .unset] []))
      refine go (fun t k => XS.iconst X5.here hx rfl (hb hby at_33) k) ?_
      show Gl _ _ _ _ _ _ _ _ (T5.setTop (mkF m 34 #[.val (.int p1), .val (.int p2), .val (.int (p2 &&& (127 : Int32))), .val (.int s0_21), .unset] [(.int (1 : Int32))]))
      refine go (fun t k => XS.goto X5.here hx rfl (pc0 := 34) (pc' := 38) rfl (hb hby at_34) (by decide) (by decide) k) ?_
      show Gl _ _ _ _ _ _ _ _ (T5.setTop (mkF m 38 #[.val (.int p1), .val (.int p2), .val (.int (p2 &&& (127 : Int32))), .val (.int s0_21), .unset] [(.int (1 : Int32))]))
      exact J38 (1 : Int32) T5 _ X5 e5 N5
    · refine go (fun t k => XS.icmpYes X5.here hx rfl (pc0 := 30) (pc' := 37) rfl (hb hby at_30) rfl (feq hc30).2 (by decide) (by decide) k) ?_
      show Gl _ _ _ _ _ _ _ _ (T5.setTop (mkF m 37 #[.val (.int p1), .val (.int p2), .val (.int (p2 &&& (127 : Int32))), .val (.int s0_21), .unset] []))
      refine go (fun t k => XS.iconst X5.here hx rfl (hb hby at_37) k) ?_
      show Gl _ _ _ _ _ _ _ _ (T5.setTop (mkF m 38 #[.val (.int p1), .val (.int p2), .val (.int (p2 &&& (127 : Int32))), .val (.int s0_21), .unset] [(.int (0 : Int32))]))
      exact J38 (0 : Int32) T5 _ X5 e5 N5
  refine gI (c := (b1_0 p1) = (b2_0 p1)) (fun hc13 => ?_) (fun hc13 => ?_)
  · refine go (fun t k => XS.icmpNo X2.here hx rfl (hb hby at_13) rfl (teq hc13).2 k) ?_
    show Gl _ _ _ _ _ _ _ _ (T2.setTop (mkF m 16 #[.val (.int p1), .val (.int p2), .val (.int (p2 &&& (127 : Int32))), .unset, .unset] []))
    refine go (fun t k => XS.iconst X2.here hx rfl (hb hby at_16) k) ?_
    show Gl _ _ _ _ _ _ _ _ (T2.setTop (mkF m 17 #[.val (.int p1), .val (.int p2), .val (.int (p2 &&& (127 : Int32))), .unset, .unset] [(.int (1 : Int32))]))
    refine go (fun t k => XS.goto X2.here hx rfl (pc0 := 17) (pc' := 21) rfl (hb hby at_17) (by decide) (by decide) k) ?_
    show Gl _ _ _ _ _ _ _ _ (T2.setTop (mkF m 21 #[.val (.int p1), .val (.int p2), .val (.int (p2 &&& (127 : Int32))), .unset, .unset] [(.int (1 : Int32))]))
    exact J21 (1 : Int32) T2 _ X2 e2 N2
  · refine go (fun t k => XS.icmpYes X2.here hx rfl (pc0 := 13) (pc' := 20) rfl (hb hby at_13) rfl (feq hc13).2 (by decide) (by decide) k) ?_
    show Gl _ _ _ _ _ _ _ _ (T2.setTop (mkF m 20 #[.val (.int p1), .val (.int p2), .val (.int (p2 &&& (127 : Int32))), .unset, .unset] []))
    refine go (fun t k => XS.iconst X2.here hx rfl (hb hby at_20) k) ?_
    show Gl _ _ _ _ _ _ _ _ (T2.setTop (mkF m 21 #[.val (.int p1), .val (.int p2), .val (.int (p2 &&& (127 : Int32))), .unset, .unset] [(.int (0 : Int32))]))
    exact J21 (0 : Int32) T2 _ X2 e2 N2
theorem own_nat_or32 (n : Nat) : n ||| 32 = if n / 32 % 2 = 0 then n + 32 else n := by
  have h1 : ∀ r : Fin 64, (r.val ||| 32) < 64 ∧ r.val ||| 32 = if r.val / 32 % 2 = 0 then r.val + 32 else r.val := by decide
  have h2 := h1 ⟨n % 64, Nat.mod_lt _ (by decide)⟩
  dsimp only at h2
  have e1 : n = 2 ^ 6 * (n / 64) + n % 64 := by omega
  have e2 := Nat.two_pow_add_eq_or_of_lt (i := 6) (b := n % 64) (Nat.mod_lt _ (by decide)) (n / 64)
  have e3 := Nat.two_pow_add_eq_or_of_lt (i := 6) (b := (n % 64) ||| 32) h2.1 (n / 64)
  have e4 : n ||| 32 = 2 ^ 6 * (n / 64) + ((n % 64) ||| 32) := by
    rw [e3, ← Nat.or_assoc, ← e2, ← e1]
  rw [e4, h2.2]
  split <;> split <;> omega
theorem own_or32 (x : Int32) : (x ||| 32).toInt = if x.toInt / 32 % 2 = 0 then x.toInt + 32 else x.toInt := by
  have e : (x ||| 32).toInt = (x.toBitVec ||| 32#32).toInt := rfl
  have e' : x.toInt = x.toBitVec.toInt := rfl
  rw [e, e', BitVec.toInt_eq_toNat_cond, BitVec.toInt_eq_toNat_cond, BitVec.toNat_or]
  have h := x.toBitVec.isLt
  generalize x.toBitVec.toNat = n at *
  rw [show (32#32).toNat = 32 from rfl, own_nat_or32]
  (repeat' split) <;> omega
theorem own_same (c : Int32) : b1_0 c = b2_0 c := by
  have h1 := own_or32 c
  have k0 : b1_47 0 = 0 := rfl
  have k1 : b1_42 = 1 := rfl
  have m0 : b2_86 0 = 0 := rfl
  have m1 : b2_81 = 1 := rfl
  have z10 : ¬ ((1 : Int32) = 0) := by decide
  have q1 : b1_0 c = if (48 ≤ c.toInt ∧ c.toInt ≤ 57) ∨ (97 ≤ c.toInt ∧ c.toInt ≤ 122) ∨ (65 ≤ c.toInt ∧ c.toInt ≤ 90) ∨ c.toInt = 95 then 1 else 0 := by
    unfold b1_0 b1_12 b1_24 b1_36
    simp only [k0, k1, Int32.lt_iff_toInt_lt, ← Int32.toInt_inj, Int32.reduceToInt]
    (repeat' split) <;> first | rfl | (exfalso; omega)
  have q65 : ∀ s t u : Int32, b2_65 s t u = if s = 0 ∧ t = 0 ∧ u = 0 then 0 else 1 := by
    intro s t u
    unfold b2_65
    simp only [m0, m1]
    by_cases hs : s = 0 <;> by_cases ht : t = 0 <;> by_cases hu : u = 0 <;> simp [hs, ht, hu]
  have q2 : ∀ s : Int32, b2_26 c s = if s ≠ 0 ∨ (97 ≤ (c ||| 32).toInt ∧ (c ||| 32).toInt ≤ 122) ∨ c.toInt = 95 then 1 else 0 := by
    intro s
    unfold b2_26 b2_51 b2_52
    simp only [q65, Int32.lt_iff_toInt_lt, Int32.reduceToInt, z10, and_false, and_true, if_false]
    have z95 : c = 95 ↔ c.toInt = 95 := by rw [← Int32.toInt_inj]; rfl
    by_cases hs : s = 0
    · simp only [hs, if_true, ne_eq, not_true, false_or, z95]
      (repeat' split) <;> first | rfl | (exfalso; omega)
    · simp only [hs, if_false, ne_eq, not_false_eq_true, true_or, if_true, false_and]
      (repeat' split) <;> rfl
  have e64 : ((c.toInt64) - (48 : Int64)).toInt = c.toInt - 48 := by
    have a := Jvm.Kit.i64_of_i32 c
    have b1 := c.toInt_lt
    have b2 := c.le_toInt
    rw [Jvm.Kit.i64_sub (by rw [a]; simp only [Int64.reduceToInt]; omega) (by rw [a]; simp only [Int64.reduceToInt]; omega), a]; rfl
  have q3 : b2_0 c = if (48 ≤ c.toInt ∧ c.toInt ≤ 57) ∨ (97 ≤ (c ||| 32).toInt ∧ (c ||| 32).toInt ≤ 122) ∨ c.toInt = 95 then 1 else 0 := by
    unfold b2_0 b2_25
    rw [q2, q2]
    simp only [Int64.lt_iff_toInt_lt, e64, Int64.reduceToInt, ne_eq, not_true, false_or, z10, not_false_eq_true, true_or, if_true]
    (repeat' split) <;> first | rfl | (exfalso; omega)
  rw [q1, q3]
  generalize (c ||| 32) = d at *
  (repeat' split) <;> first | rfl | (exfalso; split at h1 <;> omega)
theorem law_eq (p1 p2 : Int32) : b0_0 p1 p2 = 1 := by
  unfold b0_0 b0_21
  rw [if_pos (own_same _), if_pos (own_same _)]; rfl
set_option maxRecDepth 65536 in
set_option maxHeartbeats 40000000 in
theorem comes_1 {Post : Tables → Env → Array Value → State → Outcome → State → Prop} (hpost : ∀ tb e args s v u, (limb_1_1.after args s (.returned v) u = true ∧ limb_1_2.after args s (.returned v) u = true ∧ True) → FrameEnd s (.returned v) u (Jvm.fieldLocs frame_1_writes args s ++ Jvm.arrayLocs frame_1_arrays args s ++ Jvm.staticLocs frame_1_statics s) 0 0 → Post tb e args s (.returned v) u) :
    ArmFor flags0 classFile x code maxLocals ret World_1 tables_1 room_1 Calls_1 rest_1 Pre_1 Post := by
  intro l hfl _ _ p e ha hc hk s m args below hf hA hF happ hP
  obtain ⟨hcalls, hrest, hpre⟩ := hP
  obtain ⟨-, -, -, hnamed, -, -, -, hat⟩ := (Spec.applies_iff hf).mp happ
  obtain ⟨hg, hn⟩ := and_e (Cond.before_iff.mp (show (Jvm.Cond.and given_1 narrow_1).before args s = true from hpre))
  obtain ⟨g1, g2⟩ := and_e hg
  obtain ⟨g3, g4⟩ := and_e g2
  obtain ⟨w0, w1, rfl⟩ : ∃ w0 w1 : Value, args = #[w0, w1] := by
    have hs : args.size = 2 := by simpa [Cond.value, given_1] using g1
    obtain ⟨L⟩ := args
    match L, hs with
    | [w0, w1], _ => exact ⟨w0, w1, rfl⟩
  have hw := fun d (hd : d ∈ tables_1) => atoms_spec (ws := Jvm.Cond.code x code maxLocals ret :: tables_1) hat d (List.mem_cons_of_mem _ hd)
  have hfit : Fit s := fun {y c} hc i hi => by
    obtain ⟨ha, rfl⟩ := Array.getElem?_eq_some_iff.mp hc
    have q := List.all_eq_true.mp ((Array.all_eq_true_iff_forall_mem.mp hF) _ (Array.getElem_mem ha)) i (List.mem_range.mpr hi)
    simpa [Array.getElem?_eq_getElem hi] using q
  obtain ⟨i0, ei0⟩ := is_v g3
  obtain rfl : w0 = (.int i0) := Option.some.inj ei0
  obtain ⟨i1, ei1⟩ := is_v g4
  obtain rfl : w1 = (.int i1) := Option.some.inj ei1
  obtain ⟨n, o, h1, h2, h3, _, L, rfl, ⟨⟨hv, -⟩, N⟩, hq⟩ := rm0 l s _ hw tables_1 i0 i1  s.heap s.heap.size (Nat.le_refl _)  p e ha hc hk s m _ below hf ((Spec.applies_iff_loose hf).mp happ).1 ⟨rfl, State.Warmed39.refl s, rfl⟩ trivial
  rw [law_eq] at hv
  subst hv
  refine ⟨n, _, h1, h2, h3, hpost _ _ _ _ _ _ ⟨Cond.after_iff.mpr rfl, Cond.after_iff.mpr (eq_i res_at (Term.int_eval (1)) rfl), trivial⟩ ⟨hq.1, hq.2.1, (hq.2.2.sift fun y hy => Or.inr (N y hy)).mono (by decide) (by decide)⟩⟩
theorem main_1_1 : Claimed_1_1 := comes_1 fun _ _ _ _ _ _ h hF => ⟨h.1, hF⟩
theorem main_1_2 : Claimed_1_2 := comes_1 fun _ _ _ _ _ _ h hF => ⟨h.2.1, hF⟩
end Jvm.Pilot.@@N@@
namespace Jvm.Pilot.@@N@@
open Jvm Jvm.ClassFile Sem Op Lib Jvm.Free Jvm.Stand Jvm.Pilot.@@N@@.Jvm.D
/-! MADE BY PROGRAM (witnessworld.py) out of the Statement's table words and the real class files: 7 classes; the members and pool entries that the words name. The judged class is class 1, her method 2. -/
namespace start1
open Jvm.ClassFile
def u (s : String) : CpInfo := .utf8 (stringToUtf16 s)
/-- a pool by its gaps: so many unusable entries, then the entry; so many at the end -/
def gap : Nat → List CpInfo → List CpInfo
  | 0, r => r
  | n + 1, r => .unusable :: gap n r
def poolList (es : List (Nat × CpInfo)) (last : Nat) : List CpInfo := es.foldr (fun e r => gap e.1 (e.2 :: r)) (gap last [])
def pool (es : List (Nat × CpInfo)) (last : Nat) : Array CpInfo := ⟨poolList es last⟩
def fileOf (pool : Array CpInfo) (this : Nat) (attrs : Array Attribute := #[]) (ms : Array MethodInfo := #[]) (fl : Nat := 33) (sup : Nat := 0) (ifs : Array Nat := #[]) (fds : Array FieldInfo := #[]) : ClassFile where
  minorVersion := 0
  majorVersion := 65
  constantPool := pool
  accessFlags := fl
  thisClass := this
  superClass := sup
  interfaces := ifs
  fields := fds
  methods := ms
  attributes := attrs
def plain (name : String) (sup : Option ClassId) : Class where
  name := name
  kind := .ordinary
  loader := none
  accessFlags := 33
  super := sup
  interfaces := #[]
  cf := none
  fields := #[]
  methods := #[]
  instanceTypes := #[]
  staticTypes := #[]
  resolved := #[]
  callSites := []
  init := .initialized
  statics := none
  mirror := none

def pool0 : Array CpInfo := pool [(5, u "<init>"), (0, u "()V"), (1, .class_ 10), (1, u "java/lang/Object")] 113

def k0m0 : Method := { name := "<init>", desc := "()V", sig := { parameters := [], returnType := none }, accessFlags := 1, code := none }
/-- java/lang/Object -/
def k0 : Class := { plain "java/lang/Object" none with
  accessFlags := 33
  interfaces := #[]
  cf := some (fileOf pool0 8 #[] #[{ accessFlags := 1, nameIndex := 5, descriptorIndex := 6, attributes := #[] }] 33 0 #[] #[])
  fields := #[]
  methods := #[k0m0]
  instanceTypes := #[]
  staticTypes := #[]
  resolved := Array.replicate 124 none
  statics := none }

def pool1 : Array CpInfo := pool [(2, .class_ 4), (1, u "java/lang/Object"), (0, u "<init>"), (0, u "()V"), (0, .long 48), (1, .long 10), (1, .methodref 12 13), (0, .class_ 14), (0, .nameAndType 15 16), (0, u "com/example/kette/kette/DlgpSyntax"), (0, u "isIdentifierPart"), (0, u "(I)Z"), (0, .methodref 18 19), (0, .class_ 20), (0, .nameAndType 21 16), (0, u "com/example/kette/kette/DlgpSyntaxIsIdentifierPartPinLaw"), (0, u "expected"), (3, u "law"), (0, u "(II)Z")] 2

def k1m0 : Method := { name := "<init>", desc := "()V", sig := { parameters := [], returnType := none }, accessFlags := 2, code := none }
def k1c1 : Code := { maxStack := 4, maxLocals := 7, code := method_2_code, exceptionTable := #[], attributes := #[] }
def k1m1 : Method := { name := "expected", desc := "(I)Z", sig := { parameters := [.int], returnType := some .boolean }, accessFlags := 10, code := some k1c1 }
def k1c2 : Code := { maxStack := 2, maxLocals := 5, code := code, exceptionTable := #[], attributes := #[] }
def k1m2 : Method := { name := "law", desc := "(II)Z", sig := { parameters := [.int, .int], returnType := some .boolean }, accessFlags := 9, code := some k1c2 }
/-- com/example/kette/kette/DlgpSyntaxIsIdentifierPartPinLaw -/
def k1 : Class := { plain "com/example/kette/kette/DlgpSyntaxIsIdentifierPartPinLaw" (some 0) with
  accessFlags := 49
  interfaces := #[]
  cf := some (fileOf pool1 18 #[] #[{ accessFlags := 2, nameIndex := 5, descriptorIndex := 6, attributes := #[] }, { accessFlags := 10, nameIndex := 21, descriptorIndex := 16, attributes := #[] }, { accessFlags := 9, nameIndex := 25, descriptorIndex := 26, attributes := #[] }] 49 2 #[] #[])
  fields := #[]
  methods := #[k1m0, k1m1, k1m2]
  instanceTypes := #[]
  staticTypes := #[]
  resolved := Array.replicate 29 none
  statics := none }

def pool2 : Array CpInfo := pool [(1, .class_ 2), (0, u "com/example/kette/kette/DlgpSyntax"), (1, .class_ 6), (1, u "java/lang/Object"), (0, u "<init>"), (0, u "()V"), (16, u "isIdentifierPart"), (0, u "(I)Z"), (14, u "ASCII_IRI"), (0, u "[Z"), (2, u "ASCII_NAME_START"), (2, u "NAME_START_RANGES"), (0, u "[I"), (6, u "ASCII_NAME_PART"), (5, u "NAME_PART_RANGES"), (105, u "XSD"), (0, u "Ljava/lang/String;"), (3, u "XSD_STRING"), (2, u "XSD_INTEGER"), (0, u "XSD_DECIMAL"), (0, u "XSD_DOUBLE"), (0, u "XSD_BOOLEAN"), (0, u "RDF_LANG_STRING"), (2, u "FORBIDDEN_IN_IRI"), (0, u "LOCAL_ESCAPES")] 55

def k2m0 : Method := { name := "<init>", desc := "()V", sig := { parameters := [], returnType := none }, accessFlags := 2, code := none }
def k2c1 : Code := { maxStack := 2, maxLocals := 1, code := prog_14_method_3_code, exceptionTable := #[], attributes := #[] }
def k2m1 : Method := { name := "isIdentifierPart", desc := "(I)Z", sig := { parameters := [.int], returnType := some .boolean }, accessFlags := 8, code := some k2c1 }
/-- com/example/kette/kette/DlgpSyntax -/
def k2 : Class := { plain "com/example/kette/kette/DlgpSyntax" (some 0) with
  accessFlags := 48
  interfaces := #[]
  cf := some (fileOf pool2 1 #[] #[{ accessFlags := 2, nameIndex := 7, descriptorIndex := 8, attributes := #[] }, { accessFlags := 8, nameIndex := 25, descriptorIndex := 26, attributes := #[] }] 48 4 #[] #[{ accessFlags := 26, nameIndex := 168, descriptorIndex := 169, attributes := #[] }, { accessFlags := 24, nameIndex := 173, descriptorIndex := 169, attributes := #[] }, { accessFlags := 24, nameIndex := 176, descriptorIndex := 169, attributes := #[] }, { accessFlags := 24, nameIndex := 177, descriptorIndex := 169, attributes := #[] }, { accessFlags := 24, nameIndex := 178, descriptorIndex := 169, attributes := #[] }, { accessFlags := 24, nameIndex := 179, descriptorIndex := 169, attributes := #[] }, { accessFlags := 24, nameIndex := 180, descriptorIndex := 169, attributes := #[] }, { accessFlags := 26, nameIndex := 183, descriptorIndex := 169, attributes := #[] }, { accessFlags := 26, nameIndex := 48, descriptorIndex := 49, attributes := #[] }, { accessFlags := 26, nameIndex := 62, descriptorIndex := 49, attributes := #[] }, { accessFlags := 26, nameIndex := 41, descriptorIndex := 42, attributes := #[] }, { accessFlags := 26, nameIndex := 45, descriptorIndex := 42, attributes := #[] }, { accessFlags := 26, nameIndex := 56, descriptorIndex := 42, attributes := #[] }, { accessFlags := 24, nameIndex := 184, descriptorIndex := 169, attributes := #[] }])
  fields := #[{ name := "XSD", type := (.object "java/lang/String"), accessFlags := 26, slot := 0, constantValue := 0 }, { name := "XSD_STRING", type := (.object "java/lang/String"), accessFlags := 24, slot := 1, constantValue := 0 }, { name := "XSD_INTEGER", type := (.object "java/lang/String"), accessFlags := 24, slot := 2, constantValue := 0 }, { name := "XSD_DECIMAL", type := (.object "java/lang/String"), accessFlags := 24, slot := 3, constantValue := 0 }, { name := "XSD_DOUBLE", type := (.object "java/lang/String"), accessFlags := 24, slot := 4, constantValue := 0 }, { name := "XSD_BOOLEAN", type := (.object "java/lang/String"), accessFlags := 24, slot := 5, constantValue := 0 }, { name := "RDF_LANG_STRING", type := (.object "java/lang/String"), accessFlags := 24, slot := 6, constantValue := 0 }, { name := "FORBIDDEN_IN_IRI", type := (.object "java/lang/String"), accessFlags := 26, slot := 7, constantValue := 0 }, { name := "NAME_START_RANGES", type := (.array .int), accessFlags := 26, slot := 8, constantValue := 0 }, { name := "NAME_PART_RANGES", type := (.array .int), accessFlags := 26, slot := 9, constantValue := 0 }, { name := "ASCII_IRI", type := (.array .boolean), accessFlags := 26, slot := 10, constantValue := 0 }, { name := "ASCII_NAME_START", type := (.array .boolean), accessFlags := 26, slot := 11, constantValue := 0 }, { name := "ASCII_NAME_PART", type := (.array .boolean), accessFlags := 26, slot := 12, constantValue := 0 }, { name := "LOCAL_ESCAPES", type := (.object "java/lang/String"), accessFlags := 24, slot := 13, constantValue := 0 }]
  methods := #[k2m0, k2m1]
  instanceTypes := #[]
  staticTypes := #[(.object "java/lang/String"), (.object "java/lang/String"), (.object "java/lang/String"), (.object "java/lang/String"), (.object "java/lang/String"), (.object "java/lang/String"), (.object "java/lang/String"), (.object "java/lang/String"), (.array .int), (.array .int), (.array .boolean), (.array .boolean), (.array .boolean), (.object "java/lang/String")]
  resolved := Array.replicate 240 none
  statics := none }

def pool3 : Array CpInfo := pool [(1, u "java/lang/Cloneable"), (0, .class_ 1), (0, u "java/lang/Object"), (0, .class_ 3)] 3

/-- java/lang/Cloneable -/
def k3 : Class := { plain "java/lang/Cloneable" (some 0) with
  accessFlags := 1537
  interfaces := #[]
  cf := some (fileOf pool3 2 #[] #[] 1537 4 #[] #[])
  fields := #[]
  methods := #[]
  instanceTypes := #[]
  staticTypes := #[]
  resolved := Array.replicate 8 none
  statics := none }

def pool4 : Array CpInfo := pool [(1, u "java/io/Serializable"), (0, .class_ 1), (0, u "java/lang/Object"), (0, .class_ 3)] 3

/-- java/io/Serializable -/
def k4 : Class := { plain "java/io/Serializable" (some 0) with
  accessFlags := 1537
  interfaces := #[]
  cf := some (fileOf pool4 2 #[] #[] 1537 4 #[] #[])
  fields := #[]
  methods := #[]
  instanceTypes := #[]
  staticTypes := #[]
  resolved := Array.replicate 8 none
  statics := none }

/-- the primitive byte -/
def k5 : Class := { plain "byte" none with kind := .primitive 'B', accessFlags := 0x411 }
/-- [B -/
def k6 : Class := { plain "[B" (some 0) with kind := .array 5 .byte, interfaces := #[3, 4], accessFlags := 1041 }

def heap : Heap := #[]
def classes : Array Class := #[k0, k1, k2, k3, k4, k5, k6]
def interned : List (Array UInt16 × Addr) := []
def slotsUsed : Nat := 0
def theMethod : MethodId := ⟨1, 2⟩
def args0 : Array Value := #[.int 5, .int 6]
def aboutOver (below : List Frame) : State where
  vm := { classes := classes, interned := interned.toArray }
  heap := heap
  slotsUsed := slotsUsed
  threads := #[{ frames := .invoking theMethod args0 :: below }]
def below0 : List Frame := [.native { method := ⟨0, 0⟩, args := #[] }]
def about1 : State := aboutOver below0
def p0 : Program := .bare "" "" ""
def e0 : Env := launch0.env 0 0 0
theorem w_frames : about1.frames = Frame.invoking theMethod args0 :: below0 := rfl
set_option maxRecDepth 65536 in
theorem w_args : argsFit about1.vm theMethod args0 = true := by decide +kernel
set_option maxRecDepth 65536 in
theorem w_heap : heapFits about1 = true := by decide +kernel
set_option maxRecDepth 65536 in
theorem w_runnable : about1.curStatus? = some .runnable := by decide +kernel
set_option maxRecDepth 65536 in
theorem w_alone : about1.alone = true := by decide +kernel
set_option maxRecDepth 65536 in
theorem w_named : about1.methodNamed? x = some theMethod := by decide +kernel
set_option maxRecDepth 65536 in
theorem w_hears : about1.hears theMethod below0 = true := by decide +kernel
set_option maxRecDepth 65536 in
theorem w_ripe : about1.ripe theMethod args0 below0 = true := by decide +kernel
theorem w_running : about1.status = .running := rfl
set_option maxRecDepth 65536 in
theorem w_room : about1.hasRoom e0.platform room_1 = true :=
  launch0.hasRoom_least _ room_1 (by decide +kernel) (by decide +kernel) (by decide +kernel) (by decide +kernel) (by decide +kernel) (by decide +kernel)
theorem allAtoms_all (ts : List Jvm.Cond) (a : Array Jvm.Value) (st : Jvm.State) : (allAtoms ts).before a st = ts.all (fun c => c.before a st) := by
  induction ts with
  | nil => rfl
  | cons c t ih =>
    show (Jvm.Cond.and c (allAtoms t)).before a st = _
    rw [Jvm.Cond.before_and, ih, List.all_cons]
def words1 : List Jvm.Cond := Jvm.Cond.code x code maxLocals ret :: tables_1
/-- a 'code' word, met by the world's own term for the bytes: nothing is compared byte by byte -/
theorem code_word {y : MethodName} {bytes : ByteArray} {mx : Nat} {rt : Option FieldType} {a : Array Value} {s : State} {m : MethodId} {meth : Method} {c : Code} (h1 : s.methodNamed? y = some m) (h2 : s.vm.method? m = some meth) (h3 : meth.code = some c) (h4 : c.code = bytes)
    (h5 : (c.maxLocals == mx && c.exceptionTable.isEmpty && decide (c.maxStack ≤ mostOperands) && decide (meth.sig.returnType = rt) && !meth.locks && decide (parseMethodDescriptor y.desc = some meth.sig)) = true) : (Jvm.Cond.code y bytes mx rt).before a s = true := by
  simp only [Bool.and_eq_true, beq_iff_eq, Bool.not_eq_true', decide_eq_true_eq] at h5
  obtain ⟨⟨⟨⟨⟨g1, g2⟩, g3⟩, g4⟩, g5⟩, g6⟩ := h5
  simp [Cond.before, Cond.holds, Cond.value, h1, h2, h3, h4, g1, g2, g3, g4, g5, g6]
def isCode : Jvm.Cond → Bool
  | .code _ _ _ _ => true
  | _ => false
theorem all_split {L : List Jvm.Cond} {P : Jvm.Cond → Bool} (h1 : L.all (fun c => isCode c || P c) = true) (h2 : ∀ c ∈ L.filter isCode, P c = true) : L.all P = true := by
  refine List.all_eq_true.mpr fun c hc => ?_
  have h := List.all_eq_true.mp h1 c hc
  rcases Bool.eq_false_or_eq_true (isCode c) with hi | hi
  · exact h2 c (List.mem_filter.mpr ⟨hc, hi⟩)
  · simpa [hi] using h
set_option maxRecDepth 65536 in
theorem w_c0 : (Jvm.Cond.code x code maxLocals ret).before args0 about1 = true := code_word (m := ⟨1, 2⟩) (meth := k1m2) (c := k1c2) (by decide +kernel) rfl rfl rfl (by decide +kernel)
set_option maxRecDepth 65536 in
theorem w_c1 : (Jvm.Cond.code ({ cls := "com/example/kette/kette/DlgpSyntax", name := "isIdentifierPart", desc := "(I)Z" } : Jvm.MethodName) prog_14_method_3_code (1 : Nat) (Option.some Jvm.ClassFile.FieldType.boolean)).before args0 about1 = true := code_word (m := ⟨2, 1⟩) (meth := k2m1) (c := k2c1) (by decide +kernel) rfl rfl rfl (by decide +kernel)
set_option maxRecDepth 65536 in
theorem w_c2 : (Jvm.Cond.code ({ cls := "com/example/kette/kette/DlgpSyntaxIsIdentifierPartPinLaw", name := "expected", desc := "(I)Z" } : Jvm.MethodName) method_2_code (7 : Nat) (Option.some Jvm.ClassFile.FieldType.boolean)).before args0 about1 = true := code_word (m := ⟨1, 1⟩) (meth := k1m1) (c := k1c1) (by decide +kernel) rfl rfl rfl (by decide +kernel)
def codes1 : List Jvm.Cond := [Jvm.Cond.code x code maxLocals ret, Jvm.Cond.code ({ cls := "com/example/kette/kette/DlgpSyntax", name := "isIdentifierPart", desc := "(I)Z" } : Jvm.MethodName) prog_14_method_3_code (1 : Nat) (Option.some Jvm.ClassFile.FieldType.boolean), Jvm.Cond.code ({ cls := "com/example/kette/kette/DlgpSyntaxIsIdentifierPartPinLaw", name := "expected", desc := "(I)Z" } : Jvm.MethodName) method_2_code (7 : Nat) (Option.some Jvm.ClassFile.FieldType.boolean)]
set_option maxRecDepth 65536 in
theorem codes_eq : words1.filter isCode = codes1 := rfl
theorem w_codes : ∀ c ∈ words1.filter isCode, c.before args0 about1 = true := by
  rw [codes_eq]
  intro c hc
  simp only [codes1, List.mem_cons, List.not_mem_nil, or_false] at hc
  rcases hc with rfl | rfl | rfl
  · exact w_c0
  · exact w_c1
  · exact w_c2
set_option maxRecDepth 65536 in
theorem w_t1 : words1.all (fun c => isCode c || c.before args0 about1) = true := by decide +kernel
theorem w_tables : (allAtoms (Jvm.Cond.code x code maxLocals ret :: tables_1)).before args0 about1 = true := by
  rw [allAtoms_all]
  show words1.all (fun c => c.before args0 about1) = true
  refine all_split ?_ w_codes
  rw [w_t1]
set_option maxRecDepth 65536 in
theorem w_case : (Jvm.Cond.and given_1 narrow_1).before args0 about1 = true := by decide +kernel
theorem w_applies : (headSpec (Jvm.Cond.code x code maxLocals ret :: tables_1) room_1).applies x e0.platform about1 = true :=
  (Spec.applies_iff w_frames).mpr ⟨w_running, w_runnable, w_alone, w_named, w_hears, w_ripe, w_room, w_tables⟩
theorem atStart : AtStart classFile x code maxLocals ret World_1 tables_1 room_1 Calls_1 rest_1 Pre_1 launch0 p0 e0 about1 theMethod args0 below0 :=
  ⟨lists_1, trivial, launch0.admits_env _ _ _, launch0.least_env, fairChoices_fair.cas, fairChoices_fair.clock, w_frames, w_args, w_heap, w_applies, trivial, trivial, w_case⟩
end start1
theorem witness_1 : WitnessClaimed_1 := ⟨start1.p0, start1.e0, start1.about1, start1.theMethod, start1.args0, start1.below0, start1.atStart⟩
end Jvm.Pilot.@@N@@
