import JvmDerived
import JvmDerived.Pilot.@@N@@Statement
import JvmDerived.Pilot.@@N@@Code
set_option linter.unusedVariables false
set_option linter.unusedSimpArgs false
@@BLOCK:NumsL.lean.txt@@
namespace Jvm.Pilot.@@N@@
open Jvm Jvm.ClassFile Sem Op Lib Jvm.Free Jvm.Stand Jvm.LawKit Jvm.RoadKit Bundle Jvm.Pilot.@@N@@.Jvm.D
section OwnKit
variable {p : Program} {l : Launch} {e : Env} {R : Room} {s : State} {m : MethodId} {args : Array Value} {below : List Frame} {meth : Method} {c : Code} {T : State} {locs : List Loc} {cells slots : Nat} {n0 cc nn : Nat} {K : Option Value → Heap → Prop} {P : Heap → Prop} {A B : State}
/-- what a contract says of the value, the heap and the places written -/
def QK (n0 : Nat) (K : Option Value → Heap → Prop) (v : Option Value) (h : Heap) (L : List Loc) : Prop := K v h ∧ Fr n0 L
def Kv (w : Option Value) (P : Heap → Prop) (v : Option Value) (h : Heap) : Prop := v = w ∧ P h
/-- from A the run comes to this body's end, and K holds there -/
def Gl (p : Program) (e : Env) (below : List Frame) (s : State) (n0 cc nn : Nat) (K : Option Value → Heap → Prop) (A : State) : Prop :=
  ∃ t o, Steps p.tables e below A t ∧ t.status = .running ∧ Ended t below o ∧ ∃ v L, o = .returned v ∧ QK n0 K v t.heap L ∧ FrameEnd s o t L cc nn
theorem go (st : ∀ t, Steps p.tables e below B t → Steps p.tables e below A t) (h : Gl p e below s n0 cc nn K B) : Gl p e below s n0 cc nn K A := by
  obtain ⟨t, o, h1, h2⟩ := h; exact ⟨t, o, st t h1, h2⟩
theorem gl_start {g g' : JFrame} (q : g = g') (h : Gl p e below s n0 cc nn K (T.setTop g')) :
    ∃ t o, Steps p.tables e below (T.setTop g) t ∧ t.status = .running ∧ Ended t below o ∧ ∃ v L, o = .returned v ∧ QK n0 K v t.heap L ∧ FrameEnd s o t L cc nn := by
  subst q; exact h
theorem gI {c : Prop} [Decidable c] {a b : Int32} (h1 : c → Gl p e below s n0 cc nn (Kv (some (.int a)) P) A) (h2 : ¬ c → Gl p e below s n0 cc nn (Kv (some (.int b)) P) A) : Gl p e below s n0 cc nn (Kv (some (.int (if c then a else b))) P) A := by
  by_cases h : c
  · rw [if_pos h]; exact h1 h
  · rw [if_neg h]; exact h2 h
theorem gJ {c : Prop} [Decidable c] {a b : Int64} (h1 : c → Gl p e below s n0 cc nn (Kv (some (.long a)) P) A) (h2 : ¬ c → Gl p e below s n0 cc nn (Kv (some (.long b)) P) A) : Gl p e below s n0 cc nn (Kv (some (.long (if c then a else b))) P) A := by
  by_cases h : c
  · rw [if_pos h]; exact h1 h
  · rw [if_neg h]; exact h2 h
theorem gR {c : Prop} [Decidable c] {a b : Addr} (h1 : c → Gl p e below s n0 cc nn (Kv (some (.ref a)) P) A) (h2 : ¬ c → Gl p e below s n0 cc nn (Kv (some (.ref b)) P) A) : Gl p e below s n0 cc nn (Kv (some (.ref (if c then a else b))) P) A := by
  by_cases h : c
  · rw [if_pos h]; exact h1 h
  · rw [if_neg h]; exact h2 h
theorem gV {c : Prop} [Decidable c] (h1 : c → Gl p e below s n0 cc nn K A) (h2 : ¬ c → Gl p e below s n0 cc nn K A) : Gl p e below s n0 cc nn K A := by
  by_cases h : c
  · exact h1 h
  · exact h2 h
variable {x : MethodName} {S : Spec} {code' : ByteArray} {ml : Nat} {s₁ : State} {pc : Nat} {Ls : Array Slot} {rest : List Value}
theorem endN (X : Stand p l e R s m args below meth c T locs cells slots) (hx : p.tables.exec = Jvm.exec) {t : FieldType} (Bd : BodyLoose p l x S code' ml (some t) e s m args below meth c s₁) (ht : t = .boolean ∨ t = .byte ∨ t = .char ∨ t = .short) {z : Int32}
    (hd : decode c.code pc = .ok (.ireturn, 1)) (hK : K (some (.int (nar t z))) T.heap) (N : Fr n0 locs) (hc : cells ≤ cc) (hs : slots ≤ nn) : Gl p e below s n0 cc nn K (T.setTop (mkF m pc Ls (.int z :: rest))) := by
  obtain ⟨fs, hr, hrun, hended, hW, hsame⟩ := X.leave (v := some (.int (nar t z))) (fun h => by rw [Bd.returns] at h; cases h)
  exact ⟨_, _, retN X hx Bd.returns ht hd hr, hrun, hended, _, _, rfl, ⟨hK, N⟩, ⟨_, rfl⟩, hW, hsame.mono hc hs⟩
theorem endO (X : Stand p l e R s m args below meth c T locs cells slots) (hx : p.tables.exec = Jvm.exec) {t : FieldType} (Bd : BodyLoose p l x S code' ml (some t) e s m args below meth c s₁) {w : Value} {i : Instr} (hn : narrow t w = w)
    (hi : (i = .ireturn ∧ (t = .int ∨ t = .boolean ∨ t = .byte ∨ t = .char ∨ t = .short) ∧ ∃ z, w = .int z) ∨ (i = .lreturn ∧ t = .long ∧ ∃ z, w = .long z) ∨ (i = .dreturn ∧ t = .double ∧ ∃ z, w = .double z) ∨ (i = .freturn ∧ t = .float ∧ ∃ z, w = .float z) ∨ (i = .areturn ∧ t.isReference = true ∧ w.isRef = true))
    (hd : decode c.code pc = .ok (i, 1)) (hK : K (some w) T.heap) (N : Fr n0 locs) (hc : cells ≤ cc) (hs : slots ≤ nn) : Gl p e below s n0 cc nn K (T.setTop (mkF m pc Ls (w :: rest))) := by
  obtain ⟨fs, hr, hrun, hended, hW, hsame⟩ := X.leave (v := some w) (fun h => by rw [Bd.returns] at h; cases h)
  exact ⟨_, _, retOut X hx Bd.returns hn hi hd hr, hrun, hended, _, _, rfl, ⟨hK, N⟩, ⟨_, rfl⟩, hW, hsame.mono hc hs⟩
theorem endI (X : Stand p l e R s m args below meth c T locs cells slots) (hx : p.tables.exec = Jvm.exec) (Bd : BodyLoose p l x S code' ml (some .int) e s m args below meth c s₁) {z : Int32}
    (hd : decode c.code pc = .ok (.ireturn, 1)) (hK : K (some (.int z)) T.heap) (N : Fr n0 locs) (hc : cells ≤ cc) (hs : slots ≤ nn) : Gl p e below s n0 cc nn K (T.setTop (mkF m pc Ls (.int z :: rest))) :=
  endO X hx Bd rfl (Or.inl ⟨rfl, Or.inl rfl, z, rfl⟩) hd hK N hc hs
theorem endJ (X : Stand p l e R s m args below meth c T locs cells slots) (hx : p.tables.exec = Jvm.exec) (Bd : BodyLoose p l x S code' ml (some .long) e s m args below meth c s₁) {z : Int64}
    (hd : decode c.code pc = .ok (.lreturn, 1)) (hK : K (some (.long z)) T.heap) (N : Fr n0 locs) (hc : cells ≤ cc) (hs : slots ≤ nn) : Gl p e below s n0 cc nn K (T.setTop (mkF m pc Ls (.long z :: rest))) :=
  endO X hx Bd rfl (Or.inr (Or.inl ⟨rfl, rfl, z, rfl⟩)) hd hK N hc hs
theorem endR (X : Stand p l e R s m args below meth c T locs cells slots) (hx : p.tables.exec = Jvm.exec) {t : FieldType} (Bd : BodyLoose p l x S code' ml (some t) e s m args below meth c s₁) (ht : t.isReference = true) {a : Addr}
    (hd : decode c.code pc = .ok (.areturn, 1)) (hK : K (some (.ref a)) T.heap) (N : Fr n0 locs) (hc : cells ≤ cc) (hs : slots ≤ nn) : Gl p e below s n0 cc nn K (T.setTop (mkF m pc Ls (.ref a :: rest))) :=
  endO X hx Bd (by cases t <;> first | rfl | cases ht) (Or.inr (Or.inr (Or.inr (Or.inr ⟨rfl, ht, rfl⟩)))) hd hK N hc hs
theorem endV (X : Stand p l e R s m args below meth c T locs cells slots) (hx : p.tables.exec = Jvm.exec) (Bd : BodyLoose p l x S code' ml none e s m args below meth c s₁)
    (hd : decode c.code pc = .ok (.return_, 1)) (hK : K none T.heap) (N : Fr n0 locs) (hc : cells ≤ cc) (hs : slots ≤ nn) : Gl p e below s n0 cc nn K (T.setTop (mkF m pc Ls [])) := by
  obtain ⟨fs, hr, hrun, hended, hW, hsame⟩ := X.leave (v := none) (fun _ => rfl)
  exact ⟨_, _, X.returnOut hx Bd.returns hd hr, hrun, hended, _, _, rfl, ⟨hK, N⟩, ⟨_, rfl⟩, hW, hsame.mono hc hs⟩
theorem lremM {g : JFrame} {target : State} (X : Stand p l e R s m args below meth c T locs cells slots) (hx : p.tables.exec = Jvm.exec) (hg : g.method = m) {x y : Int64} {rest : List Value} (hd : decode c.code g.pc = .ok (.lrem, 1)) (hs : g.stack = .long y :: .long x :: rest) (hy : y ≠ 0)
    (hr : Steps p.tables e below (T.setTop { g with pc := g.pc + 1, stack := .long (x % y) :: rest }) target) : Steps p.tables e below (T.setTop g) target := by
  have q := lrem_mod x y
  exact XS.lrem X.here hx hg hd hs hy (by rw [q]; exact hr)
theorem sta_keep {Z : State} {h h' : Heap} {a : Addr} {C n d D : String} {w : Value} (F : Sta Z h C n d w) (Kp : Keep h h' [a]) (E : Exa Z h a D) : Sta Z h' C n d w := by
  obtain ⟨cf, i, k, f, st, cell, h1, h2, h3, h4, h5, h6, h7⟩ := F
  obtain ⟨cell', k', e1, -, -, e4, -⟩ := E
  refine ⟨cf, i, k, f, st, cell, h1, h2, h3, h4, Kp.2.1 st cell h5 (ninS (fun q => ?_) nin0), h6, h7⟩
  subst q; cases h5.symm.trans e1; rw [h6] at e4; cases e4
theorem sta_keepN {Z : State} {h h' : Heap} {ws : List Addr} {C n d : String} {w : Value} (F : Sta Z h C n d w) (Kp : Keep h h' ws) (hn : ∀ x ∈ ws, ∀ cell : Cell, h[x]? = some cell → cell.vm.isStatics = false) : Sta Z h' C n d w := by
  obtain ⟨cf, i, k, f, st, cell, h1, h2, h3, h4, h5, h6, h7⟩ := F
  refine ⟨cf, i, k, f, st, cell, h1, h2, h3, h4, Kp.2.1 st cell h5 (fun q => ?_), h6, h7⟩
  have := hn st q cell h5
  rw [h6] at this; cases this
theorem sta_keep0 {Z : State} {h h' : Heap} {C n d : String} {w : Value} (F : Sta Z h C n d w) (Kp : Keep h h' []) : Sta Z h' C n d w := by
  obtain ⟨cf, i, k, f, st, cell, h1, h2, h3, h4, h5, h6, h7⟩ := F
  exact ⟨cf, i, k, f, st, cell, h1, h2, h3, h4, Kp.2.1 st cell h5 nin0, h6, h7⟩
theorem sel_priv {Z s : State} {a0 args : Array Value} {y : MethodName} {n : Nat} (hZ : Z.Warmed39 s.vm) (wi : (Cond.instantiable y.cls n).before a0 Z = true) (wp : (Cond.privateMethod y).before a0 Z = true) (wm : (Cond.instanceMethod y).before a0 Z = true) (hy : y.cls ≠ "java/lang/invoke/MethodHandle" ∧ y.cls ≠ "java/lang/invoke/VarHandle") : (Cond.selects y.cls y y).before args s = true := by
  obtain ⟨c, k, h1, h2, -, h4, -⟩ := Cond.instantiable_spec (show (Cond.instantiable y.cls n).before args s = true from mvT hZ wi)
  exact Jvm.Stand.selects_self_of_private h1 h2 (by simp only [Bool.or_eq_false_iff] at h4; exact h4.1) (Cond.privateMethod_at (mvP hZ wp (args := args))) (mvT hZ wm) hy
theorem eqL_v {t : Term} {k : Int64} {a0 : Array Value} {first u : State} {o : Option Outcome} {idx : List Nat} (h : (Cond.eq t (.long k)).value a0 first o u idx = some true) : t.eval a0 first o idx u = some (.long k) := by
  simp only [Cond.value, Term.eval] at h
  cases ht : t.eval a0 first o idx u with
  | none => simp [ht] at h
  | some x => cases x <;> simp [ht] at h ⊢; exact h
theorem eqI_v {t : Term} {k : Int32} {a0 : Array Value} {first u : State} {o : Option Outcome} {idx : List Nat} (h : (Cond.eq t (.int k)).value a0 first o u idx = some true) : t.eval a0 first o idx u = some (.int k) := by
  simp only [Cond.value, Term.eval] at h
  cases ht : t.eval a0 first o idx u with
  | none => simp [ht] at h
  | some x => cases x <;> simp [ht] at h ⊢; exact h
end OwnKit
/-- what the table holds at each place -/
def own_tab (j : Int32) : Int32 := if j < 33 ∨ j = 34 ∨ j = 60 ∨ j = 62 ∨ j = 92 ∨ j = 94 ∨ j = 96 ∨ j = 123 ∨ j = 124 ∨ j = 125 then 0 else 1
theorem d1_0 : decode prog_14_method_5_code 0 = .ok (.iload_n 0, 1) := by decide +kernel
theorem d1_1 : decode prog_14_method_5_code 1 = .ok (.sipush 128, 3) := by decide +kernel
theorem d1_4 : decode prog_14_method_5_code 4 = .ok (.if_icmp .ge 23, 3) := by decide +kernel
theorem d1_7 : decode prog_14_method_5_code 7 = .ok (.iload_n 0, 1) := by decide +kernel
theorem d1_8 : decode prog_14_method_5_code 8 = .ok (.ifCond .lt 15, 3) := by decide +kernel
theorem d1_11 : decode prog_14_method_5_code 11 = .ok (.getstatic 39, 3) := by decide +kernel
theorem d1_14 : decode prog_14_method_5_code 14 = .ok (.iload_n 0, 1) := by decide +kernel
theorem d1_15 : decode prog_14_method_5_code 15 = .ok (.baload, 1) := by decide +kernel
theorem d1_16 : decode prog_14_method_5_code 16 = .ok (.ifCond .eq 7, 3) := by decide +kernel
theorem d1_19 : decode prog_14_method_5_code 19 = .ok (.iconst 1, 1) := by decide +kernel
theorem d1_20 : decode prog_14_method_5_code 20 = .ok (.goto 18, 3) := by decide +kernel
theorem d1_23 : decode prog_14_method_5_code 23 = .ok (.iconst 0, 1) := by decide +kernel
theorem d1_24 : decode prog_14_method_5_code 24 = .ok (.goto 14, 3) := by decide +kernel
theorem d1_27 : decode prog_14_method_5_code 27 = .ok (.iload_n 0, 1) := by decide +kernel
theorem d1_28 : decode prog_14_method_5_code 28 = .ok (.bipush 32, 2) := by decide +kernel
theorem d1_30 : decode prog_14_method_5_code 30 = .ok (.if_icmp .le 7, 3) := by decide +kernel
theorem d1_33 : decode prog_14_method_5_code 33 = .ok (.iconst 1, 1) := by decide +kernel
theorem d1_34 : decode prog_14_method_5_code 34 = .ok (.goto 4, 3) := by decide +kernel
theorem d1_37 : decode prog_14_method_5_code 37 = .ok (.iconst 0, 1) := by decide +kernel
theorem d1_38 : decode prog_14_method_5_code 38 = .ok (.ireturn, 1) := by decide +kernel
theorem pn_0 : plainName "com/example/kette/kette/DlgpSyntax" = true := by first | (simp [plainName, overriddenIn]; done) | decide +kernel
theorem ef_1 (m : MethodId) (p1 : Int32) : entryFrame m #[(.int p1)] 1 = mkF m 0 #[.val (.int p1)] [] := by first | (simp [entryFrame, mkF, argsToLocals, Value.category]; done) | rfl
def b1_38 (s0_38 : Int32) : Int32 := (nar .boolean s0_38)
def b1_23  : Int32 := (b1_38 (0 : Int32))
def b1_0 (p1 : Int32) : Int32 := (if p1 < (128 : Int32) then (if p1 < (0 : Int32) then b1_23 else (if (own_tab p1) = (0 : Int32) then b1_23 else (b1_38 (1 : Int32)))) else (if (32 : Int32) < p1 then (b1_38 (1 : Int32)) else (b1_38 (0 : Int32))))
set_option maxRecDepth 65536 in
set_option maxHeartbeats 40000000 in
theorem rm1 (l : Launch) (Z : State) (a0 : Array Value) (hw : ∀ d ∈ tables_1, d.before a0 Z = true) (ws : List Jvm.Cond) (p1 : Int32) (w_ASCII_IRI : Addr) (cl : Cell) (h0 : Heap) (n0 : Nat) (Z0 : n0 ≤ h0.size) (S_ASCII_IRI : Sta Z h0 "com/example/kette/kette/DlgpSyntax" "ASCII_IRI" "[Z" (.ref w_ASCII_IRI)) (Ar : Arr Z h0 w_ASCII_IRI cl .boolean) (hat : ∀ j : Int32, ¬ j < 0 → j < 128 → ¬ (j < 0 ∨ cl.slots.size ≤ j.toNatClampNeg) ∧ cl.slots[j.toNatClampNeg]? = some (.int (own_tab j))) :
    MetFree l (⟨"com/example/kette/kette/DlgpSyntax", "isIriCharacter", "(I)Z"⟩ : MethodName) (head1 (Jvm.Cond.code (⟨"com/example/kette/kette/DlgpSyntax", "isIriCharacter", "(I)Z"⟩ : MethodName) prog_14_method_5_code 1 (some .boolean) :: ws) ({ frames := 0, cells := 0, slots := 0, locals := 0 } : Room)) (fun a U => a = #[(.int p1)] ∧ Z.Warmed39 U.vm ∧ U.heap = h0) (fun _ _ _ _ _ => True) (fun _ U o U' => ∃ v L, o = .returned v ∧ QK n0 (Kv (some (.int (b1_0 p1))) (fun h => h = h0)) v U'.heap L ∧ FrameEnd U o U' L ({ frames := 0, cells := 0, slots := 0, locals := 0 } : Room).cells ({ frames := 0, cells := 0, slots := 0, locals := 0 } : Room).slots) := by
  refine MetFree.of_bodySF (plainFor_of_name pn_0) hisR ?_
  intro p e s m args below meth c s₁ Bd hml0 hP hK
  obtain ⟨rfl, hZ, hh⟩ := hP
  have hx := Bd.exec
  have hby := Bd.bytes
  have hml : c.maxLocals = 1 := hml0
  have hown : s.vm.findClass "com/example/kette/kette/DlgpSyntax" = some m.cls := findClass_of_methodNamed Bd.named
  have hnm := (name_of_methodNamed Bd.named Bd.method).1
  have X0 : Stand p l e ({ frames := 0, cells := 0, slots := 0, locals := 0 } : Room) s m #[(.int p1)] below meth c s₁ [] 0 0 := Stand.of_body Bd
  have e0 : s₁.heap = h0 := by rw [← hh, Bd.state]; rfl
  have N0 := Fr.nil n0
  refine gl_start (ef_1 m p1) ?_
  show Gl p e below s n0 ({ frames := 0, cells := 0, slots := 0, locals := 0 } : Room).cells ({ frames := 0, cells := 0, slots := 0, locals := 0 } : Room).slots (Kv (some (.int (if p1 < (128 : Int32) then (if p1 < (0 : Int32) then b1_23 else (if (own_tab p1) = (0 : Int32) then b1_23 else (b1_38 (1 : Int32)))) else (if (32 : Int32) < p1 then (b1_38 (1 : Int32)) else (b1_38 (0 : Int32)))))) (fun h => h = h0)) (s₁.setTop (mkF m 0 #[.val (.int p1)] []))
  refine go (fun t k => XS.iloadN X0.here hx rfl (hb hby d1_0) rfl  k) ?_
  show Gl _ _ _ _ _ _ _ _ (s₁.setTop (mkF m 1 #[.val (.int p1)] [(.int p1)]))
  refine go (fun t k => XS.sipush X0.here hx rfl (hb hby d1_1) k) ?_
  show Gl _ _ _ _ _ _ _ _ (s₁.setTop (mkF m 4 #[.val (.int p1)] [(.int (128 : Int32)), (.int p1)]))
  have J38 : ∀ (s0_38 : Int32) (TJ38 : State) (lJ38 : List Loc) (XJ38 : Stand p l e ({ frames := 0, cells := 0, slots := 0, locals := 0 } : Room) s m #[(.int p1)] below meth c TJ38 lJ38 0 0) (eJ38 : TJ38.heap = h0) (NJ38 : Fr n0 lJ38), Gl p e below s n0 ({ frames := 0, cells := 0, slots := 0, locals := 0 } : Room).cells ({ frames := 0, cells := 0, slots := 0, locals := 0 } : Room).slots (Kv (some (.int (b1_38 s0_38))) (fun h => h = h0)) (TJ38.setTop (mkF m 38 #[.val (.int p1)] [(.int s0_38)])) := by
    intro s0_38 TJ38 lJ38 XJ38 eJ38 NJ38
    show Gl _ _ _ _ _ _ _ (Kv (some (.int (nar .boolean s0_38))) _) _
    exact endN XJ38 hx Bd (t := .boolean) (by simp) (hb hby d1_38) ⟨rfl, eJ38⟩ NJ38 (by decide) (by decide)
  refine gI (c := p1 < (128 : Int32)) (fun hc4 => ?_) (fun hc4 => ?_)
  · refine go (fun t k => XS.icmpNo X0.here hx rfl (hb hby d1_4) rfl (tlt hc4).2.1 k) ?_
    show Gl _ _ _ _ _ _ _ _ (s₁.setTop (mkF m 7 #[.val (.int p1)] []))
    refine go (fun t k => XS.iloadN X0.here hx rfl (hb hby d1_7) rfl  k) ?_
    show Gl _ _ _ _ _ _ _ _ (s₁.setTop (mkF m 8 #[.val (.int p1)] [(.int p1)]))
    have J23 : ∀  (TJ23 : State) (lJ23 : List Loc) (XJ23 : Stand p l e ({ frames := 0, cells := 0, slots := 0, locals := 0 } : Room) s m #[(.int p1)] below meth c TJ23 lJ23 0 0) (eJ23 : TJ23.heap = h0) (NJ23 : Fr n0 lJ23), Gl p e below s n0 ({ frames := 0, cells := 0, slots := 0, locals := 0 } : Room).cells ({ frames := 0, cells := 0, slots := 0, locals := 0 } : Room).slots (Kv (some (.int b1_23)) (fun h => h = h0)) (TJ23.setTop (mkF m 23 #[.val (.int p1)] [])) := by
      intro  TJ23 lJ23 XJ23 eJ23 NJ23
      show Gl _ _ _ _ _ _ _ (Kv (some (.int (b1_38 (0 : Int32)))) _) _
      refine go (fun t k => XS.iconst XJ23.here hx rfl (hb hby d1_23) k) ?_
      show Gl _ _ _ _ _ _ _ _ (TJ23.setTop (mkF m 24 #[.val (.int p1)] [(.int (0 : Int32))]))
      refine go (fun t k => XS.goto XJ23.here hx rfl (pc0 := 24) (pc' := 38) rfl (hb hby d1_24) (by decide) (by decide) k) ?_
      show Gl _ _ _ _ _ _ _ _ (TJ23.setTop (mkF m 38 #[.val (.int p1)] [(.int (0 : Int32))]))
      exact J38 (0 : Int32) TJ23 _ XJ23 eJ23 NJ23
    refine gI (c := p1 < (0 : Int32)) (fun hc8 => ?_) (fun hc8 => ?_)
    · refine go (fun t k => XS.ifYes X0.here hx rfl (pc0 := 8) (pc' := 23) rfl (hb hby d1_8) rfl ((if0 _ _).trans (tlt hc8).1) (by decide) (by decide) k) ?_
      show Gl _ _ _ _ _ _ _ _ (s₁.setTop (mkF m 23 #[.val (.int p1)] []))
      exact J23  s₁ _ X0 e0 N0
    · refine go (fun t k => XS.ifNo X0.here hx rfl (hb hby d1_8) rfl ((if0 _ _).trans (flt hc8).1) k) ?_
      show Gl _ _ _ _ _ _ _ _ (s₁.setTop (mkF m 11 #[.val (.int p1)] []))
      obtain ⟨T3, X3, e3, st3⟩ := getS2 X0 hx hZ hown (host := "") (Or.inl (hw _ (List.mem_of_getElem? (i := 5) rfl))) Via.refl e0 S_ASCII_IRI (g := (mkF m 11 #[.val (.int p1)] [])) rfl (hb hby d1_11)
      refine go (fun t k => st3 _ k) ?_
      show Gl _ _ _ _ _ _ _ _ (T3.setTop (mkF m 14 #[.val (.int p1)] [(.ref w_ASCII_IRI)]))
      refine go (fun t k => XS.iloadN X3.here hx rfl (hb hby d1_14) rfl  k) ?_
      show Gl _ _ _ _ _ _ _ _ (T3.setTop (mkF m 15 #[.val (.int p1)] [(.int p1), (.ref w_ASCII_IRI)]))
      refine go (fun t k => X3.baloadBooleans hx (j := p1) (v := (.int (own_tab p1))) (by rw [e3]; exact Ar.1) (State.isArrayOf_alike hZ.alike Ar.2.1) Ar.2.2 (hat _ hc8 hc4).1 (hat _ hc8 hc4).2 (g := (mkF m 15 #[.val (.int p1)] [(.int p1), (.ref w_ASCII_IRI)])) rfl rfl (hb hby d1_15) _ k) ?_
      show Gl _ _ _ _ _ _ _ _ (T3.setTop (mkF m 16 #[.val (.int p1)] [(.int (own_tab p1))]))
      refine gI (c := (own_tab p1) = (0 : Int32)) (fun hc16 => ?_) (fun hc16 => ?_)
      · refine go (fun t k => XS.ifYes X3.here hx rfl (pc0 := 16) (pc' := 23) rfl (hb hby d1_16) rfl ((if0 _ _).trans (teq hc16).1) (by decide) (by decide) k) ?_
        show Gl _ _ _ _ _ _ _ _ (T3.setTop (mkF m 23 #[.val (.int p1)] []))
        exact J23  T3 _ X3 e3 N0
      · refine go (fun t k => XS.ifNo X3.here hx rfl (hb hby d1_16) rfl ((if0 _ _).trans (feq hc16).1) k) ?_
        show Gl _ _ _ _ _ _ _ _ (T3.setTop (mkF m 19 #[.val (.int p1)] []))
        refine go (fun t k => XS.iconst X3.here hx rfl (hb hby d1_19) k) ?_
        show Gl _ _ _ _ _ _ _ _ (T3.setTop (mkF m 20 #[.val (.int p1)] [(.int (1 : Int32))]))
        refine go (fun t k => XS.goto X3.here hx rfl (pc0 := 20) (pc' := 38) rfl (hb hby d1_20) (by decide) (by decide) k) ?_
        show Gl _ _ _ _ _ _ _ _ (T3.setTop (mkF m 38 #[.val (.int p1)] [(.int (1 : Int32))]))
        exact J38 (1 : Int32) T3 _ X3 e3 N0
  · refine go (fun t k => XS.icmpYes X0.here hx rfl (pc0 := 4) (pc' := 27) rfl (hb hby d1_4) rfl (flt hc4).2.1 (by decide) (by decide) k) ?_
    show Gl _ _ _ _ _ _ _ _ (s₁.setTop (mkF m 27 #[.val (.int p1)] []))
    refine go (fun t k => XS.iloadN X0.here hx rfl (hb hby d1_27) rfl  k) ?_
    show Gl _ _ _ _ _ _ _ _ (s₁.setTop (mkF m 28 #[.val (.int p1)] [(.int p1)]))
    refine go (fun t k => XS.bipush X0.here hx rfl (hb hby d1_28) k) ?_
    show Gl _ _ _ _ _ _ _ _ (s₁.setTop (mkF m 30 #[.val (.int p1)] [(.int (32 : Int32)), (.int p1)]))
    refine gI (c := (32 : Int32) < p1) (fun hc30 => ?_) (fun hc30 => ?_)
    · refine go (fun t k => XS.icmpNo X0.here hx rfl (hb hby d1_30) rfl (tlt hc30).2.2.2 k) ?_
      show Gl _ _ _ _ _ _ _ _ (s₁.setTop (mkF m 33 #[.val (.int p1)] []))
      refine go (fun t k => XS.iconst X0.here hx rfl (hb hby d1_33) k) ?_
      show Gl _ _ _ _ _ _ _ _ (s₁.setTop (mkF m 34 #[.val (.int p1)] [(.int (1 : Int32))]))
      refine go (fun t k => XS.goto X0.here hx rfl (pc0 := 34) (pc' := 38) rfl (hb hby d1_34) (by decide) (by decide) k) ?_
      show Gl _ _ _ _ _ _ _ _ (s₁.setTop (mkF m 38 #[.val (.int p1)] [(.int (1 : Int32))]))
      exact J38 (1 : Int32) s₁ _ X0 e0 N0
    · refine go (fun t k => XS.icmpYes X0.here hx rfl (pc0 := 30) (pc' := 37) rfl (hb hby d1_30) rfl (flt hc30).2.2.2 (by decide) (by decide) k) ?_
      show Gl _ _ _ _ _ _ _ _ (s₁.setTop (mkF m 37 #[.val (.int p1)] []))
      refine go (fun t k => XS.iconst X0.here hx rfl (hb hby d1_37) k) ?_
      show Gl _ _ _ _ _ _ _ _ (s₁.setTop (mkF m 38 #[.val (.int p1)] [(.int (0 : Int32))]))
      exact J38 (0 : Int32) s₁ _ X0 e0 N0
theorem d2_0 : decode method_3_code 0 = .ok (.iload_n 0, 1) := by decide +kernel
theorem d2_1 : decode method_3_code 1 = .ok (.bipush 32, 2) := by decide +kernel
theorem d2_3 : decode method_3_code 3 = .ok (.if_icmp .gt 5, 3) := by decide +kernel
theorem d2_6 : decode method_3_code 6 = .ok (.iconst 0, 1) := by decide +kernel
theorem d2_7 : decode method_3_code 7 = .ok (.ireturn, 1) := by decide +kernel
theorem d2_8 : decode method_3_code 8 = .ok (.iload_n 0, 1) := by decide +kernel
theorem d2_9 : decode method_3_code 9 = .ok (.bipush 60, 2) := by decide +kernel
theorem d2_11 : decode method_3_code 11 = .ok (.if_icmp .eq 27, 3) := by decide +kernel
theorem d2_14 : decode method_3_code 14 = .ok (.iload_n 0, 1) := by decide +kernel
theorem d2_15 : decode method_3_code 15 = .ok (.bipush 62, 2) := by decide +kernel
theorem d2_17 : decode method_3_code 17 = .ok (.if_icmp .eq 21, 3) := by decide +kernel
theorem d2_20 : decode method_3_code 20 = .ok (.iload_n 0, 1) := by decide +kernel
theorem d2_21 : decode method_3_code 21 = .ok (.bipush 34, 2) := by decide +kernel
theorem d2_23 : decode method_3_code 23 = .ok (.if_icmp .eq 15, 3) := by decide +kernel
theorem d2_26 : decode method_3_code 26 = .ok (.iload_n 0, 1) := by decide +kernel
theorem d2_27 : decode method_3_code 27 = .ok (.bipush 123, 2) := by decide +kernel
theorem d2_29 : decode method_3_code 29 = .ok (.if_icmp .eq 9, 3) := by decide +kernel
theorem d2_32 : decode method_3_code 32 = .ok (.iload_n 0, 1) := by decide +kernel
theorem d2_33 : decode method_3_code 33 = .ok (.bipush 125, 2) := by decide +kernel
theorem d2_35 : decode method_3_code 35 = .ok (.if_icmp .ne 5, 3) := by decide +kernel
theorem d2_38 : decode method_3_code 38 = .ok (.iconst 0, 1) := by decide +kernel
theorem d2_39 : decode method_3_code 39 = .ok (.ireturn, 1) := by decide +kernel
theorem d2_40 : decode method_3_code 40 = .ok (.iload_n 0, 1) := by decide +kernel
theorem d2_41 : decode method_3_code 41 = .ok (.bipush 124, 2) := by decide +kernel
theorem d2_43 : decode method_3_code 43 = .ok (.if_icmp .eq 21, 3) := by decide +kernel
theorem d2_46 : decode method_3_code 46 = .ok (.iload_n 0, 1) := by decide +kernel
theorem d2_47 : decode method_3_code 47 = .ok (.bipush 94, 2) := by decide +kernel
theorem d2_49 : decode method_3_code 49 = .ok (.if_icmp .eq 15, 3) := by decide +kernel
theorem d2_52 : decode method_3_code 52 = .ok (.iload_n 0, 1) := by decide +kernel
theorem d2_53 : decode method_3_code 53 = .ok (.bipush 96, 2) := by decide +kernel
theorem d2_55 : decode method_3_code 55 = .ok (.if_icmp .eq 9, 3) := by decide +kernel
theorem d2_58 : decode method_3_code 58 = .ok (.iload_n 0, 1) := by decide +kernel
theorem d2_59 : decode method_3_code 59 = .ok (.bipush 92, 2) := by decide +kernel
theorem d2_61 : decode method_3_code 61 = .ok (.if_icmp .ne 5, 3) := by decide +kernel
theorem d2_64 : decode method_3_code 64 = .ok (.iconst 0, 1) := by decide +kernel
theorem d2_65 : decode method_3_code 65 = .ok (.ireturn, 1) := by decide +kernel
theorem d2_66 : decode method_3_code 66 = .ok (.iconst 1, 1) := by decide +kernel
theorem d2_67 : decode method_3_code 67 = .ok (.ireturn, 1) := by decide +kernel
theorem pn_1 : plainName "com/example/kette/kette/DlgpSyntaxIsIriCharacterPinLaw" = true := by first | (simp [plainName, overriddenIn]; done) | decide +kernel
theorem ef_2 (m : MethodId) (p1 : Int32) : entryFrame m #[(.int p1)] 1 = mkF m 0 #[.val (.int p1)] [] := by first | (simp [entryFrame, mkF, argsToLocals, Value.category]; done) | rfl
def b2_38  : Int32 := (nar .boolean (0 : Int32))
def b2_64  : Int32 := (nar .boolean (0 : Int32))
def b2_0 (p1 : Int32) : Int32 := (if (32 : Int32) < p1 then (if p1 = (60 : Int32) then b2_38 else (if p1 = (62 : Int32) then b2_38 else (if p1 = (34 : Int32) then b2_38 else (if p1 = (123 : Int32) then b2_38 else (if p1 = (125 : Int32) then b2_38 else (if p1 = (124 : Int32) then b2_64 else (if p1 = (94 : Int32) then b2_64 else (if p1 = (96 : Int32) then b2_64 else (if p1 = (92 : Int32) then b2_64 else (nar .boolean (1 : Int32))))))))))) else (nar .boolean (0 : Int32)))
set_option maxRecDepth 65536 in
set_option maxHeartbeats 40000000 in
theorem rm2 (l : Launch) (Z : State) (a0 : Array Value) (hw : ∀ d ∈ tables_1, d.before a0 Z = true) (ws : List Jvm.Cond) (p1 : Int32) (h0 : Heap) (n0 : Nat) (Z0 : n0 ≤ h0.size) :
    MetFree l (⟨"com/example/kette/kette/DlgpSyntaxIsIriCharacterPinLaw", "expected", "(I)Z"⟩ : MethodName) (head1 (Jvm.Cond.code (⟨"com/example/kette/kette/DlgpSyntaxIsIriCharacterPinLaw", "expected", "(I)Z"⟩ : MethodName) method_3_code 1 (some .boolean) :: ws) ({ frames := 0, cells := 0, slots := 0, locals := 0 } : Room)) (fun a U => a = #[(.int p1)] ∧ Z.Warmed39 U.vm ∧ U.heap = h0) (fun _ _ _ _ _ => True) (fun _ U o U' => ∃ v L, o = .returned v ∧ QK n0 (Kv (some (.int (b2_0 p1))) (fun h => h = h0)) v U'.heap L ∧ FrameEnd U o U' L ({ frames := 0, cells := 0, slots := 0, locals := 0 } : Room).cells ({ frames := 0, cells := 0, slots := 0, locals := 0 } : Room).slots) := by
  refine MetFree.of_bodySF (plainFor_of_name pn_1) hisR ?_
  intro p e s m args below meth c s₁ Bd hml0 hP hK
  obtain ⟨rfl, hZ, hh⟩ := hP
  have hx := Bd.exec
  have hby := Bd.bytes
  have hml : c.maxLocals = 1 := hml0
  have hown : s.vm.findClass "com/example/kette/kette/DlgpSyntaxIsIriCharacterPinLaw" = some m.cls := findClass_of_methodNamed Bd.named
  have hnm := (name_of_methodNamed Bd.named Bd.method).1
  have X0 : Stand p l e ({ frames := 0, cells := 0, slots := 0, locals := 0 } : Room) s m #[(.int p1)] below meth c s₁ [] 0 0 := Stand.of_body Bd
  have e0 : s₁.heap = h0 := by rw [← hh, Bd.state]; rfl
  have N0 := Fr.nil n0
  refine gl_start (ef_2 m p1) ?_
  show Gl p e below s n0 ({ frames := 0, cells := 0, slots := 0, locals := 0 } : Room).cells ({ frames := 0, cells := 0, slots := 0, locals := 0 } : Room).slots (Kv (some (.int (if (32 : Int32) < p1 then (if p1 = (60 : Int32) then b2_38 else (if p1 = (62 : Int32) then b2_38 else (if p1 = (34 : Int32) then b2_38 else (if p1 = (123 : Int32) then b2_38 else (if p1 = (125 : Int32) then b2_38 else (if p1 = (124 : Int32) then b2_64 else (if p1 = (94 : Int32) then b2_64 else (if p1 = (96 : Int32) then b2_64 else (if p1 = (92 : Int32) then b2_64 else (nar .boolean (1 : Int32))))))))))) else (nar .boolean (0 : Int32))))) (fun h => h = h0)) (s₁.setTop (mkF m 0 #[.val (.int p1)] []))
  refine go (fun t k => XS.iloadN X0.here hx rfl (hb hby d2_0) rfl  k) ?_
  show Gl _ _ _ _ _ _ _ _ (s₁.setTop (mkF m 1 #[.val (.int p1)] [(.int p1)]))
  refine go (fun t k => XS.bipush X0.here hx rfl (hb hby d2_1) k) ?_
  show Gl _ _ _ _ _ _ _ _ (s₁.setTop (mkF m 3 #[.val (.int p1)] [(.int (32 : Int32)), (.int p1)]))
  refine gI (c := (32 : Int32) < p1) (fun hc3 => ?_) (fun hc3 => ?_)
  · refine go (fun t k => XS.icmpYes X0.here hx rfl (pc0 := 3) (pc' := 8) rfl (hb hby d2_3) rfl (tlt hc3).2.2.1 (by decide) (by decide) k) ?_
    show Gl _ _ _ _ _ _ _ _ (s₁.setTop (mkF m 8 #[.val (.int p1)] []))
    refine go (fun t k => XS.iloadN X0.here hx rfl (hb hby d2_8) rfl  k) ?_
    show Gl _ _ _ _ _ _ _ _ (s₁.setTop (mkF m 9 #[.val (.int p1)] [(.int p1)]))
    refine go (fun t k => XS.bipush X0.here hx rfl (hb hby d2_9) k) ?_
    show Gl _ _ _ _ _ _ _ _ (s₁.setTop (mkF m 11 #[.val (.int p1)] [(.int (60 : Int32)), (.int p1)]))
    have J38 : ∀  (TJ38 : State) (lJ38 : List Loc) (XJ38 : Stand p l e ({ frames := 0, cells := 0, slots := 0, locals := 0 } : Room) s m #[(.int p1)] below meth c TJ38 lJ38 0 0) (eJ38 : TJ38.heap = h0) (NJ38 : Fr n0 lJ38), Gl p e below s n0 ({ frames := 0, cells := 0, slots := 0, locals := 0 } : Room).cells ({ frames := 0, cells := 0, slots := 0, locals := 0 } : Room).slots (Kv (some (.int b2_38)) (fun h => h = h0)) (TJ38.setTop (mkF m 38 #[.val (.int p1)] [])) := by
      intro  TJ38 lJ38 XJ38 eJ38 NJ38
      show Gl _ _ _ _ _ _ _ (Kv (some (.int (nar .boolean (0 : Int32)))) _) _
      refine go (fun t k => XS.iconst XJ38.here hx rfl (hb hby d2_38) k) ?_
      show Gl _ _ _ _ _ _ _ _ (TJ38.setTop (mkF m 39 #[.val (.int p1)] [(.int (0 : Int32))]))
      exact endN XJ38 hx Bd (t := .boolean) (by simp) (hb hby d2_39) ⟨rfl, eJ38⟩ NJ38 (by decide) (by decide)
    refine gI (c := p1 = (60 : Int32)) (fun hc11 => ?_) (fun hc11 => ?_)
    · refine go (fun t k => XS.icmpYes X0.here hx rfl (pc0 := 11) (pc' := 38) rfl (hb hby d2_11) rfl (teq hc11).1 (by decide) (by decide) k) ?_
      show Gl _ _ _ _ _ _ _ _ (s₁.setTop (mkF m 38 #[.val (.int p1)] []))
      exact J38  s₁ _ X0 e0 N0
    · refine go (fun t k => XS.icmpNo X0.here hx rfl (hb hby d2_11) rfl (feq hc11).1 k) ?_
      show Gl _ _ _ _ _ _ _ _ (s₁.setTop (mkF m 14 #[.val (.int p1)] []))
      refine go (fun t k => XS.iloadN X0.here hx rfl (hb hby d2_14) rfl  k) ?_
      show Gl _ _ _ _ _ _ _ _ (s₁.setTop (mkF m 15 #[.val (.int p1)] [(.int p1)]))
      refine go (fun t k => XS.bipush X0.here hx rfl (hb hby d2_15) k) ?_
      show Gl _ _ _ _ _ _ _ _ (s₁.setTop (mkF m 17 #[.val (.int p1)] [(.int (62 : Int32)), (.int p1)]))
      refine gI (c := p1 = (62 : Int32)) (fun hc17 => ?_) (fun hc17 => ?_)
      · refine go (fun t k => XS.icmpYes X0.here hx rfl (pc0 := 17) (pc' := 38) rfl (hb hby d2_17) rfl (teq hc17).1 (by decide) (by decide) k) ?_
        show Gl _ _ _ _ _ _ _ _ (s₁.setTop (mkF m 38 #[.val (.int p1)] []))
        exact J38  s₁ _ X0 e0 N0
      · refine go (fun t k => XS.icmpNo X0.here hx rfl (hb hby d2_17) rfl (feq hc17).1 k) ?_
        show Gl _ _ _ _ _ _ _ _ (s₁.setTop (mkF m 20 #[.val (.int p1)] []))
        refine go (fun t k => XS.iloadN X0.here hx rfl (hb hby d2_20) rfl  k) ?_
        show Gl _ _ _ _ _ _ _ _ (s₁.setTop (mkF m 21 #[.val (.int p1)] [(.int p1)]))
        refine go (fun t k => XS.bipush X0.here hx rfl (hb hby d2_21) k) ?_
        show Gl _ _ _ _ _ _ _ _ (s₁.setTop (mkF m 23 #[.val (.int p1)] [(.int (34 : Int32)), (.int p1)]))
        refine gI (c := p1 = (34 : Int32)) (fun hc23 => ?_) (fun hc23 => ?_)
        · refine go (fun t k => XS.icmpYes X0.here hx rfl (pc0 := 23) (pc' := 38) rfl (hb hby d2_23) rfl (teq hc23).1 (by decide) (by decide) k) ?_
          show Gl _ _ _ _ _ _ _ _ (s₁.setTop (mkF m 38 #[.val (.int p1)] []))
          exact J38  s₁ _ X0 e0 N0
        · refine go (fun t k => XS.icmpNo X0.here hx rfl (hb hby d2_23) rfl (feq hc23).1 k) ?_
          show Gl _ _ _ _ _ _ _ _ (s₁.setTop (mkF m 26 #[.val (.int p1)] []))
          refine go (fun t k => XS.iloadN X0.here hx rfl (hb hby d2_26) rfl  k) ?_
          show Gl _ _ _ _ _ _ _ _ (s₁.setTop (mkF m 27 #[.val (.int p1)] [(.int p1)]))
          refine go (fun t k => XS.bipush X0.here hx rfl (hb hby d2_27) k) ?_
          show Gl _ _ _ _ _ _ _ _ (s₁.setTop (mkF m 29 #[.val (.int p1)] [(.int (123 : Int32)), (.int p1)]))
          refine gI (c := p1 = (123 : Int32)) (fun hc29 => ?_) (fun hc29 => ?_)
          · refine go (fun t k => XS.icmpYes X0.here hx rfl (pc0 := 29) (pc' := 38) rfl (hb hby d2_29) rfl (teq hc29).1 (by decide) (by decide) k) ?_
            show Gl _ _ _ _ _ _ _ _ (s₁.setTop (mkF m 38 #[.val (.int p1)] []))
            exact J38  s₁ _ X0 e0 N0
          · refine go (fun t k => XS.icmpNo X0.here hx rfl (hb hby d2_29) rfl (feq hc29).1 k) ?_
            show Gl _ _ _ _ _ _ _ _ (s₁.setTop (mkF m 32 #[.val (.int p1)] []))
            refine go (fun t k => XS.iloadN X0.here hx rfl (hb hby d2_32) rfl  k) ?_
            show Gl _ _ _ _ _ _ _ _ (s₁.setTop (mkF m 33 #[.val (.int p1)] [(.int p1)]))
            refine go (fun t k => XS.bipush X0.here hx rfl (hb hby d2_33) k) ?_
            show Gl _ _ _ _ _ _ _ _ (s₁.setTop (mkF m 35 #[.val (.int p1)] [(.int (125 : Int32)), (.int p1)]))
            refine gI (c := p1 = (125 : Int32)) (fun hc35 => ?_) (fun hc35 => ?_)
            · refine go (fun t k => XS.icmpNo X0.here hx rfl (hb hby d2_35) rfl (teq hc35).2 k) ?_
              show Gl _ _ _ _ _ _ _ _ (s₁.setTop (mkF m 38 #[.val (.int p1)] []))
              exact J38  s₁ _ X0 e0 N0
            · refine go (fun t k => XS.icmpYes X0.here hx rfl (pc0 := 35) (pc' := 40) rfl (hb hby d2_35) rfl (feq hc35).2 (by decide) (by decide) k) ?_
              show Gl _ _ _ _ _ _ _ _ (s₁.setTop (mkF m 40 #[.val (.int p1)] []))
              refine go (fun t k => XS.iloadN X0.here hx rfl (hb hby d2_40) rfl  k) ?_
              show Gl _ _ _ _ _ _ _ _ (s₁.setTop (mkF m 41 #[.val (.int p1)] [(.int p1)]))
              refine go (fun t k => XS.bipush X0.here hx rfl (hb hby d2_41) k) ?_
              show Gl _ _ _ _ _ _ _ _ (s₁.setTop (mkF m 43 #[.val (.int p1)] [(.int (124 : Int32)), (.int p1)]))
              have J64 : ∀  (TJ64 : State) (lJ64 : List Loc) (XJ64 : Stand p l e ({ frames := 0, cells := 0, slots := 0, locals := 0 } : Room) s m #[(.int p1)] below meth c TJ64 lJ64 0 0) (eJ64 : TJ64.heap = h0) (NJ64 : Fr n0 lJ64), Gl p e below s n0 ({ frames := 0, cells := 0, slots := 0, locals := 0 } : Room).cells ({ frames := 0, cells := 0, slots := 0, locals := 0 } : Room).slots (Kv (some (.int b2_64)) (fun h => h = h0)) (TJ64.setTop (mkF m 64 #[.val (.int p1)] [])) := by
                intro  TJ64 lJ64 XJ64 eJ64 NJ64
                show Gl _ _ _ _ _ _ _ (Kv (some (.int (nar .boolean (0 : Int32)))) _) _
                refine go (fun t k => XS.iconst XJ64.here hx rfl (hb hby d2_64) k) ?_
                show Gl _ _ _ _ _ _ _ _ (TJ64.setTop (mkF m 65 #[.val (.int p1)] [(.int (0 : Int32))]))
                exact endN XJ64 hx Bd (t := .boolean) (by simp) (hb hby d2_65) ⟨rfl, eJ64⟩ NJ64 (by decide) (by decide)
              refine gI (c := p1 = (124 : Int32)) (fun hc43 => ?_) (fun hc43 => ?_)
              · refine go (fun t k => XS.icmpYes X0.here hx rfl (pc0 := 43) (pc' := 64) rfl (hb hby d2_43) rfl (teq hc43).1 (by decide) (by decide) k) ?_
                show Gl _ _ _ _ _ _ _ _ (s₁.setTop (mkF m 64 #[.val (.int p1)] []))
                exact J64  s₁ _ X0 e0 N0
              · refine go (fun t k => XS.icmpNo X0.here hx rfl (hb hby d2_43) rfl (feq hc43).1 k) ?_
                show Gl _ _ _ _ _ _ _ _ (s₁.setTop (mkF m 46 #[.val (.int p1)] []))
                refine go (fun t k => XS.iloadN X0.here hx rfl (hb hby d2_46) rfl  k) ?_
                show Gl _ _ _ _ _ _ _ _ (s₁.setTop (mkF m 47 #[.val (.int p1)] [(.int p1)]))
                refine go (fun t k => XS.bipush X0.here hx rfl (hb hby d2_47) k) ?_
                show Gl _ _ _ _ _ _ _ _ (s₁.setTop (mkF m 49 #[.val (.int p1)] [(.int (94 : Int32)), (.int p1)]))
                refine gI (c := p1 = (94 : Int32)) (fun hc49 => ?_) (fun hc49 => ?_)
                · refine go (fun t k => XS.icmpYes X0.here hx rfl (pc0 := 49) (pc' := 64) rfl (hb hby d2_49) rfl (teq hc49).1 (by decide) (by decide) k) ?_
                  show Gl _ _ _ _ _ _ _ _ (s₁.setTop (mkF m 64 #[.val (.int p1)] []))
                  exact J64  s₁ _ X0 e0 N0
                · refine go (fun t k => XS.icmpNo X0.here hx rfl (hb hby d2_49) rfl (feq hc49).1 k) ?_
                  show Gl _ _ _ _ _ _ _ _ (s₁.setTop (mkF m 52 #[.val (.int p1)] []))
                  refine go (fun t k => XS.iloadN X0.here hx rfl (hb hby d2_52) rfl  k) ?_
                  show Gl _ _ _ _ _ _ _ _ (s₁.setTop (mkF m 53 #[.val (.int p1)] [(.int p1)]))
                  refine go (fun t k => XS.bipush X0.here hx rfl (hb hby d2_53) k) ?_
                  show Gl _ _ _ _ _ _ _ _ (s₁.setTop (mkF m 55 #[.val (.int p1)] [(.int (96 : Int32)), (.int p1)]))
                  refine gI (c := p1 = (96 : Int32)) (fun hc55 => ?_) (fun hc55 => ?_)
                  · refine go (fun t k => XS.icmpYes X0.here hx rfl (pc0 := 55) (pc' := 64) rfl (hb hby d2_55) rfl (teq hc55).1 (by decide) (by decide) k) ?_
                    show Gl _ _ _ _ _ _ _ _ (s₁.setTop (mkF m 64 #[.val (.int p1)] []))
                    exact J64  s₁ _ X0 e0 N0
                  · refine go (fun t k => XS.icmpNo X0.here hx rfl (hb hby d2_55) rfl (feq hc55).1 k) ?_
                    show Gl _ _ _ _ _ _ _ _ (s₁.setTop (mkF m 58 #[.val (.int p1)] []))
                    refine go (fun t k => XS.iloadN X0.here hx rfl (hb hby d2_58) rfl  k) ?_
                    show Gl _ _ _ _ _ _ _ _ (s₁.setTop (mkF m 59 #[.val (.int p1)] [(.int p1)]))
                    refine go (fun t k => XS.bipush X0.here hx rfl (hb hby d2_59) k) ?_
                    show Gl _ _ _ _ _ _ _ _ (s₁.setTop (mkF m 61 #[.val (.int p1)] [(.int (92 : Int32)), (.int p1)]))
                    refine gI (c := p1 = (92 : Int32)) (fun hc61 => ?_) (fun hc61 => ?_)
                    · refine go (fun t k => XS.icmpNo X0.here hx rfl (hb hby d2_61) rfl (teq hc61).2 k) ?_
                      show Gl _ _ _ _ _ _ _ _ (s₁.setTop (mkF m 64 #[.val (.int p1)] []))
                      exact J64  s₁ _ X0 e0 N0
                    · refine go (fun t k => XS.icmpYes X0.here hx rfl (pc0 := 61) (pc' := 66) rfl (hb hby d2_61) rfl (feq hc61).2 (by decide) (by decide) k) ?_
                      show Gl _ _ _ _ _ _ _ _ (s₁.setTop (mkF m 66 #[.val (.int p1)] []))
                      refine go (fun t k => XS.iconst X0.here hx rfl (hb hby d2_66) k) ?_
                      show Gl _ _ _ _ _ _ _ _ (s₁.setTop (mkF m 67 #[.val (.int p1)] [(.int (1 : Int32))]))
                      exact endN X0 hx Bd (t := .boolean) (by simp) (hb hby d2_67) ⟨rfl, e0⟩ N0 (by decide) (by decide)
  · refine go (fun t k => XS.icmpNo X0.here hx rfl (hb hby d2_3) rfl (flt hc3).2.2.1 k) ?_
    show Gl _ _ _ _ _ _ _ _ (s₁.setTop (mkF m 6 #[.val (.int p1)] []))
    refine go (fun t k => XS.iconst X0.here hx rfl (hb hby d2_6) k) ?_
    show Gl _ _ _ _ _ _ _ _ (s₁.setTop (mkF m 7 #[.val (.int p1)] [(.int (0 : Int32))]))
    exact endN X0 hx Bd (t := .boolean) (by simp) (hb hby d2_7) ⟨rfl, e0⟩ N0 (by decide) (by decide)
theorem pd_0 : parseMethodDescriptor "(I)Z" = some ⟨[.int], some .boolean⟩ := by decide +kernel
theorem ef_0 (m : MethodId) (p1 : Int32) (p2 : Int32) : entryFrame m #[(.int p1), (.int p2)] maxLocals = mkF m 0 #[.val (.int p1), .val (.int p2), .unset, .unset] [] := by first | (simp [entryFrame, mkF, argsToLocals, Value.category, maxLocals]; done) | rfl
def b0_65 (s0_65 : Int32) : Int32 := (nar .boolean s0_65)
def b0_49 (v3_49 : Int32) : Int32 := (if (b1_0 v3_49) = (b2_0 v3_49) then (b0_65 (1 : Int32)) else (b0_65 (0 : Int32)))
def b0_0 (p1 : Int32) (p2 : Int32) : Int32 := (if (p2 &&& (3 : Int32)) = (0 : Int32) then (b0_49 p1) else (if (p2 &&& (3 : Int32)) = (1 : Int32) then (b0_49 (p1 &&& (127 : Int32))) else (if (p2 &&& (3 : Int32)) = (2 : Int32) then (b0_49 ((p1 &&& (255 : Int32)) - (128 : Int32))) else (b0_49 (p1 &&& (65535 : Int32))))))
set_option maxRecDepth 65536 in
set_option maxHeartbeats 40000000 in
theorem rm0 (l : Launch) (Z : State) (a0 : Array Value) (hw : ∀ d ∈ tables_1, d.before a0 Z = true) (ws : List Jvm.Cond) (p1 : Int32) (p2 : Int32) (w_ASCII_IRI : Addr) (cl : Cell) (h0 : Heap) (n0 : Nat) (Z0 : n0 ≤ h0.size) (S_ASCII_IRI : Sta Z h0 "com/example/kette/kette/DlgpSyntax" "ASCII_IRI" "[Z" (.ref w_ASCII_IRI)) (Ar : Arr Z h0 w_ASCII_IRI cl .boolean) (hat : ∀ j : Int32, ¬ j < 0 → j < 128 → ¬ (j < 0 ∨ cl.slots.size ≤ j.toNatClampNeg) ∧ cl.slots[j.toNatClampNeg]? = some (.int (own_tab j))) :
    MetFree l x (head1 (Jvm.Cond.code x code maxLocals ret :: ws) room_1) (fun a U => a = #[(.int p1), (.int p2)] ∧ Z.Warmed39 U.vm ∧ U.heap = h0) (fun _ _ _ _ _ => True) (fun _ U o U' => ∃ v L, o = .returned v ∧ QK n0 (Kv (some (.int (b0_0 p1 p2))) (fun _ => True)) v U'.heap L ∧ FrameEnd U o U' L room_1.cells room_1.slots) := by
  refine MetFree.of_bodySF (plainFor_of_name pn_1) hisR ?_
  intro p e s m args below meth c s₁ Bd hml0 hP hK
  obtain ⟨rfl, hZ, hh⟩ := hP
  have hx := Bd.exec
  have hby := Bd.bytes
  have hml : c.maxLocals = 4 := hml0
  have hown : s.vm.findClass "com/example/kette/kette/DlgpSyntaxIsIriCharacterPinLaw" = some m.cls := findClass_of_methodNamed Bd.named
  have hnm := (name_of_methodNamed Bd.named Bd.method).1
  have X0 : Stand p l e room_1 s m #[(.int p1), (.int p2)] below meth c s₁ [] 0 0 := Stand.of_body Bd
  have e0 : s₁.heap = h0 := by rw [← hh, Bd.state]; rfl
  have N0 := Fr.nil n0
  refine gl_start (ef_0 m p1 p2) ?_
  show Gl p e below s n0 room_1.cells room_1.slots (Kv (some (.int (if (p2 &&& (3 : Int32)) = (0 : Int32) then (b0_49 p1) else (if (p2 &&& (3 : Int32)) = (1 : Int32) then (b0_49 (p1 &&& (127 : Int32))) else (if (p2 &&& (3 : Int32)) = (2 : Int32) then (b0_49 ((p1 &&& (255 : Int32)) - (128 : Int32))) else (b0_49 (p1 &&& (65535 : Int32)))))))) (fun _ => True)) (s₁.setTop (mkF m 0 #[.val (.int p1), .val (.int p2), .unset, .unset] []))
  refine go (fun t k => XS.iloadN X0.here hx rfl (hb hby at_0) rfl  k) ?_
  show Gl _ _ _ _ _ _ _ _ (s₁.setTop (mkF m 1 #[.val (.int p1), .val (.int p2), .unset, .unset] [(.int p2)]))
  refine go (fun t k => XS.iconst X0.here hx rfl (hb hby at_1) k) ?_
  show Gl _ _ _ _ _ _ _ _ (s₁.setTop (mkF m 2 #[.val (.int p1), .val (.int p2), .unset, .unset] [(.int (3 : Int32)), (.int p2)]))
  refine go (fun t k => XS.iand X0.here hx rfl (hb hby at_2) rfl k) ?_
  show Gl _ _ _ _ _ _ _ _ (s₁.setTop (mkF m 3 #[.val (.int p1), .val (.int p2), .unset, .unset] [(.int (p2 &&& (3 : Int32)))]))
  refine go (fun t k => XS.istoreN X0.here hx rfl (hb hby at_3) rfl (l' := #[.val (.int p1), .val (.int p2), .val (.int (p2 &&& (3 : Int32))), .unset]) rfl k) ?_
  show Gl _ _ _ _ _ _ _ _ (s₁.setTop (mkF m 4 #[.val (.int p1), .val (.int p2), .val (.int (p2 &&& (3 : Int32))), .unset] []))
  refine go (fun t k => XS.iloadN X0.here hx rfl (hb hby at_4) rfl  k) ?_
  show Gl _ _ _ _ _ _ _ _ (s₁.setTop (mkF m 5 #[.val (.int p1), .val (.int p2), .val (.int (p2 &&& (3 : Int32))), .unset] [(.int (p2 &&& (3 : Int32)))]))
  have J49 : ∀ (v3_49 : Int32) (TJ49 : State) (lJ49 : List Loc) (XJ49 : Stand p l e room_1 s m #[(.int p1), (.int p2)] below meth c TJ49 lJ49 0 0) (eJ49 : TJ49.heap = h0) (NJ49 : Fr n0 lJ49), Gl p e below s n0 room_1.cells room_1.slots (Kv (some (.int (b0_49 v3_49))) (fun _ => True)) (TJ49.setTop (mkF m 49 #[.val (.int p1), .val (.int p2), .val (.int (p2 &&& (3 : Int32))), .val (.int v3_49)] [])) := by
    intro v3_49 TJ49 lJ49 XJ49 eJ49 NJ49
    show Gl _ _ _ _ _ _ _ (Kv (some (.int (if (b1_0 v3_49) = (b2_0 v3_49) then (b0_65 (1 : Int32)) else (b0_65 (0 : Int32))))) _) _
    refine go (fun t k => XS.iloadN XJ49.here hx rfl (hb hby at_49) rfl  k) ?_
    show Gl _ _ _ _ _ _ _ _ (TJ49.setTop (mkF m 50 #[.val (.int p1), .val (.int p2), .val (.int (p2 &&& (3 : Int32))), .val (.int v3_49)] [(.int v3_49)]))
    obtain ⟨_, _, ⟨T2, L2, k2, n2⟩, -, X2, ⟨Lc2, hQ2, l2, y2, z2⟩, st2⟩ := Jvm.LawKit.callS XJ49 hx (y := (⟨"com/example/kette/kette/DlgpSyntax", "isIriCharacter", "(I)Z"⟩ : MethodName)) hown (mvT hZ (hw _ (List.mem_of_getElem? (i := 1) rfl))) (mvT hZ (hw _ (List.mem_of_getElem? (i := 2) rfl))) (mvT hZ (hw _ (List.mem_of_getElem? (i := 3) rfl))) (mvT hZ (hw _ (List.mem_of_getElem? (i := 4) rfl))) (by decide) (backOf (W := 0) (rm1 l Z a0 hw [] v3_49 w_ASCII_IRI cl h0 n0 Z0 S_ASCII_IRI Ar hat) hZ (hw _ (List.mem_of_getElem? (i := 4) rfl)) (hw _ (List.mem_of_getElem? (i := 3) rfl)) (by decide) (by decide)) (g := (mkF m 50 #[.val (.int p1), .val (.int p2), .val (.int (p2 &&& (3 : Int32))), .val (.int v3_49)] [(.int v3_49)])) rfl (by rw [hml]; rfl) (argsL := [(.int v3_49)]) (rest := []) (lenOf pd_0 rfl) rfl (by show 2 * 0 + _ ≤ _; exact Nat.le_of_eq rfl) (hb hby at_50) (fun _ _ => ⟨rfl, eJ49, (by decide : 0 + 0 ≤ _), (by decide : 0 + 0 ≤ _)⟩)
    dsimp only [Pt.U, Pt.locs, Pt.cells, Pt.slots] at X2 l2 y2 z2 st2 hQ2
    subst l2 y2 z2
    have X2 : Stand p l e room_1 s m #[(.int p1), (.int p2)] below meth c T2 _ 0 0 := X2
    obtain ⟨⟨rfl, e2'⟩, N2q⟩ := hQ2
    have e2 : T2.heap = h0 := e2'
    have N2 := Fr.app NJ49 N2q
    refine go (fun t k => st2 _ k) ?_
    show Gl _ _ _ _ _ _ _ _ (T2.setTop (mkF m 53 #[.val (.int p1), .val (.int p2), .val (.int (p2 &&& (3 : Int32))), .val (.int v3_49)] [(.int (b1_0 v3_49))]))
    refine go (fun t k => XS.iloadN X2.here hx rfl (hb hby at_53) rfl  k) ?_
    show Gl _ _ _ _ _ _ _ _ (T2.setTop (mkF m 54 #[.val (.int p1), .val (.int p2), .val (.int (p2 &&& (3 : Int32))), .val (.int v3_49)] [(.int v3_49), (.int (b1_0 v3_49))]))
    obtain ⟨_, _, ⟨T3, L3, k3, n3⟩, -, X3, ⟨Lc3, hQ3, l3, y3, z3⟩, st3⟩ := Jvm.LawKit.callS X2 hx (y := (⟨"com/example/kette/kette/DlgpSyntaxIsIriCharacterPinLaw", "expected", "(I)Z"⟩ : MethodName)) hown (mvT hZ (hw _ (List.mem_of_getElem? (i := 7) rfl))) (mvT hZ (hw _ (List.mem_of_getElem? (i := 8) rfl))) (mvT hZ (hw _ (List.mem_of_getElem? (i := 9) rfl))) (mvT hZ (hw _ (List.mem_of_getElem? (i := 10) rfl))) (by decide) (backOf (W := 1) (rm2 l Z a0 hw [] v3_49 h0 n0 Z0 ) hZ (hw _ (List.mem_of_getElem? (i := 10) rfl)) (hw _ (List.mem_of_getElem? (i := 9) rfl)) (by decide) (by decide)) (g := (mkF m 54 #[.val (.int p1), .val (.int p2), .val (.int (p2 &&& (3 : Int32))), .val (.int v3_49)] [(.int v3_49), (.int (b1_0 v3_49))])) rfl (by rw [hml]; rfl) (argsL := [(.int v3_49)]) (rest := [(.int (b1_0 v3_49))]) (lenOf pd_0 rfl) rfl (by show 2 * 0 + _ ≤ _; exact Nat.le_of_eq rfl) (hb hby at_54) (fun _ _ => ⟨rfl, e2, (by decide : 0 + 0 ≤ _), (by decide : 0 + 0 ≤ _)⟩)
    dsimp only [Pt.U, Pt.locs, Pt.cells, Pt.slots] at X3 l3 y3 z3 st3 hQ3
    subst l3 y3 z3
    have X3 : Stand p l e room_1 s m #[(.int p1), (.int p2)] below meth c T3 _ 0 0 := X3
    obtain ⟨⟨rfl, e3'⟩, N3q⟩ := hQ3
    have e3 : T3.heap = h0 := e3'
    have N3 := Fr.app N2 N3q
    refine go (fun t k => st3 _ k) ?_
    show Gl _ _ _ _ _ _ _ _ (T3.setTop (mkF m 57 #[.val (.int p1), .val (.int p2), .val (.int (p2 &&& (3 : Int32))), .val (.int v3_49)] [(.int (b2_0 v3_49)), (.int (b1_0 v3_49))]))
    have J65 : ∀ (s0_65 : Int32) (TJ65 : State) (lJ65 : List Loc) (XJ65 : Stand p l e room_1 s m #[(.int p1), (.int p2)] below meth c TJ65 lJ65 0 0) (eJ65 : TJ65.heap = h0) (NJ65 : Fr n0 lJ65), Gl p e below s n0 room_1.cells room_1.slots (Kv (some (.int (b0_65 s0_65))) (fun _ => True)) (TJ65.setTop (mkF m 65 #[.val (.int p1), .val (.int p2), .val (.int (p2 &&& (3 : Int32))), .val (.int v3_49)] [(.int s0_65)])) := by
      intro s0_65 TJ65 lJ65 XJ65 eJ65 NJ65
      show Gl _ _ _ _ _ _ _ (Kv (some (.int (nar .boolean s0_65))) _) _
      exact endN XJ65 hx Bd (t := .boolean) (by simp) (hb hby at_65) ⟨rfl, trivial⟩ NJ65 (by decide) (by decide)
    refine gI (c := (b1_0 v3_49) = (b2_0 v3_49)) (fun hc57 => ?_) (fun hc57 => ?_)
    · refine go (fun t k => XS.icmpNo X3.here hx rfl (hb hby at_57) rfl (teq hc57).2 k) ?_
      show Gl _ _ _ _ _ _ _ _ (T3.setTop (mkF m 60 #[.val (.int p1), .val (.int p2), .val (.int (p2 &&& (3 : Int32))), .val (.int v3_49)] []))
      refine go (fun t k => XS.iconst X3.here hx rfl (hb hby at_60) k) ?_
      show Gl _ _ _ _ _ _ _ _ (T3.setTop (mkF m 61 #[.val (.int p1), .val (.int p2), .val (.int (p2 &&& (3 : Int32))), .val (.int v3_49)] [(.int (1 : Int32))]))
      refine go (fun t k => XS.goto X3.here hx rfl (pc0 := 61) (pc' := 65) rfl (hb hby at_61) (by decide) (by decide) k) ?_
      show Gl _ _ _ _ _ _ _ _ (T3.setTop (mkF m 65 #[.val (.int p1), .val (.int p2), .val (.int (p2 &&& (3 : Int32))), .val (.int v3_49)] [(.int (1 : Int32))]))
      exact J65 (1 : Int32) T3 _ X3 e3 N3
    · refine go (fun t k => XS.icmpYes X3.here hx rfl (pc0 := 57) (pc' := 64) rfl (hb hby at_57) rfl (feq hc57).2 (by decide) (by decide) k) ?_
      show Gl _ _ _ _ _ _ _ _ (T3.setTop (mkF m 64 #[.val (.int p1), .val (.int p2), .val (.int (p2 &&& (3 : Int32))), .val (.int v3_49)] []))
      refine go (fun t k => XS.iconst X3.here hx rfl (hb hby at_64) k) ?_
      show Gl _ _ _ _ _ _ _ _ (T3.setTop (mkF m 65 #[.val (.int p1), .val (.int p2), .val (.int (p2 &&& (3 : Int32))), .val (.int v3_49)] [(.int (0 : Int32))]))
      exact J65 (0 : Int32) T3 _ X3 e3 N3
  refine gI (c := (p2 &&& (3 : Int32)) = (0 : Int32)) (fun hc5 => ?_) (fun hc5 => ?_)
  · refine go (fun t k => XS.ifNo X0.here hx rfl (hb hby at_5) rfl ((if0 _ _).trans (teq hc5).2) k) ?_
    show Gl _ _ _ _ _ _ _ _ (s₁.setTop (mkF m 8 #[.val (.int p1), .val (.int p2), .val (.int (p2 &&& (3 : Int32))), .unset] []))
    refine go (fun t k => XS.iloadN X0.here hx rfl (hb hby at_8) rfl  k) ?_
    show Gl _ _ _ _ _ _ _ _ (s₁.setTop (mkF m 9 #[.val (.int p1), .val (.int p2), .val (.int (p2 &&& (3 : Int32))), .unset] [(.int p1)]))
    refine go (fun t k => XS.istoreN X0.here hx rfl (hb hby at_9) rfl (l' := #[.val (.int p1), .val (.int p2), .val (.int (p2 &&& (3 : Int32))), .val (.int p1)]) rfl k) ?_
    show Gl _ _ _ _ _ _ _ _ (s₁.setTop (mkF m 10 #[.val (.int p1), .val (.int p2), .val (.int (p2 &&& (3 : Int32))), .val (.int p1)] []))
    refine go (fun t k => XS.goto X0.here hx rfl (pc0 := 10) (pc' := 49) rfl (hb hby at_10) (by decide) (by decide) k) ?_
    show Gl _ _ _ _ _ _ _ _ (s₁.setTop (mkF m 49 #[.val (.int p1), .val (.int p2), .val (.int (p2 &&& (3 : Int32))), .val (.int p1)] []))
    exact J49 p1 s₁ _ X0 e0 N0
  · refine go (fun t k => XS.ifYes X0.here hx rfl (pc0 := 5) (pc' := 13) rfl (hb hby at_5) rfl ((if0 _ _).trans (feq hc5).2) (by decide) (by decide) k) ?_
    show Gl _ _ _ _ _ _ _ _ (s₁.setTop (mkF m 13 #[.val (.int p1), .val (.int p2), .val (.int (p2 &&& (3 : Int32))), .unset] []))
    refine go (fun t k => XS.iloadN X0.here hx rfl (hb hby at_13) rfl  k) ?_
    show Gl _ _ _ _ _ _ _ _ (s₁.setTop (mkF m 14 #[.val (.int p1), .val (.int p2), .val (.int (p2 &&& (3 : Int32))), .unset] [(.int (p2 &&& (3 : Int32)))]))
    refine go (fun t k => XS.iconst X0.here hx rfl (hb hby at_14) k) ?_
    show Gl _ _ _ _ _ _ _ _ (s₁.setTop (mkF m 15 #[.val (.int p1), .val (.int p2), .val (.int (p2 &&& (3 : Int32))), .unset] [(.int (1 : Int32)), (.int (p2 &&& (3 : Int32)))]))
    refine gI (c := (p2 &&& (3 : Int32)) = (1 : Int32)) (fun hc15 => ?_) (fun hc15 => ?_)
    · refine go (fun t k => XS.icmpNo X0.here hx rfl (hb hby at_15) rfl (teq hc15).2 k) ?_
      show Gl _ _ _ _ _ _ _ _ (s₁.setTop (mkF m 18 #[.val (.int p1), .val (.int p2), .val (.int (p2 &&& (3 : Int32))), .unset] []))
      refine go (fun t k => XS.iloadN X0.here hx rfl (hb hby at_18) rfl  k) ?_
      show Gl _ _ _ _ _ _ _ _ (s₁.setTop (mkF m 19 #[.val (.int p1), .val (.int p2), .val (.int (p2 &&& (3 : Int32))), .unset] [(.int p1)]))
      refine go (fun t k => XS.bipush X0.here hx rfl (hb hby at_19) k) ?_
      show Gl _ _ _ _ _ _ _ _ (s₁.setTop (mkF m 21 #[.val (.int p1), .val (.int p2), .val (.int (p2 &&& (3 : Int32))), .unset] [(.int (127 : Int32)), (.int p1)]))
      refine go (fun t k => XS.iand X0.here hx rfl (hb hby at_21) rfl k) ?_
      show Gl _ _ _ _ _ _ _ _ (s₁.setTop (mkF m 22 #[.val (.int p1), .val (.int p2), .val (.int (p2 &&& (3 : Int32))), .unset] [(.int (p1 &&& (127 : Int32)))]))
      refine go (fun t k => XS.istoreN X0.here hx rfl (hb hby at_22) rfl (l' := #[.val (.int p1), .val (.int p2), .val (.int (p2 &&& (3 : Int32))), .val (.int (p1 &&& (127 : Int32)))]) rfl k) ?_
      show Gl _ _ _ _ _ _ _ _ (s₁.setTop (mkF m 23 #[.val (.int p1), .val (.int p2), .val (.int (p2 &&& (3 : Int32))), .val (.int (p1 &&& (127 : Int32)))] []))
      refine go (fun t k => XS.goto X0.here hx rfl (pc0 := 23) (pc' := 49) rfl (hb hby at_23) (by decide) (by decide) k) ?_
      show Gl _ _ _ _ _ _ _ _ (s₁.setTop (mkF m 49 #[.val (.int p1), .val (.int p2), .val (.int (p2 &&& (3 : Int32))), .val (.int (p1 &&& (127 : Int32)))] []))
      exact J49 (p1 &&& (127 : Int32)) s₁ _ X0 e0 N0
    · refine go (fun t k => XS.icmpYes X0.here hx rfl (pc0 := 15) (pc' := 26) rfl (hb hby at_15) rfl (feq hc15).2 (by decide) (by decide) k) ?_
      show Gl _ _ _ _ _ _ _ _ (s₁.setTop (mkF m 26 #[.val (.int p1), .val (.int p2), .val (.int (p2 &&& (3 : Int32))), .unset] []))
      refine go (fun t k => XS.iloadN X0.here hx rfl (hb hby at_26) rfl  k) ?_
      show Gl _ _ _ _ _ _ _ _ (s₁.setTop (mkF m 27 #[.val (.int p1), .val (.int p2), .val (.int (p2 &&& (3 : Int32))), .unset] [(.int (p2 &&& (3 : Int32)))]))
      refine go (fun t k => XS.iconst X0.here hx rfl (hb hby at_27) k) ?_
      show Gl _ _ _ _ _ _ _ _ (s₁.setTop (mkF m 28 #[.val (.int p1), .val (.int p2), .val (.int (p2 &&& (3 : Int32))), .unset] [(.int (2 : Int32)), (.int (p2 &&& (3 : Int32)))]))
      refine gI (c := (p2 &&& (3 : Int32)) = (2 : Int32)) (fun hc28 => ?_) (fun hc28 => ?_)
      · refine go (fun t k => XS.icmpNo X0.here hx rfl (hb hby at_28) rfl (teq hc28).2 k) ?_
        show Gl _ _ _ _ _ _ _ _ (s₁.setTop (mkF m 31 #[.val (.int p1), .val (.int p2), .val (.int (p2 &&& (3 : Int32))), .unset] []))
        refine go (fun t k => XS.iloadN X0.here hx rfl (hb hby at_31) rfl  k) ?_
        show Gl _ _ _ _ _ _ _ _ (s₁.setTop (mkF m 32 #[.val (.int p1), .val (.int p2), .val (.int (p2 &&& (3 : Int32))), .unset] [(.int p1)]))
        refine go (fun t k => XS.sipush X0.here hx rfl (hb hby at_32) k) ?_
        show Gl _ _ _ _ _ _ _ _ (s₁.setTop (mkF m 35 #[.val (.int p1), .val (.int p2), .val (.int (p2 &&& (3 : Int32))), .unset] [(.int (255 : Int32)), (.int p1)]))
        refine go (fun t k => XS.iand X0.here hx rfl (hb hby at_35) rfl k) ?_
        show Gl _ _ _ _ _ _ _ _ (s₁.setTop (mkF m 36 #[.val (.int p1), .val (.int p2), .val (.int (p2 &&& (3 : Int32))), .unset] [(.int (p1 &&& (255 : Int32)))]))
        refine go (fun t k => XS.sipush X0.here hx rfl (hb hby at_36) k) ?_
        show Gl _ _ _ _ _ _ _ _ (s₁.setTop (mkF m 39 #[.val (.int p1), .val (.int p2), .val (.int (p2 &&& (3 : Int32))), .unset] [(.int (128 : Int32)), (.int (p1 &&& (255 : Int32)))]))
        refine go (fun t k => XS.isub X0.here hx rfl (hb hby at_39) rfl k) ?_
        show Gl _ _ _ _ _ _ _ _ (s₁.setTop (mkF m 40 #[.val (.int p1), .val (.int p2), .val (.int (p2 &&& (3 : Int32))), .unset] [(.int ((p1 &&& (255 : Int32)) - (128 : Int32)))]))
        refine go (fun t k => XS.istoreN X0.here hx rfl (hb hby at_40) rfl (l' := #[.val (.int p1), .val (.int p2), .val (.int (p2 &&& (3 : Int32))), .val (.int ((p1 &&& (255 : Int32)) - (128 : Int32)))]) rfl k) ?_
        show Gl _ _ _ _ _ _ _ _ (s₁.setTop (mkF m 41 #[.val (.int p1), .val (.int p2), .val (.int (p2 &&& (3 : Int32))), .val (.int ((p1 &&& (255 : Int32)) - (128 : Int32)))] []))
        refine go (fun t k => XS.goto X0.here hx rfl (pc0 := 41) (pc' := 49) rfl (hb hby at_41) (by decide) (by decide) k) ?_
        show Gl _ _ _ _ _ _ _ _ (s₁.setTop (mkF m 49 #[.val (.int p1), .val (.int p2), .val (.int (p2 &&& (3 : Int32))), .val (.int ((p1 &&& (255 : Int32)) - (128 : Int32)))] []))
        exact J49 ((p1 &&& (255 : Int32)) - (128 : Int32)) s₁ _ X0 e0 N0
      · refine go (fun t k => XS.icmpYes X0.here hx rfl (pc0 := 28) (pc' := 44) rfl (hb hby at_28) rfl (feq hc28).2 (by decide) (by decide) k) ?_
        show Gl _ _ _ _ _ _ _ _ (s₁.setTop (mkF m 44 #[.val (.int p1), .val (.int p2), .val (.int (p2 &&& (3 : Int32))), .unset] []))
        refine go (fun t k => XS.iloadN X0.here hx rfl (hb hby at_44) rfl  k) ?_
        show Gl _ _ _ _ _ _ _ _ (s₁.setTop (mkF m 45 #[.val (.int p1), .val (.int p2), .val (.int (p2 &&& (3 : Int32))), .unset] [(.int p1)]))
        refine go (fun t k => X0.ldcInt hx hown (mvT hZ (hw _ (List.mem_of_getElem? (i := 0) rfl))) (g := (mkF m 45 #[.val (.int p1), .val (.int p2), .val (.int (p2 &&& (3 : Int32))), .unset] [(.int p1)])) rfl (hb hby at_45) _ k) ?_
        show Gl _ _ _ _ _ _ _ _ (s₁.setTop (mkF m 47 #[.val (.int p1), .val (.int p2), .val (.int (p2 &&& (3 : Int32))), .unset] [(.int (65535 : Int32)), (.int p1)]))
        refine go (fun t k => XS.iand X0.here hx rfl (hb hby at_47) rfl k) ?_
        show Gl _ _ _ _ _ _ _ _ (s₁.setTop (mkF m 48 #[.val (.int p1), .val (.int p2), .val (.int (p2 &&& (3 : Int32))), .unset] [(.int (p1 &&& (65535 : Int32)))]))
        refine go (fun t k => XS.istoreN X0.here hx rfl (hb hby at_48) rfl (l' := #[.val (.int p1), .val (.int p2), .val (.int (p2 &&& (3 : Int32))), .val (.int (p1 &&& (65535 : Int32)))]) rfl k) ?_
        show Gl _ _ _ _ _ _ _ _ (s₁.setTop (mkF m 49 #[.val (.int p1), .val (.int p2), .val (.int (p2 &&& (3 : Int32))), .val (.int (p1 &&& (65535 : Int32)))] []))
        exact J49 (p1 &&& (65535 : Int32)) s₁ _ X0 e0 N0
theorem own_fold {g : Option Bool → Nat → Option Bool} {f : Nat → Option Bool} (h1 : ∀ i, g (some true) i = f i) (h2 : ∀ x i, x ≠ some true → g x i = x) : ∀ (n : Nat), (List.range n).foldl g (some true) = some true → ∀ i, i < n → f i = some true := by
  intro n
  induction n with
  | zero => intro _ i hi; exact absurd hi (Nat.not_lt_zero i)
  | succ n ih =>
    intro h i hi
    rw [List.range_succ, List.foldl_append, List.foldl_cons, List.foldl_nil] at h
    by_cases q : (List.range n).foldl g (some true) = some true
    · by_cases e : i = n
      · subst e; rw [q, h1] at h; exact h
      · exact ih q i (by omega)
    · rw [h2 _ _ q] at h; exact absurd h q
theorem own_alls {args : Array Value} {s : State} {t : Term} {q : Jvm.Cond} {a : Addr} {cell : Cell} (ht : t.eval args s none [] s = some (.ref a)) (hc : s.arrayAt? a = some cell) (h : (Jvm.Cond.all t q).value args s none s [] = some true) :
    ∀ i, i < cell.slots.size → q.value args s none s [i] = some true := by
  simp only [Cond.value, ht, hc] at h
  exact own_fold (fun _ => rfl) (fun x _ hx => by cases x with | none => rfl | some b => cases b <;> first | rfl | exact absurd rfl hx) _ h
theorem own_len {args : Array Value} {s : State} {t : Term} {a : Addr} {cell : Cell} {k : Int32} (ht : t.eval args s none [] s = some (.ref a)) (hc : s.arrayAt? a = some cell) (h : (Term.length t).eval args s none [] s = some (.int k)) : (cell.slots.size : Int) = k.toInt := by
  by_cases hl : cell.slots.size < 2 ^ 31
  · have q := (len_f ht hc hl).symm.trans h
    have q2 : cell.slots.size.toInt32 = k := by injection q with q; injection q
    rw [← q2, len_toInt hl]
  · simp [Term.eval, ht, hc, hl] at h
theorem own_nat {i : Nat} (h : i < 128) : ¬ i.toInt32 < 0 ∧ i.toInt32.toNatClampNeg = i ∧ i.toInt32.toInt = i := by
  have e : i.toInt32.toInt = i := len_toInt (by omega)
  refine ⟨by rw [Int32.lt_iff_toInt_lt, e]; simp only [Int32.reduceToInt]; omega, by rw [Int32.toNatClampNeg, e]; rfl, e⟩
theorem own_elem {args : Array Value} {s : State} {C n d : String} {a : Addr} {cell : Cell} {z : Int32} {i : Nat} (ht : (Term.static C n d).eval args s none [] s = some (.ref a)) (hc : s.arrayAt? a = some cell) (hi : i < 128) (h : (Jvm.Cond.eq (.elem (.static C n d) (.index 0)) (.int z)).value args s none s [i] = some true) : cell.slots[i]? = some (.int z) := by
  have q := own_nat hi
  have ht' : (Term.static C n d).eval args s none [i] s = some (.ref a) := ht
  have he := elem_f ht' (show (Term.index 0).eval args s none [i] s = some (.int i.toInt32) from rfl) hc q.1
  rw [q.2.1] at he
  exact he.symm.trans (eqI_v h)
theorem own_or {args : Array Value} {s : State} {p q : Jvm.Cond} {b : Bool} {idx : List Nat} (h : (Jvm.Cond.or p q).value args s none s idx = some true) (hp : p.value args s none s idx = some b) (hb : b = false) : q.value args s none s idx = some true := by
  subst hb; simp only [Cond.value, hp] at h; exact h
theorem own_all2 {args : Array Value} {s : State} {C n d : String} {a : Addr} {cell : Cell} {k z : Int32} (hlen : (cell.slots.size : Int) = (128 : Int32).toInt) (ht : (Term.static C n d).eval args s none [] s = some (.ref a)) (hc : s.arrayAt? a = some cell)
    (h : (Jvm.Cond.all (.static C n d) (.or (.le (.int k) (.index 0)) (.eq (.elem (.static C n d) (.index 0)) (.int z)))).value args s none s [] = some true) : ∀ i : Nat, i < 128 → (i : Int) < k.toInt → cell.slots[i]? = some (.int z) := by
  intro i hi hk
  have hs : cell.slots.size = 128 := by simp only [Int32.reduceToInt] at hlen; omega
  have q := own_nat hi
  refine own_elem ht hc hi (own_or (own_alls ht hc h i (by omega)) (b := decide (k ≤ i.toInt32)) rfl (decide_eq_false ?_))
  rw [Int32.le_iff_toInt_le, q.2.2]; omega
theorem own_all3 {args : Array Value} {s : State} {C n d : String} {a : Addr} {cell : Cell} {k k' z : Int32} (hlen : (cell.slots.size : Int) = (128 : Int32).toInt) (ht : (Term.static C n d).eval args s none [] s = some (.ref a)) (hc : s.arrayAt? a = some cell)
    (h : (Jvm.Cond.all (.static C n d) (.or (.lt (.index 0) (.int k)) (.or (.le (.int k') (.index 0)) (.eq (.elem (.static C n d) (.index 0)) (.int z))))).value args s none s [] = some true) : ∀ i : Nat, i < 128 → k.toInt ≤ i → (i : Int) < k'.toInt → cell.slots[i]? = some (.int z) := by
  intro i hi hk hk'
  have hs : cell.slots.size = 128 := by simp only [Int32.reduceToInt] at hlen; omega
  have q := own_nat hi
  refine own_elem ht hc hi (own_or (own_or (own_alls ht hc h i (by omega)) (b := decide (i.toInt32 < k)) rfl (decide_eq_false ?_)) (b := decide (k' ≤ i.toInt32)) rfl (decide_eq_false ?_))
  · rw [Int32.lt_iff_toInt_lt, q.2.2]; omega
  · rw [Int32.le_iff_toInt_le, q.2.2]; omega
theorem own_tab0 {j : Int32} (h : j.toInt < 33 ∨ j.toInt = 34 ∨ j.toInt = 60 ∨ j.toInt = 62 ∨ j.toInt = 92 ∨ j.toInt = 94 ∨ j.toInt = 96 ∨ j.toInt = 123 ∨ j.toInt = 124 ∨ j.toInt = 125) : own_tab j = 0 := by
  unfold own_tab; rw [if_pos]; simp only [Int32.lt_iff_toInt_lt, ← Int32.toInt_inj, Int32.reduceToInt]; exact h
theorem own_tab1 {j : Int32} (h : ¬ (j.toInt < 33 ∨ j.toInt = 34 ∨ j.toInt = 60 ∨ j.toInt = 62 ∨ j.toInt = 92 ∨ j.toInt = 94 ∨ j.toInt = 96 ∨ j.toInt = 123 ∨ j.toInt = 124 ∨ j.toInt = 125)) : own_tab j = 1 := by
  unfold own_tab; rw [if_neg]; simp only [Int32.lt_iff_toInt_lt, ← Int32.toInt_inj, Int32.reduceToInt]; exact h
theorem own_fill {cl : Cell} (hlen : (cl.slots.size : Int) = (128 : Int32).toInt)
    (a0 : ∀ i : Nat, i < 128 → (i : Int) < (33 : Int32).toInt → cl.slots[i]? = some (.int 0)) (a1 : ∀ i : Nat, i < 128 → (35 : Int32).toInt ≤ i → (i : Int) < (60 : Int32).toInt → cl.slots[i]? = some (.int 1)) (a2 : ∀ i : Nat, i < 128 → (63 : Int32).toInt ≤ i → (i : Int) < (92 : Int32).toInt → cl.slots[i]? = some (.int 1)) (a3 : ∀ i : Nat, i < 128 → (97 : Int32).toInt ≤ i → (i : Int) < (123 : Int32).toInt → cl.slots[i]? = some (.int 1))
    (e33 : cl.slots[33]? = some (.int 1)) (e34 : cl.slots[34]? = some (.int 0)) (e60 : cl.slots[60]? = some (.int 0)) (e61 : cl.slots[61]? = some (.int 1)) (e62 : cl.slots[62]? = some (.int 0)) (e92 : cl.slots[92]? = some (.int 0)) (e93 : cl.slots[93]? = some (.int 1)) (e94 : cl.slots[94]? = some (.int 0)) (e95 : cl.slots[95]? = some (.int 1)) (e96 : cl.slots[96]? = some (.int 0))
    (e123 : cl.slots[123]? = some (.int 0)) (e124 : cl.slots[124]? = some (.int 0)) (e125 : cl.slots[125]? = some (.int 0)) (e126 : cl.slots[126]? = some (.int 1)) (e127 : cl.slots[127]? = some (.int 1)) :
    ∀ j : Int32, ¬ j < 0 → j < 128 → ¬ (j < 0 ∨ cl.slots.size ≤ j.toNatClampNeg) ∧ cl.slots[j.toNatClampNeg]? = some (.int (own_tab j)) := by
  simp only [Int32.reduceToInt] at hlen a0 a1 a2 a3
  intro j h0 h1
  have g0 : ¬ j.toInt < 0 := by simpa only [Int32.lt_iff_toInt_lt, Int32.reduceToInt] using h0
  have g1 : j.toInt < 128 := by simpa only [Int32.lt_iff_toInt_lt, Int32.reduceToInt] using h1
  obtain ⟨i, hi⟩ : ∃ i, i = j.toNatClampNeg := ⟨_, rfl⟩
  have hij : (i : Int) = j.toInt := by rw [hi, Int32.toNatClampNeg]; omega
  rw [← hi]
  refine ⟨fun q => q.elim h0 (by omega), ?_⟩
  rcases (show i < 33 ∨ i = 33 ∨ i = 34 ∨ (35 ≤ i ∧ i < 60) ∨ i = 60 ∨ i = 61 ∨ i = 62 ∨ (63 ≤ i ∧ i < 92) ∨ i = 92 ∨ i = 93 ∨ i = 94 ∨ i = 95 ∨ i = 96 ∨ (97 ≤ i ∧ i < 123) ∨ i = 123 ∨ i = 124 ∨ i = 125 ∨ i = 126 ∨ i = 127 by omega) with h | h | h | h | h | h | h | h | h | h | h | h | h | h | h | h | h | h | h
  · rw [own_tab0 (by omega)]; exact a0 i (by omega) (by omega)
  · rw [own_tab1 (by omega), h]; exact e33
  · rw [own_tab0 (by omega), h]; exact e34
  · rw [own_tab1 (by omega)]; exact a1 i (by omega) (by omega) (by omega)
  · rw [own_tab0 (by omega), h]; exact e60
  · rw [own_tab1 (by omega), h]; exact e61
  · rw [own_tab0 (by omega), h]; exact e62
  · rw [own_tab1 (by omega)]; exact a2 i (by omega) (by omega) (by omega)
  · rw [own_tab0 (by omega), h]; exact e92
  · rw [own_tab1 (by omega), h]; exact e93
  · rw [own_tab0 (by omega), h]; exact e94
  · rw [own_tab1 (by omega), h]; exact e95
  · rw [own_tab0 (by omega), h]; exact e96
  · rw [own_tab1 (by omega)]; exact a3 i (by omega) (by omega) (by omega)
  · rw [own_tab0 (by omega), h]; exact e123
  · rw [own_tab0 (by omega), h]; exact e124
  · rw [own_tab0 (by omega), h]; exact e125
  · rw [own_tab1 (by omega), h]; exact e126
  · rw [own_tab1 (by omega), h]; exact e127
--@@LAW
set_option maxHeartbeats 4000000 in
theorem own_same (c : Int32) : b1_0 c = b2_0 c := by
  have k0 : b1_23 = 0 := rfl
  have k1 : b1_38 1 = 1 := rfl
  have k2 : b1_38 0 = 0 := rfl
  have k3 : b2_38 = 0 := rfl
  have k4 : b2_64 = 0 := rfl
  have k5 : nar .boolean 1 = 1 := rfl
  have k6 : nar .boolean 0 = 0 := rfl
  have t : own_tab c = if c.toInt < 33 ∨ c.toInt = 34 ∨ c.toInt = 60 ∨ c.toInt = 62 ∨ c.toInt = 92 ∨ c.toInt = 94 ∨ c.toInt = 96 ∨ c.toInt = 123 ∨ c.toInt = 124 ∨ c.toInt = 125 then 0 else 1 := by
    unfold own_tab; simp only [Int32.lt_iff_toInt_lt, ← Int32.toInt_inj, Int32.reduceToInt]
  have q1 : b1_0 c = if c.toInt < 33 ∨ c.toInt = 34 ∨ c.toInt = 60 ∨ c.toInt = 62 ∨ c.toInt = 92 ∨ c.toInt = 94 ∨ c.toInt = 96 ∨ c.toInt = 123 ∨ c.toInt = 124 ∨ c.toInt = 125 then 0 else 1 := by
    unfold b1_0
    rw [t]
    by_cases c1 : c.toInt < 33 ∨ c.toInt = 34 ∨ c.toInt = 60 ∨ c.toInt = 62 ∨ c.toInt = 92 ∨ c.toInt = 94 ∨ c.toInt = 96 ∨ c.toInt = 123 ∨ c.toInt = 124 ∨ c.toInt = 125
    · rw [if_pos c1]
      simp only [k0, k1, k2, if_true, Int32.lt_iff_toInt_lt, Int32.reduceToInt]
      (repeat' split) <;> first | rfl | (exfalso; omega)
    · rw [if_neg c1]
      simp only [k0, k1, k2, show ¬ ((1 : Int32) = 0) by decide, if_false, Int32.lt_iff_toInt_lt, Int32.reduceToInt]
      (repeat' split) <;> first | rfl | (exfalso; omega)
  rw [q1]
  unfold b2_0
  simp only [k3, k4, k5, k6, Int32.lt_iff_toInt_lt, ← Int32.toInt_inj, Int32.reduceToInt]
  (repeat' split) <;> first | rfl | (exfalso; omega)
theorem own_law (p1 p2 : Int32) : b0_0 p1 p2 = 1 := by
  have h : ∀ v, b0_49 v = 1 := fun v => by
    unfold b0_49; rw [if_pos (own_same v)]; rfl
  unfold b0_0
  simp only [h, ite_self]
set_option maxRecDepth 65536 in
set_option maxHeartbeats 40000000 in
theorem comes_1 {Post : Tables → Env → Array Value → State → Outcome → State → Prop} (hpost : ∀ tb e args s v u, (limb_1_1.after args s (.returned v) u = true ∧ limb_1_2.after args s (.returned v) u = true ∧ True) → FrameEnd s (.returned v) u (Jvm.fieldLocs frame_1_writes args s ++ Jvm.arrayLocs frame_1_arrays args s ++ Jvm.staticLocs frame_1_statics s) 0 0 → Post tb e args s (.returned v) u) :
    ArmFor flags0 classFile x code maxLocals ret World_1 tables_1 room_1 Calls_1 rest_1 Pre_1 Post := by
  intro l hfl _ _ p e ha hc hk s m args below hf hA hF happ hP
  obtain ⟨hcalls, hrest, hpre⟩ := hP
  obtain ⟨-, -, -, hnamed, -, -, -, hat⟩ := (Spec.applies_iff hf).mp happ
  obtain ⟨hg, hn⟩ := and_e (Cond.before_iff.mp (show (Jvm.Cond.and given_1 narrow_1).before args s = true from hpre))
  obtain ⟨g1, g2⟩ := and_e hg
  obtain ⟨g3, g4⟩ := and_e g2
  obtain ⟨w0, w1, rfl⟩ : ∃ w0 w1 : Value, args = #[w0, w1] := by
    have hs : args.size = 2 := by simpa [Cond.value, given_1] using g1
    obtain ⟨L⟩ := args
    match L, hs with
    | [w0, w1], _ => exact ⟨w0, w1, rfl⟩
  have hw := fun d (hd : d ∈ tables_1) => atoms_spec (ws := Jvm.Cond.code x code maxLocals ret :: tables_1) hat d (List.mem_cons_of_mem _ hd)
  have hfit : Fit s := fun {y c} hc i hi => by
    obtain ⟨ha, rfl⟩ := Array.getElem?_eq_some_iff.mp hc
    have q := List.all_eq_true.mp ((Array.all_eq_true_iff_forall_mem.mp hF) _ (Array.getElem_mem ha)) i (List.mem_range.mpr hi)
    simpa [Array.getElem?_eq_getElem hi] using q
  obtain ⟨i0, ei0⟩ := is_v g3
  obtain rfl : w0 = (.int i0) := Option.some.inj ei0
  obtain ⟨i1, ei1⟩ := is_v g4
  obtain rfl : w1 = (.int i1) := Option.some.inj ei1
  obtain ⟨m0, hn0⟩ := and_e hn
  obtain ⟨m1, hn1⟩ := and_e hn0
  obtain ⟨m2, hn2⟩ := and_e hn1
  obtain ⟨m3, hn3⟩ := and_e hn2
  obtain ⟨m4, hn4⟩ := and_e hn3
  obtain ⟨m5, hn5⟩ := and_e hn4
  obtain ⟨m6, hn6⟩ := and_e hn5
  obtain ⟨m7, hn7⟩ := and_e hn6
  obtain ⟨m8, hn8⟩ := and_e hn7
  obtain ⟨m9, hn9⟩ := and_e hn8
  obtain ⟨m10, hn10⟩ := and_e hn9
  obtain ⟨m11, hn11⟩ := and_e hn10
  obtain ⟨m12, hn12⟩ := and_e hn11
  obtain ⟨m13, hn13⟩ := and_e hn12
  obtain ⟨m14, hn14⟩ := and_e hn13
  obtain ⟨m15, hn15⟩ := and_e hn14
  obtain ⟨m16, hn16⟩ := and_e hn15
  obtain ⟨m17, hn17⟩ := and_e hn16
  obtain ⟨m18, hn18⟩ := and_e hn17
  obtain ⟨m19, hn19⟩ := and_e hn18
  obtain ⟨wa, ea⟩ := arr_v m0
  obtain ⟨cl, Ar⟩ := Arr.start ea m0
  have S_A : Sta s s.heap "com/example/kette/kette/DlgpSyntax" "ASCII_IRI" "[Z" (.ref wa) := Sta.start ea (Or.inr ⟨(hw _ (List.mem_of_getElem? (i := 3) rfl)), (hw _ (List.mem_of_getElem? (i := 6) rfl))⟩)
  have hAt : s.arrayAt? wa = some cl := Arr.fin (Vm.Alike.refl _) Ar
  have hlen := own_len ea hAt (eqI_v m1)
  have hel : ∀ j : Int32, ¬ j < 0 → j < 128 → ¬ (j < 0 ∨ cl.slots.size ≤ j.toNatClampNeg) ∧ cl.slots[j.toNatClampNeg]? = some (.int (own_tab j)) := by
    have el := fun (k : Int32) (z : Int32) (h : (Jvm.Cond.eq (Jvm.Term.elem (Jvm.Term.static "com/example/kette/kette/DlgpSyntax" "ASCII_IRI" "[Z") (Jvm.Term.int k)) (Jvm.Term.int z)).value #[.int i0, .int i1] s none s [] = some true) => (elem_in (eqI_v h) ea (Term.int_eval k) Ar.1).2
    refine own_fill hlen (own_all2 hlen ea hAt m2) (own_all3 hlen ea hAt m5) (own_all3 hlen ea hAt m9) (own_all3 hlen ea hAt m15) (el 33 1 m3) (el 34 0 m4) (el 60 0 m6) (el 61 1 m7) (el 62 0 m8) (el 92 0 m10) (el 93 1 m11) (el 94 0 m12) (el 95 1 m13) (el 96 0 m14) (el 123 0 m16) (el 124 0 m17) (el 125 0 m18) (el 126 1 m19) (el 127 1 hn19)
  obtain ⟨n, o, h1, h2, h3, _, L, rfl, ⟨⟨hv, -⟩, N⟩, hq⟩ := rm0 l s _ hw tables_1 i0 i1 wa cl s.heap s.heap.size (Nat.le_refl _) S_A Ar hel p e ha hc hk s m _ below hf ((Spec.applies_iff_loose hf).mp happ).1 ⟨rfl, State.Warmed39.refl s, rfl⟩ trivial
  rw [own_law] at hv
  subst hv
  refine ⟨n, _, h1, h2, h3, hpost _ _ _ _ _ _ ⟨Cond.after_iff.mpr rfl, Cond.after_iff.mpr (eq_i res_at (Term.int_eval (1)) rfl), trivial⟩ ⟨hq.1, hq.2.1, (hq.2.2.sift fun y hy => Or.inr (N y hy)).mono (by decide) (by decide)⟩⟩
theorem main_1_1 : Claimed_1_1 := comes_1 fun _ _ _ _ _ _ h hF => ⟨h.1, hF⟩
theorem main_1_2 : Claimed_1_2 := comes_1 fun _ _ _ _ _ _ h hF => ⟨h.2.1, hF⟩
end Jvm.Pilot.@@N@@
namespace Jvm.Pilot.@@N@@
open Jvm Jvm.ClassFile Sem Op Lib Jvm.Free Jvm.Stand Jvm.Pilot.@@N@@.Jvm.D
/-! MADE BY PROGRAM (witnessworld.py) out of the Statement's table words and the real class files: 9 classes; the members and pool entries that the words name. The judged class is class 1, her method 1. -/
namespace start1
open Jvm.ClassFile
def u (s : String) : CpInfo := .utf8 (stringToUtf16 s)
/-- a pool by its gaps: so many unusable entries, then the entry; so many at the end -/
def gap : Nat → List CpInfo → List CpInfo
  | 0, r => r
  | n + 1, r => .unusable :: gap n r
def poolList (es : List (Nat × CpInfo)) (last : Nat) : List CpInfo := es.foldr (fun e r => gap e.1 (e.2 :: r)) (gap last [])
def pool (es : List (Nat × CpInfo)) (last : Nat) : Array CpInfo := ⟨poolList es last⟩
def fileOf (pool : Array CpInfo) (this : Nat) (attrs : Array Attribute := #[]) (ms : Array MethodInfo := #[]) (fl : Nat := 33) (sup : Nat := 0) (ifs : Array Nat := #[]) (fds : Array FieldInfo := #[]) : ClassFile where
  minorVersion := 0
  majorVersion := 65
  constantPool := pool
  accessFlags := fl
  thisClass := this
  superClass := sup
  interfaces := ifs
  fields := fds
  methods := ms
  attributes := attrs
def plain (name : String) (sup : Option ClassId) : Class where
  name := name
  kind := .ordinary
  loader := none
  accessFlags := 33
  super := sup
  interfaces := #[]
  cf := none
  fields := #[]
  methods := #[]
  instanceTypes := #[]
  staticTypes := #[]
  resolved := #[]
  callSites := []
  init := .initialized
  statics := none
  mirror := none

def pool0 : Array CpInfo := pool [(5, u "<init>"), (0, u "()V"), (1, .class_ 10), (1, u "java/lang/Object")] 113

def k0m0 : Method := { name := "<init>", desc := "()V", sig := { parameters := [], returnType := none }, accessFlags := 1, code := none }
/-- java/lang/Object -/
def k0 : Class := { plain "java/lang/Object" none with
  accessFlags := 33
  interfaces := #[]
  cf := some (fileOf pool0 8 #[] #[{ accessFlags := 1, nameIndex := 5, descriptorIndex := 6, attributes := #[] }] 33 0 #[] #[])
  fields := #[]
  methods := #[k0m0]
  instanceTypes := #[]
  staticTypes := #[]
  resolved := Array.replicate 124 none
  statics := none }

def pool1 : Array CpInfo := pool [(2, .class_ 4), (1, u "java/lang/Object"), (0, u "<init>"), (0, u "()V"), (0, .integer 65535), (0, .methodref 9 10), (0, .class_ 11), (0, .nameAndType 12 13), (0, u "com/example/kette/kette/DlgpSyntax"), (0, u "isIriCharacter"), (0, u "(I)Z"), (0, .methodref 15 16), (0, .class_ 17), (0, .nameAndType 18 13), (0, u "com/example/kette/kette/DlgpSyntaxIsIriCharacterPinLaw"), (0, u "expected"), (2, u "law"), (0, u "(II)Z")] 3

def k1m0 : Method := { name := "<init>", desc := "()V", sig := { parameters := [], returnType := none }, accessFlags := 2, code := none }
def k1c1 : Code := { maxStack := 2, maxLocals := 4, code := code, exceptionTable := #[], attributes := #[] }
def k1m1 : Method := { name := "law", desc := "(II)Z", sig := { parameters := [.int, .int], returnType := some .boolean }, accessFlags := 9, code := some k1c1 }
def k1c2 : Code := { maxStack := 2, maxLocals := 1, code := method_3_code, exceptionTable := #[], attributes := #[] }
def k1m2 : Method := { name := "expected", desc := "(I)Z", sig := { parameters := [.int], returnType := some .boolean }, accessFlags := 10, code := some k1c2 }
/-- com/example/kette/kette/DlgpSyntaxIsIriCharacterPinLaw -/
def k1 : Class := { plain "com/example/kette/kette/DlgpSyntaxIsIriCharacterPinLaw" (some 0) with
  accessFlags := 49
  interfaces := #[]
  cf := some (fileOf pool1 15 #[] #[{ accessFlags := 2, nameIndex := 5, descriptorIndex := 6, attributes := #[] }, { accessFlags := 9, nameIndex := 21, descriptorIndex := 22, attributes := #[] }, { accessFlags := 10, nameIndex := 18, descriptorIndex := 13, attributes := #[] }] 49 2 #[] #[])
  fields := #[]
  methods := #[k1m0, k1m1, k1m2]
  instanceTypes := #[]
  staticTypes := #[]
  resolved := Array.replicate 26 none
  statics := none }

def pool2 : Array CpInfo := pool [(1, .class_ 2), (0, u "com/example/kette/kette/DlgpSyntax"), (1, .class_ 6), (1, u "java/lang/Object"), (0, u "<init>"), (0, u "()V"), (17, u "(I)Z"), (2, u "isIriCharacter"), (9, .fieldref 1 40), (0, .nameAndType 41 42), (0, u "ASCII_IRI"), (0, u "[Z"), (2, u "ASCII_NAME_START"), (2, u "NAME_START_RANGES"), (0, u "[I"), (6, u "ASCII_NAME_PART"), (5, u "NAME_PART_RANGES"), (105, u "XSD"), (0, u "Ljava/lang/String;"), (3, u "XSD_STRING"), (2, u "XSD_INTEGER"), (0, u "XSD_DECIMAL"), (0, u "XSD_DOUBLE"), (0, u "XSD_BOOLEAN"), (0, u "RDF_LANG_STRING"), (2, u "FORBIDDEN_IN_IRI"), (0, u "LOCAL_ESCAPES")] 55

def k2m0 : Method := { name := "<init>", desc := "()V", sig := { parameters := [], returnType := none }, accessFlags := 2, code := none }
def k2c1 : Code := { maxStack := 2, maxLocals := 1, code := prog_14_method_5_code, exceptionTable := #[], attributes := #[] }
def k2m1 : Method := { name := "isIriCharacter", desc := "(I)Z", sig := { parameters := [.int], returnType := some .boolean }, accessFlags := 8, code := some k2c1 }
/-- com/example/kette/kette/DlgpSyntax -/
def k2 : Class := { plain "com/example/kette/kette/DlgpSyntax" (some 0) with
  accessFlags := 48
  interfaces := #[]
  cf := some (fileOf pool2 1 #[] #[{ accessFlags := 2, nameIndex := 7, descriptorIndex := 8, attributes := #[] }, { accessFlags := 8, nameIndex := 29, descriptorIndex := 26, attributes := #[] }] 48 4 #[] #[{ accessFlags := 26, nameIndex := 168, descriptorIndex := 169, attributes := #[] }, { accessFlags := 24, nameIndex := 173, descriptorIndex := 169, attributes := #[] }, { accessFlags := 24, nameIndex := 176, descriptorIndex := 169, attributes := #[] }, { accessFlags := 24, nameIndex := 177, descriptorIndex := 169, attributes := #[] }, { accessFlags := 24, nameIndex := 178, descriptorIndex := 169, attributes := #[] }, { accessFlags := 24, nameIndex := 179, descriptorIndex := 169, attributes := #[] }, { accessFlags := 24, nameIndex := 180, descriptorIndex := 169, attributes := #[] }, { accessFlags := 26, nameIndex := 183, descriptorIndex := 169, attributes := #[] }, { accessFlags := 26, nameIndex := 48, descriptorIndex := 49, attributes := #[] }, { accessFlags := 26, nameIndex := 62, descriptorIndex := 49, attributes := #[] }, { accessFlags := 26, nameIndex := 41, descriptorIndex := 42, attributes := #[] }, { accessFlags := 26, nameIndex := 45, descriptorIndex := 42, attributes := #[] }, { accessFlags := 26, nameIndex := 56, descriptorIndex := 42, attributes := #[] }, { accessFlags := 24, nameIndex := 184, descriptorIndex := 169, attributes := #[] }])
  fields := #[{ name := "XSD", type := (.object "java/lang/String"), accessFlags := 26, slot := 0, constantValue := 0 }, { name := "XSD_STRING", type := (.object "java/lang/String"), accessFlags := 24, slot := 1, constantValue := 0 }, { name := "XSD_INTEGER", type := (.object "java/lang/String"), accessFlags := 24, slot := 2, constantValue := 0 }, { name := "XSD_DECIMAL", type := (.object "java/lang/String"), accessFlags := 24, slot := 3, constantValue := 0 }, { name := "XSD_DOUBLE", type := (.object "java/lang/String"), accessFlags := 24, slot := 4, constantValue := 0 }, { name := "XSD_BOOLEAN", type := (.object "java/lang/String"), accessFlags := 24, slot := 5, constantValue := 0 }, { name := "RDF_LANG_STRING", type := (.object "java/lang/String"), accessFlags := 24, slot := 6, constantValue := 0 }, { name := "FORBIDDEN_IN_IRI", type := (.object "java/lang/String"), accessFlags := 26, slot := 7, constantValue := 0 }, { name := "NAME_START_RANGES", type := (.array .int), accessFlags := 26, slot := 8, constantValue := 0 }, { name := "NAME_PART_RANGES", type := (.array .int), accessFlags := 26, slot := 9, constantValue := 0 }, { name := "ASCII_IRI", type := (.array .boolean), accessFlags := 26, slot := 10, constantValue := 0 }, { name := "ASCII_NAME_START", type := (.array .boolean), accessFlags := 26, slot := 11, constantValue := 0 }, { name := "ASCII_NAME_PART", type := (.array .boolean), accessFlags := 26, slot := 12, constantValue := 0 }, { name := "LOCAL_ESCAPES", type := (.object "java/lang/String"), accessFlags := 24, slot := 13, constantValue := 0 }]
  methods := #[k2m0, k2m1]
  instanceTypes := #[]
  staticTypes := #[(.object "java/lang/String"), (.object "java/lang/String"), (.object "java/lang/String"), (.object "java/lang/String"), (.object "java/lang/String"), (.object "java/lang/String"), (.object "java/lang/String"), (.object "java/lang/String"), (.array .int), (.array .int), (.array .boolean), (.array .boolean), (.array .boolean), (.object "java/lang/String")]
  resolved := Array.replicate 240 none
  statics := some 0 }

def pool3 : Array CpInfo := pool [(1, u "java/lang/Cloneable"), (0, .class_ 1), (0, u "java/lang/Object"), (0, .class_ 3)] 3

/-- java/lang/Cloneable -/
def k3 : Class := { plain "java/lang/Cloneable" (some 0) with
  accessFlags := 1537
  interfaces := #[]
  cf := some (fileOf pool3 2 #[] #[] 1537 4 #[] #[])
  fields := #[]
  methods := #[]
  instanceTypes := #[]
  staticTypes := #[]
  resolved := Array.replicate 8 none
  statics := none }

def pool4 : Array CpInfo := pool [(1, u "java/io/Serializable"), (0, .class_ 1), (0, u "java/lang/Object"), (0, .class_ 3)] 3

/-- java/io/Serializable -/
def k4 : Class := { plain "java/io/Serializable" (some 0) with
  accessFlags := 1537
  interfaces := #[]
  cf := some (fileOf pool4 2 #[] #[] 1537 4 #[] #[])
  fields := #[]
  methods := #[]
  instanceTypes := #[]
  staticTypes := #[]
  resolved := Array.replicate 8 none
  statics := none }

/-- the primitive boolean -/
def k5 : Class := { plain "boolean" none with kind := .primitive 'Z', accessFlags := 0x411 }
/-- [Z -/
def k6 : Class := { plain "[Z" (some 0) with kind := .array 5 .boolean, interfaces := #[3, 4], accessFlags := 1041 }

/-- the primitive byte -/
def k7 : Class := { plain "byte" none with kind := .primitive 'B', accessFlags := 0x411 }
/-- [B -/
def k8 : Class := { plain "[B" (some 0) with kind := .array 7 .byte, interfaces := #[3, 4], accessFlags := 1041 }

def heap : Heap := #[{ cls := 2, slots := #[.null, .null, .null, .null, .null, .null, .null, .null, .null, .null, .ref 1, .null, .null, .null], vm := .statics 2 },
  { cls := 6, slots := #[.int 0, .int 0, .int 0, .int 0, .int 0, .int 0, .int 0, .int 0, .int 0, .int 0, .int 0, .int 0, .int 0, .int 0, .int 0, .int 0, .int 0, .int 0, .int 0, .int 0, .int 0, .int 0, .int 0, .int 0, .int 0, .int 0, .int 0, .int 0, .int 0, .int 0, .int 0, .int 0, .int 0, .int 1, .int 0, .int 1, .int 1, .int 1, .int 1, .int 1, .int 1, .int 1, .int 1, .int 1, .int 1, .int 1, .int 1, .int 1, .int 1, .int 1, .int 1, .int 1, .int 1, .int 1, .int 1, .int 1, .int 1, .int 1, .int 1, .int 1, .int 0, .int 1, .int 0, .int 1, .int 1, .int 1, .int 1, .int 1, .int 1, .int 1, .int 1, .int 1, .int 1, .int 1, .int 1, .int 1, .int 1, .int 1, .int 1, .int 1, .int 1, .int 1, .int 1, .int 1, .int 1, .int 1, .int 1, .int 1, .int 1, .int 1, .int 1, .int 1, .int 0, .int 1, .int 0, .int 1, .int 0, .int 1, .int 1, .int 1, .int 1, .int 1, .int 1, .int 1, .int 1, .int 1, .int 1, .int 1, .int 1, .int 1, .int 1, .int 1, .int 1, .int 1, .int 1, .int 1, .int 1, .int 1, .int 1, .int 1, .int 1, .int 1, .int 1, .int 0, .int 0, .int 0, .int 1, .int 1], vm := .none }]
def classes : Array Class := #[k0, k1, k2, k3, k4, k5, k6, k7, k8]
def interned : List (Array UInt16 × Addr) := []
def slotsUsed : Nat := 142
def theMethod : MethodId := ⟨1, 1⟩
def args0 : Array Value := #[.int 5, .int 6]
def aboutOver (below : List Frame) : State where
  vm := { classes := classes, interned := interned.toArray }
  heap := heap
  slotsUsed := slotsUsed
  threads := #[{ frames := .invoking theMethod args0 :: below }]
def below0 : List Frame := [.native { method := ⟨0, 0⟩, args := #[] }]
def about1 : State := aboutOver below0
def p0 : Program := .bare "" "" ""
def e0 : Env := launch0.env 0 0 0
theorem w_frames : about1.frames = Frame.invoking theMethod args0 :: below0 := rfl
set_option maxRecDepth 65536 in
theorem w_args : argsFit about1.vm theMethod args0 = true := by decide +kernel
set_option maxRecDepth 65536 in
theorem w_heap : heapFits about1 = true := by decide +kernel
set_option maxRecDepth 65536 in
theorem w_runnable : about1.curStatus? = some .runnable := by decide +kernel
set_option maxRecDepth 65536 in
theorem w_alone : about1.alone = true := by decide +kernel
set_option maxRecDepth 65536 in
theorem w_named : about1.methodNamed? x = some theMethod := by decide +kernel
set_option maxRecDepth 65536 in
theorem w_hears : about1.hears theMethod below0 = true := by decide +kernel
set_option maxRecDepth 65536 in
theorem w_ripe : about1.ripe theMethod args0 below0 = true := by decide +kernel
theorem w_running : about1.status = .running := rfl
set_option maxRecDepth 65536 in
theorem w_room : about1.hasRoom e0.platform room_1 = true :=
  launch0.hasRoom_least _ room_1 (by decide +kernel) (by decide +kernel) (by decide +kernel) (by decide +kernel) (by decide +kernel) (by decide +kernel)
theorem allAtoms_all (ts : List Jvm.Cond) (a : Array Jvm.Value) (st : Jvm.State) : (allAtoms ts).before a st = ts.all (fun c => c.before a st) := by
  induction ts with
  | nil => rfl
  | cons c t ih =>
    show (Jvm.Cond.and c (allAtoms t)).before a st = _
    rw [Jvm.Cond.before_and, ih, List.all_cons]
def words1 : List Jvm.Cond := Jvm.Cond.code x code maxLocals ret :: tables_1
/-- a 'code' word, met by the world's own term for the bytes: nothing is compared byte by byte -/
theorem code_word {y : MethodName} {bytes : ByteArray} {mx : Nat} {rt : Option FieldType} {a : Array Value} {s : State} {m : MethodId} {meth : Method} {c : Code} (h1 : s.methodNamed? y = some m) (h2 : s.vm.method? m = some meth) (h3 : meth.code = some c) (h4 : c.code = bytes)
    (h5 : (c.maxLocals == mx && c.exceptionTable.isEmpty && decide (c.maxStack ≤ mostOperands) && decide (meth.sig.returnType = rt) && !meth.locks && decide (parseMethodDescriptor y.desc = some meth.sig)) = true) : (Jvm.Cond.code y bytes mx rt).before a s = true := by
  simp only [Bool.and_eq_true, beq_iff_eq, Bool.not_eq_true', decide_eq_true_eq] at h5
  obtain ⟨⟨⟨⟨⟨g1, g2⟩, g3⟩, g4⟩, g5⟩, g6⟩ := h5
  simp [Cond.before, Cond.holds, Cond.value, h1, h2, h3, h4, g1, g2, g3, g4, g5, g6]
def isCode : Jvm.Cond → Bool
  | .code _ _ _ _ => true
  | _ => false
theorem all_split {L : List Jvm.Cond} {P : Jvm.Cond → Bool} (h1 : L.all (fun c => isCode c || P c) = true) (h2 : ∀ c ∈ L.filter isCode, P c = true) : L.all P = true := by
  refine List.all_eq_true.mpr fun c hc => ?_
  have h := List.all_eq_true.mp h1 c hc
  rcases Bool.eq_false_or_eq_true (isCode c) with hi | hi
  · exact h2 c (List.mem_filter.mpr ⟨hc, hi⟩)
  · simpa [hi] using h
set_option maxRecDepth 65536 in
theorem w_c0 : (Jvm.Cond.code x code maxLocals ret).before args0 about1 = true := code_word (m := ⟨1, 1⟩) (meth := k1m1) (c := k1c1) (by decide +kernel) rfl rfl rfl (by decide +kernel)
set_option maxRecDepth 65536 in
theorem w_c1 : (Jvm.Cond.code ({ cls := "com/example/kette/kette/DlgpSyntax", name := "isIriCharacter", desc := "(I)Z" } : Jvm.MethodName) prog_14_method_5_code (1 : Nat) (Option.some Jvm.ClassFile.FieldType.boolean)).before args0 about1 = true := code_word (m := ⟨2, 1⟩) (meth := k2m1) (c := k2c1) (by decide +kernel) rfl rfl rfl (by decide +kernel)
set_option maxRecDepth 65536 in
theorem w_c2 : (Jvm.Cond.code ({ cls := "com/example/kette/kette/DlgpSyntaxIsIriCharacterPinLaw", name := "expected", desc := "(I)Z" } : Jvm.MethodName) method_3_code (1 : Nat) (Option.some Jvm.ClassFile.FieldType.boolean)).before args0 about1 = true := code_word (m := ⟨1, 2⟩) (meth := k1m2) (c := k1c2) (by decide +kernel) rfl rfl rfl (by decide +kernel)
def codes1 : List Jvm.Cond := [Jvm.Cond.code x code maxLocals ret, Jvm.Cond.code ({ cls := "com/example/kette/kette/DlgpSyntax", name := "isIriCharacter", desc := "(I)Z" } : Jvm.MethodName) prog_14_method_5_code (1 : Nat) (Option.some Jvm.ClassFile.FieldType.boolean), Jvm.Cond.code ({ cls := "com/example/kette/kette/DlgpSyntaxIsIriCharacterPinLaw", name := "expected", desc := "(I)Z" } : Jvm.MethodName) method_3_code (1 : Nat) (Option.some Jvm.ClassFile.FieldType.boolean)]
set_option maxRecDepth 65536 in
theorem codes_eq : words1.filter isCode = codes1 := rfl
theorem w_codes : ∀ c ∈ words1.filter isCode, c.before args0 about1 = true := by
  rw [codes_eq]
  intro c hc
  simp only [codes1, List.mem_cons, List.not_mem_nil, or_false] at hc
  rcases hc with rfl | rfl | rfl
  · exact w_c0
  · exact w_c1
  · exact w_c2
set_option maxRecDepth 65536 in
theorem w_t1 : words1.all (fun c => isCode c || c.before args0 about1) = true := by decide +kernel
theorem w_tables : (allAtoms (Jvm.Cond.code x code maxLocals ret :: tables_1)).before args0 about1 = true := by
  rw [allAtoms_all]
  show words1.all (fun c => c.before args0 about1) = true
  refine all_split ?_ w_codes
  rw [w_t1]
set_option maxRecDepth 65536 in
theorem w_case : (Jvm.Cond.and given_1 narrow_1).before args0 about1 = true := by decide +kernel
theorem w_applies : (headSpec (Jvm.Cond.code x code maxLocals ret :: tables_1) room_1).applies x e0.platform about1 = true :=
  (Spec.applies_iff w_frames).mpr ⟨w_running, w_runnable, w_alone, w_named, w_hears, w_ripe, w_room, w_tables⟩
theorem atStart : AtStart classFile x code maxLocals ret World_1 tables_1 room_1 Calls_1 rest_1 Pre_1 launch0 p0 e0 about1 theMethod args0 below0 :=
  ⟨lists_1, trivial, launch0.admits_env _ _ _, launch0.least_env, fairChoices_fair.cas, fairChoices_fair.clock, w_frames, w_args, w_heap, w_applies, trivial, trivial, w_case⟩
end start1
theorem witness_1 : WitnessClaimed_1 := ⟨start1.p0, start1.e0, start1.about1, start1.theMethod, start1.args0, start1.below0, start1.atStart⟩
end Jvm.Pilot.@@N@@
