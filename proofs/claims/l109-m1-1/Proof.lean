import JvmDerived
import JvmDerived.Pilot.@@N@@Statement
import JvmDerived.Pilot.@@N@@Code
set_option linter.unusedVariables false
set_option linter.unusedSimpArgs false
@@BLOCK:NumsL.lean.txt@@
namespace Jvm.Pilot.@@N@@
open Jvm Jvm.ClassFile Sem Op Lib Jvm.Free Jvm.Stand Jvm.LawKit Jvm.RoadKit Bundle Jvm.Pilot.@@N@@.Jvm.D
section OwnKit
variable {p : Program} {l : Launch} {e : Env} {R : Room} {s : State} {m : MethodId} {args : Array Value} {below : List Frame} {meth : Method} {c : Code} {T : State} {locs : List Loc} {cells slots : Nat} {n0 cc nn : Nat} {K : Option Value → Heap → Prop} {P : Heap → Prop} {A B : State}
/-- what a contract says of the value, the heap and the places written -/
def QK (n0 : Nat) (K : Option Value → Heap → Prop) (v : Option Value) (h : Heap) (L : List Loc) : Prop := K v h ∧ Fr n0 L
def Kv (w : Option Value) (P : Heap → Prop) (v : Option Value) (h : Heap) : Prop := v = w ∧ P h
/-- from A the run comes to this body's end, and K holds there -/
def Gl (p : Program) (e : Env) (below : List Frame) (s : State) (n0 cc nn : Nat) (K : Option Value → Heap → Prop) (A : State) : Prop :=
  ∃ t o, Steps p.tables e below A t ∧ t.status = .running ∧ Ended t below o ∧ ∃ v L, o = .returned v ∧ QK n0 K v t.heap L ∧ FrameEnd s o t L cc nn
theorem go (st : ∀ t, Steps p.tables e below B t → Steps p.tables e below A t) (h : Gl p e below s n0 cc nn K B) : Gl p e below s n0 cc nn K A := by
  obtain ⟨t, o, h1, h2⟩ := h; exact ⟨t, o, st t h1, h2⟩
theorem gl_start {g g' : JFrame} (q : g = g') (h : Gl p e below s n0 cc nn K (T.setTop g')) :
    ∃ t o, Steps p.tables e below (T.setTop g) t ∧ t.status = .running ∧ Ended t below o ∧ ∃ v L, o = .returned v ∧ QK n0 K v t.heap L ∧ FrameEnd s o t L cc nn := by
  subst q; exact h
theorem gI {c : Prop} [Decidable c] {a b : Int32} (h1 : c → Gl p e below s n0 cc nn (Kv (some (.int a)) P) A) (h2 : ¬ c → Gl p e below s n0 cc nn (Kv (some (.int b)) P) A) : Gl p e below s n0 cc nn (Kv (some (.int (if c then a else b))) P) A := by
  by_cases h : c
  · rw [if_pos h]; exact h1 h
  · rw [if_neg h]; exact h2 h
theorem gJ {c : Prop} [Decidable c] {a b : Int64} (h1 : c → Gl p e below s n0 cc nn (Kv (some (.long a)) P) A) (h2 : ¬ c → Gl p e below s n0 cc nn (Kv (some (.long b)) P) A) : Gl p e below s n0 cc nn (Kv (some (.long (if c then a else b))) P) A := by
  by_cases h : c
  · rw [if_pos h]; exact h1 h
  · rw [if_neg h]; exact h2 h
theorem gR {c : Prop} [Decidable c] {a b : Addr} (h1 : c → Gl p e below s n0 cc nn (Kv (some (.ref a)) P) A) (h2 : ¬ c → Gl p e below s n0 cc nn (Kv (some (.ref b)) P) A) : Gl p e below s n0 cc nn (Kv (some (.ref (if c then a else b))) P) A := by
  by_cases h : c
  · rw [if_pos h]; exact h1 h
  · rw [if_neg h]; exact h2 h
theorem gV {c : Prop} [Decidable c] (h1 : c → Gl p e below s n0 cc nn K A) (h2 : ¬ c → Gl p e below s n0 cc nn K A) : Gl p e below s n0 cc nn K A := by
  by_cases h : c
  · exact h1 h
  · exact h2 h
variable {x : MethodName} {S : Spec} {code' : ByteArray} {ml : Nat} {s₁ : State} {pc : Nat} {Ls : Array Slot} {rest : List Value}
theorem endN (X : Stand p l e R s m args below meth c T locs cells slots) (hx : p.tables.exec = Jvm.exec) {t : FieldType} (Bd : BodyLoose p l x S code' ml (some t) e s m args below meth c s₁) (ht : t = .boolean ∨ t = .byte ∨ t = .char ∨ t = .short) {z : Int32}
    (hd : decode c.code pc = .ok (.ireturn, 1)) (hK : K (some (.int (nar t z))) T.heap) (N : Fr n0 locs) (hc : cells ≤ cc) (hs : slots ≤ nn) : Gl p e below s n0 cc nn K (T.setTop (mkF m pc Ls (.int z :: rest))) := by
  obtain ⟨fs, hr, hrun, hended, hW, hsame⟩ := X.leave (v := some (.int (nar t z))) (fun h => by rw [Bd.returns] at h; cases h)
  exact ⟨_, _, retN X hx Bd.returns ht hd hr, hrun, hended, _, _, rfl, ⟨hK, N⟩, ⟨_, rfl⟩, hW, hsame.mono hc hs⟩
theorem endO (X : Stand p l e R s m args below meth c T locs cells slots) (hx : p.tables.exec = Jvm.exec) {t : FieldType} (Bd : BodyLoose p l x S code' ml (some t) e s m args below meth c s₁) {w : Value} {i : Instr} (hn : narrow t w = w)
    (hi : (i = .ireturn ∧ (t = .int ∨ t = .boolean ∨ t = .byte ∨ t = .char ∨ t = .short) ∧ ∃ z, w = .int z) ∨ (i = .lreturn ∧ t = .long ∧ ∃ z, w = .long z) ∨ (i = .dreturn ∧ t = .double ∧ ∃ z, w = .double z) ∨ (i = .freturn ∧ t = .float ∧ ∃ z, w = .float z) ∨ (i = .areturn ∧ t.isReference = true ∧ w.isRef = true))
    (hd : decode c.code pc = .ok (i, 1)) (hK : K (some w) T.heap) (N : Fr n0 locs) (hc : cells ≤ cc) (hs : slots ≤ nn) : Gl p e below s n0 cc nn K (T.setTop (mkF m pc Ls (w :: rest))) := by
  obtain ⟨fs, hr, hrun, hended, hW, hsame⟩ := X.leave (v := some w) (fun h => by rw [Bd.returns] at h; cases h)
  exact ⟨_, _, retOut X hx Bd.returns hn hi hd hr, hrun, hended, _, _, rfl, ⟨hK, N⟩, ⟨_, rfl⟩, hW, hsame.mono hc hs⟩
theorem endI (X : Stand p l e R s m args below meth c T locs cells slots) (hx : p.tables.exec = Jvm.exec) (Bd : BodyLoose p l x S code' ml (some .int) e s m args below meth c s₁) {z : Int32}
    (hd : decode c.code pc = .ok (.ireturn, 1)) (hK : K (some (.int z)) T.heap) (N : Fr n0 locs) (hc : cells ≤ cc) (hs : slots ≤ nn) : Gl p e below s n0 cc nn K (T.setTop (mkF m pc Ls (.int z :: rest))) :=
  endO X hx Bd rfl (Or.inl ⟨rfl, Or.inl rfl, z, rfl⟩) hd hK N hc hs
theorem endJ (X : Stand p l e R s m args below meth c T locs cells slots) (hx : p.tables.exec = Jvm.exec) (Bd : BodyLoose p l x S code' ml (some .long) e s m args below meth c s₁) {z : Int64}
    (hd : decode c.code pc = .ok (.lreturn, 1)) (hK : K (some (.long z)) T.heap) (N : Fr n0 locs) (hc : cells ≤ cc) (hs : slots ≤ nn) : Gl p e below s n0 cc nn K (T.setTop (mkF m pc Ls (.long z :: rest))) :=
  endO X hx Bd rfl (Or.inr (Or.inl ⟨rfl, rfl, z, rfl⟩)) hd hK N hc hs
theorem endR (X : Stand p l e R s m args below meth c T locs cells slots) (hx : p.tables.exec = Jvm.exec) {t : FieldType} (Bd : BodyLoose p l x S code' ml (some t) e s m args below meth c s₁) (ht : t.isReference = true) {a : Addr}
    (hd : decode c.code pc = .ok (.areturn, 1)) (hK : K (some (.ref a)) T.heap) (N : Fr n0 locs) (hc : cells ≤ cc) (hs : slots ≤ nn) : Gl p e below s n0 cc nn K (T.setTop (mkF m pc Ls (.ref a :: rest))) :=
  endO X hx Bd (by cases t <;> first | rfl | cases ht) (Or.inr (Or.inr (Or.inr (Or.inr ⟨rfl, ht, rfl⟩)))) hd hK N hc hs
theorem endV (X : Stand p l e R s m args below meth c T locs cells slots) (hx : p.tables.exec = Jvm.exec) (Bd : BodyLoose p l x S code' ml none e s m args below meth c s₁)
    (hd : decode c.code pc = .ok (.return_, 1)) (hK : K none T.heap) (N : Fr n0 locs) (hc : cells ≤ cc) (hs : slots ≤ nn) : Gl p e below s n0 cc nn K (T.setTop (mkF m pc Ls [])) := by
  obtain ⟨fs, hr, hrun, hended, hW, hsame⟩ := X.leave (v := none) (fun _ => rfl)
  exact ⟨_, _, X.returnOut hx Bd.returns hd hr, hrun, hended, _, _, rfl, ⟨hK, N⟩, ⟨_, rfl⟩, hW, hsame.mono hc hs⟩
theorem lremM {g : JFrame} {target : State} (X : Stand p l e R s m args below meth c T locs cells slots) (hx : p.tables.exec = Jvm.exec) (hg : g.method = m) {x y : Int64} {rest : List Value} (hd : decode c.code g.pc = .ok (.lrem, 1)) (hs : g.stack = .long y :: .long x :: rest) (hy : y ≠ 0)
    (hr : Steps p.tables e below (T.setTop { g with pc := g.pc + 1, stack := .long (x % y) :: rest }) target) : Steps p.tables e below (T.setTop g) target := by
  have q := lrem_mod x y
  exact XS.lrem X.here hx hg hd hs hy (by rw [q]; exact hr)
theorem sta_keep {Z : State} {h h' : Heap} {a : Addr} {C n d D : String} {w : Value} (F : Sta Z h C n d w) (Kp : Keep h h' [a]) (E : Exa Z h a D) : Sta Z h' C n d w := by
  obtain ⟨cf, i, k, f, st, cell, h1, h2, h3, h4, h5, h6, h7⟩ := F
  obtain ⟨cell', k', e1, -, -, e4, -⟩ := E
  refine ⟨cf, i, k, f, st, cell, h1, h2, h3, h4, Kp.2.1 st cell h5 (ninS (fun q => ?_) nin0), h6, h7⟩
  subst q; cases h5.symm.trans e1; rw [h6] at e4; cases e4
theorem sta_keepN {Z : State} {h h' : Heap} {ws : List Addr} {C n d : String} {w : Value} (F : Sta Z h C n d w) (Kp : Keep h h' ws) (hn : ∀ x ∈ ws, ∀ cell : Cell, h[x]? = some cell → cell.vm.isStatics = false) : Sta Z h' C n d w := by
  obtain ⟨cf, i, k, f, st, cell, h1, h2, h3, h4, h5, h6, h7⟩ := F
  refine ⟨cf, i, k, f, st, cell, h1, h2, h3, h4, Kp.2.1 st cell h5 (fun q => ?_), h6, h7⟩
  have := hn st q cell h5
  rw [h6] at this; cases this
theorem sta_keep0 {Z : State} {h h' : Heap} {C n d : String} {w : Value} (F : Sta Z h C n d w) (Kp : Keep h h' []) : Sta Z h' C n d w := by
  obtain ⟨cf, i, k, f, st, cell, h1, h2, h3, h4, h5, h6, h7⟩ := F
  exact ⟨cf, i, k, f, st, cell, h1, h2, h3, h4, Kp.2.1 st cell h5 nin0, h6, h7⟩
theorem sel_priv {Z s : State} {a0 args : Array Value} {y : MethodName} {n : Nat} (hZ : Z.Warmed39 s.vm) (wi : (Cond.instantiable y.cls n).before a0 Z = true) (wp : (Cond.privateMethod y).before a0 Z = true) (wm : (Cond.instanceMethod y).before a0 Z = true) (hy : y.cls ≠ "java/lang/invoke/MethodHandle" ∧ y.cls ≠ "java/lang/invoke/VarHandle") : (Cond.selects y.cls y y).before args s = true := by
  obtain ⟨c, k, h1, h2, -, h4, -⟩ := Cond.instantiable_spec (show (Cond.instantiable y.cls n).before args s = true from mvT hZ wi)
  exact Jvm.Stand.selects_self_of_private h1 h2 (by simp only [Bool.or_eq_false_iff] at h4; exact h4.1) (Cond.privateMethod_at (mvP hZ wp (args := args))) (mvT hZ wm) hy
theorem eqL_v {t : Term} {k : Int64} {a0 : Array Value} {first u : State} {o : Option Outcome} {idx : List Nat} (h : (Cond.eq t (.long k)).value a0 first o u idx = some true) : t.eval a0 first o idx u = some (.long k) := by
  simp only [Cond.value, Term.eval] at h
  cases ht : t.eval a0 first o idx u with
  | none => simp [ht] at h
  | some x => cases x <;> simp [ht] at h ⊢; exact h
theorem eqI_v {t : Term} {k : Int32} {a0 : Array Value} {first u : State} {o : Option Outcome} {idx : List Nat} (h : (Cond.eq t (.int k)).value a0 first o u idx = some true) : t.eval a0 first o idx u = some (.int k) := by
  simp only [Cond.value, Term.eval] at h
  cases ht : t.eval a0 first o idx u with
  | none => simp [ht] at h
  | some x => cases x <;> simp [ht] at h ⊢; exact h
end OwnKit
theorem d1_0 : decode prog_77_method_4_code 0 = .ok (.iload_n 0, 1) := by decide +kernel
theorem d1_1 : decode prog_77_method_4_code 1 = .ok (.iconst 1, 1) := by decide +kernel
theorem d1_2 : decode prog_77_method_4_code 2 = .ok (.if_icmp .lt 9, 3) := by decide +kernel
theorem d1_5 : decode prog_77_method_4_code 5 = .ok (.iload_n 0, 1) := by decide +kernel
theorem d1_6 : decode prog_77_method_4_code 6 = .ok (.bipush 16, 2) := by decide +kernel
theorem d1_8 : decode prog_77_method_4_code 8 = .ok (.if_icmp .le 13, 3) := by decide +kernel
theorem d1_21 : decode prog_77_method_4_code 21 = .ok (.lload_n 1, 1) := by decide +kernel
theorem d1_22 : decode prog_77_method_4_code 22 = .ok (.lconst 0, 1) := by decide +kernel
theorem d1_23 : decode prog_77_method_4_code 23 = .ok (.lcmp, 1) := by decide +kernel
theorem d1_24 : decode prog_77_method_4_code 24 = .ok (.ifCond .ge 13, 3) := by decide +kernel
theorem d1_37 : decode prog_77_method_4_code 37 = .ok (.return_, 1) := by decide +kernel
theorem pn_0 : plainName "com/example/vicinet/vicinet/protocol/PeerSessions" = true := by first | (simp [plainName, overriddenIn]; done) | decide +kernel
theorem ef_1 (m : MethodId) (p1 : Int32) (q2 : Int64) : entryFrame m #[(.int p1), (.long q2)] 3 = mkF m 0 #[.val (.int p1), .val (.long q2), .second] [] := by first | (simp [entryFrame, mkF, argsToLocals, Value.category]; done) | rfl
set_option maxRecDepth 65536 in
set_option maxHeartbeats 40000000 in
theorem rm1 (l : Launch) (Z : State) (a0 : Array Value) (hw : ∀ d ∈ tables_1, d.before a0 Z = true) (ws : List Jvm.Cond) (p1 : Int32) (q2 : Int64) (h0 : Heap) (n0 : Nat) (Z0 : n0 ≤ h0.size) (hc2 : ¬ (p1 < (1 : Int32))) (hc8 : ¬ ((16 : Int32) < p1)) (hc24 : ¬ (q2 < (0 : Int64))) :
    MetFree l (⟨"com/example/vicinet/vicinet/protocol/PeerSessions", "requireValid", "(IJ)V"⟩ : MethodName) (head1 (Jvm.Cond.code (⟨"com/example/vicinet/vicinet/protocol/PeerSessions", "requireValid", "(IJ)V"⟩ : MethodName) prog_77_method_4_code 3 none :: ws) ({ frames := 0, cells := 0, slots := 0, locals := 0 } : Room)) (fun a U => a = #[(.int p1), (.long q2)] ∧ Z.Warmed39 U.vm ∧ U.heap = h0) (fun _ _ _ _ _ => True) (fun _ U o U' => ∃ v L, o = .returned v ∧ QK n0 (Kv none (fun h => h = h0)) v U'.heap L ∧ FrameEnd U o U' L ({ frames := 0, cells := 0, slots := 0, locals := 0 } : Room).cells ({ frames := 0, cells := 0, slots := 0, locals := 0 } : Room).slots) := by
  refine MetFree.of_bodySF (plainFor_of_name pn_0) hisR ?_
  intro p e s m args below meth c s₁ Bd hml0 hP hK
  obtain ⟨rfl, hZ, hh⟩ := hP
  have hx := Bd.exec
  have hby := Bd.bytes
  have hml : c.maxLocals = 3 := hml0
  have hown : s.vm.findClass "com/example/vicinet/vicinet/protocol/PeerSessions" = some m.cls := findClass_of_methodNamed Bd.named
  have hnm := (name_of_methodNamed Bd.named Bd.method).1
  have X0 : Stand p l e ({ frames := 0, cells := 0, slots := 0, locals := 0 } : Room) s m #[(.int p1), (.long q2)] below meth c s₁ [] 0 0 := Stand.of_body Bd
  have e0 : s₁.heap = h0 := by rw [← hh, Bd.state]; rfl
  have N0 := Fr.nil n0
  refine gl_start (ef_1 m p1 q2) ?_
  show Gl p e below s n0 ({ frames := 0, cells := 0, slots := 0, locals := 0 } : Room).cells ({ frames := 0, cells := 0, slots := 0, locals := 0 } : Room).slots (Kv none (fun h => h = h0)) (s₁.setTop (mkF m 0 #[.val (.int p1), .val (.long q2), .second] []))
  refine go (fun t k => XS.iloadN X0.here hx rfl (hb hby d1_0) rfl  k) ?_
  show Gl _ _ _ _ _ _ _ _ (s₁.setTop (mkF m 1 #[.val (.int p1), .val (.long q2), .second] [(.int p1)]))
  refine go (fun t k => XS.iconst X0.here hx rfl (hb hby d1_1) k) ?_
  show Gl _ _ _ _ _ _ _ _ (s₁.setTop (mkF m 2 #[.val (.int p1), .val (.long q2), .second] [(.int (1 : Int32)), (.int p1)]))
  refine go (fun t k => XS.icmpNo X0.here hx rfl (hb hby d1_2) rfl (flt hc2).1 k) ?_
  show Gl _ _ _ _ _ _ _ _ (s₁.setTop (mkF m 5 #[.val (.int p1), .val (.long q2), .second] []))
  refine go (fun t k => XS.iloadN X0.here hx rfl (hb hby d1_5) rfl  k) ?_
  show Gl _ _ _ _ _ _ _ _ (s₁.setTop (mkF m 6 #[.val (.int p1), .val (.long q2), .second] [(.int p1)]))
  refine go (fun t k => XS.bipush X0.here hx rfl (hb hby d1_6) k) ?_
  show Gl _ _ _ _ _ _ _ _ (s₁.setTop (mkF m 8 #[.val (.int p1), .val (.long q2), .second] [(.int (16 : Int32)), (.int p1)]))
  refine go (fun t k => XS.icmpYes X0.here hx rfl (pc0 := 8) (pc' := 21) rfl (hb hby d1_8) rfl (flt hc8).2.2.2 (by decide) (by decide) k) ?_
  show Gl _ _ _ _ _ _ _ _ (s₁.setTop (mkF m 21 #[.val (.int p1), .val (.long q2), .second] []))
  refine go (fun t k => XS.lloadN X0.here hx rfl (hb hby d1_21) rfl  k) ?_
  show Gl _ _ _ _ _ _ _ _ (s₁.setTop (mkF m 22 #[.val (.int p1), .val (.long q2), .second] [(.long q2)]))
  refine go (fun t k => XS.lconst X0.here hx rfl (hb hby d1_22) k) ?_
  show Gl _ _ _ _ _ _ _ _ (s₁.setTop (mkF m 23 #[.val (.int p1), .val (.long q2), .second] [(.long (0 : Int64)), (.long q2)]))
  refine go (fun t k => XS.lcmp X0.here hx rfl (hb hby d1_23) rfl k) ?_
  show Gl _ _ _ _ _ _ _ _ (s₁.setTop (mkF m 24 #[.val (.int p1), .val (.long q2), .second] [(.int (lcmpW q2 (0 : Int64)))]))
  refine go (fun t k => XS.ifYes X0.here hx rfl (pc0 := 24) (pc' := 37) rfl (hb hby d1_24) rfl ((if0 _ _).trans (flt (mt (lw_lt q2 (0 : Int64)).mp hc24)).2.1) (by decide) (by decide) k) ?_
  show Gl _ _ _ _ _ _ _ _ (s₁.setTop (mkF m 37 #[.val (.int p1), .val (.long q2), .second] []))
  exact endV X0 hx Bd (hb hby d1_37) ⟨rfl, e0⟩ N0 (by decide) (by decide)
theorem own_p1 (a : Int32) : ¬ ((1 : Int32) + (a &&& 15) < 1) := by
  have e := Jvm.Kit.i32_mask a 15 (k := 4) (by decide) (by decide)
  have e2 : ((1 : Int32) + (a &&& 15)).toInt = 1 + (a &&& 15).toInt := Jvm.Kit.i32_add (by rw [e]; simp only [Int32.reduceToInt]; omega) (by rw [e]; simp only [Int32.reduceToInt]; omega)
  rw [Int32.lt_iff_toInt_lt, e2, e]; simp only [Int32.reduceToInt]; omega
theorem own_p2 (a : Int32) : ¬ ((16 : Int32) < (1 : Int32) + (a &&& 15)) := by
  have e := Jvm.Kit.i32_mask a 15 (k := 4) (by decide) (by decide)
  have e2 : ((1 : Int32) + (a &&& 15)).toInt = 1 + (a &&& 15).toInt := Jvm.Kit.i32_add (by rw [e]; simp only [Int32.reduceToInt]; omega) (by rw [e]; simp only [Int32.reduceToInt]; omega)
  rw [Int32.lt_iff_toInt_lt, e2, e]; simp only [Int32.reduceToInt]; omega
theorem own_p3 (b : Int64) : ¬ ((b &&& 9223372036854775807) < 0) := by
  have e := Jvm.Kit.i64_mask b 9223372036854775807 (k := 63) (by decide) (by decide)
  rw [Int64.lt_iff_toInt_lt, e]; simp only [Int64.reduceToInt]; omega
theorem pd_0 : parseMethodDescriptor "(IJ)V" = some ⟨[.int, .long], none⟩ := by decide +kernel
theorem pn_1 : plainName "com/example/vicinet/vicinet/protocol/PeerSessionsRequireValidPinLaw" = true := by first | (simp [plainName, overriddenIn]; done) | decide +kernel
theorem ef_0 (m : MethodId) (p1 : Int32) (q2 : Int64) : entryFrame m #[(.int p1), (.long q2)] maxLocals = mkF m 0 #[.val (.int p1), .val (.long q2), .second, .unset, .unset, .unset] [] := by first | (simp [entryFrame, mkF, argsToLocals, Value.category, maxLocals]; done) | rfl
def b0_43 (s0_43 : Int32) : Int32 := (nar .boolean s0_43)
def b0_42  : Int32 := (b0_43 (0 : Int32))
def b0_0 (p1 : Int32) (q2 : Int64) : Int32 := (if ((1 : Int32) + (p1 &&& (15 : Int32))) < (1 : Int32) then b0_42 else (if (16 : Int32) < ((1 : Int32) + (p1 &&& (15 : Int32))) then b0_42 else (if (q2 &&& (9223372036854775807 : Int64)) < (0 : Int64) then b0_42 else (b0_43 (1 : Int32)))))
set_option maxRecDepth 65536 in
set_option maxHeartbeats 40000000 in
theorem rm0 (l : Launch) (Z : State) (a0 : Array Value) (hw : ∀ d ∈ tables_1, d.before a0 Z = true) (ws : List Jvm.Cond) (p1 : Int32) (q2 : Int64) (h0 : Heap) (n0 : Nat) (Z0 : n0 ≤ h0.size) :
    MetFree l x (head1 (Jvm.Cond.code x code maxLocals ret :: ws) room_1) (fun a U => a = #[(.int p1), (.long q2)] ∧ Z.Warmed39 U.vm ∧ U.heap = h0) (fun _ _ _ _ _ => True) (fun _ U o U' => ∃ v L, o = .returned v ∧ QK n0 (Kv (some (.int (b0_0 p1 q2))) (fun _ => True)) v U'.heap L ∧ FrameEnd U o U' L room_1.cells room_1.slots) := by
  refine MetFree.of_bodySF (plainFor_of_name pn_1) hisR ?_
  intro p e s m args below meth c s₁ Bd hml0 hP hK
  obtain ⟨rfl, hZ, hh⟩ := hP
  have hx := Bd.exec
  have hby := Bd.bytes
  have hml : c.maxLocals = 6 := hml0
  have hown : s.vm.findClass "com/example/vicinet/vicinet/protocol/PeerSessionsRequireValidPinLaw" = some m.cls := findClass_of_methodNamed Bd.named
  have hnm := (name_of_methodNamed Bd.named Bd.method).1
  have X0 : Stand p l e room_1 s m #[(.int p1), (.long q2)] below meth c s₁ [] 0 0 := Stand.of_body Bd
  have e0 : s₁.heap = h0 := by rw [← hh, Bd.state]; rfl
  have N0 := Fr.nil n0
  refine gl_start (ef_0 m p1 q2) ?_
  show Gl p e below s n0 room_1.cells room_1.slots (Kv (some (.int (if ((1 : Int32) + (p1 &&& (15 : Int32))) < (1 : Int32) then b0_42 else (if (16 : Int32) < ((1 : Int32) + (p1 &&& (15 : Int32))) then b0_42 else (if (q2 &&& (9223372036854775807 : Int64)) < (0 : Int64) then b0_42 else (b0_43 (1 : Int32))))))) (fun _ => True)) (s₁.setTop (mkF m 0 #[.val (.int p1), .val (.long q2), .second, .unset, .unset, .unset] []))
  refine go (fun t k => XS.iconst X0.here hx rfl (hb hby at_0) k) ?_
  show Gl _ _ _ _ _ _ _ _ (s₁.setTop (mkF m 1 #[.val (.int p1), .val (.long q2), .second, .unset, .unset, .unset] [(.int (1 : Int32))]))
  refine go (fun t k => XS.iloadN X0.here hx rfl (hb hby at_1) rfl  k) ?_
  show Gl _ _ _ _ _ _ _ _ (s₁.setTop (mkF m 2 #[.val (.int p1), .val (.long q2), .second, .unset, .unset, .unset] [(.int p1), (.int (1 : Int32))]))
  refine go (fun t k => XS.bipush X0.here hx rfl (hb hby at_2) k) ?_
  show Gl _ _ _ _ _ _ _ _ (s₁.setTop (mkF m 4 #[.val (.int p1), .val (.long q2), .second, .unset, .unset, .unset] [(.int (15 : Int32)), (.int p1), (.int (1 : Int32))]))
  refine go (fun t k => XS.iand X0.here hx rfl (hb hby at_4) rfl k) ?_
  show Gl _ _ _ _ _ _ _ _ (s₁.setTop (mkF m 5 #[.val (.int p1), .val (.long q2), .second, .unset, .unset, .unset] [(.int (p1 &&& (15 : Int32))), (.int (1 : Int32))]))
  refine go (fun t k => XS.iadd X0.here hx rfl (hb hby at_5) rfl k) ?_
  show Gl _ _ _ _ _ _ _ _ (s₁.setTop (mkF m 6 #[.val (.int p1), .val (.long q2), .second, .unset, .unset, .unset] [(.int ((1 : Int32) + (p1 &&& (15 : Int32))))]))
  refine go (fun t k => XS.istoreN X0.here hx rfl (hb hby at_6) rfl (l' := #[.val (.int p1), .val (.long q2), .second, .val (.int ((1 : Int32) + (p1 &&& (15 : Int32)))), .unset, .unset]) rfl k) ?_
  show Gl _ _ _ _ _ _ _ _ (s₁.setTop (mkF m 7 #[.val (.int p1), .val (.long q2), .second, .val (.int ((1 : Int32) + (p1 &&& (15 : Int32)))), .unset, .unset] []))
  refine go (fun t k => XS.lloadN X0.here hx rfl (hb hby at_7) rfl  k) ?_
  show Gl _ _ _ _ _ _ _ _ (s₁.setTop (mkF m 8 #[.val (.int p1), .val (.long q2), .second, .val (.int ((1 : Int32) + (p1 &&& (15 : Int32)))), .unset, .unset] [(.long q2)]))
  refine go (fun t k => X0.ldc2Long hx hown (mvT hZ (hw _ (List.mem_of_getElem? (i := 0) rfl))) (g := (mkF m 8 #[.val (.int p1), .val (.long q2), .second, .val (.int ((1 : Int32) + (p1 &&& (15 : Int32)))), .unset, .unset] [(.long q2)])) rfl (hb hby at_8) _ k) ?_
  show Gl _ _ _ _ _ _ _ _ (s₁.setTop (mkF m 11 #[.val (.int p1), .val (.long q2), .second, .val (.int ((1 : Int32) + (p1 &&& (15 : Int32)))), .unset, .unset] [(.long (9223372036854775807 : Int64)), (.long q2)]))
  refine go (fun t k => XS.land X0.here hx rfl (hb hby at_11) rfl k) ?_
  show Gl _ _ _ _ _ _ _ _ (s₁.setTop (mkF m 12 #[.val (.int p1), .val (.long q2), .second, .val (.int ((1 : Int32) + (p1 &&& (15 : Int32)))), .unset, .unset] [(.long (q2 &&& (9223372036854775807 : Int64)))]))
  refine go (fun t k => XS.lstore X0.here hx rfl (hb hby at_12) rfl (l' := #[.val (.int p1), .val (.long q2), .second, .val (.int ((1 : Int32) + (p1 &&& (15 : Int32)))), .val (.long (q2 &&& (9223372036854775807 : Int64))), .second]) rfl k) ?_
  show Gl _ _ _ _ _ _ _ _ (s₁.setTop (mkF m 14 #[.val (.int p1), .val (.long q2), .second, .val (.int ((1 : Int32) + (p1 &&& (15 : Int32)))), .val (.long (q2 &&& (9223372036854775807 : Int64))), .second] []))
  refine go (fun t k => XS.iloadN X0.here hx rfl (hb hby at_14) rfl  k) ?_
  show Gl _ _ _ _ _ _ _ _ (s₁.setTop (mkF m 15 #[.val (.int p1), .val (.long q2), .second, .val (.int ((1 : Int32) + (p1 &&& (15 : Int32)))), .val (.long (q2 &&& (9223372036854775807 : Int64))), .second] [(.int ((1 : Int32) + (p1 &&& (15 : Int32))))]))
  refine go (fun t k => XS.lload X0.here hx rfl (hb hby at_15) rfl  k) ?_
  show Gl _ _ _ _ _ _ _ _ (s₁.setTop (mkF m 17 #[.val (.int p1), .val (.long q2), .second, .val (.int ((1 : Int32) + (p1 &&& (15 : Int32)))), .val (.long (q2 &&& (9223372036854775807 : Int64))), .second] [(.long (q2 &&& (9223372036854775807 : Int64))), (.int ((1 : Int32) + (p1 &&& (15 : Int32))))]))
  obtain ⟨_, _, ⟨T1, L1, k1, n1⟩, -, X1, ⟨Lc1, hQ1, l1, y1, z1⟩, st1⟩ := Jvm.LawKit.callS X0 hx (y := (⟨"com/example/vicinet/vicinet/protocol/PeerSessions", "requireValid", "(IJ)V"⟩ : MethodName)) hown (mvT hZ (hw _ (List.mem_of_getElem? (i := 1) rfl))) (mvT hZ (hw _ (List.mem_of_getElem? (i := 2) rfl))) (mvT hZ (hw _ (List.mem_of_getElem? (i := 3) rfl))) (mvT hZ (hw _ (List.mem_of_getElem? (i := 4) rfl))) (by decide) (backOf (W := 0) (rm1 l Z a0 hw [] ((1 : Int32) + (p1 &&& (15 : Int32))) (q2 &&& (9223372036854775807 : Int64)) h0 n0 Z0 (own_p1 _) (own_p2 _) (own_p3 _)) hZ (hw _ (List.mem_of_getElem? (i := 4) rfl)) (hw _ (List.mem_of_getElem? (i := 3) rfl)) (by decide) (by decide)) (g := (mkF m 17 #[.val (.int p1), .val (.long q2), .second, .val (.int ((1 : Int32) + (p1 &&& (15 : Int32)))), .val (.long (q2 &&& (9223372036854775807 : Int64))), .second] [(.long (q2 &&& (9223372036854775807 : Int64))), (.int ((1 : Int32) + (p1 &&& (15 : Int32))))])) rfl (by rw [hml]; rfl) (argsL := [(.int ((1 : Int32) + (p1 &&& (15 : Int32)))), (.long (q2 &&& (9223372036854775807 : Int64)))]) (rest := []) (lenOf pd_0 rfl) rfl (by show 2 * 0 + _ ≤ _; exact Nat.le_of_eq rfl) (hb hby at_17) (fun _ _ => ⟨rfl, e0, (by decide : 0 + 0 ≤ _), (by decide : 0 + 0 ≤ _)⟩)
  dsimp only [Pt.U, Pt.locs, Pt.cells, Pt.slots] at X1 l1 y1 z1 st1 hQ1
  subst l1 y1 z1
  have X1 : Stand p l e room_1 s m #[(.int p1), (.long q2)] below meth c T1 _ 0 0 := X1
  obtain ⟨⟨rfl, e1'⟩, N1q⟩ := hQ1
  have e1 : T1.heap = h0 := e1'
  have N1 := Fr.app N0 N1q
  refine go (fun t k => st1 _ k) ?_
  show Gl _ _ _ _ _ _ _ _ (T1.setTop (mkF m 20 #[.val (.int p1), .val (.long q2), .second, .val (.int ((1 : Int32) + (p1 &&& (15 : Int32)))), .val (.long (q2 &&& (9223372036854775807 : Int64))), .second] []))
  refine go (fun t k => XS.iloadN X1.here hx rfl (hb hby at_20) rfl  k) ?_
  show Gl _ _ _ _ _ _ _ _ (T1.setTop (mkF m 21 #[.val (.int p1), .val (.long q2), .second, .val (.int ((1 : Int32) + (p1 &&& (15 : Int32)))), .val (.long (q2 &&& (9223372036854775807 : Int64))), .second] [(.int ((1 : Int32) + (p1 &&& (15 : Int32))))]))
  refine go (fun t k => XS.iconst X1.here hx rfl (hb hby at_21) k) ?_
  show Gl _ _ _ _ _ _ _ _ (T1.setTop (mkF m 22 #[.val (.int p1), .val (.long q2), .second, .val (.int ((1 : Int32) + (p1 &&& (15 : Int32)))), .val (.long (q2 &&& (9223372036854775807 : Int64))), .second] [(.int (1 : Int32)), (.int ((1 : Int32) + (p1 &&& (15 : Int32))))]))
  have J43 : ∀ (s0_43 : Int32) (TJ43 : State) (lJ43 : List Loc) (XJ43 : Stand p l e room_1 s m #[(.int p1), (.long q2)] below meth c TJ43 lJ43 0 0) (eJ43 : TJ43.heap = h0) (NJ43 : Fr n0 lJ43), Gl p e below s n0 room_1.cells room_1.slots (Kv (some (.int (b0_43 s0_43))) (fun _ => True)) (TJ43.setTop (mkF m 43 #[.val (.int p1), .val (.long q2), .second, .val (.int ((1 : Int32) + (p1 &&& (15 : Int32)))), .val (.long (q2 &&& (9223372036854775807 : Int64))), .second] [(.int s0_43)])) := by
    intro s0_43 TJ43 lJ43 XJ43 eJ43 NJ43
    show Gl _ _ _ _ _ _ _ (Kv (some (.int (nar .boolean s0_43))) _) _
    exact endN XJ43 hx Bd (t := .boolean) (by simp) (hb hby at_43) ⟨rfl, trivial⟩ NJ43 (by decide) (by decide)
  have J42 : ∀  (TJ42 : State) (lJ42 : List Loc) (XJ42 : Stand p l e room_1 s m #[(.int p1), (.long q2)] below meth c TJ42 lJ42 0 0) (eJ42 : TJ42.heap = h0) (NJ42 : Fr n0 lJ42), Gl p e below s n0 room_1.cells room_1.slots (Kv (some (.int b0_42)) (fun _ => True)) (TJ42.setTop (mkF m 42 #[.val (.int p1), .val (.long q2), .second, .val (.int ((1 : Int32) + (p1 &&& (15 : Int32)))), .val (.long (q2 &&& (9223372036854775807 : Int64))), .second] [])) := by
    intro  TJ42 lJ42 XJ42 eJ42 NJ42
    show Gl _ _ _ _ _ _ _ (Kv (some (.int (b0_43 (0 : Int32)))) _) _
    refine go (fun t k => XS.iconst XJ42.here hx rfl (hb hby at_42) k) ?_
    show Gl _ _ _ _ _ _ _ _ (TJ42.setTop (mkF m 43 #[.val (.int p1), .val (.long q2), .second, .val (.int ((1 : Int32) + (p1 &&& (15 : Int32)))), .val (.long (q2 &&& (9223372036854775807 : Int64))), .second] [(.int (0 : Int32))]))
    exact J43 (0 : Int32) TJ42 _ XJ42 eJ42 NJ42
  refine gI (c := ((1 : Int32) + (p1 &&& (15 : Int32))) < (1 : Int32)) (fun hc22 => ?_) (fun hc22 => ?_)
  · refine go (fun t k => XS.icmpYes X1.here hx rfl (pc0 := 22) (pc' := 42) rfl (hb hby at_22) rfl (tlt hc22).1 (by decide) (by decide) k) ?_
    show Gl _ _ _ _ _ _ _ _ (T1.setTop (mkF m 42 #[.val (.int p1), .val (.long q2), .second, .val (.int ((1 : Int32) + (p1 &&& (15 : Int32)))), .val (.long (q2 &&& (9223372036854775807 : Int64))), .second] []))
    exact J42  T1 _ X1 e1 N1
  · refine go (fun t k => XS.icmpNo X1.here hx rfl (hb hby at_22) rfl (flt hc22).1 k) ?_
    show Gl _ _ _ _ _ _ _ _ (T1.setTop (mkF m 25 #[.val (.int p1), .val (.long q2), .second, .val (.int ((1 : Int32) + (p1 &&& (15 : Int32)))), .val (.long (q2 &&& (9223372036854775807 : Int64))), .second] []))
    refine go (fun t k => XS.iloadN X1.here hx rfl (hb hby at_25) rfl  k) ?_
    show Gl _ _ _ _ _ _ _ _ (T1.setTop (mkF m 26 #[.val (.int p1), .val (.long q2), .second, .val (.int ((1 : Int32) + (p1 &&& (15 : Int32)))), .val (.long (q2 &&& (9223372036854775807 : Int64))), .second] [(.int ((1 : Int32) + (p1 &&& (15 : Int32))))]))
    refine go (fun t k => XS.bipush X1.here hx rfl (hb hby at_26) k) ?_
    show Gl _ _ _ _ _ _ _ _ (T1.setTop (mkF m 28 #[.val (.int p1), .val (.long q2), .second, .val (.int ((1 : Int32) + (p1 &&& (15 : Int32)))), .val (.long (q2 &&& (9223372036854775807 : Int64))), .second] [(.int (16 : Int32)), (.int ((1 : Int32) + (p1 &&& (15 : Int32))))]))
    refine gI (c := (16 : Int32) < ((1 : Int32) + (p1 &&& (15 : Int32)))) (fun hc28 => ?_) (fun hc28 => ?_)
    · refine go (fun t k => XS.icmpYes X1.here hx rfl (pc0 := 28) (pc' := 42) rfl (hb hby at_28) rfl (tlt hc28).2.2.1 (by decide) (by decide) k) ?_
      show Gl _ _ _ _ _ _ _ _ (T1.setTop (mkF m 42 #[.val (.int p1), .val (.long q2), .second, .val (.int ((1 : Int32) + (p1 &&& (15 : Int32)))), .val (.long (q2 &&& (9223372036854775807 : Int64))), .second] []))
      exact J42  T1 _ X1 e1 N1
    · refine go (fun t k => XS.icmpNo X1.here hx rfl (hb hby at_28) rfl (flt hc28).2.2.1 k) ?_
      show Gl _ _ _ _ _ _ _ _ (T1.setTop (mkF m 31 #[.val (.int p1), .val (.long q2), .second, .val (.int ((1 : Int32) + (p1 &&& (15 : Int32)))), .val (.long (q2 &&& (9223372036854775807 : Int64))), .second] []))
      refine go (fun t k => XS.lload X1.here hx rfl (hb hby at_31) rfl  k) ?_
      show Gl _ _ _ _ _ _ _ _ (T1.setTop (mkF m 33 #[.val (.int p1), .val (.long q2), .second, .val (.int ((1 : Int32) + (p1 &&& (15 : Int32)))), .val (.long (q2 &&& (9223372036854775807 : Int64))), .second] [(.long (q2 &&& (9223372036854775807 : Int64)))]))
      refine go (fun t k => XS.lconst X1.here hx rfl (hb hby at_33) k) ?_
      show Gl _ _ _ _ _ _ _ _ (T1.setTop (mkF m 34 #[.val (.int p1), .val (.long q2), .second, .val (.int ((1 : Int32) + (p1 &&& (15 : Int32)))), .val (.long (q2 &&& (9223372036854775807 : Int64))), .second] [(.long (0 : Int64)), (.long (q2 &&& (9223372036854775807 : Int64)))]))
      refine go (fun t k => XS.lcmp X1.here hx rfl (hb hby at_34) rfl k) ?_
      show Gl _ _ _ _ _ _ _ _ (T1.setTop (mkF m 35 #[.val (.int p1), .val (.long q2), .second, .val (.int ((1 : Int32) + (p1 &&& (15 : Int32)))), .val (.long (q2 &&& (9223372036854775807 : Int64))), .second] [(.int (lcmpW (q2 &&& (9223372036854775807 : Int64)) (0 : Int64)))]))
      refine gI (c := (q2 &&& (9223372036854775807 : Int64)) < (0 : Int64)) (fun hc35 => ?_) (fun hc35 => ?_)
      · refine go (fun t k => XS.ifYes X1.here hx rfl (pc0 := 35) (pc' := 42) rfl (hb hby at_35) rfl ((if0 _ _).trans (tlt ((lw_lt (q2 &&& (9223372036854775807 : Int64)) (0 : Int64)).mpr hc35)).1) (by decide) (by decide) k) ?_
        show Gl _ _ _ _ _ _ _ _ (T1.setTop (mkF m 42 #[.val (.int p1), .val (.long q2), .second, .val (.int ((1 : Int32) + (p1 &&& (15 : Int32)))), .val (.long (q2 &&& (9223372036854775807 : Int64))), .second] []))
        exact J42  T1 _ X1 e1 N1
      · refine go (fun t k => XS.ifNo X1.here hx rfl (hb hby at_35) rfl ((if0 _ _).trans (flt (mt (lw_lt (q2 &&& (9223372036854775807 : Int64)) (0 : Int64)).mp hc35)).1) k) ?_
        show Gl _ _ _ _ _ _ _ _ (T1.setTop (mkF m 38 #[.val (.int p1), .val (.long q2), .second, .val (.int ((1 : Int32) + (p1 &&& (15 : Int32)))), .val (.long (q2 &&& (9223372036854775807 : Int64))), .second] []))
        refine go (fun t k => XS.iconst X1.here hx rfl (hb hby at_38) k) ?_
        show Gl _ _ _ _ _ _ _ _ (T1.setTop (mkF m 39 #[.val (.int p1), .val (.long q2), .second, .val (.int ((1 : Int32) + (p1 &&& (15 : Int32)))), .val (.long (q2 &&& (9223372036854775807 : Int64))), .second] [(.int (1 : Int32))]))
        refine go (fun t k => XS.goto X1.here hx rfl (pc0 := 39) (pc' := 43) rfl (hb hby at_39) (by decide) (by decide) k) ?_
        show Gl _ _ _ _ _ _ _ _ (T1.setTop (mkF m 43 #[.val (.int p1), .val (.long q2), .second, .val (.int ((1 : Int32) + (p1 &&& (15 : Int32)))), .val (.long (q2 &&& (9223372036854775807 : Int64))), .second] [(.int (1 : Int32))]))
        exact J43 (1 : Int32) T1 _ X1 e1 N1
theorem law_eq (p1 : Int32) (q2 : Int64) : b0_0 p1 q2 = 1 := by
  unfold b0_0
  rw [if_neg (own_p1 p1), if_neg (own_p2 p1), if_neg (own_p3 q2)]; rfl
set_option maxRecDepth 65536 in
set_option maxHeartbeats 40000000 in
theorem comes_1 {Post : Tables → Env → Array Value → State → Outcome → State → Prop} (hpost : ∀ tb e args s v u, (limb_1_1.after args s (.returned v) u = true ∧ limb_1_2.after args s (.returned v) u = true ∧ True) → FrameEnd s (.returned v) u (Jvm.fieldLocs frame_1_writes args s ++ Jvm.arrayLocs frame_1_arrays args s ++ Jvm.staticLocs frame_1_statics s) 0 0 → Post tb e args s (.returned v) u) :
    ArmFor flags0 classFile x code maxLocals ret World_1 tables_1 room_1 Calls_1 rest_1 Pre_1 Post := by
  intro l hfl _ _ p e ha hc hk s m args below hf hA hF happ hP
  obtain ⟨hcalls, hrest, hpre⟩ := hP
  obtain ⟨-, -, -, hnamed, -, -, -, hat⟩ := (Spec.applies_iff hf).mp happ
  obtain ⟨hg, hn⟩ := and_e (Cond.before_iff.mp (show (Jvm.Cond.and given_1 narrow_1).before args s = true from hpre))
  obtain ⟨g1, g2⟩ := and_e hg
  obtain ⟨g3, g4⟩ := and_e g2
  obtain ⟨w0, w1, rfl⟩ : ∃ w0 w1 : Value, args = #[w0, w1] := by
    have hs : args.size = 2 := by simpa [Cond.value, given_1] using g1
    obtain ⟨L⟩ := args
    match L, hs with
    | [w0, w1], _ => exact ⟨w0, w1, rfl⟩
  have hw := fun d (hd : d ∈ tables_1) => atoms_spec (ws := Jvm.Cond.code x code maxLocals ret :: tables_1) hat d (List.mem_cons_of_mem _ hd)
  have hfit : Fit s := fun {y c} hc i hi => by
    obtain ⟨ha, rfl⟩ := Array.getElem?_eq_some_iff.mp hc
    have q := List.all_eq_true.mp ((Array.all_eq_true_iff_forall_mem.mp hF) _ (Array.getElem_mem ha)) i (List.mem_range.mpr hi)
    simpa [Array.getElem?_eq_getElem hi] using q
  obtain ⟨i0, ei0⟩ := is_v g3
  obtain rfl : w0 = (.int i0) := Option.some.inj ei0
  obtain ⟨i1, ei1⟩ := isL_v g4
  obtain rfl : w1 = (.long i1) := Option.some.inj ei1
  obtain ⟨n, o, h1, h2, h3, _, L, rfl, ⟨⟨hv, -⟩, N⟩, hq⟩ := rm0 l s _ hw tables_1 i0 i1  s.heap s.heap.size (Nat.le_refl _)  p e ha hc hk s m _ below hf ((Spec.applies_iff_loose hf).mp happ).1 ⟨rfl, State.Warmed39.refl s, rfl⟩ trivial
  rw [law_eq] at hv
  subst hv
  refine ⟨n, _, h1, h2, h3, hpost _ _ _ _ _ _ ⟨Cond.after_iff.mpr rfl, Cond.after_iff.mpr (eq_i res_at (Term.int_eval (1)) rfl), trivial⟩ ⟨hq.1, hq.2.1, (hq.2.2.sift fun y hy => Or.inr (N y hy)).mono (by decide) (by decide)⟩⟩
theorem main_1_1 : Claimed_1_1 := comes_1 fun _ _ _ _ _ _ h hF => ⟨h.1, hF⟩
theorem main_1_2 : Claimed_1_2 := comes_1 fun _ _ _ _ _ _ h hF => ⟨h.2.1, hF⟩
end Jvm.Pilot.@@N@@
namespace Jvm.Pilot.@@N@@
open Jvm Jvm.ClassFile Sem Op Lib Jvm.Free Jvm.Stand Jvm.Pilot.@@N@@.Jvm.D
/-! MADE BY PROGRAM (witnessworld.py) out of the Statement's table words and the real class files: 7 classes; the members and pool entries that the words name. The judged class is class 1, her method 1. -/
namespace start1
open Jvm.ClassFile
def u (s : String) : CpInfo := .utf8 (stringToUtf16 s)
/-- a pool by its gaps: so many unusable entries, then the entry; so many at the end -/
def gap : Nat → List CpInfo → List CpInfo
  | 0, r => r
  | n + 1, r => .unusable :: gap n r
def poolList (es : List (Nat × CpInfo)) (last : Nat) : List CpInfo := es.foldr (fun e r => gap e.1 (e.2 :: r)) (gap last [])
def pool (es : List (Nat × CpInfo)) (last : Nat) : Array CpInfo := ⟨poolList es last⟩
def fileOf (pool : Array CpInfo) (this : Nat) (attrs : Array Attribute := #[]) (ms : Array MethodInfo := #[]) (fl : Nat := 33) (sup : Nat := 0) (ifs : Array Nat := #[]) (fds : Array FieldInfo := #[]) : ClassFile where
  minorVersion := 0
  majorVersion := 65
  constantPool := pool
  accessFlags := fl
  thisClass := this
  superClass := sup
  interfaces := ifs
  fields := fds
  methods := ms
  attributes := attrs
def plain (name : String) (sup : Option ClassId) : Class where
  name := name
  kind := .ordinary
  loader := none
  accessFlags := 33
  super := sup
  interfaces := #[]
  cf := none
  fields := #[]
  methods := #[]
  instanceTypes := #[]
  staticTypes := #[]
  resolved := #[]
  callSites := []
  init := .initialized
  statics := none
  mirror := none

def pool0 : Array CpInfo := pool [(5, u "<init>"), (0, u "()V"), (1, .class_ 10), (1, u "java/lang/Object")] 113

def k0m0 : Method := { name := "<init>", desc := "()V", sig := { parameters := [], returnType := none }, accessFlags := 1, code := none }
/-- java/lang/Object -/
def k0 : Class := { plain "java/lang/Object" none with
  accessFlags := 33
  interfaces := #[]
  cf := some (fileOf pool0 8 #[] #[{ accessFlags := 1, nameIndex := 5, descriptorIndex := 6, attributes := #[] }] 33 0 #[] #[])
  fields := #[]
  methods := #[k0m0]
  instanceTypes := #[]
  staticTypes := #[]
  resolved := Array.replicate 124 none
  statics := none }

def pool1 : Array CpInfo := pool [(2, .class_ 4), (1, u "java/lang/Object"), (0, u "<init>"), (0, u "()V"), (2, .long 9223372036854775807), (1, .methodref 12 13), (0, .class_ 14), (0, .nameAndType 15 16), (0, u "com/example/vicinet/vicinet/protocol/PeerSessions"), (0, u "requireValid"), (0, u "(IJ)V"), (0, .class_ 18), (0, u "com/example/vicinet/vicinet/protocol/PeerSessionsRequireValidPinLaw"), (2, u "law"), (0, u "(IJ)Z")] 3

def k1m0 : Method := { name := "<init>", desc := "()V", sig := { parameters := [], returnType := none }, accessFlags := 2, code := none }
def k1c1 : Code := { maxStack := 4, maxLocals := 6, code := code, exceptionTable := #[], attributes := #[] }
def k1m1 : Method := { name := "law", desc := "(IJ)Z", sig := { parameters := [.int, .long], returnType := some .boolean }, accessFlags := 9, code := some k1c1 }
/-- com/example/vicinet/vicinet/protocol/PeerSessionsRequireValidPinLaw -/
def k1 : Class := { plain "com/example/vicinet/vicinet/protocol/PeerSessionsRequireValidPinLaw" (some 0) with
  accessFlags := 49
  interfaces := #[]
  cf := some (fileOf pool1 17 #[] #[{ accessFlags := 2, nameIndex := 5, descriptorIndex := 6, attributes := #[] }, { accessFlags := 9, nameIndex := 21, descriptorIndex := 22, attributes := #[] }] 49 2 #[] #[])
  fields := #[]
  methods := #[k1m0, k1m1]
  instanceTypes := #[]
  staticTypes := #[]
  resolved := Array.replicate 26 none
  statics := none }

def pool2 : Array CpInfo := pool [(2, .class_ 4), (1, u "com/example/vicinet/vicinet/protocol/PeerSessions"), (0, u "<init>"), (5, .class_ 13), (1, u "java/lang/Object"), (0, u "()V"), (5, u "claims"), (0, u "Lcom/example/vicinet/vicinet/protocol/PieceClaims;"), (5, u "filter"), (0, u "Lcom/example/vicinet/vicinet/protocol/NodeFilter;"), (5, u "phases"), (0, u "Ljava/util/Map;"), (2, u "requireValid"), (0, u "(IJ)V"), (2, u "maxSessions"), (0, u "I"), (8, u "upload"), (0, u "Lcom/example/vicinet/vicinet/protocol/UploadLimit;"), (2, u "sessionLimit"), (0, u "J"), (17, u "taken"), (0, .class_ 77), (0, u "com/example/vicinet/vicinet/protocol/PeerSessions$Place"), (12, .class_ 91), (0, u "com/example/vicinet/vicinet/protocol/PeerSessions$Phase"), (3, u "MAX_SESSIONS")] 24

def k2m0 : Method := { name := "<init>", desc := "()V", sig := { parameters := [], returnType := none }, accessFlags := 1, code := none }
def k2c1 : Code := { maxStack := 4, maxLocals := 3, code := prog_77_method_4_code, exceptionTable := #[], attributes := #[] }
def k2m1 : Method := { name := "requireValid", desc := "(IJ)V", sig := { parameters := [.int, .long], returnType := none }, accessFlags := 9, code := some k2c1 }
/-- com/example/vicinet/vicinet/protocol/PeerSessions -/
def k2 : Class := { plain "com/example/vicinet/vicinet/protocol/PeerSessions" (some 0) with
  accessFlags := 49
  interfaces := #[]
  cf := some (fileOf pool2 2 #[.nestMembers #[76, 90]] #[{ accessFlags := 1, nameIndex := 5, descriptorIndex := 14, attributes := #[] }, { accessFlags := 9, nameIndex := 38, descriptorIndex := 39, attributes := #[] }] 49 11 #[] #[{ accessFlags := 25, nameIndex := 95, descriptorIndex := 43, attributes := #[] }, { accessFlags := 18, nameIndex := 42, descriptorIndex := 43, attributes := #[] }, { accessFlags := 18, nameIndex := 52, descriptorIndex := 53, attributes := #[] }, { accessFlags := 18, nameIndex := 56, descriptorIndex := 57, attributes := #[] }, { accessFlags := 18, nameIndex := 20, descriptorIndex := 21, attributes := #[] }, { accessFlags := 18, nameIndex := 27, descriptorIndex := 28, attributes := #[] }, { accessFlags := 2, nameIndex := 75, descriptorIndex := 43, attributes := #[] }, { accessFlags := 18, nameIndex := 34, descriptorIndex := 35, attributes := #[] }])
  fields := #[{ name := "MAX_SESSIONS", type := .int, accessFlags := 25, slot := 0, constantValue := 0 }, { name := "maxSessions", type := .int, accessFlags := 18, slot := 0, constantValue := 0 }, { name := "upload", type := (.object "com/example/vicinet/vicinet/protocol/UploadLimit"), accessFlags := 18, slot := 1, constantValue := 0 }, { name := "sessionLimit", type := .long, accessFlags := 18, slot := 2, constantValue := 0 }, { name := "claims", type := (.object "com/example/vicinet/vicinet/protocol/PieceClaims"), accessFlags := 18, slot := 3, constantValue := 0 }, { name := "filter", type := (.object "com/example/vicinet/vicinet/protocol/NodeFilter"), accessFlags := 18, slot := 4, constantValue := 0 }, { name := "taken", type := .int, accessFlags := 2, slot := 5, constantValue := 0 }, { name := "phases", type := (.object "java/util/Map"), accessFlags := 18, slot := 6, constantValue := 0 }]
  methods := #[k2m0, k2m1]
  instanceTypes := #[.int, (.object "com/example/vicinet/vicinet/protocol/UploadLimit"), .long, (.object "com/example/vicinet/vicinet/protocol/PieceClaims"), (.object "com/example/vicinet/vicinet/protocol/NodeFilter"), .int, (.object "java/util/Map")]
  staticTypes := #[.int]
  resolved := Array.replicate 120 none
  statics := none }

def pool3 : Array CpInfo := pool [(1, u "java/lang/Cloneable"), (0, .class_ 1), (0, u "java/lang/Object"), (0, .class_ 3)] 3

/-- java/lang/Cloneable -/
def k3 : Class := { plain "java/lang/Cloneable" (some 0) with
  accessFlags := 1537
  interfaces := #[]
  cf := some (fileOf pool3 2 #[] #[] 1537 4 #[] #[])
  fields := #[]
  methods := #[]
  instanceTypes := #[]
  staticTypes := #[]
  resolved := Array.replicate 8 none
  statics := none }

def pool4 : Array CpInfo := pool [(1, u "java/io/Serializable"), (0, .class_ 1), (0, u "java/lang/Object"), (0, .class_ 3)] 3

/-- java/io/Serializable -/
def k4 : Class := { plain "java/io/Serializable" (some 0) with
  accessFlags := 1537
  interfaces := #[]
  cf := some (fileOf pool4 2 #[] #[] 1537 4 #[] #[])
  fields := #[]
  methods := #[]
  instanceTypes := #[]
  staticTypes := #[]
  resolved := Array.replicate 8 none
  statics := none }

/-- the primitive byte -/
def k5 : Class := { plain "byte" none with kind := .primitive 'B', accessFlags := 0x411 }
/-- [B -/
def k6 : Class := { plain "[B" (some 0) with kind := .array 5 .byte, interfaces := #[3, 4], accessFlags := 1041 }

def heap : Heap := #[]
def classes : Array Class := #[k0, k1, k2, k3, k4, k5, k6]
def interned : List (Array UInt16 × Addr) := []
def slotsUsed : Nat := 0
def theMethod : MethodId := ⟨1, 1⟩
def args0 : Array Value := #[.int 5, .long 7]
def aboutOver (below : List Frame) : State where
  vm := { classes := classes, interned := interned.toArray }
  heap := heap
  slotsUsed := slotsUsed
  threads := #[{ frames := .invoking theMethod args0 :: below }]
def below0 : List Frame := [.native { method := ⟨0, 0⟩, args := #[] }]
def about1 : State := aboutOver below0
def p0 : Program := .bare "" "" ""
def e0 : Env := launch0.env 0 0 0
theorem w_frames : about1.frames = Frame.invoking theMethod args0 :: below0 := rfl
set_option maxRecDepth 65536 in
theorem w_args : argsFit about1.vm theMethod args0 = true := by decide +kernel
set_option maxRecDepth 65536 in
theorem w_heap : heapFits about1 = true := by decide +kernel
set_option maxRecDepth 65536 in
theorem w_runnable : about1.curStatus? = some .runnable := by decide +kernel
set_option maxRecDepth 65536 in
theorem w_alone : about1.alone = true := by decide +kernel
set_option maxRecDepth 65536 in
theorem w_named : about1.methodNamed? x = some theMethod := by decide +kernel
set_option maxRecDepth 65536 in
theorem w_hears : about1.hears theMethod below0 = true := by decide +kernel
set_option maxRecDepth 65536 in
theorem w_ripe : about1.ripe theMethod args0 below0 = true := by decide +kernel
theorem w_running : about1.status = .running := rfl
set_option maxRecDepth 65536 in
theorem w_room : about1.hasRoom e0.platform room_1 = true :=
  launch0.hasRoom_least _ room_1 (by decide +kernel) (by decide +kernel) (by decide +kernel) (by decide +kernel) (by decide +kernel) (by decide +kernel)
theorem allAtoms_all (ts : List Jvm.Cond) (a : Array Jvm.Value) (st : Jvm.State) : (allAtoms ts).before a st = ts.all (fun c => c.before a st) := by
  induction ts with
  | nil => rfl
  | cons c t ih =>
    show (Jvm.Cond.and c (allAtoms t)).before a st = _
    rw [Jvm.Cond.before_and, ih, List.all_cons]
def words1 : List Jvm.Cond := Jvm.Cond.code x code maxLocals ret :: tables_1
/-- a 'code' word, met by the world's own term for the bytes: nothing is compared byte by byte -/
theorem code_word {y : MethodName} {bytes : ByteArray} {mx : Nat} {rt : Option FieldType} {a : Array Value} {s : State} {m : MethodId} {meth : Method} {c : Code} (h1 : s.methodNamed? y = some m) (h2 : s.vm.method? m = some meth) (h3 : meth.code = some c) (h4 : c.code = bytes)
    (h5 : (c.maxLocals == mx && c.exceptionTable.isEmpty && decide (c.maxStack ≤ mostOperands) && decide (meth.sig.returnType = rt) && !meth.locks && decide (parseMethodDescriptor y.desc = some meth.sig)) = true) : (Jvm.Cond.code y bytes mx rt).before a s = true := by
  simp only [Bool.and_eq_true, beq_iff_eq, Bool.not_eq_true', decide_eq_true_eq] at h5
  obtain ⟨⟨⟨⟨⟨g1, g2⟩, g3⟩, g4⟩, g5⟩, g6⟩ := h5
  simp [Cond.before, Cond.holds, Cond.value, h1, h2, h3, h4, g1, g2, g3, g4, g5, g6]
def isCode : Jvm.Cond → Bool
  | .code _ _ _ _ => true
  | _ => false
theorem all_split {L : List Jvm.Cond} {P : Jvm.Cond → Bool} (h1 : L.all (fun c => isCode c || P c) = true) (h2 : ∀ c ∈ L.filter isCode, P c = true) : L.all P = true := by
  refine List.all_eq_true.mpr fun c hc => ?_
  have h := List.all_eq_true.mp h1 c hc
  rcases Bool.eq_false_or_eq_true (isCode c) with hi | hi
  · exact h2 c (List.mem_filter.mpr ⟨hc, hi⟩)
  · simpa [hi] using h
set_option maxRecDepth 65536 in
theorem w_c0 : (Jvm.Cond.code x code maxLocals ret).before args0 about1 = true := code_word (m := ⟨1, 1⟩) (meth := k1m1) (c := k1c1) (by decide +kernel) rfl rfl rfl (by decide +kernel)
set_option maxRecDepth 65536 in
theorem w_c1 : (Jvm.Cond.code ({ cls := "com/example/vicinet/vicinet/protocol/PeerSessions", name := "requireValid", desc := "(IJ)V" } : Jvm.MethodName) prog_77_method_4_code (3 : Nat) (Option.none : Option Jvm.ClassFile.FieldType)).before args0 about1 = true := code_word (m := ⟨2, 1⟩) (meth := k2m1) (c := k2c1) (by decide +kernel) rfl rfl rfl (by decide +kernel)
def codes1 : List Jvm.Cond := [Jvm.Cond.code x code maxLocals ret, Jvm.Cond.code ({ cls := "com/example/vicinet/vicinet/protocol/PeerSessions", name := "requireValid", desc := "(IJ)V" } : Jvm.MethodName) prog_77_method_4_code (3 : Nat) (Option.none : Option Jvm.ClassFile.FieldType)]
set_option maxRecDepth 65536 in
theorem codes_eq : words1.filter isCode = codes1 := rfl
theorem w_codes : ∀ c ∈ words1.filter isCode, c.before args0 about1 = true := by
  rw [codes_eq]
  intro c hc
  simp only [codes1, List.mem_cons, List.not_mem_nil, or_false] at hc
  rcases hc with rfl | rfl
  · exact w_c0
  · exact w_c1
set_option maxRecDepth 65536 in
theorem w_t1 : words1.all (fun c => isCode c || c.before args0 about1) = true := by decide +kernel
theorem w_tables : (allAtoms (Jvm.Cond.code x code maxLocals ret :: tables_1)).before args0 about1 = true := by
  rw [allAtoms_all]
  show words1.all (fun c => c.before args0 about1) = true
  refine all_split ?_ w_codes
  rw [w_t1]
set_option maxRecDepth 65536 in
theorem w_case : (Jvm.Cond.and given_1 narrow_1).before args0 about1 = true := by decide +kernel
theorem w_applies : (headSpec (Jvm.Cond.code x code maxLocals ret :: tables_1) room_1).applies x e0.platform about1 = true :=
  (Spec.applies_iff w_frames).mpr ⟨w_running, w_runnable, w_alone, w_named, w_hears, w_ripe, w_room, w_tables⟩
theorem atStart : AtStart classFile x code maxLocals ret World_1 tables_1 room_1 Calls_1 rest_1 Pre_1 launch0 p0 e0 about1 theMethod args0 below0 :=
  ⟨lists_1, trivial, launch0.admits_env _ _ _, launch0.least_env, fairChoices_fair.cas, fairChoices_fair.clock, w_frames, w_args, w_heap, w_applies, trivial, trivial, w_case⟩
end start1
theorem witness_1 : WitnessClaimed_1 := ⟨start1.p0, start1.e0, start1.about1, start1.theMethod, start1.args0, start1.below0, start1.atStart⟩
end Jvm.Pilot.@@N@@
