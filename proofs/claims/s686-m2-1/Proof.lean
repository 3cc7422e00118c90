import JvmDerived
import JvmDerived.Pilot.@@N@@Statement
import JvmDerived.Pilot.@@N@@Code
set_option linter.unusedVariables false
set_option linter.unusedSimpArgs false
@@BLOCK:NumsL.lean.txt@@
namespace Jvm.RoadKit
open Sem ClassFile Op Lib Jvm.Stand Jvm.Free Jvm.LawKit
section Own
variable {p : Program} {l : Launch} {e : Env} {R : Room} {s : State} {m : MethodId} {args : Array Value} {below : List Frame} {meth : Method} {c : Code} {T : State} {locs : List Loc} {cells slots : Nat}
/-- from t the run ends in a return of which Q holds -/
def OGo (p : Program) (e : Env) (below : List Frame) (s : State) (Q : Option Value → Heap → List Loc → Prop) (C N : Nat) (t : State) : Prop :=
  ∃ s₂ o, Steps p.tables e below t s₂ ∧ s₂.status = .running ∧ Ended s₂ below o ∧ ∃ v L, o = .returned v ∧ Q v s₂.heap L ∧ FrameEnd s o s₂ L C N
theorem OGo.st {Q : Option Value → Heap → List Loc → Prop} {C N : Nat} {t t' : State} (k : ∀ target, Steps p.tables e below t' target → Steps p.tables e below t target) (h : OGo p e below s Q C N t') : OGo p e below s Q C N t := by
  obtain ⟨s₂, o, a, r⟩ := h; exact ⟨s₂, o, k _ a, r⟩
theorem oretW {Q : Option Value → Heap → List Loc → Prop} {C N : Nat} (X : Stand p l e R s m args below meth c T locs cells slots) (hx : p.tables.exec = Jvm.exec) (hlk : meth.locks = false) {pc : Nat} {Ls : Array Slot} {w : Value} {t : FieldType} {i : Instr} {rest : List Value} (hret : meth.sig.returnType = some t) (hn : narrow t w = w)
    (hi : (i = .ireturn ∧ (t = .int ∨ t = .boolean ∨ t = .byte ∨ t = .char ∨ t = .short) ∧ ∃ z, w = .int z) ∨ (i = .lreturn ∧ t = .long ∧ ∃ z, w = .long z) ∨ (i = .dreturn ∧ t = .double ∧ ∃ z, w = .double z) ∨ (i = .freturn ∧ t = .float ∧ ∃ z, w = .float z) ∨ (i = .areturn ∧ t.isReference = true ∧ w.isRef = true))
    (hd : decode c.code pc = .ok (i, 1)) {h : Heap} (hh : T.heap = h) (hq : Q (some w) h locs) (hC : cells ≤ C) (hN : slots ≤ N) : OGo p e below s Q C N (T.setTop (mkF m pc Ls (w :: rest))) := by
  obtain ⟨fs, hr, hrun, hended, hW, hsame⟩ := X.leave (v := some w) (fun h => by rw [hret] at h; cases h) hlk
  exact ⟨_, _, retOut X hx hret hn hi hd hr, hrun, hended, _, _, rfl, hh ▸ hq, ⟨_, rfl⟩, hW, hsame.mono hC hN⟩
theorem oretI {Q : Option Value → Heap → List Loc → Prop} {C N : Nat} (X : Stand p l e R s m args below meth c T locs cells slots) (hx : p.tables.exec = Jvm.exec) (hlk : meth.locks = false) {pc : Nat} {Ls : Array Slot} {z : Int32} {rest : List Value} (hret : meth.sig.returnType = some .int)
    (hd : decode c.code pc = .ok (.ireturn, 1)) {h : Heap} (hh : T.heap = h) (hq : Q (some (.int z)) h locs) (hC : cells ≤ C) (hN : slots ≤ N) : OGo p e below s Q C N (T.setTop (mkF m pc Ls (.int z :: rest))) :=
  oretW X hx hlk hret rfl (Or.inl ⟨rfl, Or.inl rfl, _, rfl⟩) hd hh hq hC hN
theorem oretJ {Q : Option Value → Heap → List Loc → Prop} {C N : Nat} (X : Stand p l e R s m args below meth c T locs cells slots) (hx : p.tables.exec = Jvm.exec) (hlk : meth.locks = false) {pc : Nat} {Ls : Array Slot} {z : Int64} {rest : List Value} (hret : meth.sig.returnType = some .long)
    (hd : decode c.code pc = .ok (.lreturn, 1)) {h : Heap} (hh : T.heap = h) (hq : Q (some (.long z)) h locs) (hC : cells ≤ C) (hN : slots ≤ N) : OGo p e below s Q C N (T.setTop (mkF m pc Ls (.long z :: rest))) :=
  oretW X hx hlk hret rfl (Or.inr (Or.inl ⟨rfl, rfl, _, rfl⟩)) hd hh hq hC hN
theorem onarR {t : FieldType} {w : Value} (ht : t.isReference = true) (hw : w.isRef = true) : narrow t w = w := by
  cases t <;> first | (cases ht; done) | (cases w <;> first | rfl | (cases hw; done))
theorem ofitR {t : FieldType} {w : Value} (ht : t.isReference = true) (hw : w.isRef = true) : fits t w = true := by
  cases t <;> first | (cases ht; done) | (cases w <;> first | rfl | (cases hw; done))
theorem oretA {Q : Option Value → Heap → List Loc → Prop} {C N : Nat} (X : Stand p l e R s m args below meth c T locs cells slots) (hx : p.tables.exec = Jvm.exec) (hlk : meth.locks = false) {pc : Nat} {Ls : Array Slot} {w : Value} {t : FieldType} {rest : List Value} (hret : meth.sig.returnType = some t) (ht : t.isReference = true) (hw : w.isRef = true)
    (hd : decode c.code pc = .ok (.areturn, 1)) {h : Heap} (hh : T.heap = h) (hq : Q (some w) h locs) (hC : cells ≤ C) (hN : slots ≤ N) : OGo p e below s Q C N (T.setTop (mkF m pc Ls (w :: rest))) :=
  oretW X hx hlk hret (onarR ht hw) (Or.inr (Or.inr (Or.inr (Or.inr ⟨rfl, ht, hw⟩)))) hd hh hq hC hN
theorem oretN {Q : Option Value → Heap → List Loc → Prop} {C N : Nat} (X : Stand p l e R s m args below meth c T locs cells slots) (hx : p.tables.exec = Jvm.exec) (hlk : meth.locks = false) {pc : Nat} {Ls : Array Slot} {z z' : Int32} {t : FieldType} {rest : List Value} (hret : meth.sig.returnType = some t) (ht : t = .boolean ∨ t = .byte ∨ t = .char ∨ t = .short)
    (hd : decode c.code pc = .ok (.ireturn, 1)) (hz : nar t z = z') {h : Heap} (hh : T.heap = h) (hq : Q (some (.int z')) h locs) (hC : cells ≤ C) (hN : slots ≤ N) : OGo p e below s Q C N (T.setTop (mkF m pc Ls (.int z :: rest))) := by
  subst hz
  obtain ⟨fs, hr, hrun, hended, hW, hsame⟩ := X.leave (v := some (.int (nar t z))) (fun h => by rw [hret] at h; cases h) hlk
  exact ⟨_, _, retN X hx hret ht hd hr, hrun, hended, _, _, rfl, hh ▸ hq, ⟨_, rfl⟩, hW, hsame.mono hC hN⟩
theorem oret0 {Q : Option Value → Heap → List Loc → Prop} {C N : Nat} (X : Stand p l e R s m args below meth c T locs cells slots) (hx : p.tables.exec = Jvm.exec) (hlk : meth.locks = false) {pc : Nat} {Ls : Array Slot} (hret : meth.sig.returnType = none)
    (hd : decode c.code pc = .ok (.return_, 1)) {h : Heap} (hh : T.heap = h) (hq : Q none h locs) (hC : cells ≤ C) (hN : slots ≤ N) : OGo p e below s Q C N (T.setTop (mkF m pc Ls [])) := by
  obtain ⟨fs, hr, hrun, hended, hW, hsame⟩ := X.leave (v := none) (fun _ => rfl) hlk
  exact ⟨_, _, X.returnOut hx hret hd hr, hrun, hended, _, _, rfl, hh ▸ hq, ⟨_, rfl⟩, hW, hsame.mono hC hN⟩
theorem olrem {tb : Tables} [Ours tb] {target : State} {g : JFrame} (h : At T m c below) (hx : tb.exec = Jvm.exec) (hg : g.method = m) {x y : Int64} {rest : List Value} (hd : decode c.code g.pc = .ok (.lrem, 1)) (hs : g.stack = .long y :: .long x :: rest) (hy : y ≠ 0)
    (hr : Steps tb e below (T.setTop { g with pc := g.pc + 1, stack := .long (x % y) :: rest }) target) : Steps tb e below (T.setTop g) target :=
  XS.lrem h hx hg hd hs hy (by rw [lrem_mod]; exact hr)
theorem olc_lt (x y : Int64) : lcmpW x y < 0 ↔ x < y := by rw [lcW]; exact lc_lt x y
theorem olc_gt (x y : Int64) : 0 < lcmpW x y ↔ y < x := by rw [lcW]; exact lc_gt x y
theorem olc_eq (x y : Int64) : lcmpW x y = 0 ↔ x = y := by rw [lcW]; exact lc_eq x y
theorem onilP {v : Int} : ∀ q ∈ ([] : List (Int × Int)), q.1 ≠ v := fun _ q => nomatch q
theorem oconsP {v a b : Int} {l : List (Int × Int)} (h : a ≠ v) (t : ∀ q ∈ l, q.1 ≠ v) : ∀ q ∈ (a, b) :: l, q.1 ≠ v := fun q hq => (List.mem_cons.mp hq).elim (fun u => by rw [u]; exact h) (t q)
theorem oint_ne {z k : Int32} {K : Int} (h : ¬ z = k) (hk : k.toInt = K) : K ≠ z.toInt := fun q => h (Int32.toInt_inj.mp (by rw [hk, q]))
theorem ofld_eq {Z : State} {t : Term} {C n d : String} {a : Addr} {k : Int32} (h : (Cond.eq (Term.field t C n d) (Term.int k)).value args Z none Z [] = some true) (ev : t.eval args Z none [] Z = some (.ref a)) : Fld Z Z.heap a C n d (.int k) := by
  apply Fld.start
  have q := fld_at (args := args) (first := Z) (o := none) (idx := []) (s := Z) (C := C) (n := n) (dd := d) ev
  simp only [Cond.value, q, Term.int_eval] at h
  cases hv : Z.fieldOf? a C n d with
  | none => simp [hv] at h
  | some v => cases v <;> simp [hv] at h <;> simp [h]
section Imp
variable {E a b : Int32}
theorem oLL (h : E < a) (k : a.toInt ≤ b.toInt) : E < b := by rw [Int32.lt_iff_toInt_lt] at *; omega
theorem oLnG (h : E < a) (k : a.toInt ≤ b.toInt + 1) : ¬ b < E := by rw [Int32.lt_iff_toInt_lt] at *; omega
theorem oLnE (h : E < a) (k : a.toInt ≤ b.toInt) : ¬ E = b := fun q => by subst q; rw [Int32.lt_iff_toInt_lt] at h; omega
theorem oGG (h : a < E) (k : b.toInt ≤ a.toInt) : b < E := by rw [Int32.lt_iff_toInt_lt] at *; omega
theorem oGnL (h : a < E) (k : b.toInt ≤ a.toInt + 1) : ¬ E < b := by rw [Int32.lt_iff_toInt_lt] at *; omega
theorem oGnE (h : a < E) (k : b.toInt ≤ a.toInt) : ¬ E = b := fun q => by subst q; rw [Int32.lt_iff_toInt_lt] at h; omega
theorem onLnL (h : ¬ E < a) (k : b.toInt ≤ a.toInt) : ¬ E < b := by rw [Int32.lt_iff_toInt_lt] at *; omega
theorem onLG (h : ¬ E < a) (k : b.toInt < a.toInt) : b < E := by rw [Int32.lt_iff_toInt_lt] at *; omega
theorem onLnE (h : ¬ E < a) (k : b.toInt < a.toInt) : ¬ E = b := fun q => by subst q; rw [Int32.lt_iff_toInt_lt] at h; omega
theorem onGnG (h : ¬ a < E) (k : a.toInt ≤ b.toInt) : ¬ b < E := by rw [Int32.lt_iff_toInt_lt] at *; omega
theorem onGL (h : ¬ a < E) (k : a.toInt < b.toInt) : E < b := by rw [Int32.lt_iff_toInt_lt] at *; omega
theorem onGnE (h : ¬ a < E) (k : a.toInt < b.toInt) : ¬ E = b := fun q => by subst q; rw [Int32.lt_iff_toInt_lt] at h; omega
end Imp
end Own
end Jvm.RoadKit
namespace Jvm.Pilot.@@N@@
open Jvm Jvm.ClassFile Sem Op Lib Jvm.Free Jvm.Stand Jvm.LawKit Jvm.RoadKit Bundle Jvm.Pilot.@@N@@.Jvm.D

theorem d2_0 : decode jdk_30_method_1_code 0 = .ok (.aload_n 0, 1) := by decide +kernel
theorem d2_1 : decode jdk_30_method_1_code 1 = .ok (.invokespecial 1, 3) := by decide +kernel
theorem d2_4 : decode jdk_30_method_1_code 4 = .ok (.return_, 1) := by decide +kernel
theorem pn_2 : plainName "java/lang/Record" = true := by first | (simp [plainName, overriddenIn]; done) | decide +kernel
theorem ef_2 (m : MethodId) (o0 : Addr) : entryFrame m #[(.ref o0)] 1 = mkF m 0 #[.val (.ref o0)] [] := by first | (simp [entryFrame, mkF, argsToLocals, Value.category]; done) | rfl
def Q2 (Z : State) (o0 : Addr) (h0 : Heap) (n0 : Nat) (v : Option Value) (h : Heap) (L : List Loc) : Prop := v = none ∧ Fr n0 L ∧ h = h0
set_option maxRecDepth 65536 in
set_option maxHeartbeats 40000000 in
theorem rm2 (l : Launch) (Z : State) (a0 : Array Value) (hw : ∀ d ∈ tables_1, d.before a0 Z = true) (ws : List Jvm.Cond) (o0 : Addr) (h0 : Heap) (n0 : Nat) (Z0 : n0 ≤ h0.size) :
    MetFree l (⟨"java/lang/Record", "<init>", "()V"⟩ : MethodName) (head1 (Jvm.Cond.code (⟨"java/lang/Record", "<init>", "()V"⟩ : MethodName) jdk_30_method_1_code 1 none :: ws) ({ frames := 1, cells := 0, slots := 0, locals := 12 } : Room)) (fun a U => a = #[(.ref o0)] ∧ Z.Warmed39 U.vm ∧ U.heap = h0) (fun _ _ _ _ _ => True) (fun _ U o U' => ∃ v L, o = .returned v ∧ Q2 Z o0 h0 n0 v U'.heap L ∧ FrameEnd U o U' L ({ frames := 1, cells := 0, slots := 0, locals := 12 } : Room).cells ({ frames := 1, cells := 0, slots := 0, locals := 12 } : Room).slots) := by
  refine MetFree.of_bodySF (plainFor_of_name pn_2) hisR ?_
  intro p e s m args below meth c s₁ Bd hml0 hP hK
  obtain ⟨rfl, hZ, hh⟩ := hP
  have hx := Bd.exec
  have hby := Bd.bytes
  have hml : c.maxLocals = 1 := hml0
  have hown : s.vm.findClass "java/lang/Record" = some m.cls := findClass_of_methodNamed Bd.named
  have hnm := (name_of_methodNamed Bd.named Bd.method).1
  have X0 : Stand p l e ({ frames := 1, cells := 0, slots := 0, locals := 12 } : Room) s m #[(.ref o0)] below meth c s₁ [] 0 0 := Stand.of_body Bd
  have e0 : s₁.heap = h0 := by rw [← hh, Bd.state]; rfl
  have N0 := Fr.nil n0
  show OGo p e below s (Q2 Z o0 h0 n0) ({ frames := 1, cells := 0, slots := 0, locals := 12 } : Room).cells ({ frames := 1, cells := 0, slots := 0, locals := 12 } : Room).slots _
  refine OGo.st (fun _ k => castTop (ef_2 m o0) k) ?_
  show OGo p e below s _ _ _ (s₁.setTop (mkF m 0 #[.val (.ref o0)] []))
  refine OGo.st (fun _ k => XS.aloadN X0.here hx rfl (hb hby d2_0) rfl rfl k) ?_
  show OGo p e below s _ _ _ (s₁.setTop (mkF m 1 #[.val (.ref o0)] [(.ref o0)]))
  obtain ⟨T1, X1, e1, st1⟩ := initO X0 hx hZ hown (hw _ (List.mem_of_getElem? (i := 11) rfl)) (hw _ (List.mem_of_getElem? (i := 12) rfl)) (hw _ (List.mem_of_getElem? (i := 13) rfl)) e0 (g := (mkF m 1 #[.val (.ref o0)] [(.ref o0)])) rfl (by rw [hml]; rfl) rfl (hb hby d2_1) (by decide) (W := 0) (by show 2 * 0 + _ ≤ _; exact Nat.le_of_eq rfl) (by decide)
  refine OGo.st st1 ?_
  show OGo p e below s _ _ _ (T1.setTop (mkF m 4 #[.val (.ref o0)] []))
  exact oret0 X1 hx Bd.notSynchronized Bd.returns (hb hby d2_4) e1 ⟨rfl, N0, rfl⟩ (by decide) (by decide)
theorem d1_0 : decode prog_14_method_1_code 0 = .ok (.aload_n 0, 1) := by decide +kernel
theorem d1_1 : decode prog_14_method_1_code 1 = .ok (.invokespecial 1, 3) := by decide +kernel
theorem d1_4 : decode prog_14_method_1_code 4 = .ok (.aload_n 0, 1) := by decide +kernel
theorem d1_5 : decode prog_14_method_1_code 5 = .ok (.lload_n 1, 1) := by decide +kernel
theorem d1_6 : decode prog_14_method_1_code 6 = .ok (.putfield 7, 3) := by decide +kernel
theorem d1_9 : decode prog_14_method_1_code 9 = .ok (.aload_n 0, 1) := by decide +kernel
theorem d1_10 : decode prog_14_method_1_code 10 = .ok (.lload_n 3, 1) := by decide +kernel
theorem d1_11 : decode prog_14_method_1_code 11 = .ok (.putfield 13, 3) := by decide +kernel
theorem d1_14 : decode prog_14_method_1_code 14 = .ok (.aload_n 0, 1) := by decide +kernel
theorem d1_15 : decode prog_14_method_1_code 15 = .ok (.lload 5, 2) := by decide +kernel
theorem d1_17 : decode prog_14_method_1_code 17 = .ok (.putfield 16, 3) := by decide +kernel
theorem d1_20 : decode prog_14_method_1_code 20 = .ok (.aload_n 0, 1) := by decide +kernel
theorem d1_21 : decode prog_14_method_1_code 21 = .ok (.lload 7, 2) := by decide +kernel
theorem d1_23 : decode prog_14_method_1_code 23 = .ok (.putfield 19, 3) := by decide +kernel
theorem d1_26 : decode prog_14_method_1_code 26 = .ok (.aload_n 0, 1) := by decide +kernel
theorem d1_27 : decode prog_14_method_1_code 27 = .ok (.lload 9, 2) := by decide +kernel
theorem d1_29 : decode prog_14_method_1_code 29 = .ok (.putfield 22, 3) := by decide +kernel
theorem d1_32 : decode prog_14_method_1_code 32 = .ok (.aload_n 0, 1) := by decide +kernel
theorem d1_33 : decode prog_14_method_1_code 33 = .ok (.lload 11, 2) := by decide +kernel
theorem d1_35 : decode prog_14_method_1_code 35 = .ok (.putfield 25, 3) := by decide +kernel
theorem d1_38 : decode prog_14_method_1_code 38 = .ok (.aload_n 0, 1) := by decide +kernel
theorem d1_39 : decode prog_14_method_1_code 39 = .ok (.lload 13, 2) := by decide +kernel
theorem d1_41 : decode prog_14_method_1_code 41 = .ok (.putfield 28, 3) := by decide +kernel
theorem d1_44 : decode prog_14_method_1_code 44 = .ok (.aload_n 0, 1) := by decide +kernel
theorem d1_45 : decode prog_14_method_1_code 45 = .ok (.lload 15, 2) := by decide +kernel
theorem d1_47 : decode prog_14_method_1_code 47 = .ok (.putfield 31, 3) := by decide +kernel
theorem d1_50 : decode prog_14_method_1_code 50 = .ok (.aload_n 0, 1) := by decide +kernel
theorem d1_51 : decode prog_14_method_1_code 51 = .ok (.lload 17, 2) := by decide +kernel
theorem d1_53 : decode prog_14_method_1_code 53 = .ok (.putfield 34, 3) := by decide +kernel
theorem d1_56 : decode prog_14_method_1_code 56 = .ok (.return_, 1) := by decide +kernel
theorem pn_1 : plainName "com/example/slotwright/slotwright/Score" = true := by first | (simp [plainName, overriddenIn]; done) | decide +kernel
theorem pd_1_0 : parseMethodDescriptor "()V" = some ⟨[], none⟩ := by decide +kernel
theorem ef_1 (m : MethodId) (o0 : Addr) (q1 : Int64) (q2 : Int64) (q3 : Int64) (q4 : Int64) (q5 : Int64) (q6 : Int64) (q7 : Int64) (q8 : Int64) (q9 : Int64) : entryFrame m #[(.ref o0), (.long q1), (.long q2), (.long q3), (.long q4), (.long q5), (.long q6), (.long q7), (.long q8), (.long q9)] 19 = mkF m 0 #[.val (.ref o0), .val (.long q1), .second, .val (.long q2), .second, .val (.long q3), .second, .val (.long q4), .second, .val (.long q5), .second, .val (.long q6), .second, .val (.long q7), .second, .val (.long q8), .second, .val (.long q9), .second] [] := by first | (simp [entryFrame, mkF, argsToLocals, Value.category]; done) | rfl
def Q1 (Z : State) (o0 : Addr) (q1 : Int64) (q2 : Int64) (q3 : Int64) (q4 : Int64) (q5 : Int64) (q6 : Int64) (q7 : Int64) (q8 : Int64) (q9 : Int64) (h0 : Heap) (n0 : Nat) (v : Option Value) (h : Heap) (L : List Loc) : Prop := v = none ∧ Fr n0 L ∧ Keep h0 h [o0] ∧ Fld Z h o0 "com/example/slotwright/slotwright/Score" "lectures" "J" (.long q1) ∧ Fld Z h o0 "com/example/slotwright/slotwright/Score" "conflicts" "J" (.long q2) ∧ Fld Z h o0 "com/example/slotwright/slotwright/Score" "availability" "J" (.long q3) ∧ Fld Z h o0 "com/example/slotwright/slotwright/Score" "roomOccupancy" "J" (.long q4) ∧ Fld Z h o0 "com/example/slotwright/slotwright/Score" "roomCapacity" "J" (.long q5) ∧ Fld Z h o0 "com/example/slotwright/slotwright/Score" "minWorkingDays" "J" (.long q6) ∧ Fld Z h o0 "com/example/slotwright/slotwright/Score" "curriculumCompactness" "J" (.long q7) ∧ Fld Z h o0 "com/example/slotwright/slotwright/Score" "roomStability" "J" (.long q8) ∧ Fld Z h o0 "com/example/slotwright/slotwright/Score" "skippedLines" "J" (.long q9)
set_option maxRecDepth 65536 in
set_option maxHeartbeats 40000000 in
theorem rm1 (l : Launch) (Z : State) (a0 : Array Value) (hw : ∀ d ∈ tables_1, d.before a0 Z = true) (ws : List Jvm.Cond) (o0 : Addr) (q1 : Int64) (q2 : Int64) (q3 : Int64) (q4 : Int64) (q5 : Int64) (q6 : Int64) (q7 : Int64) (q8 : Int64) (q9 : Int64) (h0 : Heap) (n0 : Nat) (Z0 : n0 ≤ h0.size) (E_o0 : Exa Z h0 o0 "com/example/slotwright/slotwright/Score") (F_lectures : Fld Z h0 o0 "com/example/slotwright/slotwright/Score" "lectures" "J" (.long (0 : Int64))) (F_conflicts : Fld Z h0 o0 "com/example/slotwright/slotwright/Score" "conflicts" "J" (.long (0 : Int64))) (F_availability : Fld Z h0 o0 "com/example/slotwright/slotwright/Score" "availability" "J" (.long (0 : Int64))) (F_roomOccupancy : Fld Z h0 o0 "com/example/slotwright/slotwright/Score" "roomOccupancy" "J" (.long (0 : Int64))) (F_roomCapacity : Fld Z h0 o0 "com/example/slotwright/slotwright/Score" "roomCapacity" "J" (.long (0 : Int64))) (F_minWorkingDays : Fld Z h0 o0 "com/example/slotwright/slotwright/Score" "minWorkingDays" "J" (.long (0 : Int64))) (F_curriculumCompactness : Fld Z h0 o0 "com/example/slotwright/slotwright/Score" "curriculumCompactness" "J" (.long (0 : Int64))) (F_roomStability : Fld Z h0 o0 "com/example/slotwright/slotwright/Score" "roomStability" "J" (.long (0 : Int64))) (F_skippedLines : Fld Z h0 o0 "com/example/slotwright/slotwright/Score" "skippedLines" "J" (.long (0 : Int64))) (g_o0 : n0 ≤ o0) :
    MetFree l (⟨"com/example/slotwright/slotwright/Score", "<init>", "(JJJJJJJJJ)V"⟩ : MethodName) (head1 (Jvm.Cond.code (⟨"com/example/slotwright/slotwright/Score", "<init>", "(JJJJJJJJJ)V"⟩ : MethodName) prog_14_method_1_code 19 none :: ws) ({ frames := 2, cells := 0, slots := 0, locals := 24 } : Room)) (fun a U => a = #[(.ref o0), (.long q1), (.long q2), (.long q3), (.long q4), (.long q5), (.long q6), (.long q7), (.long q8), (.long q9)] ∧ Z.Warmed39 U.vm ∧ U.heap = h0) (fun _ _ _ _ _ => True) (fun _ U o U' => ∃ v L, o = .returned v ∧ Q1 Z o0 q1 q2 q3 q4 q5 q6 q7 q8 q9 h0 n0 v U'.heap L ∧ FrameEnd U o U' L ({ frames := 2, cells := 0, slots := 0, locals := 24 } : Room).cells ({ frames := 2, cells := 0, slots := 0, locals := 24 } : Room).slots) := by
  refine MetFree.of_bodySF (plainFor_of_name pn_1) hisR ?_
  intro p e s m args below meth c s₁ Bd hml0 hP hK
  obtain ⟨rfl, hZ, hh⟩ := hP
  have hx := Bd.exec
  have hby := Bd.bytes
  have hml : c.maxLocals = 19 := hml0
  have hown : s.vm.findClass "com/example/slotwright/slotwright/Score" = some m.cls := findClass_of_methodNamed Bd.named
  have hnm := (name_of_methodNamed Bd.named Bd.method).1
  have X0 : Stand p l e ({ frames := 2, cells := 0, slots := 0, locals := 24 } : Room) s m #[(.ref o0), (.long q1), (.long q2), (.long q3), (.long q4), (.long q5), (.long q6), (.long q7), (.long q8), (.long q9)] below meth c s₁ [] 0 0 := Stand.of_body Bd
  have e0 : s₁.heap = h0 := by rw [← hh, Bd.state]; rfl
  have N0 := Fr.nil n0
  show OGo p e below s (Q1 Z o0 q1 q2 q3 q4 q5 q6 q7 q8 q9 h0 n0) ({ frames := 2, cells := 0, slots := 0, locals := 24 } : Room).cells ({ frames := 2, cells := 0, slots := 0, locals := 24 } : Room).slots _
  refine OGo.st (fun _ k => castTop (ef_1 m o0 q1 q2 q3 q4 q5 q6 q7 q8 q9) k) ?_
  show OGo p e below s _ _ _ (s₁.setTop (mkF m 0 #[.val (.ref o0), .val (.long q1), .second, .val (.long q2), .second, .val (.long q3), .second, .val (.long q4), .second, .val (.long q5), .second, .val (.long q6), .second, .val (.long q7), .second, .val (.long q8), .second, .val (.long q9), .second] []))
  refine OGo.st (fun _ k => XS.aloadN X0.here hx rfl (hb hby d1_0) rfl rfl k) ?_
  show OGo p e below s _ _ _ (s₁.setTop (mkF m 1 #[.val (.ref o0), .val (.long q1), .second, .val (.long q2), .second, .val (.long q3), .second, .val (.long q4), .second, .val (.long q5), .second, .val (.long q6), .second, .val (.long q7), .second, .val (.long q8), .second, .val (.long q9), .second] [(.ref o0)]))
  obtain ⟨_, _, ⟨T1, L1, k1, n1⟩, -, X1, ⟨Lc1, hQ1, l1, y1, z1⟩, st1⟩ := X0.specialBack hx (y := (⟨"java/lang/Record", "<init>", "()V"⟩ : MethodName)) rfl hown (mvT hZ (hw _ (List.mem_of_getElem? (i := 6) rfl))) (mvT hZ (hw _ (List.mem_of_getElem? (i := 7) rfl))) (mvT hZ (hw _ (List.mem_of_getElem? (i := 10) rfl))) (by decide) (backOf (W := 0) (rm2 l Z a0 hw [] o0 h0 n0 Z0) hZ (hw _ (List.mem_of_getElem? (i := 10) rfl)) (hw _ (List.mem_of_getElem? (i := 9) rfl)) (by decide) (by decide)) (g := (mkF m 1 #[.val (.ref o0), .val (.long q1), .second, .val (.long q2), .second, .val (.long q3), .second, .val (.long q4), .second, .val (.long q5), .second, .val (.long q6), .second, .val (.long q7), .second, .val (.long q8), .second, .val (.long q9), .second] [(.ref o0)])) rfl (by rw [hml]; rfl) (Steps.refl _) (a := o0) (argsL := []) (rest := []) (lenOf pd_1_0 rfl) rfl (by show 2 * 0 + _ ≤ _; exact Nat.le_of_eq rfl) (hb hby d1_1) (fun _ _ => ⟨rfl, e0, (by decide : 0 + 0 ≤ _), (by decide : 0 + 0 ≤ _)⟩)
  dsimp only [Pt.U, Pt.locs, Pt.cells, Pt.slots] at X1 l1 y1 z1 st1 hQ1
  subst l1 y1 z1
  obtain ⟨rfl, N1q, e1⟩ := hQ1
  have N1 := Fr.app N0 N1q
  refine OGo.st (fun _ k => st1.trans k) ?_
  show OGo p e below s _ _ _ (T1.setTop (mkF m 4 #[.val (.ref o0), .val (.long q1), .second, .val (.long q2), .second, .val (.long q3), .second, .val (.long q4), .second, .val (.long q5), .second, .val (.long q6), .second, .val (.long q7), .second, .val (.long q8), .second, .val (.long q9), .second] []))
  refine OGo.st (fun _ k => XS.aloadN X1.here hx rfl (hb hby d1_4) rfl rfl k) ?_
  show OGo p e below s _ _ _ (T1.setTop (mkF m 5 #[.val (.ref o0), .val (.long q1), .second, .val (.long q2), .second, .val (.long q3), .second, .val (.long q4), .second, .val (.long q5), .second, .val (.long q6), .second, .val (.long q7), .second, .val (.long q8), .second, .val (.long q9), .second] [(.ref o0)]))
  refine OGo.st (fun _ k => XS.lloadN X1.here hx rfl (hb hby d1_5) rfl k) ?_
  show OGo p e below s _ _ _ (T1.setTop (mkF m 6 #[.val (.ref o0), .val (.long q1), .second, .val (.long q2), .second, .val (.long q3), .second, .val (.long q4), .second, .val (.long q5), .second, .val (.long q6), .second, .val (.long q7), .second, .val (.long q8), .second, .val (.long q9), .second] [(.long q1), (.ref o0)]))
  obtain ⟨T2, h2, X2, e2, W2, st2⟩ := putF X1 hx hZ hown (host := "") (Or.inl (hw _ (List.mem_of_getElem? (i := 14) rfl))) Via.refl e1 F_lectures E_o0 (Or.inr ⟨(hw _ (List.mem_of_getElem? (i := 15) rfl)), rfl, hnm⟩) (hw _ (List.mem_of_getElem? (i := 1) rfl)) (ty := .long) (by decide) rfl rfl (g := (mkF m 6 #[.val (.ref o0), .val (.long q1), .second, .val (.long q2), .second, .val (.long q3), .second, .val (.long q4), .second, .val (.long q5), .second, .val (.long q6), .second, .val (.long q7), .second, .val (.long q8), .second, .val (.long q9), .second] [(.long q1), (.ref o0)])) rfl rfl (hb hby d1_6)
  refine OGo.st st2 ?_
  have E_o0_w2 := E_o0.wr W2
  have F_conflicts_w2 := F_conflicts.other W2 (Or.inr (slot_ne (a0 := a0) (Or.inr (hw _ (List.mem_of_getElem? (i := 17) rfl))) (Or.inr (hw _ (List.mem_of_getElem? (i := 15) rfl))) (by decide) (t := .long) (t' := .long) (by decide) (by decide)))
  have F_availability_w2 := F_availability.other W2 (Or.inr (slot_ne (a0 := a0) (Or.inr (hw _ (List.mem_of_getElem? (i := 19) rfl))) (Or.inr (hw _ (List.mem_of_getElem? (i := 15) rfl))) (by decide) (t := .long) (t' := .long) (by decide) (by decide)))
  have F_roomOccupancy_w2 := F_roomOccupancy.other W2 (Or.inr (slot_ne (a0 := a0) (Or.inr (hw _ (List.mem_of_getElem? (i := 21) rfl))) (Or.inr (hw _ (List.mem_of_getElem? (i := 15) rfl))) (by decide) (t := .long) (t' := .long) (by decide) (by decide)))
  have F_roomCapacity_w2 := F_roomCapacity.other W2 (Or.inr (slot_ne (a0 := a0) (Or.inr (hw _ (List.mem_of_getElem? (i := 23) rfl))) (Or.inr (hw _ (List.mem_of_getElem? (i := 15) rfl))) (by decide) (t := .long) (t' := .long) (by decide) (by decide)))
  have F_minWorkingDays_w2 := F_minWorkingDays.other W2 (Or.inr (slot_ne (a0 := a0) (Or.inr (hw _ (List.mem_of_getElem? (i := 25) rfl))) (Or.inr (hw _ (List.mem_of_getElem? (i := 15) rfl))) (by decide) (t := .long) (t' := .long) (by decide) (by decide)))
  have F_curriculumCompactness_w2 := F_curriculumCompactness.other W2 (Or.inr (slot_ne (a0 := a0) (Or.inr (hw _ (List.mem_of_getElem? (i := 27) rfl))) (Or.inr (hw _ (List.mem_of_getElem? (i := 15) rfl))) (by decide) (t := .long) (t' := .long) (by decide) (by decide)))
  have F_roomStability_w2 := F_roomStability.other W2 (Or.inr (slot_ne (a0 := a0) (Or.inr (hw _ (List.mem_of_getElem? (i := 29) rfl))) (Or.inr (hw _ (List.mem_of_getElem? (i := 15) rfl))) (by decide) (t := .long) (t' := .long) (by decide) (by decide)))
  have F_skippedLines_w2 := F_skippedLines.other W2 (Or.inr (slot_ne (a0 := a0) (Or.inr (hw _ (List.mem_of_getElem? (i := 31) rfl))) (Or.inr (hw _ (List.mem_of_getElem? (i := 15) rfl))) (by decide) (t := .long) (t' := .long) (by decide) (by decide)))
  have K2 : Keep h0 h2 [o0] := (Keep.refl h0 _).wr W2 (Or.inl (List.mem_of_getElem? (i := 0) rfl))
  have N2 := Fr.snoc X2 N1 g_o0
  have Z2 : n0 ≤ h2.size := Nat.le_trans Z0 (Keep.of_wr W2).1
  have F2 : Fld Z h2 o0 "com/example/slotwright/slotwright/Score" "lectures" "J" (.long q1) := F_lectures.same W2
  show OGo p e below s _ _ _ (T2.setTop (mkF m 9 #[.val (.ref o0), .val (.long q1), .second, .val (.long q2), .second, .val (.long q3), .second, .val (.long q4), .second, .val (.long q5), .second, .val (.long q6), .second, .val (.long q7), .second, .val (.long q8), .second, .val (.long q9), .second] []))
  refine OGo.st (fun _ k => XS.aloadN X2.here hx rfl (hb hby d1_9) rfl rfl k) ?_
  show OGo p e below s _ _ _ (T2.setTop (mkF m 10 #[.val (.ref o0), .val (.long q1), .second, .val (.long q2), .second, .val (.long q3), .second, .val (.long q4), .second, .val (.long q5), .second, .val (.long q6), .second, .val (.long q7), .second, .val (.long q8), .second, .val (.long q9), .second] [(.ref o0)]))
  refine OGo.st (fun _ k => XS.lloadN X2.here hx rfl (hb hby d1_10) rfl k) ?_
  show OGo p e below s _ _ _ (T2.setTop (mkF m 11 #[.val (.ref o0), .val (.long q1), .second, .val (.long q2), .second, .val (.long q3), .second, .val (.long q4), .second, .val (.long q5), .second, .val (.long q6), .second, .val (.long q7), .second, .val (.long q8), .second, .val (.long q9), .second] [(.long q2), (.ref o0)]))
  obtain ⟨T3, h3, X3, e3, W3, st3⟩ := putF X2 hx hZ hown (host := "") (Or.inl (hw _ (List.mem_of_getElem? (i := 16) rfl))) Via.refl e2 F_conflicts_w2 E_o0_w2 (Or.inr ⟨(hw _ (List.mem_of_getElem? (i := 17) rfl)), rfl, hnm⟩) (hw _ (List.mem_of_getElem? (i := 1) rfl)) (ty := .long) (by decide) rfl rfl (g := (mkF m 11 #[.val (.ref o0), .val (.long q1), .second, .val (.long q2), .second, .val (.long q3), .second, .val (.long q4), .second, .val (.long q5), .second, .val (.long q6), .second, .val (.long q7), .second, .val (.long q8), .second, .val (.long q9), .second] [(.long q2), (.ref o0)])) rfl rfl (hb hby d1_11)
  refine OGo.st st3 ?_
  have E_o0_w3 := E_o0_w2.wr W3
  have F2_w3 := F2.other W3 (Or.inr (slot_ne (a0 := a0) (Or.inr (hw _ (List.mem_of_getElem? (i := 15) rfl))) (Or.inr (hw _ (List.mem_of_getElem? (i := 17) rfl))) (by decide) (t := .long) (t' := .long) (by decide) (by decide)))
  have F_availability_w3 := F_availability_w2.other W3 (Or.inr (slot_ne (a0 := a0) (Or.inr (hw _ (List.mem_of_getElem? (i := 19) rfl))) (Or.inr (hw _ (List.mem_of_getElem? (i := 17) rfl))) (by decide) (t := .long) (t' := .long) (by decide) (by decide)))
  have F_roomOccupancy_w3 := F_roomOccupancy_w2.other W3 (Or.inr (slot_ne (a0 := a0) (Or.inr (hw _ (List.mem_of_getElem? (i := 21) rfl))) (Or.inr (hw _ (List.mem_of_getElem? (i := 17) rfl))) (by decide) (t := .long) (t' := .long) (by decide) (by decide)))
  have F_roomCapacity_w3 := F_roomCapacity_w2.other W3 (Or.inr (slot_ne (a0 := a0) (Or.inr (hw _ (List.mem_of_getElem? (i := 23) rfl))) (Or.inr (hw _ (List.mem_of_getElem? (i := 17) rfl))) (by decide) (t := .long) (t' := .long) (by decide) (by decide)))
  have F_minWorkingDays_w3 := F_minWorkingDays_w2.other W3 (Or.inr (slot_ne (a0 := a0) (Or.inr (hw _ (List.mem_of_getElem? (i := 25) rfl))) (Or.inr (hw _ (List.mem_of_getElem? (i := 17) rfl))) (by decide) (t := .long) (t' := .long) (by decide) (by decide)))
  have F_curriculumCompactness_w3 := F_curriculumCompactness_w2.other W3 (Or.inr (slot_ne (a0 := a0) (Or.inr (hw _ (List.mem_of_getElem? (i := 27) rfl))) (Or.inr (hw _ (List.mem_of_getElem? (i := 17) rfl))) (by decide) (t := .long) (t' := .long) (by decide) (by decide)))
  have F_roomStability_w3 := F_roomStability_w2.other W3 (Or.inr (slot_ne (a0 := a0) (Or.inr (hw _ (List.mem_of_getElem? (i := 29) rfl))) (Or.inr (hw _ (List.mem_of_getElem? (i := 17) rfl))) (by decide) (t := .long) (t' := .long) (by decide) (by decide)))
  have F_skippedLines_w3 := F_skippedLines_w2.other W3 (Or.inr (slot_ne (a0 := a0) (Or.inr (hw _ (List.mem_of_getElem? (i := 31) rfl))) (Or.inr (hw _ (List.mem_of_getElem? (i := 17) rfl))) (by decide) (t := .long) (t' := .long) (by decide) (by decide)))
  have K3 : Keep h0 h3 [o0] := (K2).wr W3 (Or.inl (List.mem_of_getElem? (i := 0) rfl))
  have N3 := Fr.snoc X3 N2 g_o0
  have Z3 : n0 ≤ h3.size := Nat.le_trans Z2 (Keep.of_wr W3).1
  have F3 : Fld Z h3 o0 "com/example/slotwright/slotwright/Score" "conflicts" "J" (.long q2) := F_conflicts_w2.same W3
  show OGo p e below s _ _ _ (T3.setTop (mkF m 14 #[.val (.ref o0), .val (.long q1), .second, .val (.long q2), .second, .val (.long q3), .second, .val (.long q4), .second, .val (.long q5), .second, .val (.long q6), .second, .val (.long q7), .second, .val (.long q8), .second, .val (.long q9), .second] []))
  refine OGo.st (fun _ k => XS.aloadN X3.here hx rfl (hb hby d1_14) rfl rfl k) ?_
  show OGo p e below s _ _ _ (T3.setTop (mkF m 15 #[.val (.ref o0), .val (.long q1), .second, .val (.long q2), .second, .val (.long q3), .second, .val (.long q4), .second, .val (.long q5), .second, .val (.long q6), .second, .val (.long q7), .second, .val (.long q8), .second, .val (.long q9), .second] [(.ref o0)]))
  refine OGo.st (fun _ k => XS.lload X3.here hx rfl (hb hby d1_15) rfl k) ?_
  show OGo p e below s _ _ _ (T3.setTop (mkF m 17 #[.val (.ref o0), .val (.long q1), .second, .val (.long q2), .second, .val (.long q3), .second, .val (.long q4), .second, .val (.long q5), .second, .val (.long q6), .second, .val (.long q7), .second, .val (.long q8), .second, .val (.long q9), .second] [(.long q3), (.ref o0)]))
  obtain ⟨T4, h4, X4, e4, W4, st4⟩ := putF X3 hx hZ hown (host := "") (Or.inl (hw _ (List.mem_of_getElem? (i := 18) rfl))) Via.refl e3 F_availability_w3 E_o0_w3 (Or.inr ⟨(hw _ (List.mem_of_getElem? (i := 19) rfl)), rfl, hnm⟩) (hw _ (List.mem_of_getElem? (i := 1) rfl)) (ty := .long) (by decide) rfl rfl (g := (mkF m 17 #[.val (.ref o0), .val (.long q1), .second, .val (.long q2), .second, .val (.long q3), .second, .val (.long q4), .second, .val (.long q5), .second, .val (.long q6), .second, .val (.long q7), .second, .val (.long q8), .second, .val (.long q9), .second] [(.long q3), (.ref o0)])) rfl rfl (hb hby d1_17)
  refine OGo.st st4 ?_
  have E_o0_w4 := E_o0_w3.wr W4
  have F2_w4 := F2_w3.other W4 (Or.inr (slot_ne (a0 := a0) (Or.inr (hw _ (List.mem_of_getElem? (i := 15) rfl))) (Or.inr (hw _ (List.mem_of_getElem? (i := 19) rfl))) (by decide) (t := .long) (t' := .long) (by decide) (by decide)))
  have F3_w4 := F3.other W4 (Or.inr (slot_ne (a0 := a0) (Or.inr (hw _ (List.mem_of_getElem? (i := 17) rfl))) (Or.inr (hw _ (List.mem_of_getElem? (i := 19) rfl))) (by decide) (t := .long) (t' := .long) (by decide) (by decide)))
  have F_roomOccupancy_w4 := F_roomOccupancy_w3.other W4 (Or.inr (slot_ne (a0 := a0) (Or.inr (hw _ (List.mem_of_getElem? (i := 21) rfl))) (Or.inr (hw _ (List.mem_of_getElem? (i := 19) rfl))) (by decide) (t := .long) (t' := .long) (by decide) (by decide)))
  have F_roomCapacity_w4 := F_roomCapacity_w3.other W4 (Or.inr (slot_ne (a0 := a0) (Or.inr (hw _ (List.mem_of_getElem? (i := 23) rfl))) (Or.inr (hw _ (List.mem_of_getElem? (i := 19) rfl))) (by decide) (t := .long) (t' := .long) (by decide) (by decide)))
  have F_minWorkingDays_w4 := F_minWorkingDays_w3.other W4 (Or.inr (slot_ne (a0 := a0) (Or.inr (hw _ (List.mem_of_getElem? (i := 25) rfl))) (Or.inr (hw _ (List.mem_of_getElem? (i := 19) rfl))) (by decide) (t := .long) (t' := .long) (by decide) (by decide)))
  have F_curriculumCompactness_w4 := F_curriculumCompactness_w3.other W4 (Or.inr (slot_ne (a0 := a0) (Or.inr (hw _ (List.mem_of_getElem? (i := 27) rfl))) (Or.inr (hw _ (List.mem_of_getElem? (i := 19) rfl))) (by decide) (t := .long) (t' := .long) (by decide) (by decide)))
  have F_roomStability_w4 := F_roomStability_w3.other W4 (Or.inr (slot_ne (a0 := a0) (Or.inr (hw _ (List.mem_of_getElem? (i := 29) rfl))) (Or.inr (hw _ (List.mem_of_getElem? (i := 19) rfl))) (by decide) (t := .long) (t' := .long) (by decide) (by decide)))
  have F_skippedLines_w4 := F_skippedLines_w3.other W4 (Or.inr (slot_ne (a0 := a0) (Or.inr (hw _ (List.mem_of_getElem? (i := 31) rfl))) (Or.inr (hw _ (List.mem_of_getElem? (i := 19) rfl))) (by decide) (t := .long) (t' := .long) (by decide) (by decide)))
  have K4 : Keep h0 h4 [o0] := (K3).wr W4 (Or.inl (List.mem_of_getElem? (i := 0) rfl))
  have N4 := Fr.snoc X4 N3 g_o0
  have Z4 : n0 ≤ h4.size := Nat.le_trans Z3 (Keep.of_wr W4).1
  have F4 : Fld Z h4 o0 "com/example/slotwright/slotwright/Score" "availability" "J" (.long q3) := F_availability_w3.same W4
  show OGo p e below s _ _ _ (T4.setTop (mkF m 20 #[.val (.ref o0), .val (.long q1), .second, .val (.long q2), .second, .val (.long q3), .second, .val (.long q4), .second, .val (.long q5), .second, .val (.long q6), .second, .val (.long q7), .second, .val (.long q8), .second, .val (.long q9), .second] []))
  refine OGo.st (fun _ k => XS.aloadN X4.here hx rfl (hb hby d1_20) rfl rfl k) ?_
  show OGo p e below s _ _ _ (T4.setTop (mkF m 21 #[.val (.ref o0), .val (.long q1), .second, .val (.long q2), .second, .val (.long q3), .second, .val (.long q4), .second, .val (.long q5), .second, .val (.long q6), .second, .val (.long q7), .second, .val (.long q8), .second, .val (.long q9), .second] [(.ref o0)]))
  refine OGo.st (fun _ k => XS.lload X4.here hx rfl (hb hby d1_21) rfl k) ?_
  show OGo p e below s _ _ _ (T4.setTop (mkF m 23 #[.val (.ref o0), .val (.long q1), .second, .val (.long q2), .second, .val (.long q3), .second, .val (.long q4), .second, .val (.long q5), .second, .val (.long q6), .second, .val (.long q7), .second, .val (.long q8), .second, .val (.long q9), .second] [(.long q4), (.ref o0)]))
  obtain ⟨T5, h5, X5, e5, W5, st5⟩ := putF X4 hx hZ hown (host := "") (Or.inl (hw _ (List.mem_of_getElem? (i := 20) rfl))) Via.refl e4 F_roomOccupancy_w4 E_o0_w4 (Or.inr ⟨(hw _ (List.mem_of_getElem? (i := 21) rfl)), rfl, hnm⟩) (hw _ (List.mem_of_getElem? (i := 1) rfl)) (ty := .long) (by decide) rfl rfl (g := (mkF m 23 #[.val (.ref o0), .val (.long q1), .second, .val (.long q2), .second, .val (.long q3), .second, .val (.long q4), .second, .val (.long q5), .second, .val (.long q6), .second, .val (.long q7), .second, .val (.long q8), .second, .val (.long q9), .second] [(.long q4), (.ref o0)])) rfl rfl (hb hby d1_23)
  refine OGo.st st5 ?_
  have E_o0_w5 := E_o0_w4.wr W5
  have F2_w5 := F2_w4.other W5 (Or.inr (slot_ne (a0 := a0) (Or.inr (hw _ (List.mem_of_getElem? (i := 15) rfl))) (Or.inr (hw _ (List.mem_of_getElem? (i := 21) rfl))) (by decide) (t := .long) (t' := .long) (by decide) (by decide)))
  have F3_w5 := F3_w4.other W5 (Or.inr (slot_ne (a0 := a0) (Or.inr (hw _ (List.mem_of_getElem? (i := 17) rfl))) (Or.inr (hw _ (List.mem_of_getElem? (i := 21) rfl))) (by decide) (t := .long) (t' := .long) (by decide) (by decide)))
  have F4_w5 := F4.other W5 (Or.inr (slot_ne (a0 := a0) (Or.inr (hw _ (List.mem_of_getElem? (i := 19) rfl))) (Or.inr (hw _ (List.mem_of_getElem? (i := 21) rfl))) (by decide) (t := .long) (t' := .long) (by decide) (by decide)))
  have F_roomCapacity_w5 := F_roomCapacity_w4.other W5 (Or.inr (slot_ne (a0 := a0) (Or.inr (hw _ (List.mem_of_getElem? (i := 23) rfl))) (Or.inr (hw _ (List.mem_of_getElem? (i := 21) rfl))) (by decide) (t := .long) (t' := .long) (by decide) (by decide)))
  have F_minWorkingDays_w5 := F_minWorkingDays_w4.other W5 (Or.inr (slot_ne (a0 := a0) (Or.inr (hw _ (List.mem_of_getElem? (i := 25) rfl))) (Or.inr (hw _ (List.mem_of_getElem? (i := 21) rfl))) (by decide) (t := .long) (t' := .long) (by decide) (by decide)))
  have F_curriculumCompactness_w5 := F_curriculumCompactness_w4.other W5 (Or.inr (slot_ne (a0 := a0) (Or.inr (hw _ (List.mem_of_getElem? (i := 27) rfl))) (Or.inr (hw _ (List.mem_of_getElem? (i := 21) rfl))) (by decide) (t := .long) (t' := .long) (by decide) (by decide)))
  have F_roomStability_w5 := F_roomStability_w4.other W5 (Or.inr (slot_ne (a0 := a0) (Or.inr (hw _ (List.mem_of_getElem? (i := 29) rfl))) (Or.inr (hw _ (List.mem_of_getElem? (i := 21) rfl))) (by decide) (t := .long) (t' := .long) (by decide) (by decide)))
  have F_skippedLines_w5 := F_skippedLines_w4.other W5 (Or.inr (slot_ne (a0 := a0) (Or.inr (hw _ (List.mem_of_getElem? (i := 31) rfl))) (Or.inr (hw _ (List.mem_of_getElem? (i := 21) rfl))) (by decide) (t := .long) (t' := .long) (by decide) (by decide)))
  have K5 : Keep h0 h5 [o0] := (K4).wr W5 (Or.inl (List.mem_of_getElem? (i := 0) rfl))
  have N5 := Fr.snoc X5 N4 g_o0
  have Z5 : n0 ≤ h5.size := Nat.le_trans Z4 (Keep.of_wr W5).1
  have F5 : Fld Z h5 o0 "com/example/slotwright/slotwright/Score" "roomOccupancy" "J" (.long q4) := F_roomOccupancy_w4.same W5
  show OGo p e below s _ _ _ (T5.setTop (mkF m 26 #[.val (.ref o0), .val (.long q1), .second, .val (.long q2), .second, .val (.long q3), .second, .val (.long q4), .second, .val (.long q5), .second, .val (.long q6), .second, .val (.long q7), .second, .val (.long q8), .second, .val (.long q9), .second] []))
  refine OGo.st (fun _ k => XS.aloadN X5.here hx rfl (hb hby d1_26) rfl rfl k) ?_
  show OGo p e below s _ _ _ (T5.setTop (mkF m 27 #[.val (.ref o0), .val (.long q1), .second, .val (.long q2), .second, .val (.long q3), .second, .val (.long q4), .second, .val (.long q5), .second, .val (.long q6), .second, .val (.long q7), .second, .val (.long q8), .second, .val (.long q9), .second] [(.ref o0)]))
  refine OGo.st (fun _ k => XS.lload X5.here hx rfl (hb hby d1_27) rfl k) ?_
  show OGo p e below s _ _ _ (T5.setTop (mkF m 29 #[.val (.ref o0), .val (.long q1), .second, .val (.long q2), .second, .val (.long q3), .second, .val (.long q4), .second, .val (.long q5), .second, .val (.long q6), .second, .val (.long q7), .second, .val (.long q8), .second, .val (.long q9), .second] [(.long q5), (.ref o0)]))
  obtain ⟨T6, h6, X6, e6, W6, st6⟩ := putF X5 hx hZ hown (host := "") (Or.inl (hw _ (List.mem_of_getElem? (i := 22) rfl))) Via.refl e5 F_roomCapacity_w5 E_o0_w5 (Or.inr ⟨(hw _ (List.mem_of_getElem? (i := 23) rfl)), rfl, hnm⟩) (hw _ (List.mem_of_getElem? (i := 1) rfl)) (ty := .long) (by decide) rfl rfl (g := (mkF m 29 #[.val (.ref o0), .val (.long q1), .second, .val (.long q2), .second, .val (.long q3), .second, .val (.long q4), .second, .val (.long q5), .second, .val (.long q6), .second, .val (.long q7), .second, .val (.long q8), .second, .val (.long q9), .second] [(.long q5), (.ref o0)])) rfl rfl (hb hby d1_29)
  refine OGo.st st6 ?_
  have E_o0_w6 := E_o0_w5.wr W6
  have F2_w6 := F2_w5.other W6 (Or.inr (slot_ne (a0 := a0) (Or.inr (hw _ (List.mem_of_getElem? (i := 15) rfl))) (Or.inr (hw _ (List.mem_of_getElem? (i := 23) rfl))) (by decide) (t := .long) (t' := .long) (by decide) (by decide)))
  have F3_w6 := F3_w5.other W6 (Or.inr (slot_ne (a0 := a0) (Or.inr (hw _ (List.mem_of_getElem? (i := 17) rfl))) (Or.inr (hw _ (List.mem_of_getElem? (i := 23) rfl))) (by decide) (t := .long) (t' := .long) (by decide) (by decide)))
  have F4_w6 := F4_w5.other W6 (Or.inr (slot_ne (a0 := a0) (Or.inr (hw _ (List.mem_of_getElem? (i := 19) rfl))) (Or.inr (hw _ (List.mem_of_getElem? (i := 23) rfl))) (by decide) (t := .long) (t' := .long) (by decide) (by decide)))
  have F5_w6 := F5.other W6 (Or.inr (slot_ne (a0 := a0) (Or.inr (hw _ (List.mem_of_getElem? (i := 21) rfl))) (Or.inr (hw _ (List.mem_of_getElem? (i := 23) rfl))) (by decide) (t := .long) (t' := .long) (by decide) (by decide)))
  have F_minWorkingDays_w6 := F_minWorkingDays_w5.other W6 (Or.inr (slot_ne (a0 := a0) (Or.inr (hw _ (List.mem_of_getElem? (i := 25) rfl))) (Or.inr (hw _ (List.mem_of_getElem? (i := 23) rfl))) (by decide) (t := .long) (t' := .long) (by decide) (by decide)))
  have F_curriculumCompactness_w6 := F_curriculumCompactness_w5.other W6 (Or.inr (slot_ne (a0 := a0) (Or.inr (hw _ (List.mem_of_getElem? (i := 27) rfl))) (Or.inr (hw _ (List.mem_of_getElem? (i := 23) rfl))) (by decide) (t := .long) (t' := .long) (by decide) (by decide)))
  have F_roomStability_w6 := F_roomStability_w5.other W6 (Or.inr (slot_ne (a0 := a0) (Or.inr (hw _ (List.mem_of_getElem? (i := 29) rfl))) (Or.inr (hw _ (List.mem_of_getElem? (i := 23) rfl))) (by decide) (t := .long) (t' := .long) (by decide) (by decide)))
  have F_skippedLines_w6 := F_skippedLines_w5.other W6 (Or.inr (slot_ne (a0 := a0) (Or.inr (hw _ (List.mem_of_getElem? (i := 31) rfl))) (Or.inr (hw _ (List.mem_of_getElem? (i := 23) rfl))) (by decide) (t := .long) (t' := .long) (by decide) (by decide)))
  have K6 : Keep h0 h6 [o0] := (K5).wr W6 (Or.inl (List.mem_of_getElem? (i := 0) rfl))
  have N6 := Fr.snoc X6 N5 g_o0
  have Z6 : n0 ≤ h6.size := Nat.le_trans Z5 (Keep.of_wr W6).1
  have F6 : Fld Z h6 o0 "com/example/slotwright/slotwright/Score" "roomCapacity" "J" (.long q5) := F_roomCapacity_w5.same W6
  show OGo p e below s _ _ _ (T6.setTop (mkF m 32 #[.val (.ref o0), .val (.long q1), .second, .val (.long q2), .second, .val (.long q3), .second, .val (.long q4), .second, .val (.long q5), .second, .val (.long q6), .second, .val (.long q7), .second, .val (.long q8), .second, .val (.long q9), .second] []))
  refine OGo.st (fun _ k => XS.aloadN X6.here hx rfl (hb hby d1_32) rfl rfl k) ?_
  show OGo p e below s _ _ _ (T6.setTop (mkF m 33 #[.val (.ref o0), .val (.long q1), .second, .val (.long q2), .second, .val (.long q3), .second, .val (.long q4), .second, .val (.long q5), .second, .val (.long q6), .second, .val (.long q7), .second, .val (.long q8), .second, .val (.long q9), .second] [(.ref o0)]))
  refine OGo.st (fun _ k => XS.lload X6.here hx rfl (hb hby d1_33) rfl k) ?_
  show OGo p e below s _ _ _ (T6.setTop (mkF m 35 #[.val (.ref o0), .val (.long q1), .second, .val (.long q2), .second, .val (.long q3), .second, .val (.long q4), .second, .val (.long q5), .second, .val (.long q6), .second, .val (.long q7), .second, .val (.long q8), .second, .val (.long q9), .second] [(.long q6), (.ref o0)]))
  obtain ⟨T7, h7, X7, e7, W7, st7⟩ := putF X6 hx hZ hown (host := "") (Or.inl (hw _ (List.mem_of_getElem? (i := 24) rfl))) Via.refl e6 F_minWorkingDays_w6 E_o0_w6 (Or.inr ⟨(hw _ (List.mem_of_getElem? (i := 25) rfl)), rfl, hnm⟩) (hw _ (List.mem_of_getElem? (i := 1) rfl)) (ty := .long) (by decide) rfl rfl (g := (mkF m 35 #[.val (.ref o0), .val (.long q1), .second, .val (.long q2), .second, .val (.long q3), .second, .val (.long q4), .second, .val (.long q5), .second, .val (.long q6), .second, .val (.long q7), .second, .val (.long q8), .second, .val (.long q9), .second] [(.long q6), (.ref o0)])) rfl rfl (hb hby d1_35)
  refine OGo.st st7 ?_
  have E_o0_w7 := E_o0_w6.wr W7
  have F2_w7 := F2_w6.other W7 (Or.inr (slot_ne (a0 := a0) (Or.inr (hw _ (List.mem_of_getElem? (i := 15) rfl))) (Or.inr (hw _ (List.mem_of_getElem? (i := 25) rfl))) (by decide) (t := .long) (t' := .long) (by decide) (by decide)))
  have F3_w7 := F3_w6.other W7 (Or.inr (slot_ne (a0 := a0) (Or.inr (hw _ (List.mem_of_getElem? (i := 17) rfl))) (Or.inr (hw _ (List.mem_of_getElem? (i := 25) rfl))) (by decide) (t := .long) (t' := .long) (by decide) (by decide)))
  have F4_w7 := F4_w6.other W7 (Or.inr (slot_ne (a0 := a0) (Or.inr (hw _ (List.mem_of_getElem? (i := 19) rfl))) (Or.inr (hw _ (List.mem_of_getElem? (i := 25) rfl))) (by decide) (t := .long) (t' := .long) (by decide) (by decide)))
  have F5_w7 := F5_w6.other W7 (Or.inr (slot_ne (a0 := a0) (Or.inr (hw _ (List.mem_of_getElem? (i := 21) rfl))) (Or.inr (hw _ (List.mem_of_getElem? (i := 25) rfl))) (by decide) (t := .long) (t' := .long) (by decide) (by decide)))
  have F6_w7 := F6.other W7 (Or.inr (slot_ne (a0 := a0) (Or.inr (hw _ (List.mem_of_getElem? (i := 23) rfl))) (Or.inr (hw _ (List.mem_of_getElem? (i := 25) rfl))) (by decide) (t := .long) (t' := .long) (by decide) (by decide)))
  have F_curriculumCompactness_w7 := F_curriculumCompactness_w6.other W7 (Or.inr (slot_ne (a0 := a0) (Or.inr (hw _ (List.mem_of_getElem? (i := 27) rfl))) (Or.inr (hw _ (List.mem_of_getElem? (i := 25) rfl))) (by decide) (t := .long) (t' := .long) (by decide) (by decide)))
  have F_roomStability_w7 := F_roomStability_w6.other W7 (Or.inr (slot_ne (a0 := a0) (Or.inr (hw _ (List.mem_of_getElem? (i := 29) rfl))) (Or.inr (hw _ (List.mem_of_getElem? (i := 25) rfl))) (by decide) (t := .long) (t' := .long) (by decide) (by decide)))
  have F_skippedLines_w7 := F_skippedLines_w6.other W7 (Or.inr (slot_ne (a0 := a0) (Or.inr (hw _ (List.mem_of_getElem? (i := 31) rfl))) (Or.inr (hw _ (List.mem_of_getElem? (i := 25) rfl))) (by decide) (t := .long) (t' := .long) (by decide) (by decide)))
  have K7 : Keep h0 h7 [o0] := (K6).wr W7 (Or.inl (List.mem_of_getElem? (i := 0) rfl))
  have N7 := Fr.snoc X7 N6 g_o0
  have Z7 : n0 ≤ h7.size := Nat.le_trans Z6 (Keep.of_wr W7).1
  have F7 : Fld Z h7 o0 "com/example/slotwright/slotwright/Score" "minWorkingDays" "J" (.long q6) := F_minWorkingDays_w6.same W7
  show OGo p e below s _ _ _ (T7.setTop (mkF m 38 #[.val (.ref o0), .val (.long q1), .second, .val (.long q2), .second, .val (.long q3), .second, .val (.long q4), .second, .val (.long q5), .second, .val (.long q6), .second, .val (.long q7), .second, .val (.long q8), .second, .val (.long q9), .second] []))
  refine OGo.st (fun _ k => XS.aloadN X7.here hx rfl (hb hby d1_38) rfl rfl k) ?_
  show OGo p e below s _ _ _ (T7.setTop (mkF m 39 #[.val (.ref o0), .val (.long q1), .second, .val (.long q2), .second, .val (.long q3), .second, .val (.long q4), .second, .val (.long q5), .second, .val (.long q6), .second, .val (.long q7), .second, .val (.long q8), .second, .val (.long q9), .second] [(.ref o0)]))
  refine OGo.st (fun _ k => XS.lload X7.here hx rfl (hb hby d1_39) rfl k) ?_
  show OGo p e below s _ _ _ (T7.setTop (mkF m 41 #[.val (.ref o0), .val (.long q1), .second, .val (.long q2), .second, .val (.long q3), .second, .val (.long q4), .second, .val (.long q5), .second, .val (.long q6), .second, .val (.long q7), .second, .val (.long q8), .second, .val (.long q9), .second] [(.long q7), (.ref o0)]))
  obtain ⟨T8, h8, X8, e8, W8, st8⟩ := putF X7 hx hZ hown (host := "") (Or.inl (hw _ (List.mem_of_getElem? (i := 26) rfl))) Via.refl e7 F_curriculumCompactness_w7 E_o0_w7 (Or.inr ⟨(hw _ (List.mem_of_getElem? (i := 27) rfl)), rfl, hnm⟩) (hw _ (List.mem_of_getElem? (i := 1) rfl)) (ty := .long) (by decide) rfl rfl (g := (mkF m 41 #[.val (.ref o0), .val (.long q1), .second, .val (.long q2), .second, .val (.long q3), .second, .val (.long q4), .second, .val (.long q5), .second, .val (.long q6), .second, .val (.long q7), .second, .val (.long q8), .second, .val (.long q9), .second] [(.long q7), (.ref o0)])) rfl rfl (hb hby d1_41)
  refine OGo.st st8 ?_
  have E_o0_w8 := E_o0_w7.wr W8
  have F2_w8 := F2_w7.other W8 (Or.inr (slot_ne (a0 := a0) (Or.inr (hw _ (List.mem_of_getElem? (i := 15) rfl))) (Or.inr (hw _ (List.mem_of_getElem? (i := 27) rfl))) (by decide) (t := .long) (t' := .long) (by decide) (by decide)))
  have F3_w8 := F3_w7.other W8 (Or.inr (slot_ne (a0 := a0) (Or.inr (hw _ (List.mem_of_getElem? (i := 17) rfl))) (Or.inr (hw _ (List.mem_of_getElem? (i := 27) rfl))) (by decide) (t := .long) (t' := .long) (by decide) (by decide)))
  have F4_w8 := F4_w7.other W8 (Or.inr (slot_ne (a0 := a0) (Or.inr (hw _ (List.mem_of_getElem? (i := 19) rfl))) (Or.inr (hw _ (List.mem_of_getElem? (i := 27) rfl))) (by decide) (t := .long) (t' := .long) (by decide) (by decide)))
  have F5_w8 := F5_w7.other W8 (Or.inr (slot_ne (a0 := a0) (Or.inr (hw _ (List.mem_of_getElem? (i := 21) rfl))) (Or.inr (hw _ (List.mem_of_getElem? (i := 27) rfl))) (by decide) (t := .long) (t' := .long) (by decide) (by decide)))
  have F6_w8 := F6_w7.other W8 (Or.inr (slot_ne (a0 := a0) (Or.inr (hw _ (List.mem_of_getElem? (i := 23) rfl))) (Or.inr (hw _ (List.mem_of_getElem? (i := 27) rfl))) (by decide) (t := .long) (t' := .long) (by decide) (by decide)))
  have F7_w8 := F7.other W8 (Or.inr (slot_ne (a0 := a0) (Or.inr (hw _ (List.mem_of_getElem? (i := 25) rfl))) (Or.inr (hw _ (List.mem_of_getElem? (i := 27) rfl))) (by decide) (t := .long) (t' := .long) (by decide) (by decide)))
  have F_roomStability_w8 := F_roomStability_w7.other W8 (Or.inr (slot_ne (a0 := a0) (Or.inr (hw _ (List.mem_of_getElem? (i := 29) rfl))) (Or.inr (hw _ (List.mem_of_getElem? (i := 27) rfl))) (by decide) (t := .long) (t' := .long) (by decide) (by decide)))
  have F_skippedLines_w8 := F_skippedLines_w7.other W8 (Or.inr (slot_ne (a0 := a0) (Or.inr (hw _ (List.mem_of_getElem? (i := 31) rfl))) (Or.inr (hw _ (List.mem_of_getElem? (i := 27) rfl))) (by decide) (t := .long) (t' := .long) (by decide) (by decide)))
  have K8 : Keep h0 h8 [o0] := (K7).wr W8 (Or.inl (List.mem_of_getElem? (i := 0) rfl))
  have N8 := Fr.snoc X8 N7 g_o0
  have Z8 : n0 ≤ h8.size := Nat.le_trans Z7 (Keep.of_wr W8).1
  have F8 : Fld Z h8 o0 "com/example/slotwright/slotwright/Score" "curriculumCompactness" "J" (.long q7) := F_curriculumCompactness_w7.same W8
  show OGo p e below s _ _ _ (T8.setTop (mkF m 44 #[.val (.ref o0), .val (.long q1), .second, .val (.long q2), .second, .val (.long q3), .second, .val (.long q4), .second, .val (.long q5), .second, .val (.long q6), .second, .val (.long q7), .second, .val (.long q8), .second, .val (.long q9), .second] []))
  refine OGo.st (fun _ k => XS.aloadN X8.here hx rfl (hb hby d1_44) rfl rfl k) ?_
  show OGo p e below s _ _ _ (T8.setTop (mkF m 45 #[.val (.ref o0), .val (.long q1), .second, .val (.long q2), .second, .val (.long q3), .second, .val (.long q4), .second, .val (.long q5), .second, .val (.long q6), .second, .val (.long q7), .second, .val (.long q8), .second, .val (.long q9), .second] [(.ref o0)]))
  refine OGo.st (fun _ k => XS.lload X8.here hx rfl (hb hby d1_45) rfl k) ?_
  show OGo p e below s _ _ _ (T8.setTop (mkF m 47 #[.val (.ref o0), .val (.long q1), .second, .val (.long q2), .second, .val (.long q3), .second, .val (.long q4), .second, .val (.long q5), .second, .val (.long q6), .second, .val (.long q7), .second, .val (.long q8), .second, .val (.long q9), .second] [(.long q8), (.ref o0)]))
  obtain ⟨T9, h9, X9, e9, W9, st9⟩ := putF X8 hx hZ hown (host := "") (Or.inl (hw _ (List.mem_of_getElem? (i := 28) rfl))) Via.refl e8 F_roomStability_w8 E_o0_w8 (Or.inr ⟨(hw _ (List.mem_of_getElem? (i := 29) rfl)), rfl, hnm⟩) (hw _ (List.mem_of_getElem? (i := 1) rfl)) (ty := .long) (by decide) rfl rfl (g := (mkF m 47 #[.val (.ref o0), .val (.long q1), .second, .val (.long q2), .second, .val (.long q3), .second, .val (.long q4), .second, .val (.long q5), .second, .val (.long q6), .second, .val (.long q7), .second, .val (.long q8), .second, .val (.long q9), .second] [(.long q8), (.ref o0)])) rfl rfl (hb hby d1_47)
  refine OGo.st st9 ?_
  have E_o0_w9 := E_o0_w8.wr W9
  have F2_w9 := F2_w8.other W9 (Or.inr (slot_ne (a0 := a0) (Or.inr (hw _ (List.mem_of_getElem? (i := 15) rfl))) (Or.inr (hw _ (List.mem_of_getElem? (i := 29) rfl))) (by decide) (t := .long) (t' := .long) (by decide) (by decide)))
  have F3_w9 := F3_w8.other W9 (Or.inr (slot_ne (a0 := a0) (Or.inr (hw _ (List.mem_of_getElem? (i := 17) rfl))) (Or.inr (hw _ (List.mem_of_getElem? (i := 29) rfl))) (by decide) (t := .long) (t' := .long) (by decide) (by decide)))
  have F4_w9 := F4_w8.other W9 (Or.inr (slot_ne (a0 := a0) (Or.inr (hw _ (List.mem_of_getElem? (i := 19) rfl))) (Or.inr (hw _ (List.mem_of_getElem? (i := 29) rfl))) (by decide) (t := .long) (t' := .long) (by decide) (by decide)))
  have F5_w9 := F5_w8.other W9 (Or.inr (slot_ne (a0 := a0) (Or.inr (hw _ (List.mem_of_getElem? (i := 21) rfl))) (Or.inr (hw _ (List.mem_of_getElem? (i := 29) rfl))) (by decide) (t := .long) (t' := .long) (by decide) (by decide)))
  have F6_w9 := F6_w8.other W9 (Or.inr (slot_ne (a0 := a0) (Or.inr (hw _ (List.mem_of_getElem? (i := 23) rfl))) (Or.inr (hw _ (List.mem_of_getElem? (i := 29) rfl))) (by decide) (t := .long) (t' := .long) (by decide) (by decide)))
  have F7_w9 := F7_w8.other W9 (Or.inr (slot_ne (a0 := a0) (Or.inr (hw _ (List.mem_of_getElem? (i := 25) rfl))) (Or.inr (hw _ (List.mem_of_getElem? (i := 29) rfl))) (by decide) (t := .long) (t' := .long) (by decide) (by decide)))
  have F8_w9 := F8.other W9 (Or.inr (slot_ne (a0 := a0) (Or.inr (hw _ (List.mem_of_getElem? (i := 27) rfl))) (Or.inr (hw _ (List.mem_of_getElem? (i := 29) rfl))) (by decide) (t := .long) (t' := .long) (by decide) (by decide)))
  have F_skippedLines_w9 := F_skippedLines_w8.other W9 (Or.inr (slot_ne (a0 := a0) (Or.inr (hw _ (List.mem_of_getElem? (i := 31) rfl))) (Or.inr (hw _ (List.mem_of_getElem? (i := 29) rfl))) (by decide) (t := .long) (t' := .long) (by decide) (by decide)))
  have K9 : Keep h0 h9 [o0] := (K8).wr W9 (Or.inl (List.mem_of_getElem? (i := 0) rfl))
  have N9 := Fr.snoc X9 N8 g_o0
  have Z9 : n0 ≤ h9.size := Nat.le_trans Z8 (Keep.of_wr W9).1
  have F9 : Fld Z h9 o0 "com/example/slotwright/slotwright/Score" "roomStability" "J" (.long q8) := F_roomStability_w8.same W9
  show OGo p e below s _ _ _ (T9.setTop (mkF m 50 #[.val (.ref o0), .val (.long q1), .second, .val (.long q2), .second, .val (.long q3), .second, .val (.long q4), .second, .val (.long q5), .second, .val (.long q6), .second, .val (.long q7), .second, .val (.long q8), .second, .val (.long q9), .second] []))
  refine OGo.st (fun _ k => XS.aloadN X9.here hx rfl (hb hby d1_50) rfl rfl k) ?_
  show OGo p e below s _ _ _ (T9.setTop (mkF m 51 #[.val (.ref o0), .val (.long q1), .second, .val (.long q2), .second, .val (.long q3), .second, .val (.long q4), .second, .val (.long q5), .second, .val (.long q6), .second, .val (.long q7), .second, .val (.long q8), .second, .val (.long q9), .second] [(.ref o0)]))
  refine OGo.st (fun _ k => XS.lload X9.here hx rfl (hb hby d1_51) rfl k) ?_
  show OGo p e below s _ _ _ (T9.setTop (mkF m 53 #[.val (.ref o0), .val (.long q1), .second, .val (.long q2), .second, .val (.long q3), .second, .val (.long q4), .second, .val (.long q5), .second, .val (.long q6), .second, .val (.long q7), .second, .val (.long q8), .second, .val (.long q9), .second] [(.long q9), (.ref o0)]))
  obtain ⟨T10, h10, X10, e10, W10, st10⟩ := putF X9 hx hZ hown (host := "") (Or.inl (hw _ (List.mem_of_getElem? (i := 30) rfl))) Via.refl e9 F_skippedLines_w9 E_o0_w9 (Or.inr ⟨(hw _ (List.mem_of_getElem? (i := 31) rfl)), rfl, hnm⟩) (hw _ (List.mem_of_getElem? (i := 1) rfl)) (ty := .long) (by decide) rfl rfl (g := (mkF m 53 #[.val (.ref o0), .val (.long q1), .second, .val (.long q2), .second, .val (.long q3), .second, .val (.long q4), .second, .val (.long q5), .second, .val (.long q6), .second, .val (.long q7), .second, .val (.long q8), .second, .val (.long q9), .second] [(.long q9), (.ref o0)])) rfl rfl (hb hby d1_53)
  refine OGo.st st10 ?_
  have E_o0_w10 := E_o0_w9.wr W10
  have F2_w10 := F2_w9.other W10 (Or.inr (slot_ne (a0 := a0) (Or.inr (hw _ (List.mem_of_getElem? (i := 15) rfl))) (Or.inr (hw _ (List.mem_of_getElem? (i := 31) rfl))) (by decide) (t := .long) (t' := .long) (by decide) (by decide)))
  have F3_w10 := F3_w9.other W10 (Or.inr (slot_ne (a0 := a0) (Or.inr (hw _ (List.mem_of_getElem? (i := 17) rfl))) (Or.inr (hw _ (List.mem_of_getElem? (i := 31) rfl))) (by decide) (t := .long) (t' := .long) (by decide) (by decide)))
  have F4_w10 := F4_w9.other W10 (Or.inr (slot_ne (a0 := a0) (Or.inr (hw _ (List.mem_of_getElem? (i := 19) rfl))) (Or.inr (hw _ (List.mem_of_getElem? (i := 31) rfl))) (by decide) (t := .long) (t' := .long) (by decide) (by decide)))
  have F5_w10 := F5_w9.other W10 (Or.inr (slot_ne (a0 := a0) (Or.inr (hw _ (List.mem_of_getElem? (i := 21) rfl))) (Or.inr (hw _ (List.mem_of_getElem? (i := 31) rfl))) (by decide) (t := .long) (t' := .long) (by decide) (by decide)))
  have F6_w10 := F6_w9.other W10 (Or.inr (slot_ne (a0 := a0) (Or.inr (hw _ (List.mem_of_getElem? (i := 23) rfl))) (Or.inr (hw _ (List.mem_of_getElem? (i := 31) rfl))) (by decide) (t := .long) (t' := .long) (by decide) (by decide)))
  have F7_w10 := F7_w9.other W10 (Or.inr (slot_ne (a0 := a0) (Or.inr (hw _ (List.mem_of_getElem? (i := 25) rfl))) (Or.inr (hw _ (List.mem_of_getElem? (i := 31) rfl))) (by decide) (t := .long) (t' := .long) (by decide) (by decide)))
  have F8_w10 := F8_w9.other W10 (Or.inr (slot_ne (a0 := a0) (Or.inr (hw _ (List.mem_of_getElem? (i := 27) rfl))) (Or.inr (hw _ (List.mem_of_getElem? (i := 31) rfl))) (by decide) (t := .long) (t' := .long) (by decide) (by decide)))
  have F9_w10 := F9.other W10 (Or.inr (slot_ne (a0 := a0) (Or.inr (hw _ (List.mem_of_getElem? (i := 29) rfl))) (Or.inr (hw _ (List.mem_of_getElem? (i := 31) rfl))) (by decide) (t := .long) (t' := .long) (by decide) (by decide)))
  have K10 : Keep h0 h10 [o0] := (K9).wr W10 (Or.inl (List.mem_of_getElem? (i := 0) rfl))
  have N10 := Fr.snoc X10 N9 g_o0
  have Z10 : n0 ≤ h10.size := Nat.le_trans Z9 (Keep.of_wr W10).1
  have F10 : Fld Z h10 o0 "com/example/slotwright/slotwright/Score" "skippedLines" "J" (.long q9) := F_skippedLines_w9.same W10
  show OGo p e below s _ _ _ (T10.setTop (mkF m 56 #[.val (.ref o0), .val (.long q1), .second, .val (.long q2), .second, .val (.long q3), .second, .val (.long q4), .second, .val (.long q5), .second, .val (.long q6), .second, .val (.long q7), .second, .val (.long q8), .second, .val (.long q9), .second] []))
  exact oret0 X10 hx Bd.notSynchronized Bd.returns (hb hby d1_56) e10 ⟨rfl, N10, K10, F2_w10, F3_w10, F4_w10, F5_w10, F6_w10, F7_w10, F8_w10, F9_w10, F10⟩ (by decide) (by decide)
theorem d4_0 : decode prog_14_method_3_code 0 = .ok (.aload_n 0, 1) := by decide +kernel
theorem d4_1 : decode prog_14_method_3_code 1 = .ok (.getfield 22, 3) := by decide +kernel
theorem d4_4 : decode prog_14_method_3_code 4 = .ok (.aload_n 0, 1) := by decide +kernel
theorem d4_5 : decode prog_14_method_3_code 5 = .ok (.getfield 25, 3) := by decide +kernel
theorem d4_8 : decode prog_14_method_3_code 8 = .ok (.ladd, 1) := by decide +kernel
theorem d4_9 : decode prog_14_method_3_code 9 = .ok (.aload_n 0, 1) := by decide +kernel
theorem d4_10 : decode prog_14_method_3_code 10 = .ok (.getfield 28, 3) := by decide +kernel
theorem d4_13 : decode prog_14_method_3_code 13 = .ok (.ladd, 1) := by decide +kernel
theorem d4_14 : decode prog_14_method_3_code 14 = .ok (.aload_n 0, 1) := by decide +kernel
theorem d4_15 : decode prog_14_method_3_code 15 = .ok (.getfield 31, 3) := by decide +kernel
theorem d4_18 : decode prog_14_method_3_code 18 = .ok (.ladd, 1) := by decide +kernel
theorem d4_19 : decode prog_14_method_3_code 19 = .ok (.lreturn, 1) := by decide +kernel
theorem pn_4 : plainName "com/example/slotwright/slotwright/Score" = true := by first | (simp [plainName, overriddenIn]; done) | decide +kernel
theorem ef_4 (m : MethodId) (o0 : Addr) : entryFrame m #[(.ref o0)] 1 = mkF m 0 #[.val (.ref o0)] [] := by first | (simp [entryFrame, mkF, argsToLocals, Value.category]; done) | rfl
def f4 (u_roomCapacity : Int64) (u_minWorkingDays : Int64) (u_curriculumCompactness : Int64) (u_roomStability : Int64) : Int64 := (((u_roomCapacity + u_minWorkingDays) + u_curriculumCompactness) + u_roomStability)
def Q4 (Z : State) (o0 : Addr) (u_roomCapacity : Int64) (u_minWorkingDays : Int64) (u_curriculumCompactness : Int64) (u_roomStability : Int64) (h0 : Heap) (n0 : Nat) (v : Option Value) (h : Heap) (L : List Loc) : Prop := v = some (.long (f4 u_roomCapacity u_minWorkingDays u_curriculumCompactness u_roomStability)) ∧ Fr n0 L ∧ h = h0
set_option maxRecDepth 65536 in
set_option maxHeartbeats 40000000 in
theorem rm4 (l : Launch) (Z : State) (a0 : Array Value) (hw : ∀ d ∈ tables_1, d.before a0 Z = true) (ws : List Jvm.Cond) (o0 : Addr) (u_roomCapacity : Int64) (u_minWorkingDays : Int64) (u_curriculumCompactness : Int64) (u_roomStability : Int64) (h0 : Heap) (n0 : Nat) (Z0 : n0 ≤ h0.size) (F_roomCapacity : Fld Z h0 o0 "com/example/slotwright/slotwright/Score" "roomCapacity" "J" (.long u_roomCapacity)) (F_minWorkingDays : Fld Z h0 o0 "com/example/slotwright/slotwright/Score" "minWorkingDays" "J" (.long u_minWorkingDays)) (F_curriculumCompactness : Fld Z h0 o0 "com/example/slotwright/slotwright/Score" "curriculumCompactness" "J" (.long u_curriculumCompactness)) (F_roomStability : Fld Z h0 o0 "com/example/slotwright/slotwright/Score" "roomStability" "J" (.long u_roomStability)) :
    MetFree l (⟨"com/example/slotwright/slotwright/Score", "softCost", "()J"⟩ : MethodName) (head1 (Jvm.Cond.code (⟨"com/example/slotwright/slotwright/Score", "softCost", "()J"⟩ : MethodName) prog_14_method_3_code 1 (some .long) :: ws) ({ frames := 0, cells := 0, slots := 0, locals := 0 } : Room)) (fun a U => a = #[(.ref o0)] ∧ Z.Warmed39 U.vm ∧ U.heap = h0) (fun _ _ _ _ _ => True) (fun _ U o U' => ∃ v L, o = .returned v ∧ Q4 Z o0 u_roomCapacity u_minWorkingDays u_curriculumCompactness u_roomStability h0 n0 v U'.heap L ∧ FrameEnd U o U' L ({ frames := 0, cells := 0, slots := 0, locals := 0 } : Room).cells ({ frames := 0, cells := 0, slots := 0, locals := 0 } : Room).slots) := by
  refine MetFree.of_bodySF (plainFor_of_name pn_4) hisR ?_
  intro p e s m args below meth c s₁ Bd hml0 hP hK
  obtain ⟨rfl, hZ, hh⟩ := hP
  have hx := Bd.exec
  have hby := Bd.bytes
  have hml : c.maxLocals = 1 := hml0
  have hown : s.vm.findClass "com/example/slotwright/slotwright/Score" = some m.cls := findClass_of_methodNamed Bd.named
  have hnm := (name_of_methodNamed Bd.named Bd.method).1
  have X0 : Stand p l e ({ frames := 0, cells := 0, slots := 0, locals := 0 } : Room) s m #[(.ref o0)] below meth c s₁ [] 0 0 := Stand.of_body Bd
  have e0 : s₁.heap = h0 := by rw [← hh, Bd.state]; rfl
  have N0 := Fr.nil n0
  show OGo p e below s (Q4 Z o0 u_roomCapacity u_minWorkingDays u_curriculumCompactness u_roomStability h0 n0) ({ frames := 0, cells := 0, slots := 0, locals := 0 } : Room).cells ({ frames := 0, cells := 0, slots := 0, locals := 0 } : Room).slots _
  refine OGo.st (fun _ k => castTop (ef_4 m o0) k) ?_
  show OGo p e below s _ _ _ (s₁.setTop (mkF m 0 #[.val (.ref o0)] []))
  refine OGo.st (fun _ k => XS.aloadN X0.here hx rfl (hb hby d4_0) rfl rfl k) ?_
  show OGo p e below s _ _ _ (s₁.setTop (mkF m 1 #[.val (.ref o0)] [(.ref o0)]))
  obtain ⟨T1, X1, e1, st1⟩ := getF X0 hx hZ hown (host := "") (Or.inl (hw _ (List.mem_of_getElem? (i := 22) rfl))) Via.refl e0 F_roomCapacity (g := (mkF m 1 #[.val (.ref o0)] [(.ref o0)])) rfl rfl (hb hby d4_1)
  refine OGo.st st1 ?_
  show OGo p e below s _ _ _ (T1.setTop (mkF m 4 #[.val (.ref o0)] [(.long u_roomCapacity)]))
  refine OGo.st (fun _ k => XS.aloadN X1.here hx rfl (hb hby d4_4) rfl rfl k) ?_
  show OGo p e below s _ _ _ (T1.setTop (mkF m 5 #[.val (.ref o0)] [(.ref o0), (.long u_roomCapacity)]))
  obtain ⟨T2, X2, e2, st2⟩ := getF X1 hx hZ hown (host := "") (Or.inl (hw _ (List.mem_of_getElem? (i := 24) rfl))) Via.refl e1 F_minWorkingDays (g := (mkF m 5 #[.val (.ref o0)] [(.ref o0), (.long u_roomCapacity)])) rfl rfl (hb hby d4_5)
  refine OGo.st st2 ?_
  show OGo p e below s _ _ _ (T2.setTop (mkF m 8 #[.val (.ref o0)] [(.long u_minWorkingDays), (.long u_roomCapacity)]))
  refine OGo.st (fun _ k => XS.ladd X2.here hx rfl (hb hby d4_8) rfl k) ?_
  show OGo p e below s _ _ _ (T2.setTop (mkF m 9 #[.val (.ref o0)] [(.long (u_roomCapacity + u_minWorkingDays))]))
  refine OGo.st (fun _ k => XS.aloadN X2.here hx rfl (hb hby d4_9) rfl rfl k) ?_
  show OGo p e below s _ _ _ (T2.setTop (mkF m 10 #[.val (.ref o0)] [(.ref o0), (.long (u_roomCapacity + u_minWorkingDays))]))
  obtain ⟨T3, X3, e3, st3⟩ := getF X2 hx hZ hown (host := "") (Or.inl (hw _ (List.mem_of_getElem? (i := 26) rfl))) Via.refl e2 F_curriculumCompactness (g := (mkF m 10 #[.val (.ref o0)] [(.ref o0), (.long (u_roomCapacity + u_minWorkingDays))])) rfl rfl (hb hby d4_10)
  refine OGo.st st3 ?_
  show OGo p e below s _ _ _ (T3.setTop (mkF m 13 #[.val (.ref o0)] [(.long u_curriculumCompactness), (.long (u_roomCapacity + u_minWorkingDays))]))
  refine OGo.st (fun _ k => XS.ladd X3.here hx rfl (hb hby d4_13) rfl k) ?_
  show OGo p e below s _ _ _ (T3.setTop (mkF m 14 #[.val (.ref o0)] [(.long ((u_roomCapacity + u_minWorkingDays) + u_curriculumCompactness))]))
  refine OGo.st (fun _ k => XS.aloadN X3.here hx rfl (hb hby d4_14) rfl rfl k) ?_
  show OGo p e below s _ _ _ (T3.setTop (mkF m 15 #[.val (.ref o0)] [(.ref o0), (.long ((u_roomCapacity + u_minWorkingDays) + u_curriculumCompactness))]))
  obtain ⟨T4, X4, e4, st4⟩ := getF X3 hx hZ hown (host := "") (Or.inl (hw _ (List.mem_of_getElem? (i := 28) rfl))) Via.refl e3 F_roomStability (g := (mkF m 15 #[.val (.ref o0)] [(.ref o0), (.long ((u_roomCapacity + u_minWorkingDays) + u_curriculumCompactness))])) rfl rfl (hb hby d4_15)
  refine OGo.st st4 ?_
  show OGo p e below s _ _ _ (T4.setTop (mkF m 18 #[.val (.ref o0)] [(.long u_roomStability), (.long ((u_roomCapacity + u_minWorkingDays) + u_curriculumCompactness))]))
  refine OGo.st (fun _ k => XS.ladd X4.here hx rfl (hb hby d4_18) rfl k) ?_
  show OGo p e below s _ _ _ (T4.setTop (mkF m 19 #[.val (.ref o0)] [(.long (((u_roomCapacity + u_minWorkingDays) + u_curriculumCompactness) + u_roomStability))]))
  exact oretJ X4 hx Bd.notSynchronized Bd.returns (hb hby d4_19) e4 ⟨(congrArg (fun z => some (Value.long z)) (show (((u_roomCapacity + u_minWorkingDays) + u_curriculumCompactness) + u_roomStability) = f4 u_roomCapacity u_minWorkingDays u_curriculumCompactness u_roomStability from Eq.symm (by unfold f4; exact rfl))), N0, rfl⟩ (by decide) (by decide)
theorem pn_0 : plainName "com/example/slotwright/slotwright/ScoreSoftCostPinLaw" = true := by first | (simp [plainName, overriddenIn]; done) | decide +kernel
theorem pd_0_0 : parseMethodDescriptor "(JJJJJJJJJ)V" = some ⟨[.long, .long, .long, .long, .long, .long, .long, .long, .long], none⟩ := by decide +kernel
theorem pd_0_1 : parseMethodDescriptor "()J" = some ⟨[], some .long⟩ := by decide +kernel
theorem ef_0 (m : MethodId) (q0 : Int64) (q1 : Int64) (q2 : Int64) (q3 : Int64) (q4 : Int64) (q5 : Int64) : entryFrame m #[(.long q0), (.long q1), (.long q2), (.long q3), (.long q4), (.long q5)] maxLocals = mkF m 0 #[.val (.long q0), .second, .val (.long q1), .second, .val (.long q2), .second, .val (.long q3), .second, .val (.long q4), .second, .val (.long q5), .second, .unset, .unset, .unset, .unset] [] := by first | (simp [entryFrame, mkF, argsToLocals, Value.category, maxLocals]; done) | rfl
def f0 (q0 : Int64) (q1 : Int64) (q2 : Int64) (q3 : Int64) (q4 : Int64) (q5 : Int64) : Int32 := (if (f4 q0 q1 q2 q3) = ((q0 + q3) + (q2 + q1)) then (1 : Int32) else (0 : Int32))
def Q0 (Z : State) (q0 : Int64) (q1 : Int64) (q2 : Int64) (q3 : Int64) (q4 : Int64) (q5 : Int64) (h0 : Heap) (n0 : Nat) (v : Option Value) (h : Heap) (L : List Loc) : Prop := v = some (.int (f0 q0 q1 q2 q3 q4 q5)) ∧ Fr n0 L
set_option maxRecDepth 65536 in
set_option maxHeartbeats 40000000 in
theorem rm0 (l : Launch) (Z : State) (a0 : Array Value) (hw : ∀ d ∈ tables_1, d.before a0 Z = true) (ws : List Jvm.Cond) (q0 : Int64) (q1 : Int64) (q2 : Int64) (q3 : Int64) (q4 : Int64) (q5 : Int64) (h0 : Heap) (n0 : Nat) (Z0 : n0 ≤ h0.size) :
    MetFree l x (head1 (Jvm.Cond.code x code maxLocals ret :: ws) room_1) (fun a U => a = #[(.long q0), (.long q1), (.long q2), (.long q3), (.long q4), (.long q5)] ∧ Z.Warmed39 U.vm ∧ U.heap = h0) (fun _ _ _ _ _ => True) (fun _ U o U' => ∃ v L, o = .returned v ∧ Q0 Z q0 q1 q2 q3 q4 q5 h0 n0 v U'.heap L ∧ FrameEnd U o U' L room_1.cells room_1.slots) := by
  refine MetFree.of_bodySF (plainFor_of_name pn_0) hisR ?_
  intro p e s m args below meth c s₁ Bd hml0 hP hK
  obtain ⟨rfl, hZ, hh⟩ := hP
  have hx := Bd.exec
  have hby := Bd.bytes
  have hml : c.maxLocals = 16 := hml0
  have hown : s.vm.findClass "com/example/slotwright/slotwright/ScoreSoftCostPinLaw" = some m.cls := findClass_of_methodNamed Bd.named
  have hnm := (name_of_methodNamed Bd.named Bd.method).1
  have X0 : Stand p l e room_1 s m #[(.long q0), (.long q1), (.long q2), (.long q3), (.long q4), (.long q5)] below meth c s₁ [] 0 0 := Stand.of_body Bd
  have e0 : s₁.heap = h0 := by rw [← hh, Bd.state]; rfl
  have N0 := Fr.nil n0
  show OGo p e below s (Q0 Z q0 q1 q2 q3 q4 q5 h0 n0) room_1.cells room_1.slots _
  refine OGo.st (fun _ k => castTop (ef_0 m q0 q1 q2 q3 q4 q5) k) ?_
  show OGo p e below s _ _ _ (s₁.setTop (mkF m 0 #[.val (.long q0), .second, .val (.long q1), .second, .val (.long q2), .second, .val (.long q3), .second, .val (.long q4), .second, .val (.long q5), .second, .unset, .unset, .unset, .unset] []))
  obtain ⟨T1, h1, X1, e1, E1, A1, D1, U1, st1⟩ := newO X0 hx hZ hown (hw _ (List.mem_of_getElem? (i := 0) rfl)) (hw _ (List.mem_of_getElem? (i := 1) rfl)) (hw _ (List.mem_of_getElem? (i := 2) rfl)) e0 (g := (mkF m 0 #[.val (.long q0), .second, .val (.long q1), .second, .val (.long q2), .second, .val (.long q3), .second, .val (.long q4), .second, .val (.long q5), .second, .unset, .unset, .unset, .unset] [])) rfl (hb hby at_0) (by decide) (by decide)
  obtain ⟨b1, g1⟩ : ∃ z, z = h0.size := ⟨_, rfl⟩
  rw [← g1] at A1 D1 U1 st1
  refine OGo.st st1 ?_
  have g_b1 : n0 ≤ b1 := Nat.le_trans Z0 (Nat.le_of_eq g1.symm)
  have sz_b1 : h0.size ≤ b1 := Nat.le_trans (Keep.refl h0 []).1 (Nat.le_of_eq g1.symm)
  have K1 : Keep h0 h1 [] := (Keep.refl h0 _).ext E1
  have Z1 : n0 ≤ h1.size := Nat.le_trans Z0 E1.1
  have F_lectures_b1 : Fld Z h1 b1 "com/example/slotwright/slotwright/Score" "lectures" "J" (.long (0 : Int64)) := D1 (Or.inr (hw _ (List.mem_of_getElem? (i := 15) rfl))) (ty := .long) (by decide)
  have F_conflicts_b1 : Fld Z h1 b1 "com/example/slotwright/slotwright/Score" "conflicts" "J" (.long (0 : Int64)) := D1 (Or.inr (hw _ (List.mem_of_getElem? (i := 17) rfl))) (ty := .long) (by decide)
  have F_availability_b1 : Fld Z h1 b1 "com/example/slotwright/slotwright/Score" "availability" "J" (.long (0 : Int64)) := D1 (Or.inr (hw _ (List.mem_of_getElem? (i := 19) rfl))) (ty := .long) (by decide)
  have F_roomOccupancy_b1 : Fld Z h1 b1 "com/example/slotwright/slotwright/Score" "roomOccupancy" "J" (.long (0 : Int64)) := D1 (Or.inr (hw _ (List.mem_of_getElem? (i := 21) rfl))) (ty := .long) (by decide)
  have F_roomCapacity_b1 : Fld Z h1 b1 "com/example/slotwright/slotwright/Score" "roomCapacity" "J" (.long (0 : Int64)) := D1 (Or.inr (hw _ (List.mem_of_getElem? (i := 23) rfl))) (ty := .long) (by decide)
  have F_minWorkingDays_b1 : Fld Z h1 b1 "com/example/slotwright/slotwright/Score" "minWorkingDays" "J" (.long (0 : Int64)) := D1 (Or.inr (hw _ (List.mem_of_getElem? (i := 25) rfl))) (ty := .long) (by decide)
  have F_curriculumCompactness_b1 : Fld Z h1 b1 "com/example/slotwright/slotwright/Score" "curriculumCompactness" "J" (.long (0 : Int64)) := D1 (Or.inr (hw _ (List.mem_of_getElem? (i := 27) rfl))) (ty := .long) (by decide)
  have F_roomStability_b1 : Fld Z h1 b1 "com/example/slotwright/slotwright/Score" "roomStability" "J" (.long (0 : Int64)) := D1 (Or.inr (hw _ (List.mem_of_getElem? (i := 29) rfl))) (ty := .long) (by decide)
  have F_skippedLines_b1 : Fld Z h1 b1 "com/example/slotwright/slotwright/Score" "skippedLines" "J" (.long (0 : Int64)) := D1 (Or.inr (hw _ (List.mem_of_getElem? (i := 31) rfl))) (ty := .long) (by decide)
  show OGo p e below s _ _ _ (T1.setTop (mkF m 3 #[.val (.long q0), .second, .val (.long q1), .second, .val (.long q2), .second, .val (.long q3), .second, .val (.long q4), .second, .val (.long q5), .second, .unset, .unset, .unset, .unset] [(.ref b1)]))
  refine OGo.st (fun _ k => XS.dup X1.here hx rfl (hb hby at_3) rfl rfl k) ?_
  show OGo p e below s _ _ _ (T1.setTop (mkF m 4 #[.val (.long q0), .second, .val (.long q1), .second, .val (.long q2), .second, .val (.long q3), .second, .val (.long q4), .second, .val (.long q5), .second, .unset, .unset, .unset, .unset] [(.ref b1), (.ref b1)]))
  refine OGo.st (fun _ k => XS.lload X1.here hx rfl (hb hby at_4) rfl k) ?_
  show OGo p e below s _ _ _ (T1.setTop (mkF m 6 #[.val (.long q0), .second, .val (.long q1), .second, .val (.long q2), .second, .val (.long q3), .second, .val (.long q4), .second, .val (.long q5), .second, .unset, .unset, .unset, .unset] [(.long q4), (.ref b1), (.ref b1)]))
  refine OGo.st (fun _ k => XS.lload X1.here hx rfl (hb hby at_6) rfl k) ?_
  show OGo p e below s _ _ _ (T1.setTop (mkF m 8 #[.val (.long q0), .second, .val (.long q1), .second, .val (.long q2), .second, .val (.long q3), .second, .val (.long q4), .second, .val (.long q5), .second, .unset, .unset, .unset, .unset] [(.long q5), (.long q4), (.ref b1), (.ref b1)]))
  refine OGo.st (fun _ k => XS.lload X1.here hx rfl (hb hby at_8) rfl k) ?_
  show OGo p e below s _ _ _ (T1.setTop (mkF m 10 #[.val (.long q0), .second, .val (.long q1), .second, .val (.long q2), .second, .val (.long q3), .second, .val (.long q4), .second, .val (.long q5), .second, .unset, .unset, .unset, .unset] [(.long q4), (.long q5), (.long q4), (.ref b1), (.ref b1)]))
  refine OGo.st (fun _ k => XS.lload X1.here hx rfl (hb hby at_10) rfl k) ?_
  show OGo p e below s _ _ _ (T1.setTop (mkF m 12 #[.val (.long q0), .second, .val (.long q1), .second, .val (.long q2), .second, .val (.long q3), .second, .val (.long q4), .second, .val (.long q5), .second, .unset, .unset, .unset, .unset] [(.long q5), (.long q4), (.long q5), (.long q4), (.ref b1), (.ref b1)]))
  refine OGo.st (fun _ k => XS.lloadN X1.here hx rfl (hb hby at_12) rfl k) ?_
  show OGo p e below s _ _ _ (T1.setTop (mkF m 13 #[.val (.long q0), .second, .val (.long q1), .second, .val (.long q2), .second, .val (.long q3), .second, .val (.long q4), .second, .val (.long q5), .second, .unset, .unset, .unset, .unset] [(.long q0), (.long q5), (.long q4), (.long q5), (.long q4), (.ref b1), (.ref b1)]))
  refine OGo.st (fun _ k => XS.lloadN X1.here hx rfl (hb hby at_13) rfl k) ?_
  show OGo p e below s _ _ _ (T1.setTop (mkF m 14 #[.val (.long q0), .second, .val (.long q1), .second, .val (.long q2), .second, .val (.long q3), .second, .val (.long q4), .second, .val (.long q5), .second, .unset, .unset, .unset, .unset] [(.long q1), (.long q0), (.long q5), (.long q4), (.long q5), (.long q4), (.ref b1), (.ref b1)]))
  refine OGo.st (fun _ k => XS.lload X1.here hx rfl (hb hby at_14) rfl k) ?_
  show OGo p e below s _ _ _ (T1.setTop (mkF m 16 #[.val (.long q0), .second, .val (.long q1), .second, .val (.long q2), .second, .val (.long q3), .second, .val (.long q4), .second, .val (.long q5), .second, .unset, .unset, .unset, .unset] [(.long q2), (.long q1), (.long q0), (.long q5), (.long q4), (.long q5), (.long q4), (.ref b1), (.ref b1)]))
  refine OGo.st (fun _ k => XS.lload X1.here hx rfl (hb hby at_16) rfl k) ?_
  show OGo p e below s _ _ _ (T1.setTop (mkF m 18 #[.val (.long q0), .second, .val (.long q1), .second, .val (.long q2), .second, .val (.long q3), .second, .val (.long q4), .second, .val (.long q5), .second, .unset, .unset, .unset, .unset] [(.long q3), (.long q2), (.long q1), (.long q0), (.long q5), (.long q4), (.long q5), (.long q4), (.ref b1), (.ref b1)]))
  refine OGo.st (fun _ k => XS.lload X1.here hx rfl (hb hby at_18) rfl k) ?_
  show OGo p e below s _ _ _ (T1.setTop (mkF m 20 #[.val (.long q0), .second, .val (.long q1), .second, .val (.long q2), .second, .val (.long q3), .second, .val (.long q4), .second, .val (.long q5), .second, .unset, .unset, .unset, .unset] [(.long q5), (.long q3), (.long q2), (.long q1), (.long q0), (.long q5), (.long q4), (.long q5), (.long q4), (.ref b1), (.ref b1)]))
  obtain ⟨_, _, ⟨T2, L2, k2, n2⟩, -, X2, ⟨Lc2, hQ2, l2, y2, z2⟩, st2⟩ := X1.specialBack hx (y := (⟨"com/example/slotwright/slotwright/Score", "<init>", "(JJJJJJJJJ)V"⟩ : MethodName)) rfl hown (mvT hZ (hw _ (List.mem_of_getElem? (i := 3) rfl))) (mvT hZ (hw _ (List.mem_of_getElem? (i := 4) rfl))) (mvT hZ (hw _ (List.mem_of_getElem? (i := 5) rfl))) (by decide) (backOf (W := 1) (rm1 l Z a0 hw [] b1 q4 q5 q4 q5 q0 q1 q2 q3 q5 h1 n0 Z1 A1 F_lectures_b1 F_conflicts_b1 F_availability_b1 F_roomOccupancy_b1 F_roomCapacity_b1 F_minWorkingDays_b1 F_curriculumCompactness_b1 F_roomStability_b1 F_skippedLines_b1 g_b1) hZ (hw _ (List.mem_of_getElem? (i := 5) rfl)) (hw _ (List.mem_of_getElem? (i := 2) rfl)) (by decide) (by decide)) (g := (mkF m 20 #[.val (.long q0), .second, .val (.long q1), .second, .val (.long q2), .second, .val (.long q3), .second, .val (.long q4), .second, .val (.long q5), .second, .unset, .unset, .unset, .unset] [(.long q5), (.long q3), (.long q2), (.long q1), (.long q0), (.long q5), (.long q4), (.long q5), (.long q4), (.ref b1), (.ref b1)])) rfl (by rw [hml]; rfl) (Steps.refl _) (a := b1) (argsL := [(.long q4), (.long q5), (.long q4), (.long q5), (.long q0), (.long q1), (.long q2), (.long q3), (.long q5)]) (rest := [(.ref b1)]) (lenOf pd_0_0 rfl) rfl (by show 2 * 0 + _ ≤ _; exact Nat.le_of_eq rfl) (hb hby at_20) (fun _ _ => ⟨rfl, e1, (by decide : 1 + 0 ≤ _), (by decide : 9 + 0 ≤ _)⟩)
  dsimp only [Pt.U, Pt.locs, Pt.cells, Pt.slots] at X2 l2 y2 z2 st2 hQ2
  subst l2 y2 z2
  obtain ⟨rfl, N2q, Kc2, G2_0, G2_1, G2_2, G2_3, G2_4, G2_5, G2_6, G2_7, G2_8⟩ := hQ2
  have A1_w2 := A1.keep Kc2
  have K2 : Keep h0 T2.heap [] := (K1).trans Kc2 (allS (Or.inr sz_b1) all0)
  have Z2 : n0 ≤ T2.heap.size := Nat.le_trans Z1 Kc2.1
  have N2 := Fr.app N0 N2q
  refine OGo.st (fun _ k => st2.trans k) ?_
  show OGo p e below s _ _ _ (T2.setTop (mkF m 23 #[.val (.long q0), .second, .val (.long q1), .second, .val (.long q2), .second, .val (.long q3), .second, .val (.long q4), .second, .val (.long q5), .second, .unset, .unset, .unset, .unset] [(.ref b1)]))
  refine OGo.st (fun _ k => XS.astore X2.here hx rfl (hb hby at_23) rfl rfl (l' := #[.val (.long q0), .second, .val (.long q1), .second, .val (.long q2), .second, .val (.long q3), .second, .val (.long q4), .second, .val (.long q5), .second, .val (.ref b1), .unset, .unset, .unset]) rfl k) ?_
  show OGo p e below s _ _ _ (T2.setTop (mkF m 25 #[.val (.long q0), .second, .val (.long q1), .second, .val (.long q2), .second, .val (.long q3), .second, .val (.long q4), .second, .val (.long q5), .second, .val (.ref b1), .unset, .unset, .unset] []))
  obtain ⟨T3, h3, X3, e3, E3, A3, D3, U3, st3⟩ := newO X2 hx hZ hown (hw _ (List.mem_of_getElem? (i := 0) rfl)) (hw _ (List.mem_of_getElem? (i := 1) rfl)) (hw _ (List.mem_of_getElem? (i := 2) rfl)) rfl (g := (mkF m 25 #[.val (.long q0), .second, .val (.long q1), .second, .val (.long q2), .second, .val (.long q3), .second, .val (.long q4), .second, .val (.long q5), .second, .val (.ref b1), .unset, .unset, .unset] [])) rfl (hb hby at_25) (by decide) (by decide)
  obtain ⟨b3, g3⟩ : ∃ z, z = T2.heap.size := ⟨_, rfl⟩
  rw [← g3] at A3 D3 U3 st3
  refine OGo.st st3 ?_
  have A1_w3 := A1_w2.ext E3
  have ne_b1_b3 : b1 ≠ b3 := Nat.ne_of_lt (Nat.lt_of_lt_of_le A1_w2.lt (Nat.le_of_eq g3.symm))
  have G2_0_w3 := G2_0.ext E3
  have G2_1_w3 := G2_1.ext E3
  have G2_2_w3 := G2_2.ext E3
  have G2_3_w3 := G2_3.ext E3
  have G2_4_w3 := G2_4.ext E3
  have G2_5_w3 := G2_5.ext E3
  have G2_6_w3 := G2_6.ext E3
  have G2_7_w3 := G2_7.ext E3
  have G2_8_w3 := G2_8.ext E3
  have g_b3 : n0 ≤ b3 := Nat.le_trans Z2 (Nat.le_of_eq g3.symm)
  have sz_b3 : h0.size ≤ b3 := Nat.le_trans (K2).1 (Nat.le_of_eq g3.symm)
  have K3 : Keep h0 h3 [] := (K2).ext E3
  have Z3 : n0 ≤ h3.size := Nat.le_trans Z2 E3.1
  have F_lectures_b3 : Fld Z h3 b3 "com/example/slotwright/slotwright/Score" "lectures" "J" (.long (0 : Int64)) := D3 (Or.inr (hw _ (List.mem_of_getElem? (i := 15) rfl))) (ty := .long) (by decide)
  have F_conflicts_b3 : Fld Z h3 b3 "com/example/slotwright/slotwright/Score" "conflicts" "J" (.long (0 : Int64)) := D3 (Or.inr (hw _ (List.mem_of_getElem? (i := 17) rfl))) (ty := .long) (by decide)
  have F_availability_b3 : Fld Z h3 b3 "com/example/slotwright/slotwright/Score" "availability" "J" (.long (0 : Int64)) := D3 (Or.inr (hw _ (List.mem_of_getElem? (i := 19) rfl))) (ty := .long) (by decide)
  have F_roomOccupancy_b3 : Fld Z h3 b3 "com/example/slotwright/slotwright/Score" "roomOccupancy" "J" (.long (0 : Int64)) := D3 (Or.inr (hw _ (List.mem_of_getElem? (i := 21) rfl))) (ty := .long) (by decide)
  have F_roomCapacity_b3 : Fld Z h3 b3 "com/example/slotwright/slotwright/Score" "roomCapacity" "J" (.long (0 : Int64)) := D3 (Or.inr (hw _ (List.mem_of_getElem? (i := 23) rfl))) (ty := .long) (by decide)
  have F_minWorkingDays_b3 : Fld Z h3 b3 "com/example/slotwright/slotwright/Score" "minWorkingDays" "J" (.long (0 : Int64)) := D3 (Or.inr (hw _ (List.mem_of_getElem? (i := 25) rfl))) (ty := .long) (by decide)
  have F_curriculumCompactness_b3 : Fld Z h3 b3 "com/example/slotwright/slotwright/Score" "curriculumCompactness" "J" (.long (0 : Int64)) := D3 (Or.inr (hw _ (List.mem_of_getElem? (i := 27) rfl))) (ty := .long) (by decide)
  have F_roomStability_b3 : Fld Z h3 b3 "com/example/slotwright/slotwright/Score" "roomStability" "J" (.long (0 : Int64)) := D3 (Or.inr (hw _ (List.mem_of_getElem? (i := 29) rfl))) (ty := .long) (by decide)
  have F_skippedLines_b3 : Fld Z h3 b3 "com/example/slotwright/slotwright/Score" "skippedLines" "J" (.long (0 : Int64)) := D3 (Or.inr (hw _ (List.mem_of_getElem? (i := 31) rfl))) (ty := .long) (by decide)
  show OGo p e below s _ _ _ (T3.setTop (mkF m 28 #[.val (.long q0), .second, .val (.long q1), .second, .val (.long q2), .second, .val (.long q3), .second, .val (.long q4), .second, .val (.long q5), .second, .val (.ref b1), .unset, .unset, .unset] [(.ref b3)]))
  refine OGo.st (fun _ k => XS.dup X3.here hx rfl (hb hby at_28) rfl rfl k) ?_
  show OGo p e below s _ _ _ (T3.setTop (mkF m 29 #[.val (.long q0), .second, .val (.long q1), .second, .val (.long q2), .second, .val (.long q3), .second, .val (.long q4), .second, .val (.long q5), .second, .val (.ref b1), .unset, .unset, .unset] [(.ref b3), (.ref b3)]))
  refine OGo.st (fun _ k => XS.lload X3.here hx rfl (hb hby at_29) rfl k) ?_
  show OGo p e below s _ _ _ (T3.setTop (mkF m 31 #[.val (.long q0), .second, .val (.long q1), .second, .val (.long q2), .second, .val (.long q3), .second, .val (.long q4), .second, .val (.long q5), .second, .val (.ref b1), .unset, .unset, .unset] [(.long q5), (.ref b3), (.ref b3)]))
  refine OGo.st (fun _ k => XS.lload X3.here hx rfl (hb hby at_31) rfl k) ?_
  show OGo p e below s _ _ _ (T3.setTop (mkF m 33 #[.val (.long q0), .second, .val (.long q1), .second, .val (.long q2), .second, .val (.long q3), .second, .val (.long q4), .second, .val (.long q5), .second, .val (.ref b1), .unset, .unset, .unset] [(.long q4), (.long q5), (.ref b3), (.ref b3)]))
  refine OGo.st (fun _ k => X3.ldc2Long hx hown (mvT hZ (hw _ (List.mem_of_getElem? (i := 32) rfl))) (g := (mkF m 33 #[.val (.long q0), .second, .val (.long q1), .second, .val (.long q2), .second, .val (.long q3), .second, .val (.long q4), .second, .val (.long q5), .second, .val (.ref b1), .unset, .unset, .unset] [(.long q4), (.long q5), (.ref b3), (.ref b3)])) rfl (hb hby at_33) _ k) ?_
  show OGo p e below s _ _ _ (T3.setTop (mkF m 36 #[.val (.long q0), .second, .val (.long q1), .second, .val (.long q2), .second, .val (.long q3), .second, .val (.long q4), .second, .val (.long q5), .second, .val (.ref b1), .unset, .unset, .unset] [(.long (-1 : Int64)), (.long q4), (.long q5), (.ref b3), (.ref b3)]))
  refine OGo.st (fun _ k => XS.lxor X3.here hx rfl (hb hby at_36) rfl k) ?_
  show OGo p e below s _ _ _ (T3.setTop (mkF m 37 #[.val (.long q0), .second, .val (.long q1), .second, .val (.long q2), .second, .val (.long q3), .second, .val (.long q4), .second, .val (.long q5), .second, .val (.ref b1), .unset, .unset, .unset] [(.long (q4 ^^^ (-1 : Int64))), (.long q5), (.ref b3), (.ref b3)]))
  refine OGo.st (fun _ k => XS.lload X3.here hx rfl (hb hby at_37) rfl k) ?_
  show OGo p e below s _ _ _ (T3.setTop (mkF m 39 #[.val (.long q0), .second, .val (.long q1), .second, .val (.long q2), .second, .val (.long q3), .second, .val (.long q4), .second, .val (.long q5), .second, .val (.ref b1), .unset, .unset, .unset] [(.long q5), (.long (q4 ^^^ (-1 : Int64))), (.long q5), (.ref b3), (.ref b3)]))
  refine OGo.st (fun _ k => XS.lneg X3.here hx rfl (hb hby at_39) rfl k) ?_
  show OGo p e below s _ _ _ (T3.setTop (mkF m 40 #[.val (.long q0), .second, .val (.long q1), .second, .val (.long q2), .second, .val (.long q3), .second, .val (.long q4), .second, .val (.long q5), .second, .val (.ref b1), .unset, .unset, .unset] [(.long (-q5)), (.long (q4 ^^^ (-1 : Int64))), (.long q5), (.ref b3), (.ref b3)]))
  refine OGo.st (fun _ k => XS.lload X3.here hx rfl (hb hby at_40) rfl k) ?_
  show OGo p e below s _ _ _ (T3.setTop (mkF m 42 #[.val (.long q0), .second, .val (.long q1), .second, .val (.long q2), .second, .val (.long q3), .second, .val (.long q4), .second, .val (.long q5), .second, .val (.ref b1), .unset, .unset, .unset] [(.long q4), (.long (-q5)), (.long (q4 ^^^ (-1 : Int64))), (.long q5), (.ref b3), (.ref b3)]))
  refine OGo.st (fun _ k => XS.lload X3.here hx rfl (hb hby at_42) rfl k) ?_
  show OGo p e below s _ _ _ (T3.setTop (mkF m 44 #[.val (.long q0), .second, .val (.long q1), .second, .val (.long q2), .second, .val (.long q3), .second, .val (.long q4), .second, .val (.long q5), .second, .val (.ref b1), .unset, .unset, .unset] [(.long q5), (.long q4), (.long (-q5)), (.long (q4 ^^^ (-1 : Int64))), (.long q5), (.ref b3), (.ref b3)]))
  refine OGo.st (fun _ k => XS.lxor X3.here hx rfl (hb hby at_44) rfl k) ?_
  show OGo p e below s _ _ _ (T3.setTop (mkF m 45 #[.val (.long q0), .second, .val (.long q1), .second, .val (.long q2), .second, .val (.long q3), .second, .val (.long q4), .second, .val (.long q5), .second, .val (.ref b1), .unset, .unset, .unset] [(.long (q4 ^^^ q5)), (.long (-q5)), (.long (q4 ^^^ (-1 : Int64))), (.long q5), (.ref b3), (.ref b3)]))
  refine OGo.st (fun _ k => XS.lloadN X3.here hx rfl (hb hby at_45) rfl k) ?_
  show OGo p e below s _ _ _ (T3.setTop (mkF m 46 #[.val (.long q0), .second, .val (.long q1), .second, .val (.long q2), .second, .val (.long q3), .second, .val (.long q4), .second, .val (.long q5), .second, .val (.ref b1), .unset, .unset, .unset] [(.long q0), (.long (q4 ^^^ q5)), (.long (-q5)), (.long (q4 ^^^ (-1 : Int64))), (.long q5), (.ref b3), (.ref b3)]))
  refine OGo.st (fun _ k => XS.lloadN X3.here hx rfl (hb hby at_46) rfl k) ?_
  show OGo p e below s _ _ _ (T3.setTop (mkF m 47 #[.val (.long q0), .second, .val (.long q1), .second, .val (.long q2), .second, .val (.long q3), .second, .val (.long q4), .second, .val (.long q5), .second, .val (.ref b1), .unset, .unset, .unset] [(.long q1), (.long q0), (.long (q4 ^^^ q5)), (.long (-q5)), (.long (q4 ^^^ (-1 : Int64))), (.long q5), (.ref b3), (.ref b3)]))
  refine OGo.st (fun _ k => XS.lload X3.here hx rfl (hb hby at_47) rfl k) ?_
  show OGo p e below s _ _ _ (T3.setTop (mkF m 49 #[.val (.long q0), .second, .val (.long q1), .second, .val (.long q2), .second, .val (.long q3), .second, .val (.long q4), .second, .val (.long q5), .second, .val (.ref b1), .unset, .unset, .unset] [(.long q2), (.long q1), (.long q0), (.long (q4 ^^^ q5)), (.long (-q5)), (.long (q4 ^^^ (-1 : Int64))), (.long q5), (.ref b3), (.ref b3)]))
  refine OGo.st (fun _ k => XS.lload X3.here hx rfl (hb hby at_49) rfl k) ?_
  show OGo p e below s _ _ _ (T3.setTop (mkF m 51 #[.val (.long q0), .second, .val (.long q1), .second, .val (.long q2), .second, .val (.long q3), .second, .val (.long q4), .second, .val (.long q5), .second, .val (.ref b1), .unset, .unset, .unset] [(.long q3), (.long q2), (.long q1), (.long q0), (.long (q4 ^^^ q5)), (.long (-q5)), (.long (q4 ^^^ (-1 : Int64))), (.long q5), (.ref b3), (.ref b3)]))
  refine OGo.st (fun _ k => XS.lload X3.here hx rfl (hb hby at_51) rfl k) ?_
  show OGo p e below s _ _ _ (T3.setTop (mkF m 53 #[.val (.long q0), .second, .val (.long q1), .second, .val (.long q2), .second, .val (.long q3), .second, .val (.long q4), .second, .val (.long q5), .second, .val (.ref b1), .unset, .unset, .unset] [(.long q4), (.long q3), (.long q2), (.long q1), (.long q0), (.long (q4 ^^^ q5)), (.long (-q5)), (.long (q4 ^^^ (-1 : Int64))), (.long q5), (.ref b3), (.ref b3)]))
  obtain ⟨_, _, ⟨T4, L4, k4, n4⟩, -, X4, ⟨Lc4, hQ4, l4, y4, z4⟩, st4⟩ := X3.specialBack hx (y := (⟨"com/example/slotwright/slotwright/Score", "<init>", "(JJJJJJJJJ)V"⟩ : MethodName)) rfl hown (mvT hZ (hw _ (List.mem_of_getElem? (i := 3) rfl))) (mvT hZ (hw _ (List.mem_of_getElem? (i := 4) rfl))) (mvT hZ (hw _ (List.mem_of_getElem? (i := 5) rfl))) (by decide) (backOf (W := 1) (rm1 l Z a0 hw [] b3 q5 (q4 ^^^ (-1 : Int64)) (-q5) (q4 ^^^ q5) q0 q1 q2 q3 q4 h3 n0 Z3 A3 F_lectures_b3 F_conflicts_b3 F_availability_b3 F_roomOccupancy_b3 F_roomCapacity_b3 F_minWorkingDays_b3 F_curriculumCompactness_b3 F_roomStability_b3 F_skippedLines_b3 g_b3) hZ (hw _ (List.mem_of_getElem? (i := 5) rfl)) (hw _ (List.mem_of_getElem? (i := 2) rfl)) (by decide) (by decide)) (g := (mkF m 53 #[.val (.long q0), .second, .val (.long q1), .second, .val (.long q2), .second, .val (.long q3), .second, .val (.long q4), .second, .val (.long q5), .second, .val (.ref b1), .unset, .unset, .unset] [(.long q4), (.long q3), (.long q2), (.long q1), (.long q0), (.long (q4 ^^^ q5)), (.long (-q5)), (.long (q4 ^^^ (-1 : Int64))), (.long q5), (.ref b3), (.ref b3)])) rfl (by rw [hml]; rfl) (Steps.refl _) (a := b3) (argsL := [(.long q5), (.long (q4 ^^^ (-1 : Int64))), (.long (-q5)), (.long (q4 ^^^ q5)), (.long q0), (.long q1), (.long q2), (.long q3), (.long q4)]) (rest := [(.ref b3)]) (lenOf pd_0_0 rfl) rfl (by show 2 * 0 + _ ≤ _; exact Nat.le_of_eq rfl) (hb hby at_53) (fun _ _ => ⟨rfl, e3, (by decide : 2 + 0 ≤ _), (by decide : 18 + 0 ≤ _)⟩)
  dsimp only [Pt.U, Pt.locs, Pt.cells, Pt.slots] at X4 l4 y4 z4 st4 hQ4
  subst l4 y4 z4
  obtain ⟨rfl, N4q, Kc4, G4_0, G4_1, G4_2, G4_3, G4_4, G4_5, G4_6, G4_7, G4_8⟩ := hQ4
  have A1_w4 := A1_w3.keep Kc4
  have G2_0_w4 := G2_0_w3.keep Kc4 (ninS ne_b1_b3 nin0)
  have G2_1_w4 := G2_1_w3.keep Kc4 (ninS ne_b1_b3 nin0)
  have G2_2_w4 := G2_2_w3.keep Kc4 (ninS ne_b1_b3 nin0)
  have G2_3_w4 := G2_3_w3.keep Kc4 (ninS ne_b1_b3 nin0)
  have G2_4_w4 := G2_4_w3.keep Kc4 (ninS ne_b1_b3 nin0)
  have G2_5_w4 := G2_5_w3.keep Kc4 (ninS ne_b1_b3 nin0)
  have G2_6_w4 := G2_6_w3.keep Kc4 (ninS ne_b1_b3 nin0)
  have G2_7_w4 := G2_7_w3.keep Kc4 (ninS ne_b1_b3 nin0)
  have G2_8_w4 := G2_8_w3.keep Kc4 (ninS ne_b1_b3 nin0)
  have A3_w4 := A3.keep Kc4
  have K4 : Keep h0 T4.heap [] := (K3).trans Kc4 (allS (Or.inr sz_b3) all0)
  have Z4 : n0 ≤ T4.heap.size := Nat.le_trans Z3 Kc4.1
  have N4 := Fr.app N2 N4q
  refine OGo.st (fun _ k => st4.trans k) ?_
  show OGo p e below s _ _ _ (T4.setTop (mkF m 56 #[.val (.long q0), .second, .val (.long q1), .second, .val (.long q2), .second, .val (.long q3), .second, .val (.long q4), .second, .val (.long q5), .second, .val (.ref b1), .unset, .unset, .unset] [(.ref b3)]))
  refine OGo.st (fun _ k => XS.astore X4.here hx rfl (hb hby at_56) rfl rfl (l' := #[.val (.long q0), .second, .val (.long q1), .second, .val (.long q2), .second, .val (.long q3), .second, .val (.long q4), .second, .val (.long q5), .second, .val (.ref b1), .val (.ref b3), .unset, .unset]) rfl k) ?_
  show OGo p e below s _ _ _ (T4.setTop (mkF m 58 #[.val (.long q0), .second, .val (.long q1), .second, .val (.long q2), .second, .val (.long q3), .second, .val (.long q4), .second, .val (.long q5), .second, .val (.ref b1), .val (.ref b3), .unset, .unset] []))
  refine OGo.st (fun _ k => XS.lloadN X4.here hx rfl (hb hby at_58) rfl k) ?_
  show OGo p e below s _ _ _ (T4.setTop (mkF m 59 #[.val (.long q0), .second, .val (.long q1), .second, .val (.long q2), .second, .val (.long q3), .second, .val (.long q4), .second, .val (.long q5), .second, .val (.ref b1), .val (.ref b3), .unset, .unset] [(.long q0)]))
  refine OGo.st (fun _ k => XS.lload X4.here hx rfl (hb hby at_59) rfl k) ?_
  show OGo p e below s _ _ _ (T4.setTop (mkF m 61 #[.val (.long q0), .second, .val (.long q1), .second, .val (.long q2), .second, .val (.long q3), .second, .val (.long q4), .second, .val (.long q5), .second, .val (.ref b1), .val (.ref b3), .unset, .unset] [(.long q3), (.long q0)]))
  refine OGo.st (fun _ k => XS.ladd X4.here hx rfl (hb hby at_61) rfl k) ?_
  show OGo p e below s _ _ _ (T4.setTop (mkF m 62 #[.val (.long q0), .second, .val (.long q1), .second, .val (.long q2), .second, .val (.long q3), .second, .val (.long q4), .second, .val (.long q5), .second, .val (.ref b1), .val (.ref b3), .unset, .unset] [(.long (q0 + q3))]))
  refine OGo.st (fun _ k => XS.lload X4.here hx rfl (hb hby at_62) rfl k) ?_
  show OGo p e below s _ _ _ (T4.setTop (mkF m 64 #[.val (.long q0), .second, .val (.long q1), .second, .val (.long q2), .second, .val (.long q3), .second, .val (.long q4), .second, .val (.long q5), .second, .val (.ref b1), .val (.ref b3), .unset, .unset] [(.long q2), (.long (q0 + q3))]))
  refine OGo.st (fun _ k => XS.lloadN X4.here hx rfl (hb hby at_64) rfl k) ?_
  show OGo p e below s _ _ _ (T4.setTop (mkF m 65 #[.val (.long q0), .second, .val (.long q1), .second, .val (.long q2), .second, .val (.long q3), .second, .val (.long q4), .second, .val (.long q5), .second, .val (.ref b1), .val (.ref b3), .unset, .unset] [(.long q1), (.long q2), (.long (q0 + q3))]))
  refine OGo.st (fun _ k => XS.ladd X4.here hx rfl (hb hby at_65) rfl k) ?_
  show OGo p e below s _ _ _ (T4.setTop (mkF m 66 #[.val (.long q0), .second, .val (.long q1), .second, .val (.long q2), .second, .val (.long q3), .second, .val (.long q4), .second, .val (.long q5), .second, .val (.ref b1), .val (.ref b3), .unset, .unset] [(.long (q2 + q1)), (.long (q0 + q3))]))
  refine OGo.st (fun _ k => XS.ladd X4.here hx rfl (hb hby at_66) rfl k) ?_
  show OGo p e below s _ _ _ (T4.setTop (mkF m 67 #[.val (.long q0), .second, .val (.long q1), .second, .val (.long q2), .second, .val (.long q3), .second, .val (.long q4), .second, .val (.long q5), .second, .val (.ref b1), .val (.ref b3), .unset, .unset] [(.long ((q0 + q3) + (q2 + q1)))]))
  refine OGo.st (fun _ k => XS.lstore X4.here hx rfl (hb hby at_67) rfl (l' := #[.val (.long q0), .second, .val (.long q1), .second, .val (.long q2), .second, .val (.long q3), .second, .val (.long q4), .second, .val (.long q5), .second, .val (.ref b1), .val (.ref b3), .val (.long ((q0 + q3) + (q2 + q1))), .second]) rfl k) ?_
  show OGo p e below s _ _ _ (T4.setTop (mkF m 69 #[.val (.long q0), .second, .val (.long q1), .second, .val (.long q2), .second, .val (.long q3), .second, .val (.long q4), .second, .val (.long q5), .second, .val (.ref b1), .val (.ref b3), .val (.long ((q0 + q3) + (q2 + q1))), .second] []))
  refine OGo.st (fun _ k => XS.aload X4.here hx rfl (hb hby at_69) rfl rfl k) ?_
  show OGo p e below s _ _ _ (T4.setTop (mkF m 71 #[.val (.long q0), .second, .val (.long q1), .second, .val (.long q2), .second, .val (.long q3), .second, .val (.long q4), .second, .val (.long q5), .second, .val (.ref b1), .val (.ref b3), .val (.long ((q0 + q3) + (q2 + q1))), .second] [(.ref b1)]))
  obtain ⟨cq5, kq5, q5a, q5b, q5c⟩ := isOf hZ rfl A1_w4
  obtain ⟨_, _, ⟨T5, L5, k5, n5⟩, -, X5, ⟨Lc5, hQ5, l5, y5, z5⟩, st5⟩ := X4.virtualBack hx (y := (⟨"com/example/slotwright/slotwright/Score", "softCost", "()J"⟩ : MethodName)) (z := (⟨"com/example/slotwright/slotwright/Score", "softCost", "()J"⟩ : MethodName)) hown (mvT hZ (hw _ (List.mem_of_getElem? (i := 33) rfl))) (mvT hZ (hw _ (List.mem_of_getElem? (i := 34) rfl))) (notFace_of_selects (args := #[]) (mvT hZ (hw _ (List.mem_of_getElem? (i := 36) rfl)))) (mvT hZ (hw _ (List.mem_of_getElem? (i := 36) rfl))) (mvT hZ (hw _ (List.mem_of_getElem? (i := 35) rfl))) (by decide) (backOf (W := 0) (rm4 l Z a0 hw [] b1 q0 q1 q2 q3 T4.heap n0 Z4 G2_4_w4 G2_5_w4 G2_6_w4 G2_7_w4) hZ (hw _ (List.mem_of_getElem? (i := 37) rfl)) (hw _ (List.mem_of_getElem? (i := 2) rfl)) (by decide) (by decide)) q5a q5c (g := (mkF m 71 #[.val (.long q0), .second, .val (.long q1), .second, .val (.long q2), .second, .val (.long q3), .second, .val (.long q4), .second, .val (.long q5), .second, .val (.ref b1), .val (.ref b3), .val (.long ((q0 + q3) + (q2 + q1))), .second] [(.ref b1)])) rfl (by rw [hml]; rfl) (Steps.refl _) (argsL := []) (rest := []) (lenOf pd_0_1 rfl) rfl (by show 2 * 0 + _ ≤ _; exact Nat.le_of_eq rfl) (hb hby at_71) (fun _ _ => ⟨rfl, rfl, (by decide : 2 + 0 ≤ _), (by decide : 18 + 0 ≤ _)⟩)
  dsimp only [Pt.U, Pt.locs, Pt.cells, Pt.slots] at X5 l5 y5 z5 st5 hQ5
  subst l5 y5 z5
  obtain ⟨rfl, N5q, e5⟩ := hQ5
  have N5 := Fr.app N4 N5q
  refine OGo.st (fun _ k => st5.trans k) ?_
  show OGo p e below s _ _ _ (T5.setTop (mkF m 74 #[.val (.long q0), .second, .val (.long q1), .second, .val (.long q2), .second, .val (.long q3), .second, .val (.long q4), .second, .val (.long q5), .second, .val (.ref b1), .val (.ref b3), .val (.long ((q0 + q3) + (q2 + q1))), .second] [(.long (f4 q0 q1 q2 q3))]))
  refine OGo.st (fun _ k => XS.lload X5.here hx rfl (hb hby at_74) rfl k) ?_
  show OGo p e below s _ _ _ (T5.setTop (mkF m 76 #[.val (.long q0), .second, .val (.long q1), .second, .val (.long q2), .second, .val (.long q3), .second, .val (.long q4), .second, .val (.long q5), .second, .val (.ref b1), .val (.ref b3), .val (.long ((q0 + q3) + (q2 + q1))), .second] [(.long ((q0 + q3) + (q2 + q1))), (.long (f4 q0 q1 q2 q3))]))
  refine OGo.st (fun _ k => XS.lcmp X5.here hx rfl (hb hby at_76) rfl k) ?_
  show OGo p e below s _ _ _ (T5.setTop (mkF m 77 #[.val (.long q0), .second, .val (.long q1), .second, .val (.long q2), .second, .val (.long q3), .second, .val (.long q4), .second, .val (.long q5), .second, .val (.ref b1), .val (.ref b3), .val (.long ((q0 + q3) + (q2 + q1))), .second] [(.int (lcmpW (f4 q0 q1 q2 q3) ((q0 + q3) + (q2 + q1))))]))
  by_cases hc77 : (f4 q0 q1 q2 q3) = ((q0 + q3) + (q2 + q1))
  · refine OGo.st (fun _ k => XS.ifNo X5.here hx rfl (hb hby at_77) rfl ((if0 _ _).trans (teq ((olc_eq _ _).mpr hc77)).2) k) ?_
    show OGo p e below s _ _ _ (T5.setTop (mkF m 80 #[.val (.long q0), .second, .val (.long q1), .second, .val (.long q2), .second, .val (.long q3), .second, .val (.long q4), .second, .val (.long q5), .second, .val (.ref b1), .val (.ref b3), .val (.long ((q0 + q3) + (q2 + q1))), .second] []))
    refine OGo.st (fun _ k => XS.aload X5.here hx rfl (hb hby at_80) rfl rfl k) ?_
    show OGo p e below s _ _ _ (T5.setTop (mkF m 82 #[.val (.long q0), .second, .val (.long q1), .second, .val (.long q2), .second, .val (.long q3), .second, .val (.long q4), .second, .val (.long q5), .second, .val (.ref b1), .val (.ref b3), .val (.long ((q0 + q3) + (q2 + q1))), .second] [(.ref b3)]))
    obtain ⟨cq6, kq6, q6a, q6b, q6c⟩ := isOf hZ e5 A3_w4
    obtain ⟨_, _, ⟨T6, L6, k6, n6⟩, -, X6, ⟨Lc6, hQ6, l6, y6, z6⟩, st6⟩ := X5.virtualBack hx (y := (⟨"com/example/slotwright/slotwright/Score", "softCost", "()J"⟩ : MethodName)) (z := (⟨"com/example/slotwright/slotwright/Score", "softCost", "()J"⟩ : MethodName)) hown (mvT hZ (hw _ (List.mem_of_getElem? (i := 33) rfl))) (mvT hZ (hw _ (List.mem_of_getElem? (i := 34) rfl))) (notFace_of_selects (args := #[]) (mvT hZ (hw _ (List.mem_of_getElem? (i := 36) rfl)))) (mvT hZ (hw _ (List.mem_of_getElem? (i := 36) rfl))) (mvT hZ (hw _ (List.mem_of_getElem? (i := 35) rfl))) (by decide) (backOf (W := 0) (rm4 l Z a0 hw [] b3 q0 q1 q2 q3 T4.heap n0 Z4 G4_4 G4_5 G4_6 G4_7) hZ (hw _ (List.mem_of_getElem? (i := 37) rfl)) (hw _ (List.mem_of_getElem? (i := 2) rfl)) (by decide) (by decide)) q6a q6c (g := (mkF m 82 #[.val (.long q0), .second, .val (.long q1), .second, .val (.long q2), .second, .val (.long q3), .second, .val (.long q4), .second, .val (.long q5), .second, .val (.ref b1), .val (.ref b3), .val (.long ((q0 + q3) + (q2 + q1))), .second] [(.ref b3)])) rfl (by rw [hml]; rfl) (Steps.refl _) (argsL := []) (rest := []) (lenOf pd_0_1 rfl) rfl (by show 2 * 0 + _ ≤ _; exact Nat.le_of_eq rfl) (hb hby at_82) (fun _ _ => ⟨rfl, e5, (by decide : 2 + 0 ≤ _), (by decide : 18 + 0 ≤ _)⟩)
    dsimp only [Pt.U, Pt.locs, Pt.cells, Pt.slots] at X6 l6 y6 z6 st6 hQ6
    subst l6 y6 z6
    obtain ⟨rfl, N6q, e6⟩ := hQ6
    have N6 := Fr.app N5 N6q
    refine OGo.st (fun _ k => st6.trans k) ?_
    show OGo p e below s _ _ _ (T6.setTop (mkF m 85 #[.val (.long q0), .second, .val (.long q1), .second, .val (.long q2), .second, .val (.long q3), .second, .val (.long q4), .second, .val (.long q5), .second, .val (.ref b1), .val (.ref b3), .val (.long ((q0 + q3) + (q2 + q1))), .second] [(.long (f4 q0 q1 q2 q3))]))
    refine OGo.st (fun _ k => XS.lload X6.here hx rfl (hb hby at_85) rfl k) ?_
    show OGo p e below s _ _ _ (T6.setTop (mkF m 87 #[.val (.long q0), .second, .val (.long q1), .second, .val (.long q2), .second, .val (.long q3), .second, .val (.long q4), .second, .val (.long q5), .second, .val (.ref b1), .val (.ref b3), .val (.long ((q0 + q3) + (q2 + q1))), .second] [(.long ((q0 + q3) + (q2 + q1))), (.long (f4 q0 q1 q2 q3))]))
    refine OGo.st (fun _ k => XS.lcmp X6.here hx rfl (hb hby at_87) rfl k) ?_
    show OGo p e below s _ _ _ (T6.setTop (mkF m 88 #[.val (.long q0), .second, .val (.long q1), .second, .val (.long q2), .second, .val (.long q3), .second, .val (.long q4), .second, .val (.long q5), .second, .val (.ref b1), .val (.ref b3), .val (.long ((q0 + q3) + (q2 + q1))), .second] [(.int (lcmpW (f4 q0 q1 q2 q3) ((q0 + q3) + (q2 + q1))))]))
    refine OGo.st (fun _ k => XS.ifNo X6.here hx rfl (hb hby at_88) rfl ((if0 _ _).trans (teq ((olc_eq _ _).mpr hc77)).2) k) ?_
    show OGo p e below s _ _ _ (T6.setTop (mkF m 91 #[.val (.long q0), .second, .val (.long q1), .second, .val (.long q2), .second, .val (.long q3), .second, .val (.long q4), .second, .val (.long q5), .second, .val (.ref b1), .val (.ref b3), .val (.long ((q0 + q3) + (q2 + q1))), .second] []))
    refine OGo.st (fun _ k => XS.iconst X6.here hx rfl (hb hby at_91) k) ?_
    show OGo p e below s _ _ _ (T6.setTop (mkF m 92 #[.val (.long q0), .second, .val (.long q1), .second, .val (.long q2), .second, .val (.long q3), .second, .val (.long q4), .second, .val (.long q5), .second, .val (.ref b1), .val (.ref b3), .val (.long ((q0 + q3) + (q2 + q1))), .second] [(.int (1 : Int32))]))
    refine OGo.st (fun _ k => XS.goto X6.here hx rfl (pc0 := 92) (pc' := 96) rfl (hb hby at_92) (by decide) (by decide) k) ?_
    show OGo p e below s _ _ _ (T6.setTop (mkF m 96 #[.val (.long q0), .second, .val (.long q1), .second, .val (.long q2), .second, .val (.long q3), .second, .val (.long q4), .second, .val (.long q5), .second, .val (.ref b1), .val (.ref b3), .val (.long ((q0 + q3) + (q2 + q1))), .second] [(.int (1 : Int32))]))
    exact oretN X6 hx Bd.notSynchronized (t := .boolean) Bd.returns (by simp) (hb hby at_96) (z' := (1 : Int32)) (by decide) e6 ⟨(congrArg (fun z => some (Value.int z)) (show (1 : Int32) = f0 q0 q1 q2 q3 q4 q5 from Eq.symm (by unfold f0; exact if_pos hc77))), N6⟩ (by decide) (by decide)
  · refine OGo.st (fun _ k => XS.ifYes X5.here hx rfl (pc0 := 77) (pc' := 95) rfl (hb hby at_77) rfl ((if0 _ _).trans (feq (fun z => hc77 ((olc_eq _ _).mp z))).2) (by decide) (by decide) k) ?_
    show OGo p e below s _ _ _ (T5.setTop (mkF m 95 #[.val (.long q0), .second, .val (.long q1), .second, .val (.long q2), .second, .val (.long q3), .second, .val (.long q4), .second, .val (.long q5), .second, .val (.ref b1), .val (.ref b3), .val (.long ((q0 + q3) + (q2 + q1))), .second] []))
    refine OGo.st (fun _ k => XS.iconst X5.here hx rfl (hb hby at_95) k) ?_
    show OGo p e below s _ _ _ (T5.setTop (mkF m 96 #[.val (.long q0), .second, .val (.long q1), .second, .val (.long q2), .second, .val (.long q3), .second, .val (.long q4), .second, .val (.long q5), .second, .val (.ref b1), .val (.ref b3), .val (.long ((q0 + q3) + (q2 + q1))), .second] [(.int (0 : Int32))]))
    exact oretN X5 hx Bd.notSynchronized (t := .boolean) Bd.returns (by simp) (hb hby at_96) (z' := (0 : Int32)) (by decide) e5 ⟨(congrArg (fun z => some (Value.int z)) (show (0 : Int32) = f0 q0 q1 q2 q3 q4 q5 from Eq.symm (by unfold f0; exact if_neg hc77))), N5⟩ (by decide) (by decide)
theorem own_plain (q0 q1 q2 q3 q4 q5 : Int64) : f0 q0 q1 q2 q3 q4 q5 = 1 := by
  unfold f0 f4
  rw [if_pos (by rw [Int64.add_assoc, Int64.add_assoc, Int64.add_assoc, Int64.add_comm q1, Int64.add_assoc, Int64.add_comm q2, Int64.add_assoc, Int64.add_comm q1])]
set_option maxRecDepth 65536 in
set_option maxHeartbeats 40000000 in
theorem comes_1 {Post : Tables → Env → Array Value → State → Outcome → State → Prop} (hpost : ∀ tb e args s v u, (limb_1_1.after args s (.returned v) u = true ∧ limb_1_2.after args s (.returned v) u = true ∧ True) → FrameEnd s (.returned v) u (Jvm.fieldLocs frame_1_writes args s ++ Jvm.arrayLocs frame_1_arrays args s ++ Jvm.staticLocs frame_1_statics s) 16 128 → Post tb e args s (.returned v) u) :
    ArmFor flags0 classFile x code maxLocals ret World_1 tables_1 room_1 Calls_1 rest_1 Pre_1 Post := by
  intro l hfl _ _ p e ha hc hk s m args below hf hA hF happ hP
  obtain ⟨hcalls, hrest, hpre⟩ := hP
  obtain ⟨-, -, -, hnamed, -, -, -, hat⟩ := (Spec.applies_iff hf).mp happ
  obtain ⟨hg, hn⟩ := and_e (Cond.before_iff.mp (show (Jvm.Cond.and given_1 narrow_1).before args s = true from hpre))
  obtain ⟨gv1, gv2⟩ := and_e hg
  obtain ⟨gv3, gv4⟩ := and_e gv2
  obtain ⟨gv5, gv6⟩ := and_e gv4
  obtain ⟨gv7, gv8⟩ := and_e gv6
  obtain ⟨gv9, gv10⟩ := and_e gv8
  obtain ⟨gv11, gv12⟩ := and_e gv10
  obtain ⟨w0, w1, w2, w3, w4, w5, rfl⟩ : ∃ w0 w1 w2 w3 w4 w5 : Value, args = #[w0, w1, w2, w3, w4, w5] := by
    have hs : args.size = 6 := by simpa [Cond.value, given_1] using gv1
    obtain ⟨L⟩ := args
    match L, hs with
    | [w0, w1, w2, w3, w4, w5], _ => exact ⟨w0, w1, w2, w3, w4, w5, rfl⟩
  have hw := fun d (hd : d ∈ tables_1) => atoms_spec (ws := Jvm.Cond.code x code maxLocals ret :: tables_1) hat d (List.mem_cons_of_mem _ hd)
  have hfit : Fit s := fun {y c} hc i hi => by
    obtain ⟨ha, rfl⟩ := Array.getElem?_eq_some_iff.mp hc
    have q := List.all_eq_true.mp ((Array.all_eq_true_iff_forall_mem.mp hF) _ (Array.getElem_mem ha)) i (List.mem_range.mpr hi)
    simpa [Array.getElem?_eq_getElem hi] using q
  obtain ⟨i0, ei0⟩ := isL_v gv3
  obtain rfl : w0 = (.long i0) := Option.some.inj ei0
  obtain ⟨i1, ei1⟩ := isL_v gv5
  obtain rfl : w1 = (.long i1) := Option.some.inj ei1
  obtain ⟨i2, ei2⟩ := isL_v gv7
  obtain rfl : w2 = (.long i2) := Option.some.inj ei2
  obtain ⟨i3, ei3⟩ := isL_v gv9
  obtain rfl : w3 = (.long i3) := Option.some.inj ei3
  obtain ⟨i4, ei4⟩ := isL_v gv11
  obtain rfl : w4 = (.long i4) := Option.some.inj ei4
  obtain ⟨i5, ei5⟩ := isL_v gv12
  obtain rfl : w5 = (.long i5) := Option.some.inj ei5
  have hpl := own_plain i0 i1 i2 i3 i4 i5
  obtain ⟨n, o, h1, h2, h3, _, L, rfl, ⟨rfl, N⟩, hq⟩ := rm0 l s _ hw tables_1 i0 i1 i2 i3 i4 i5 s.heap s.heap.size (Nat.le_refl _) p e ha hc hk s m _ below hf ((Spec.applies_iff_loose hf).mp happ).1 ⟨rfl, State.Warmed39.refl s, rfl⟩ trivial
  refine ⟨n, _, h1, h2, h3, hpost _ _ _ _ _ _ ⟨Cond.after_iff.mpr rfl, Cond.after_iff.mpr (eq_i res_at (Term.int_eval (1)) (congrArg Value.int hpl)), trivial⟩ ⟨hq.1, hq.2.1, (hq.2.2.sift fun y hy => Or.inr (N y hy)).mono (by decide) (by decide)⟩⟩
theorem main_1_1 : Claimed_1_1 := comes_1 fun _ _ _ _ _ _ h hF => ⟨h.1, hF⟩
theorem main_1_2 : Claimed_1_2 := comes_1 fun _ _ _ _ _ _ h hF => ⟨h.2.1, hF⟩
end Jvm.Pilot.@@N@@
namespace Jvm.Pilot.@@N@@
open Jvm Jvm.ClassFile Sem Op Lib Jvm.Free Jvm.Stand Jvm.Pilot.@@N@@.Jvm.D
/-! MADE BY PROGRAM (witnessworld.py) out of the Statement's table words and the real class files: 10 classes; the members and pool entries that the words name. The judged class is class 1, her method 1. -/
namespace start1
open Jvm.ClassFile
def u (s : String) : CpInfo := .utf8 (stringToUtf16 s)
/-- a pool by its gaps: so many unusable entries, then the entry; so many at the end -/
def gap : Nat → List CpInfo → List CpInfo
  | 0, r => r
  | n + 1, r => .unusable :: gap n r
def poolList (es : List (Nat × CpInfo)) (last : Nat) : List CpInfo := es.foldr (fun e r => gap e.1 (e.2 :: r)) (gap last [])
def pool (es : List (Nat × CpInfo)) (last : Nat) : Array CpInfo := ⟨poolList es last⟩
def fileOf (pool : Array CpInfo) (this : Nat) (attrs : Array Attribute := #[]) (ms : Array MethodInfo := #[]) (fl : Nat := 33) (sup : Nat := 0) (ifs : Array Nat := #[]) (fds : Array FieldInfo := #[]) : ClassFile where
  minorVersion := 0
  majorVersion := 65
  constantPool := pool
  accessFlags := fl
  thisClass := this
  superClass := sup
  interfaces := ifs
  fields := fds
  methods := ms
  attributes := attrs
def plain (name : String) (sup : Option ClassId) : Class where
  name := name
  kind := .ordinary
  loader := none
  accessFlags := 33
  super := sup
  interfaces := #[]
  cf := none
  fields := #[]
  methods := #[]
  instanceTypes := #[]
  staticTypes := #[]
  resolved := #[]
  callSites := []
  init := .initialized
  statics := none
  mirror := none

def pool0 : Array CpInfo := pool [(5, u "<init>"), (0, u "()V"), (1, .class_ 10), (1, u "java/lang/Object")] 113

def k0c0 : Code := { maxStack := 0, maxLocals := 1, code := object_method_1_code, exceptionTable := #[], attributes := #[] }
def k0m0 : Method := { name := "<init>", desc := "()V", sig := { parameters := [], returnType := none }, accessFlags := 1, code := some k0c0 }
/-- java/lang/Object -/
def k0 : Class := { plain "java/lang/Object" none with
  accessFlags := 33
  interfaces := #[]
  cf := some (fileOf pool0 8 #[] #[{ accessFlags := 1, nameIndex := 5, descriptorIndex := 6, attributes := #[] }] 33 0 #[] #[])
  fields := #[]
  methods := #[k0m0]
  instanceTypes := #[]
  staticTypes := #[]
  resolved := Array.replicate 124 none
  statics := none }

def pool1 : Array CpInfo := pool [(2, .class_ 4), (1, u "java/lang/Object"), (0, u "<init>"), (0, u "()V"), (0, .class_ 8), (0, u "com/example/slotwright/slotwright/Score"), (0, .methodref 7 10), (0, .nameAndType 5 11), (0, u "(JJJJJJJJJ)V"), (0, .long 18446744073709551615), (1, .methodref 7 15), (0, .nameAndType 16 17), (0, u "softCost"), (0, u "()J"), (0, .class_ 19), (0, u "com/example/slotwright/slotwright/ScoreSoftCostPinLaw"), (2, u "law"), (0, u "(JJJJJJ)Z")] 3

def k1m0 : Method := { name := "<init>", desc := "()V", sig := { parameters := [], returnType := none }, accessFlags := 1, code := none }
def k1c1 : Code := { maxStack := 20, maxLocals := 16, code := code, exceptionTable := #[], attributes := #[] }
def k1m1 : Method := { name := "law", desc := "(JJJJJJ)Z", sig := { parameters := [.long, .long, .long, .long, .long, .long], returnType := some .boolean }, accessFlags := 9, code := some k1c1 }
/-- com/example/slotwright/slotwright/ScoreSoftCostPinLaw -/
def k1 : Class := { plain "com/example/slotwright/slotwright/ScoreSoftCostPinLaw" (some 0) with
  accessFlags := 49
  interfaces := #[]
  cf := some (fileOf pool1 18 #[] #[{ accessFlags := 1, nameIndex := 5, descriptorIndex := 6, attributes := #[] }, { accessFlags := 9, nameIndex := 22, descriptorIndex := 23, attributes := #[] }] 49 2 #[] #[])
  fields := #[]
  methods := #[k1m0, k1m1]
  instanceTypes := #[]
  staticTypes := #[]
  resolved := Array.replicate 27 none
  statics := none }

def pool2 : Array CpInfo := pool [(1, .methodref 2 3), (0, .class_ 4), (0, .nameAndType 5 6), (0, u "java/lang/Object"), (0, u "<init>"), (0, u "()V"), (0, .class_ 8), (0, u "java/lang/Record")] 13

def k2c0 : Code := { maxStack := 1, maxLocals := 1, code := jdk_30_method_1_code, exceptionTable := #[], attributes := #[] }
def k2m0 : Method := { name := "<init>", desc := "()V", sig := { parameters := [], returnType := none }, accessFlags := 4, code := some k2c0 }
/-- java/lang/Record -/
def k2 : Class := { plain "java/lang/Record" (some 0) with
  accessFlags := 1057
  interfaces := #[]
  cf := some (fileOf pool2 7 #[] #[{ accessFlags := 4, nameIndex := 5, descriptorIndex := 6, attributes := #[] }] 1057 2 #[] #[])
  fields := #[]
  methods := #[k2m0]
  instanceTypes := #[]
  staticTypes := #[]
  resolved := Array.replicate 22 none
  statics := none }

def pool3 : Array CpInfo := pool [(1, .methodref 2 3), (0, .class_ 4), (0, .nameAndType 5 6), (0, u "java/lang/Record"), (0, u "<init>"), (0, u "()V"), (0, .fieldref 8 9), (0, .class_ 10), (0, .nameAndType 11 12), (0, u "com/example/slotwright/slotwright/Score"), (0, u "lectures"), (0, u "J"), (0, .fieldref 8 14), (0, .nameAndType 15 12), (0, u "conflicts"), (0, .fieldref 8 17), (0, .nameAndType 18 12), (0, u "availability"), (0, .fieldref 8 20), (0, .nameAndType 21 12), (0, u "roomOccupancy"), (0, .fieldref 8 23), (0, .nameAndType 24 12), (0, u "roomCapacity"), (0, .fieldref 8 26), (0, .nameAndType 27 12), (0, u "minWorkingDays"), (0, .fieldref 8 29), (0, .nameAndType 30 12), (0, u "curriculumCompactness"), (0, .fieldref 8 32), (0, .nameAndType 33 12), (0, u "roomStability"), (0, .fieldref 8 35), (0, .nameAndType 36 12), (0, u "skippedLines"), (21, u "()J"), (3, u "softCost"), (154, u "(JJJJJJJJJ)V"), (35, u "MIN_WORKING_DAYS_WEIGHT"), (0, u "I"), (2, u "CURRICULUM_COMPACTNESS_WEIGHT")] 96

def k3c0 : Code := { maxStack := 3, maxLocals := 19, code := prog_14_method_1_code, exceptionTable := #[], attributes := #[] }
def k3m0 : Method := { name := "<init>", desc := "(JJJJJJJJJ)V", sig := { parameters := [.long, .long, .long, .long, .long, .long, .long, .long, .long], returnType := none }, accessFlags := 1, code := some k3c0 }
def k3c1 : Code := { maxStack := 4, maxLocals := 1, code := prog_14_method_3_code, exceptionTable := #[], attributes := #[] }
def k3m1 : Method := { name := "softCost", desc := "()J", sig := { parameters := [], returnType := some .long }, accessFlags := 1, code := some k3c1 }
/-- com/example/slotwright/slotwright/Score -/
def k3 : Class := { plain "com/example/slotwright/slotwright/Score" (some 2) with
  accessFlags := 49
  interfaces := #[]
  cf := some (fileOf pool3 8 #[] #[{ accessFlags := 1, nameIndex := 5, descriptorIndex := 217, attributes := #[] }, { accessFlags := 1, nameIndex := 62, descriptorIndex := 58, attributes := #[] }] 49 2 #[] #[{ accessFlags := 18, nameIndex := 11, descriptorIndex := 12, attributes := #[] }, { accessFlags := 18, nameIndex := 15, descriptorIndex := 12, attributes := #[] }, { accessFlags := 18, nameIndex := 18, descriptorIndex := 12, attributes := #[] }, { accessFlags := 18, nameIndex := 21, descriptorIndex := 12, attributes := #[] }, { accessFlags := 18, nameIndex := 24, descriptorIndex := 12, attributes := #[] }, { accessFlags := 18, nameIndex := 27, descriptorIndex := 12, attributes := #[] }, { accessFlags := 18, nameIndex := 30, descriptorIndex := 12, attributes := #[] }, { accessFlags := 18, nameIndex := 33, descriptorIndex := 12, attributes := #[] }, { accessFlags := 18, nameIndex := 36, descriptorIndex := 12, attributes := #[] }, { accessFlags := 24, nameIndex := 253, descriptorIndex := 254, attributes := #[] }, { accessFlags := 24, nameIndex := 257, descriptorIndex := 254, attributes := #[] }])
  fields := #[{ name := "lectures", type := .long, accessFlags := 18, slot := 0, constantValue := 0 }, { name := "conflicts", type := .long, accessFlags := 18, slot := 1, constantValue := 0 }, { name := "availability", type := .long, accessFlags := 18, slot := 2, constantValue := 0 }, { name := "roomOccupancy", type := .long, accessFlags := 18, slot := 3, constantValue := 0 }, { name := "roomCapacity", type := .long, accessFlags := 18, slot := 4, constantValue := 0 }, { name := "minWorkingDays", type := .long, accessFlags := 18, slot := 5, constantValue := 0 }, { name := "curriculumCompactness", type := .long, accessFlags := 18, slot := 6, constantValue := 0 }, { name := "roomStability", type := .long, accessFlags := 18, slot := 7, constantValue := 0 }, { name := "skippedLines", type := .long, accessFlags := 18, slot := 8, constantValue := 0 }, { name := "MIN_WORKING_DAYS_WEIGHT", type := .int, accessFlags := 24, slot := 0, constantValue := 0 }, { name := "CURRICULUM_COMPACTNESS_WEIGHT", type := .int, accessFlags := 24, slot := 1, constantValue := 0 }]
  methods := #[k3m0, k3m1]
  instanceTypes := #[.long, .long, .long, .long, .long, .long, .long, .long, .long]
  staticTypes := #[.int, .int]
  resolved := Array.replicate 354 none
  statics := none }

def pool4 : Array CpInfo := pool [(1, u "java/lang/Cloneable"), (0, .class_ 1), (0, u "java/lang/Object"), (0, .class_ 3)] 3

/-- java/lang/Cloneable -/
def k4 : Class := { plain "java/lang/Cloneable" (some 0) with
  accessFlags := 1537
  interfaces := #[]
  cf := some (fileOf pool4 2 #[] #[] 1537 4 #[] #[])
  fields := #[]
  methods := #[]
  instanceTypes := #[]
  staticTypes := #[]
  resolved := Array.replicate 8 none
  statics := none }

def pool5 : Array CpInfo := pool [(1, u "java/io/Serializable"), (0, .class_ 1), (0, u "java/lang/Object"), (0, .class_ 3)] 3

/-- java/io/Serializable -/
def k5 : Class := { plain "java/io/Serializable" (some 0) with
  accessFlags := 1537
  interfaces := #[]
  cf := some (fileOf pool5 2 #[] #[] 1537 4 #[] #[])
  fields := #[]
  methods := #[]
  instanceTypes := #[]
  staticTypes := #[]
  resolved := Array.replicate 8 none
  statics := none }

/-- the primitive byte -/
def k6 : Class := { plain "byte" none with kind := .primitive 'B', accessFlags := 0x411 }
/-- [B -/
def k7 : Class := { plain "[B" (some 0) with kind := .array 6 .byte, interfaces := #[4, 5], accessFlags := 1041 }

/-- the primitive int -/
def k8 : Class := { plain "int" none with kind := .primitive 'I', accessFlags := 0x411 }
/-- [I -/
def k9 : Class := { plain "[I" (some 0) with kind := .array 8 .int, interfaces := #[4, 5], accessFlags := 1041 }

def heap : Heap := #[]
def classes : Array Class := #[k0, k1, k2, k3, k4, k5, k6, k7, k8, k9]
def interned : List (Array UInt16 × Addr) := []
def slotsUsed : Nat := 0
def theMethod : MethodId := ⟨1, 1⟩
def args0 : Array Value := #[.long 5, .long 5, .long 5, .long 5, .long 5, .long 5]
def aboutOver (below : List Frame) : State where
  vm := { classes := classes, interned := interned.toArray }
  heap := heap
  slotsUsed := slotsUsed
  threads := #[{ frames := .invoking theMethod args0 :: below }]
def below0 : List Frame := [.native { method := ⟨0, 0⟩, args := #[] }]
def about1 : State := aboutOver below0
def p0 : Program := .bare "" "" ""
def e0 : Env := launch0.env 0 0 0
theorem w_frames : about1.frames = Frame.invoking theMethod args0 :: below0 := rfl
set_option maxRecDepth 65536 in
theorem w_args : argsFit about1.vm theMethod args0 = true := by decide +kernel
set_option maxRecDepth 65536 in
theorem w_heap : heapFits about1 = true := by decide +kernel
set_option maxRecDepth 65536 in
theorem w_runnable : about1.curStatus? = some .runnable := by decide +kernel
set_option maxRecDepth 65536 in
theorem w_alone : about1.alone = true := by decide +kernel
set_option maxRecDepth 65536 in
theorem w_named : about1.methodNamed? x = some theMethod := by decide +kernel
set_option maxRecDepth 65536 in
theorem w_hears : about1.hears theMethod below0 = true := by decide +kernel
set_option maxRecDepth 65536 in
theorem w_ripe : about1.ripe theMethod args0 below0 = true := by decide +kernel
theorem w_running : about1.status = .running := rfl
set_option maxRecDepth 65536 in
theorem w_room : about1.hasRoom e0.platform room_1 = true :=
  launch0.hasRoom_least _ room_1 (by decide +kernel) (by decide +kernel) (by decide +kernel) (by decide +kernel) (by decide +kernel) (by decide +kernel)
theorem allAtoms_all (ts : List Jvm.Cond) (a : Array Jvm.Value) (st : Jvm.State) : (allAtoms ts).before a st = ts.all (fun c => c.before a st) := by
  induction ts with
  | nil => rfl
  | cons c t ih =>
    show (Jvm.Cond.and c (allAtoms t)).before a st = _
    rw [Jvm.Cond.before_and, ih, List.all_cons]
def words1 : List Jvm.Cond := Jvm.Cond.code x code maxLocals ret :: tables_1
/-- a 'code' word, met by the world's own term for the bytes: nothing is compared byte by byte -/
theorem code_word {y : MethodName} {bytes : ByteArray} {mx : Nat} {rt : Option FieldType} {a : Array Value} {s : State} {m : MethodId} {meth : Method} {c : Code} (h1 : s.methodNamed? y = some m) (h2 : s.vm.method? m = some meth) (h3 : meth.code = some c) (h4 : c.code = bytes)
    (h5 : (c.maxLocals == mx && c.exceptionTable.isEmpty && decide (c.maxStack ≤ mostOperands) && decide (meth.sig.returnType = rt) && !meth.locks && decide (parseMethodDescriptor y.desc = some meth.sig)) = true) : (Jvm.Cond.code y bytes mx rt).before a s = true := by
  simp only [Bool.and_eq_true, beq_iff_eq, Bool.not_eq_true', decide_eq_true_eq] at h5
  obtain ⟨⟨⟨⟨⟨g1, g2⟩, g3⟩, g4⟩, g5⟩, g6⟩ := h5
  simp [Cond.before, Cond.holds, Cond.value, h1, h2, h3, h4, g1, g2, g3, g4, g5, g6]
def isCode : Jvm.Cond → Bool
  | .code _ _ _ _ => true
  | _ => false
theorem all_split {L : List Jvm.Cond} {P : Jvm.Cond → Bool} (h1 : L.all (fun c => isCode c || P c) = true) (h2 : ∀ c ∈ L.filter isCode, P c = true) : L.all P = true := by
  refine List.all_eq_true.mpr fun c hc => ?_
  have h := List.all_eq_true.mp h1 c hc
  rcases Bool.eq_false_or_eq_true (isCode c) with hi | hi
  · exact h2 c (List.mem_filter.mpr ⟨hc, hi⟩)
  · simpa [hi] using h
set_option maxRecDepth 65536 in
theorem w_c0 : (Jvm.Cond.code x code maxLocals ret).before args0 about1 = true := code_word (m := ⟨1, 1⟩) (meth := k1m1) (c := k1c1) (by decide +kernel) rfl rfl rfl (by decide +kernel)
set_option maxRecDepth 65536 in
theorem w_c1 : (Jvm.Cond.code ({ cls := "com/example/slotwright/slotwright/Score", name := "<init>", desc := "(JJJJJJJJJ)V" } : Jvm.MethodName) prog_14_method_1_code (19 : Nat) (Option.none : Option Jvm.ClassFile.FieldType)).before args0 about1 = true := code_word (m := ⟨3, 0⟩) (meth := k3m0) (c := k3c0) (by decide +kernel) rfl rfl rfl (by decide +kernel)
set_option maxRecDepth 65536 in
theorem w_c2 : (Jvm.Cond.code ({ cls := "java/lang/Record", name := "<init>", desc := "()V" } : Jvm.MethodName) jdk_30_method_1_code (1 : Nat) (Option.none : Option Jvm.ClassFile.FieldType)).before args0 about1 = true := code_word (m := ⟨2, 0⟩) (meth := k2m0) (c := k2c0) (by decide +kernel) rfl rfl rfl (by decide +kernel)
set_option maxRecDepth 65536 in
theorem w_c3 : (Jvm.Cond.code ({ cls := "java/lang/Object", name := "<init>", desc := "()V" } : Jvm.MethodName) object_method_1_code (1 : Nat) (Option.none : Option Jvm.ClassFile.FieldType)).before args0 about1 = true := code_word (m := ⟨0, 0⟩) (meth := k0m0) (c := k0c0) (by decide +kernel) rfl rfl rfl (by decide +kernel)
set_option maxRecDepth 65536 in
theorem w_c4 : (Jvm.Cond.code ({ cls := "com/example/slotwright/slotwright/Score", name := "softCost", desc := "()J" } : Jvm.MethodName) prog_14_method_3_code (1 : Nat) (Option.some Jvm.ClassFile.FieldType.long)).before args0 about1 = true := code_word (m := ⟨3, 1⟩) (meth := k3m1) (c := k3c1) (by decide +kernel) rfl rfl rfl (by decide +kernel)
def codes1 : List Jvm.Cond := [Jvm.Cond.code x code maxLocals ret, Jvm.Cond.code ({ cls := "com/example/slotwright/slotwright/Score", name := "<init>", desc := "(JJJJJJJJJ)V" } : Jvm.MethodName) prog_14_method_1_code (19 : Nat) (Option.none : Option Jvm.ClassFile.FieldType), Jvm.Cond.code ({ cls := "java/lang/Record", name := "<init>", desc := "()V" } : Jvm.MethodName) jdk_30_method_1_code (1 : Nat) (Option.none : Option Jvm.ClassFile.FieldType), Jvm.Cond.code ({ cls := "java/lang/Object", name := "<init>", desc := "()V" } : Jvm.MethodName) object_method_1_code (1 : Nat) (Option.none : Option Jvm.ClassFile.FieldType), Jvm.Cond.code ({ cls := "com/example/slotwright/slotwright/Score", name := "softCost", desc := "()J" } : Jvm.MethodName) prog_14_method_3_code (1 : Nat) (Option.some Jvm.ClassFile.FieldType.long)]
set_option maxRecDepth 65536 in
theorem codes_eq : words1.filter isCode = codes1 := rfl
theorem w_codes : ∀ c ∈ words1.filter isCode, c.before args0 about1 = true := by
  rw [codes_eq]
  intro c hc
  simp only [codes1, List.mem_cons, List.not_mem_nil, or_false] at hc
  rcases hc with rfl | rfl | rfl | rfl | rfl
  · exact w_c0
  · exact w_c1
  · exact w_c2
  · exact w_c3
  · exact w_c4
set_option maxRecDepth 65536 in
theorem w_t1 : (words1.take 24).all (fun c => isCode c || c.before args0 about1) = true := by decide +kernel
set_option maxRecDepth 65536 in
theorem w_t2 : (words1.drop 24).all (fun c => isCode c || c.before args0 about1) = true := by decide +kernel
theorem w_tables : (allAtoms (Jvm.Cond.code x code maxLocals ret :: tables_1)).before args0 about1 = true := by
  rw [allAtoms_all]
  show words1.all (fun c => c.before args0 about1) = true
  refine all_split ?_ w_codes
  rw [← List.take_append_drop 24 words1, List.all_append, w_t1, w_t2]
  rfl
set_option maxRecDepth 65536 in
theorem w_case : (Jvm.Cond.and given_1 narrow_1).before args0 about1 = true := by decide +kernel
theorem w_applies : (headSpec (Jvm.Cond.code x code maxLocals ret :: tables_1) room_1).applies x e0.platform about1 = true :=
  (Spec.applies_iff w_frames).mpr ⟨w_running, w_runnable, w_alone, w_named, w_hears, w_ripe, w_room, w_tables⟩
theorem atStart : AtStart classFile x code maxLocals ret World_1 tables_1 room_1 Calls_1 rest_1 Pre_1 launch0 p0 e0 about1 theMethod args0 below0 :=
  ⟨lists_1, trivial, launch0.admits_env _ _ _, launch0.least_env, fairChoices_fair.cas, fairChoices_fair.clock, w_frames, w_args, w_heap, w_applies, trivial, trivial, w_case⟩
end start1
theorem witness_1 : WitnessClaimed_1 := ⟨start1.p0, start1.e0, start1.about1, start1.theMethod, start1.args0, start1.below0, start1.atStart⟩
end Jvm.Pilot.@@N@@
