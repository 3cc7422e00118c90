import JvmDerived
import JvmDerived.Pilot.@@N@@Statement
import JvmDerived.Pilot.@@N@@Code
set_option linter.unusedVariables false
set_option linter.unusedSimpArgs false
@@BLOCK:NumsL.lean.txt@@
namespace Jvm.RoadKit
open Sem ClassFile Op Lib Jvm.Stand Jvm.Free Jvm.LawKit
section Own
variable {p : Program} {l : Launch} {e : Env} {R : Room} {s : State} {m : MethodId} {args : Array Value} {below : List Frame} {meth : Method} {c : Code} {T : State} {locs : List Loc} {cells slots : Nat}
/-- from t the run ends in a return of which Q holds -/
def OGo (p : Program) (e : Env) (below : List Frame) (s : State) (Q : Option Value → Heap → List Loc → Prop) (C N : Nat) (t : State) : Prop :=
  ∃ s₂ o, Steps p.tables e below t s₂ ∧ s₂.status = .running ∧ Ended s₂ below o ∧ ∃ v L, o = .returned v ∧ Q v s₂.heap L ∧ FrameEnd s o s₂ L C N
theorem OGo.st {Q : Option Value → Heap → List Loc → Prop} {C N : Nat} {t t' : State} (k : ∀ target, Steps p.tables e below t' target → Steps p.tables e below t target) (h : OGo p e below s Q C N t') : OGo p e below s Q C N t := by
  obtain ⟨s₂, o, a, r⟩ := h; exact ⟨s₂, o, k _ a, r⟩
theorem oretW {Q : Option Value → Heap → List Loc → Prop} {C N : Nat} (X : Stand p l e R s m args below meth c T locs cells slots) (hx : p.tables.exec = Jvm.exec) (hlk : meth.locks = false) {pc : Nat} {Ls : Array Slot} {w : Value} {t : FieldType} {i : Instr} {rest : List Value} (hret : meth.sig.returnType = some t) (hn : narrow t w = w)
    (hi : (i = .ireturn ∧ (t = .int ∨ t = .boolean ∨ t = .byte ∨ t = .char ∨ t = .short) ∧ ∃ z, w = .int z) ∨ (i = .lreturn ∧ t = .long ∧ ∃ z, w = .long z) ∨ (i = .dreturn ∧ t = .double ∧ ∃ z, w = .double z) ∨ (i = .freturn ∧ t = .float ∧ ∃ z, w = .float z) ∨ (i = .areturn ∧ t.isReference = true ∧ w.isRef = true))
    (hd : decode c.code pc = .ok (i, 1)) {h : Heap} (hh : T.heap = h) (hq : Q (some w) h locs) (hC : cells ≤ C) (hN : slots ≤ N) : OGo p e below s Q C N (T.setTop (mkF m pc Ls (w :: rest))) := by
  obtain ⟨fs, hr, hrun, hended, hW, hsame⟩ := X.leave (v := some w) (fun h => by rw [hret] at h; cases h) hlk
  exact ⟨_, _, retOut X hx hret hn hi hd hr, hrun, hended, _, _, rfl, hh ▸ hq, ⟨_, rfl⟩, hW, hsame.mono hC hN⟩
theorem oretI {Q : Option Value → Heap → List Loc → Prop} {C N : Nat} (X : Stand p l e R s m args below meth c T locs cells slots) (hx : p.tables.exec = Jvm.exec) (hlk : meth.locks = false) {pc : Nat} {Ls : Array Slot} {z : Int32} {rest : List Value} (hret : meth.sig.returnType = some .int)
    (hd : decode c.code pc = .ok (.ireturn, 1)) {h : Heap} (hh : T.heap = h) (hq : Q (some (.int z)) h locs) (hC : cells ≤ C) (hN : slots ≤ N) : OGo p e below s Q C N (T.setTop (mkF m pc Ls (.int z :: rest))) :=
  oretW X hx hlk hret rfl (Or.inl ⟨rfl, Or.inl rfl, _, rfl⟩) hd hh hq hC hN
theorem oretJ {Q : Option Value → Heap → List Loc → Prop} {C N : Nat} (X : Stand p l e R s m args below meth c T locs cells slots) (hx : p.tables.exec = Jvm.exec) (hlk : meth.locks = false) {pc : Nat} {Ls : Array Slot} {z : Int64} {rest : List Value} (hret : meth.sig.returnType = some .long)
    (hd : decode c.code pc = .ok (.lreturn, 1)) {h : Heap} (hh : T.heap = h) (hq : Q (some (.long z)) h locs) (hC : cells ≤ C) (hN : slots ≤ N) : OGo p e below s Q C N (T.setTop (mkF m pc Ls (.long z :: rest))) :=
  oretW X hx hlk hret rfl (Or.inr (Or.inl ⟨rfl, rfl, _, rfl⟩)) hd hh hq hC hN
theorem onarR {t : FieldType} {w : Value} (ht : t.isReference = true) (hw : w.isRef = true) : narrow t w = w := by
  cases t <;> first | (cases ht; done) | (cases w <;> first | rfl | (cases hw; done))
theorem ofitR {t : FieldType} {w : Value} (ht : t.isReference = true) (hw : w.isRef = true) : fits t w = true := by
  cases t <;> first | (cases ht; done) | (cases w <;> first | rfl | (cases hw; done))
theorem oretA {Q : Option Value → Heap → List Loc → Prop} {C N : Nat} (X : Stand p l e R s m args below meth c T locs cells slots) (hx : p.tables.exec = Jvm.exec) (hlk : meth.locks = false) {pc : Nat} {Ls : Array Slot} {w : Value} {t : FieldType} {rest : List Value} (hret : meth.sig.returnType = some t) (ht : t.isReference = true) (hw : w.isRef = true)
    (hd : decode c.code pc = .ok (.areturn, 1)) {h : Heap} (hh : T.heap = h) (hq : Q (some w) h locs) (hC : cells ≤ C) (hN : slots ≤ N) : OGo p e below s Q C N (T.setTop (mkF m pc Ls (w :: rest))) :=
  oretW X hx hlk hret (onarR ht hw) (Or.inr (Or.inr (Or.inr (Or.inr ⟨rfl, ht, hw⟩)))) hd hh hq hC hN
theorem oretN {Q : Option Value → Heap → List Loc → Prop} {C N : Nat} (X : Stand p l e R s m args below meth c T locs cells slots) (hx : p.tables.exec = Jvm.exec) (hlk : meth.locks = false) {pc : Nat} {Ls : Array Slot} {z z' : Int32} {t : FieldType} {rest : List Value} (hret : meth.sig.returnType = some t) (ht : t = .boolean ∨ t = .byte ∨ t = .char ∨ t = .short)
    (hd : decode c.code pc = .ok (.ireturn, 1)) (hz : nar t z = z') {h : Heap} (hh : T.heap = h) (hq : Q (some (.int z')) h locs) (hC : cells ≤ C) (hN : slots ≤ N) : OGo p e below s Q C N (T.setTop (mkF m pc Ls (.int z :: rest))) := by
  subst hz
  obtain ⟨fs, hr, hrun, hended, hW, hsame⟩ := X.leave (v := some (.int (nar t z))) (fun h => by rw [hret] at h; cases h) hlk
  exact ⟨_, _, retN X hx hret ht hd hr, hrun, hended, _, _, rfl, hh ▸ hq, ⟨_, rfl⟩, hW, hsame.mono hC hN⟩
theorem oret0 {Q : Option Value → Heap → List Loc → Prop} {C N : Nat} (X : Stand p l e R s m args below meth c T locs cells slots) (hx : p.tables.exec = Jvm.exec) (hlk : meth.locks = false) {pc : Nat} {Ls : Array Slot} (hret : meth.sig.returnType = none)
    (hd : decode c.code pc = .ok (.return_, 1)) {h : Heap} (hh : T.heap = h) (hq : Q none h locs) (hC : cells ≤ C) (hN : slots ≤ N) : OGo p e below s Q C N (T.setTop (mkF m pc Ls [])) := by
  obtain ⟨fs, hr, hrun, hended, hW, hsame⟩ := X.leave (v := none) (fun _ => rfl) hlk
  exact ⟨_, _, X.returnOut hx hret hd hr, hrun, hended, _, _, rfl, hh ▸ hq, ⟨_, rfl⟩, hW, hsame.mono hC hN⟩
theorem olrem {tb : Tables} [Ours tb] {target : State} {g : JFrame} (h : At T m c below) (hx : tb.exec = Jvm.exec) (hg : g.method = m) {x y : Int64} {rest : List Value} (hd : decode c.code g.pc = .ok (.lrem, 1)) (hs : g.stack = .long y :: .long x :: rest) (hy : y ≠ 0)
    (hr : Steps tb e below (T.setTop { g with pc := g.pc + 1, stack := .long (x % y) :: rest }) target) : Steps tb e below (T.setTop g) target :=
  XS.lrem h hx hg hd hs hy (by rw [lrem_mod]; exact hr)
theorem olc_lt (x y : Int64) : lcmpW x y < 0 ↔ x < y := by rw [lcW]; exact lc_lt x y
theorem olc_gt (x y : Int64) : 0 < lcmpW x y ↔ y < x := by rw [lcW]; exact lc_gt x y
theorem olc_eq (x y : Int64) : lcmpW x y = 0 ↔ x = y := by rw [lcW]; exact lc_eq x y
theorem onilP {v : Int} : ∀ q ∈ ([] : List (Int × Int)), q.1 ≠ v := fun _ q => nomatch q
theorem oconsP {v a b : Int} {l : List (Int × Int)} (h : a ≠ v) (t : ∀ q ∈ l, q.1 ≠ v) : ∀ q ∈ (a, b) :: l, q.1 ≠ v := fun q hq => (List.mem_cons.mp hq).elim (fun u => by rw [u]; exact h) (t q)
theorem oint_ne {z k : Int32} {K : Int} (h : ¬ z = k) (hk : k.toInt = K) : K ≠ z.toInt := fun q => h (Int32.toInt_inj.mp (by rw [hk, q]))
theorem ofld_eq {Z : State} {t : Term} {C n d : String} {a : Addr} {k : Int32} (h : (Cond.eq (Term.field t C n d) (Term.int k)).value args Z none Z [] = some true) (ev : t.eval args Z none [] Z = some (.ref a)) : Fld Z Z.heap a C n d (.int k) := by
  apply Fld.start
  have q := fld_at (args := args) (first := Z) (o := none) (idx := []) (s := Z) (C := C) (n := n) (dd := d) ev
  simp only [Cond.value, q, Term.int_eval] at h
  cases hv : Z.fieldOf? a C n d with
  | none => simp [hv] at h
  | some v => cases v <;> simp [hv] at h <;> simp [h]
section Imp
variable {E a b : Int32}
theorem oLL (h : E < a) (k : a.toInt ≤ b.toInt) : E < b := by rw [Int32.lt_iff_toInt_lt] at *; omega
theorem oLnG (h : E < a) (k : a.toInt ≤ b.toInt + 1) : ¬ b < E := by rw [Int32.lt_iff_toInt_lt] at *; omega
theorem oLnE (h : E < a) (k : a.toInt ≤ b.toInt) : ¬ E = b := fun q => by subst q; rw [Int32.lt_iff_toInt_lt] at h; omega
theorem oGG (h : a < E) (k : b.toInt ≤ a.toInt) : b < E := by rw [Int32.lt_iff_toInt_lt] at *; omega
theorem oGnL (h : a < E) (k : b.toInt ≤ a.toInt + 1) : ¬ E < b := by rw [Int32.lt_iff_toInt_lt] at *; omega
theorem oGnE (h : a < E) (k : b.toInt ≤ a.toInt) : ¬ E = b := fun q => by subst q; rw [Int32.lt_iff_toInt_lt] at h; omega
theorem onLnL (h : ¬ E < a) (k : b.toInt ≤ a.toInt) : ¬ E < b := by rw [Int32.lt_iff_toInt_lt] at *; omega
theorem onLG (h : ¬ E < a) (k : b.toInt < a.toInt) : b < E := by rw [Int32.lt_iff_toInt_lt] at *; omega
theorem onLnE (h : ¬ E < a) (k : b.toInt < a.toInt) : ¬ E = b := fun q => by subst q; rw [Int32.lt_iff_toInt_lt] at h; omega
theorem onGnG (h : ¬ a < E) (k : a.toInt ≤ b.toInt) : ¬ b < E := by rw [Int32.lt_iff_toInt_lt] at *; omega
theorem onGL (h : ¬ a < E) (k : a.toInt < b.toInt) : E < b := by rw [Int32.lt_iff_toInt_lt] at *; omega
theorem onGnE (h : ¬ a < E) (k : a.toInt < b.toInt) : ¬ E = b := fun q => by subst q; rw [Int32.lt_iff_toInt_lt] at h; omega
end Imp
end Own
end Jvm.RoadKit
namespace Jvm.Pilot.@@N@@
open Jvm Jvm.ClassFile Sem Op Lib Jvm.Free Jvm.Stand Jvm.LawKit Jvm.RoadKit Bundle Jvm.Pilot.@@N@@.Jvm.D

theorem d3_0 : decode jdk_29_method_69_code 0 = .ok (.iload_n 0, 1) := by decide +kernel
theorem d3_1 : decode jdk_29_method_69_code 1 = .ok (.iload_n 1, 1) := by decide +kernel
theorem d3_2 : decode jdk_29_method_69_code 2 = .ok (.if_icmp .gt 7, 3) := by decide +kernel
theorem d3_5 : decode jdk_29_method_69_code 5 = .ok (.iload_n 0, 1) := by decide +kernel
theorem d3_6 : decode jdk_29_method_69_code 6 = .ok (.goto 4, 3) := by decide +kernel
theorem d3_9 : decode jdk_29_method_69_code 9 = .ok (.iload_n 1, 1) := by decide +kernel
theorem d3_10 : decode jdk_29_method_69_code 10 = .ok (.ireturn, 1) := by decide +kernel
theorem ef_3 (m : MethodId) (p0 : Int32) (p1 : Int32) : entryFrame m #[(.int p0), (.int p1)] 2 = mkF m 0 #[.val (.int p0), .val (.int p1)] [] := by first | (simp [entryFrame, mkF, argsToLocals, Value.category]; done) | rfl
def f3 (p0 : Int32) (p1 : Int32) : Int32 := (if p1 < p0 then p1 else p0)
def Q3 (Z : State) (p0 : Int32) (p1 : Int32) (h0 : Heap) (n0 : Nat) (v : Option Value) (h : Heap) (L : List Loc) : Prop := v = some (.int (f3 p0 p1)) ∧ Fr n0 L ∧ h = h0
set_option maxRecDepth 65536 in
set_option maxHeartbeats 40000000 in
theorem rm3 (l : Launch) (Z : State) (a0 : Array Value) (hw : ∀ d ∈ tables_1, d.before a0 Z = true) (ws : List Jvm.Cond) (p0 : Int32) (p1 : Int32) (h0 : Heap) (n0 : Nat) (Z0 : n0 ≤ h0.size) :
    MetFree l (⟨"java/lang/Math", "min", "(II)I"⟩ : MethodName) (head1 (Jvm.Cond.code (⟨"java/lang/Math", "min", "(II)I"⟩ : MethodName) jdk_29_method_69_code 2 (some .int) :: ws) ({ frames := 0, cells := 0, slots := 0, locals := 0 } : Room)) (fun a U => a = #[(.int p0), (.int p1)] ∧ Z.Warmed39 U.vm ∧ U.heap = h0) (fun _ _ _ _ _ => True) (fun _ U o U' => ∃ v L, o = .returned v ∧ Q3 Z p0 p1 h0 n0 v U'.heap L ∧ FrameEnd U o U' L ({ frames := 0, cells := 0, slots := 0, locals := 0 } : Room).cells ({ frames := 0, cells := 0, slots := 0, locals := 0 } : Room).slots) := by
  refine MetFree.of_bodySF (Jvm.Free.JP.mathPlain rfl (by decide +kernel)) hisR ?_
  intro p e s m args below meth c s₁ Bd hml0 hP hK
  obtain ⟨rfl, hZ, hh⟩ := hP
  have hx := Bd.exec
  have hby := Bd.bytes
  have hml : c.maxLocals = 2 := hml0
  have hown : s.vm.findClass "java/lang/Math" = some m.cls := findClass_of_methodNamed Bd.named
  have hnm := (name_of_methodNamed Bd.named Bd.method).1
  have X0 : Stand p l e ({ frames := 0, cells := 0, slots := 0, locals := 0 } : Room) s m #[(.int p0), (.int p1)] below meth c s₁ [] 0 0 := Stand.of_body Bd
  have e0 : s₁.heap = h0 := by rw [← hh, Bd.state]; rfl
  have N0 := Fr.nil n0
  show OGo p e below s (Q3 Z p0 p1 h0 n0) ({ frames := 0, cells := 0, slots := 0, locals := 0 } : Room).cells ({ frames := 0, cells := 0, slots := 0, locals := 0 } : Room).slots _
  refine OGo.st (fun _ k => castTop (ef_3 m p0 p1) k) ?_
  show OGo p e below s _ _ _ (s₁.setTop (mkF m 0 #[.val (.int p0), .val (.int p1)] []))
  refine OGo.st (fun _ k => XS.iloadN X0.here hx rfl (hb hby d3_0) rfl k) ?_
  show OGo p e below s _ _ _ (s₁.setTop (mkF m 1 #[.val (.int p0), .val (.int p1)] [(.int p0)]))
  refine OGo.st (fun _ k => XS.iloadN X0.here hx rfl (hb hby d3_1) rfl k) ?_
  show OGo p e below s _ _ _ (s₁.setTop (mkF m 2 #[.val (.int p0), .val (.int p1)] [(.int p1), (.int p0)]))
  by_cases hc2 : p1 < p0
  · refine OGo.st (fun _ k => XS.icmpYes X0.here hx rfl (pc0 := 2) (pc' := 9) rfl (hb hby d3_2) rfl (tlt hc2).2.2.1 (by decide) (by decide) k) ?_
    show OGo p e below s _ _ _ (s₁.setTop (mkF m 9 #[.val (.int p0), .val (.int p1)] []))
    refine OGo.st (fun _ k => XS.iloadN X0.here hx rfl (hb hby d3_9) rfl k) ?_
    show OGo p e below s _ _ _ (s₁.setTop (mkF m 10 #[.val (.int p0), .val (.int p1)] [(.int p1)]))
    exact oretI X0 hx Bd.notSynchronized Bd.returns (hb hby d3_10) e0 ⟨(congrArg (fun z => some (Value.int z)) (show p1 = f3 p0 p1 from Eq.symm (by unfold f3; exact if_pos hc2))), N0, rfl⟩ (by decide) (by decide)
  · refine OGo.st (fun _ k => XS.icmpNo X0.here hx rfl (hb hby d3_2) rfl (flt hc2).2.2.1 k) ?_
    show OGo p e below s _ _ _ (s₁.setTop (mkF m 5 #[.val (.int p0), .val (.int p1)] []))
    refine OGo.st (fun _ k => XS.iloadN X0.here hx rfl (hb hby d3_5) rfl k) ?_
    show OGo p e below s _ _ _ (s₁.setTop (mkF m 6 #[.val (.int p0), .val (.int p1)] [(.int p0)]))
    refine OGo.st (fun _ k => XS.goto X0.here hx rfl (pc0 := 6) (pc' := 10) rfl (hb hby d3_6) (by decide) (by decide) k) ?_
    show OGo p e below s _ _ _ (s₁.setTop (mkF m 10 #[.val (.int p0), .val (.int p1)] [(.int p0)]))
    exact oretI X0 hx Bd.notSynchronized Bd.returns (hb hby d3_10) e0 ⟨(congrArg (fun z => some (Value.int z)) (show p0 = f3 p0 p1 from Eq.symm (by unfold f3; exact if_neg hc2))), N0, rfl⟩ (by decide) (by decide)
theorem ef_3L0 (m : MethodId) : entryFrame m #[(.int (0 : Int32)), (.int (1 : Int32))] 2 = mkF m 0 #[.val (.int (0 : Int32)), .val (.int (1 : Int32))] [] := by first | (simp [entryFrame, mkF, argsToLocals, Value.category]; done) | rfl
def f3L0 : Int32 := (0 : Int32)
def Q3L0 (Z : State) (h0 : Heap) (n0 : Nat) (v : Option Value) (h : Heap) (L : List Loc) : Prop := v = some (.int (f3L0)) ∧ Fr n0 L ∧ h = h0
set_option maxRecDepth 65536 in
set_option maxHeartbeats 40000000 in
theorem rm3L0 (l : Launch) (Z : State) (a0 : Array Value) (hw : ∀ d ∈ tables_1, d.before a0 Z = true) (ws : List Jvm.Cond) (h0 : Heap) (n0 : Nat) (Z0 : n0 ≤ h0.size) :
    MetFree l (⟨"java/lang/Math", "min", "(II)I"⟩ : MethodName) (head1 (Jvm.Cond.code (⟨"java/lang/Math", "min", "(II)I"⟩ : MethodName) jdk_29_method_69_code 2 (some .int) :: ws) ({ frames := 0, cells := 0, slots := 0, locals := 0 } : Room)) (fun a U => a = #[(.int (0 : Int32)), (.int (1 : Int32))] ∧ Z.Warmed39 U.vm ∧ U.heap = h0) (fun _ _ _ _ _ => True) (fun _ U o U' => ∃ v L, o = .returned v ∧ Q3L0 Z h0 n0 v U'.heap L ∧ FrameEnd U o U' L ({ frames := 0, cells := 0, slots := 0, locals := 0 } : Room).cells ({ frames := 0, cells := 0, slots := 0, locals := 0 } : Room).slots) := by
  refine MetFree.of_bodySF (Jvm.Free.JP.mathPlain rfl (by decide +kernel)) hisR ?_
  intro p e s m args below meth c s₁ Bd hml0 hP hK
  obtain ⟨rfl, hZ, hh⟩ := hP
  have hx := Bd.exec
  have hby := Bd.bytes
  have hml : c.maxLocals = 2 := hml0
  have hown : s.vm.findClass "java/lang/Math" = some m.cls := findClass_of_methodNamed Bd.named
  have hnm := (name_of_methodNamed Bd.named Bd.method).1
  have X0 : Stand p l e ({ frames := 0, cells := 0, slots := 0, locals := 0 } : Room) s m #[(.int (0 : Int32)), (.int (1 : Int32))] below meth c s₁ [] 0 0 := Stand.of_body Bd
  have e0 : s₁.heap = h0 := by rw [← hh, Bd.state]; rfl
  have N0 := Fr.nil n0
  show OGo p e below s (Q3L0 Z h0 n0) ({ frames := 0, cells := 0, slots := 0, locals := 0 } : Room).cells ({ frames := 0, cells := 0, slots := 0, locals := 0 } : Room).slots _
  refine OGo.st (fun _ k => castTop (ef_3L0 m) k) ?_
  show OGo p e below s _ _ _ (s₁.setTop (mkF m 0 #[.val (.int (0 : Int32)), .val (.int (1 : Int32))] []))
  refine OGo.st (fun _ k => XS.iloadN X0.here hx rfl (hb hby d3_0) rfl k) ?_
  show OGo p e below s _ _ _ (s₁.setTop (mkF m 1 #[.val (.int (0 : Int32)), .val (.int (1 : Int32))] [(.int (0 : Int32))]))
  refine OGo.st (fun _ k => XS.iloadN X0.here hx rfl (hb hby d3_1) rfl k) ?_
  show OGo p e below s _ _ _ (s₁.setTop (mkF m 2 #[.val (.int (0 : Int32)), .val (.int (1 : Int32))] [(.int (1 : Int32)), (.int (0 : Int32))]))
  refine OGo.st (fun _ k => XS.icmpNo X0.here hx rfl (hb hby d3_2) rfl (flt (by decide : ¬ ((1 : Int32) < (0 : Int32)))).2.2.1 k) ?_
  show OGo p e below s _ _ _ (s₁.setTop (mkF m 5 #[.val (.int (0 : Int32)), .val (.int (1 : Int32))] []))
  refine OGo.st (fun _ k => XS.iloadN X0.here hx rfl (hb hby d3_5) rfl k) ?_
  show OGo p e below s _ _ _ (s₁.setTop (mkF m 6 #[.val (.int (0 : Int32)), .val (.int (1 : Int32))] [(.int (0 : Int32))]))
  refine OGo.st (fun _ k => XS.goto X0.here hx rfl (pc0 := 6) (pc' := 10) rfl (hb hby d3_6) (by decide) (by decide) k) ?_
  show OGo p e below s _ _ _ (s₁.setTop (mkF m 10 #[.val (.int (0 : Int32)), .val (.int (1 : Int32))] [(.int (0 : Int32))]))
  exact oretI X0 hx Bd.notSynchronized Bd.returns (hb hby d3_10) e0 ⟨(congrArg (fun z => some (Value.int z)) (show (0 : Int32) = f3L0 from Eq.symm (by unfold f3L0; exact rfl))), N0, rfl⟩ (by decide) (by decide)
theorem d2_0 : decode jdk_65_method_121_code 0 = .ok (.iload_n 1, 1) := by decide +kernel
theorem d2_1 : decode jdk_65_method_121_code 1 = .ok (.aload_n 0, 1) := by decide +kernel
theorem d2_2 : decode jdk_65_method_121_code 2 = .ok (.arraylength, 1) := by decide +kernel
theorem d2_3 : decode jdk_65_method_121_code 3 = .ok (.if_icmp .ne 11, 3) := by decide +kernel
theorem d2_14 : decode jdk_65_method_121_code 14 = .ok (.iload_n 1, 1) := by decide +kernel
theorem d2_15 : decode jdk_65_method_121_code 15 = .ok (.newarray .byte, 2) := by decide +kernel
theorem d2_17 : decode jdk_65_method_121_code 17 = .ok (.astore_n 2, 1) := by decide +kernel
theorem d2_18 : decode jdk_65_method_121_code 18 = .ok (.aload_n 0, 1) := by decide +kernel
theorem d2_19 : decode jdk_65_method_121_code 19 = .ok (.iconst 0, 1) := by decide +kernel
theorem d2_20 : decode jdk_65_method_121_code 20 = .ok (.aload_n 2, 1) := by decide +kernel
theorem d2_21 : decode jdk_65_method_121_code 21 = .ok (.iconst 0, 1) := by decide +kernel
theorem d2_22 : decode jdk_65_method_121_code 22 = .ok (.aload_n 0, 1) := by decide +kernel
theorem d2_23 : decode jdk_65_method_121_code 23 = .ok (.arraylength, 1) := by decide +kernel
theorem d2_24 : decode jdk_65_method_121_code 24 = .ok (.iload_n 1, 1) := by decide +kernel
theorem d2_25 : decode jdk_65_method_121_code 25 = .ok (.invokestatic 304, 3) := by decide +kernel
theorem d2_28 : decode jdk_65_method_121_code 28 = .ok (.invokestatic 150, 3) := by decide +kernel
theorem d2_31 : decode jdk_65_method_121_code 31 = .ok (.aload_n 2, 1) := by decide +kernel
theorem d2_32 : decode jdk_65_method_121_code 32 = .ok (.areturn, 1) := by decide +kernel
theorem pn_2 : plainName "java/util/Arrays" = true := by first | (simp [plainName, overriddenIn]; done) | decide +kernel
theorem pd_2L0_0 : parseMethodDescriptor "(II)I" = some ⟨[.int, .int], some .int⟩ := by decide +kernel
theorem ef_2L0 (m : MethodId) (o0 : Addr) : entryFrame m #[(.ref o0), (.int (1 : Int32))] 3 = mkF m 0 #[.val (.ref o0), .val (.int (1 : Int32)), .unset] [] := by first | (simp [entryFrame, mkF, argsToLocals, Value.category]; done) | rfl
def Q2L0 (Z : State) (o0 : Addr) (k_o0 : ClassId) (h0 : Heap) (n0 : Nat) (v : Option Value) (h : Heap) (L : List Loc) : Prop := ∃ (b : Addr) (k : ClassId), v = some (.ref b) ∧ Fr n0 L ∧ Keep h0 h [] ∧ h0.size ≤ b ∧ n0 ≤ b ∧ Arv Z h b k .byte (1 : Int32) [(.int (0 : Int32))] (.int (0 : Int32))
set_option maxRecDepth 65536 in
set_option maxHeartbeats 40000000 in
theorem rm2L0 (l : Launch) (Z : State) (a0 : Array Value) (hw : ∀ d ∈ tables_1, d.before a0 Z = true) (ws : List Jvm.Cond) (o0 : Addr) (k_o0 : ClassId) (h0 : Heap) (n0 : Nat) (Z0 : n0 ≤ h0.size) (V_o0 : Arv Z h0 o0 k_o0 .byte (0 : Int32) [] (.int (0 : Int32))) :
    MetFree l (⟨"java/util/Arrays", "copyOf", "([BI)[B"⟩ : MethodName) (head1 (Jvm.Cond.code (⟨"java/util/Arrays", "copyOf", "([BI)[B"⟩ : MethodName) jdk_65_method_121_code 3 (some (.array .byte)) :: ws) ({ frames := 1, cells := 1, slots := 1, locals := 18 } : Room)) (fun a U => a = #[(.ref o0), (.int (1 : Int32))] ∧ Z.Warmed39 U.vm ∧ U.heap = h0) (fun _ _ _ _ _ => True) (fun _ U o U' => ∃ v L, o = .returned v ∧ Q2L0 Z o0 k_o0 h0 n0 v U'.heap L ∧ FrameEnd U o U' L ({ frames := 1, cells := 1, slots := 1, locals := 18 } : Room).cells ({ frames := 1, cells := 1, slots := 1, locals := 18 } : Room).slots) := by
  refine MetFree.of_bodySF (plainFor_of_name pn_2) hisR ?_
  intro p e s m args below meth c s₁ Bd hml0 hP hK
  obtain ⟨rfl, hZ, hh⟩ := hP
  have hx := Bd.exec
  have hby := Bd.bytes
  have hml : c.maxLocals = 3 := hml0
  have hown : s.vm.findClass "java/util/Arrays" = some m.cls := findClass_of_methodNamed Bd.named
  have hnm := (name_of_methodNamed Bd.named Bd.method).1
  have X0 : Stand p l e ({ frames := 1, cells := 1, slots := 1, locals := 18 } : Room) s m #[(.ref o0), (.int (1 : Int32))] below meth c s₁ [] 0 0 := Stand.of_body Bd
  have e0 : s₁.heap = h0 := by rw [← hh, Bd.state]; rfl
  have N0 := Fr.nil n0
  show OGo p e below s (Q2L0 Z o0 k_o0 h0 n0) ({ frames := 1, cells := 1, slots := 1, locals := 18 } : Room).cells ({ frames := 1, cells := 1, slots := 1, locals := 18 } : Room).slots _
  refine OGo.st (fun _ k => castTop (ef_2L0 m o0) k) ?_
  show OGo p e below s _ _ _ (s₁.setTop (mkF m 0 #[.val (.ref o0), .val (.int (1 : Int32)), .unset] []))
  refine OGo.st (fun _ k => XS.iloadN X0.here hx rfl (hb hby d2_0) rfl k) ?_
  show OGo p e below s _ _ _ (s₁.setTop (mkF m 1 #[.val (.ref o0), .val (.int (1 : Int32)), .unset] [(.int (1 : Int32))]))
  refine OGo.st (fun _ k => XS.aloadN X0.here hx rfl (hb hby d2_1) rfl rfl k) ?_
  show OGo p e below s _ _ _ (s₁.setTop (mkF m 2 #[.val (.ref o0), .val (.int (1 : Int32)), .unset] [(.ref o0), (.int (1 : Int32))]))
  obtain ⟨cl1, Ar1, -, Sz1, Nn1, -, -⟩ := id V_o0
  refine OGo.st (fun _ k => X0.arraylength hx (by rw [e0]; exact Ar1.1) (State.isArrayOf_alike hZ.alike Ar1.2.1) (g := (mkF m 2 #[.val (.ref o0), .val (.int (1 : Int32)), .unset] [(.ref o0), (.int (1 : Int32))])) rfl rfl (hb hby d2_2) _ k) ?_
  rw [len_of Sz1 Nn1]
  show OGo p e below s _ _ _ (s₁.setTop (mkF m 3 #[.val (.ref o0), .val (.int (1 : Int32)), .unset] [(.int (0 : Int32)), (.int (1 : Int32))]))
  refine OGo.st (fun _ k => XS.icmpYes X0.here hx rfl (pc0 := 3) (pc' := 14) rfl (hb hby d2_3) rfl (feq (by decide : ¬ ((1 : Int32) = (0 : Int32)))).2 (by decide) (by decide) k) ?_
  show OGo p e below s _ _ _ (s₁.setTop (mkF m 14 #[.val (.ref o0), .val (.int (1 : Int32)), .unset] []))
  refine OGo.st (fun _ k => XS.iloadN X0.here hx rfl (hb hby d2_14) rfl k) ?_
  show OGo p e below s _ _ _ (s₁.setTop (mkF m 15 #[.val (.ref o0), .val (.int (1 : Int32)), .unset] [(.int (1 : Int32))]))
  obtain ⟨T2, h2, k2, X2, e2, E2, A2, st2⟩ := newP X0 hx hZ (hw _ (List.mem_of_getElem? (i := 0) rfl)) e0 (g := (mkF m 15 #[.val (.ref o0), .val (.int (1 : Int32)), .unset] [(.int (1 : Int32))])) rfl (hb hby d2_15) rfl (by decide) (cap := 1) (by decide) (by decide) (by decide) (by decide)
  obtain ⟨b2, g2⟩ : ∃ z, z = h0.size := ⟨_, rfl⟩
  rw [← g2] at A2 st2
  refine OGo.st st2 ?_
  have V_o0_w2 := V_o0.ext E2
  have ne_o0_b2 : o0 ≠ b2 := Nat.ne_of_lt (Nat.lt_of_lt_of_le V_o0.lt (Nat.le_of_eq g2.symm))
  have g_b2 : n0 ≤ b2 := Nat.le_trans Z0 (Nat.le_of_eq g2.symm)
  have sz_b2 : h0.size ≤ b2 := Nat.le_trans (Keep.refl h0 []).1 (Nat.le_of_eq g2.symm)
  have K2 : Keep h0 h2 [] := (Keep.refl h0 _).ext E2
  have Z2 : n0 ≤ h2.size := Nat.le_trans Z0 E2.1
  have V_b2 : Arv Z h2 b2 k2 .byte (1 : Int32) [(.int (0 : Int32))] (.int (0 : Int32)) := (Arv.new A2 (by decide)).pad (pad_rep [] (.int (0 : Int32)) 1)
  show OGo p e below s _ _ _ (T2.setTop (mkF m 17 #[.val (.ref o0), .val (.int (1 : Int32)), .unset] [(.ref b2)]))
  refine OGo.st (fun _ k => XS.astoreN X2.here hx rfl (hb hby d2_17) rfl rfl (l' := #[.val (.ref o0), .val (.int (1 : Int32)), .val (.ref b2)]) rfl k) ?_
  show OGo p e below s _ _ _ (T2.setTop (mkF m 18 #[.val (.ref o0), .val (.int (1 : Int32)), .val (.ref b2)] []))
  refine OGo.st (fun _ k => XS.aloadN X2.here hx rfl (hb hby d2_18) rfl rfl k) ?_
  show OGo p e below s _ _ _ (T2.setTop (mkF m 19 #[.val (.ref o0), .val (.int (1 : Int32)), .val (.ref b2)] [(.ref o0)]))
  refine OGo.st (fun _ k => XS.iconst X2.here hx rfl (hb hby d2_19) k) ?_
  show OGo p e below s _ _ _ (T2.setTop (mkF m 20 #[.val (.ref o0), .val (.int (1 : Int32)), .val (.ref b2)] [(.int (0 : Int32)), (.ref o0)]))
  refine OGo.st (fun _ k => XS.aloadN X2.here hx rfl (hb hby d2_20) rfl rfl k) ?_
  show OGo p e below s _ _ _ (T2.setTop (mkF m 21 #[.val (.ref o0), .val (.int (1 : Int32)), .val (.ref b2)] [(.ref b2), (.int (0 : Int32)), (.ref o0)]))
  refine OGo.st (fun _ k => XS.iconst X2.here hx rfl (hb hby d2_21) k) ?_
  show OGo p e below s _ _ _ (T2.setTop (mkF m 22 #[.val (.ref o0), .val (.int (1 : Int32)), .val (.ref b2)] [(.int (0 : Int32)), (.ref b2), (.int (0 : Int32)), (.ref o0)]))
  refine OGo.st (fun _ k => XS.aloadN X2.here hx rfl (hb hby d2_22) rfl rfl k) ?_
  show OGo p e below s _ _ _ (T2.setTop (mkF m 23 #[.val (.ref o0), .val (.int (1 : Int32)), .val (.ref b2)] [(.ref o0), (.int (0 : Int32)), (.ref b2), (.int (0 : Int32)), (.ref o0)]))
  obtain ⟨cl3, Ar3, -, Sz3, Nn3, -, -⟩ := id V_o0_w2
  refine OGo.st (fun _ k => X2.arraylength hx (by rw [e2]; exact Ar3.1) (State.isArrayOf_alike hZ.alike Ar3.2.1) (g := (mkF m 23 #[.val (.ref o0), .val (.int (1 : Int32)), .val (.ref b2)] [(.ref o0), (.int (0 : Int32)), (.ref b2), (.int (0 : Int32)), (.ref o0)])) rfl rfl (hb hby d2_23) _ k) ?_
  rw [len_of Sz3 Nn3]
  show OGo p e below s _ _ _ (T2.setTop (mkF m 24 #[.val (.ref o0), .val (.int (1 : Int32)), .val (.ref b2)] [(.int (0 : Int32)), (.int (0 : Int32)), (.ref b2), (.int (0 : Int32)), (.ref o0)]))
  refine OGo.st (fun _ k => XS.iloadN X2.here hx rfl (hb hby d2_24) rfl k) ?_
  show OGo p e below s _ _ _ (T2.setTop (mkF m 25 #[.val (.ref o0), .val (.int (1 : Int32)), .val (.ref b2)] [(.int (1 : Int32)), (.int (0 : Int32)), (.int (0 : Int32)), (.ref b2), (.int (0 : Int32)), (.ref o0)]))
  obtain ⟨_, _, ⟨T4, L4, k4, n4⟩, -, X4, ⟨Lc4, hQ4, l4, y4, z4⟩, st4⟩ := Jvm.LawKit.callS X2 hx (y := (⟨"java/lang/Math", "min", "(II)I"⟩ : MethodName)) hown (mvT hZ (hw _ (List.mem_of_getElem? (i := 9) rfl))) (mvT hZ (hw _ (List.mem_of_getElem? (i := 10) rfl))) (mvT hZ (hw _ (List.mem_of_getElem? (i := 11) rfl))) (mvT hZ (hw _ (List.mem_of_getElem? (i := 12) rfl))) (by decide) (backOf (W := 4) (rm3L0 l Z a0 hw [] h2 n0 Z2) hZ (hw _ (List.mem_of_getElem? (i := 12) rfl)) (hw _ (List.mem_of_getElem? (i := 11) rfl)) (by decide) (by decide)) (g := (mkF m 25 #[.val (.ref o0), .val (.int (1 : Int32)), .val (.ref b2)] [(.int (1 : Int32)), (.int (0 : Int32)), (.int (0 : Int32)), (.ref b2), (.int (0 : Int32)), (.ref o0)])) rfl (by rw [hml]; rfl) (argsL := [(.int (0 : Int32)), (.int (1 : Int32))]) (rest := [(.int (0 : Int32)), (.ref b2), (.int (0 : Int32)), (.ref o0)]) (lenOf pd_2L0_0 rfl) rfl (by show 2 * 0 + _ ≤ _; exact Nat.le_of_eq rfl) (hb hby d2_25) (fun _ _ => ⟨rfl, e2, (by decide : 1 + 0 ≤ _), (by decide : 1 + 0 ≤ _)⟩)
  dsimp only [Pt.U, Pt.locs, Pt.cells, Pt.slots] at X4 l4 y4 z4 st4 hQ4
  subst l4 y4 z4
  obtain ⟨rfl, N4q, e4⟩ := hQ4
  have hl4 : (f3L0) = (0 : Int32) := rfl
  have N4 := Fr.app N0 N4q
  refine OGo.st st4 ?_
  show OGo p e below s _ _ _ (T4.setTop (mkF m 28 #[.val (.ref o0), .val (.int (1 : Int32)), .val (.ref b2)] [(.int (0 : Int32)), (.int (0 : Int32)), (.ref b2), (.int (0 : Int32)), (.ref o0)]))
  obtain ⟨T5, h5, L5, X5, e5, N5, Kc5, Vq5, st5⟩ := cpA X4 hx hZ hown (hw _ (List.mem_of_getElem? (i := 13) rfl)) (hw _ (List.mem_of_getElem? (i := 16) rfl)) (hw _ (List.mem_of_getElem? (i := 14) rfl)) (hw _ (List.mem_of_getElem? (i := 15) rfl)) e4 V_o0_w2 V_b2 (us := []) (sp := (0 : Int32)) (dp := (0 : Int32)) (nn := (0 : Int32)) (Or.inl ⟨rfl, rfl⟩) (by decide) (by decide) (by decide) (by decide) (by decide) rfl (by decide) N4 g_b2 (g := (mkF m 28 #[.val (.ref o0), .val (.int (1 : Int32)), .val (.ref b2)] [(.int (0 : Int32)), (.int (0 : Int32)), (.ref b2), (.int (0 : Int32)), (.ref o0)])) rfl (by rw [hml]; rfl) rfl (hb hby d2_28) (by decide) (W := 0) (by show 2 * 0 + _ ≤ _; exact Nat.le_of_eq rfl) (by decide)
  have V_o0_w5 := V_o0_w2.keep Kc5 (ninS ne_o0_b2 nin0)
  have K5 : Keep h0 h5 [] := (K2).trans Kc5 (allS (Or.inr sz_b2) all0)
  have Z5 : n0 ≤ h5.size := Nat.le_trans Z2 Kc5.1
  have V5 : Arv Z h5 b2 k2 .byte (1 : Int32) [(.int (0 : Int32))] (.int (0 : Int32)) := Vq5
  refine OGo.st st5 ?_
  show OGo p e below s _ _ _ (T5.setTop (mkF m 31 #[.val (.ref o0), .val (.int (1 : Int32)), .val (.ref b2)] []))
  refine OGo.st (fun _ k => XS.aloadN X5.here hx rfl (hb hby d2_31) rfl rfl k) ?_
  show OGo p e below s _ _ _ (T5.setTop (mkF m 32 #[.val (.ref o0), .val (.int (1 : Int32)), .val (.ref b2)] [(.ref b2)]))
  exact oretA X5 hx Bd.notSynchronized Bd.returns rfl rfl (hb hby d2_32) e5 ⟨b2, k2, rfl, N5, K5, sz_b2, g_b2, V5⟩ (by decide) (by decide)
theorem d1_0 : decode prog_14_method_4_code 0 = .ok (.aload_n 0, 1) := by decide +kernel
theorem d1_1 : decode prog_14_method_4_code 1 = .ok (.aload_n 0, 1) := by decide +kernel
theorem d1_2 : decode prog_14_method_4_code 2 = .ok (.arraylength, 1) := by decide +kernel
theorem d1_3 : decode prog_14_method_4_code 3 = .ok (.iconst 1, 1) := by decide +kernel
theorem d1_4 : decode prog_14_method_4_code 4 = .ok (.iadd, 1) := by decide +kernel
theorem d1_5 : decode prog_14_method_4_code 5 = .ok (.invokestatic 49, 3) := by decide +kernel
theorem d1_8 : decode prog_14_method_4_code 8 = .ok (.astore_n 1, 1) := by decide +kernel
theorem d1_9 : decode prog_14_method_4_code 9 = .ok (.aload_n 1, 1) := by decide +kernel
theorem d1_10 : decode prog_14_method_4_code 10 = .ok (.aload_n 0, 1) := by decide +kernel
theorem d1_11 : decode prog_14_method_4_code 11 = .ok (.arraylength, 1) := by decide +kernel
theorem d1_12 : decode prog_14_method_4_code 12 = .ok (.iconst (-1), 1) := by decide +kernel
theorem d1_13 : decode prog_14_method_4_code 13 = .ok (.bastore, 1) := by decide +kernel
theorem d1_14 : decode prog_14_method_4_code 14 = .ok (.aload_n 1, 1) := by decide +kernel
theorem d1_15 : decode prog_14_method_4_code 15 = .ok (.areturn, 1) := by decide +kernel
theorem pn_1 : plainName "com/example/rows_over_order/rowsoverorder/TupleCodec" = true := by first | (simp [plainName, overriddenIn]; done) | decide +kernel
theorem pd_1L0_0 : parseMethodDescriptor "([BI)[B" = some ⟨[(.array .byte), .int], some (.array .byte)⟩ := by decide +kernel
theorem ef_1L0 (m : MethodId) (o0 : Addr) : entryFrame m #[(.ref o0)] 2 = mkF m 0 #[.val (.ref o0), .unset] [] := by first | (simp [entryFrame, mkF, argsToLocals, Value.category]; done) | rfl
def Q1L0 (Z : State) (o0 : Addr) (k_o0 : ClassId) (h0 : Heap) (n0 : Nat) (v : Option Value) (h : Heap) (L : List Loc) : Prop := ∃ (b : Addr) (k : ClassId), v = some (.ref b) ∧ Fr n0 L ∧ Keep h0 h [] ∧ h0.size ≤ b ∧ n0 ≤ b ∧ Arv Z h b k .byte (1 : Int32) [(.int (-1 : Int32))] (.int (0 : Int32))
set_option maxRecDepth 65536 in
set_option maxHeartbeats 40000000 in
theorem rm1L0 (l : Launch) (Z : State) (a0 : Array Value) (hw : ∀ d ∈ tables_1, d.before a0 Z = true) (ws : List Jvm.Cond) (o0 : Addr) (k_o0 : ClassId) (h0 : Heap) (n0 : Nat) (Z0 : n0 ≤ h0.size) (V_o0 : Arv Z h0 o0 k_o0 .byte (0 : Int32) [] (.int (0 : Int32))) :
    MetFree l (⟨"com/example/rows_over_order/rowsoverorder/TupleCodec", "rangeEnd", "([B)[B"⟩ : MethodName) (head1 (Jvm.Cond.code (⟨"com/example/rows_over_order/rowsoverorder/TupleCodec", "rangeEnd", "([B)[B"⟩ : MethodName) prog_14_method_4_code 2 (some (.array .byte)) :: ws) ({ frames := 2, cells := 1, slots := 1, locals := 32 } : Room)) (fun a U => a = #[(.ref o0)] ∧ Z.Warmed39 U.vm ∧ U.heap = h0) (fun _ _ _ _ _ => True) (fun _ U o U' => ∃ v L, o = .returned v ∧ Q1L0 Z o0 k_o0 h0 n0 v U'.heap L ∧ FrameEnd U o U' L ({ frames := 2, cells := 1, slots := 1, locals := 32 } : Room).cells ({ frames := 2, cells := 1, slots := 1, locals := 32 } : Room).slots) := by
  refine MetFree.of_bodySF (plainFor_of_name pn_1) hisR ?_
  intro p e s m args below meth c s₁ Bd hml0 hP hK
  obtain ⟨rfl, hZ, hh⟩ := hP
  have hx := Bd.exec
  have hby := Bd.bytes
  have hml : c.maxLocals = 2 := hml0
  have hown : s.vm.findClass "com/example/rows_over_order/rowsoverorder/TupleCodec" = some m.cls := findClass_of_methodNamed Bd.named
  have hnm := (name_of_methodNamed Bd.named Bd.method).1
  have X0 : Stand p l e ({ frames := 2, cells := 1, slots := 1, locals := 32 } : Room) s m #[(.ref o0)] below meth c s₁ [] 0 0 := Stand.of_body Bd
  have e0 : s₁.heap = h0 := by rw [← hh, Bd.state]; rfl
  have N0 := Fr.nil n0
  show OGo p e below s (Q1L0 Z o0 k_o0 h0 n0) ({ frames := 2, cells := 1, slots := 1, locals := 32 } : Room).cells ({ frames := 2, cells := 1, slots := 1, locals := 32 } : Room).slots _
  refine OGo.st (fun _ k => castTop (ef_1L0 m o0) k) ?_
  show OGo p e below s _ _ _ (s₁.setTop (mkF m 0 #[.val (.ref o0), .unset] []))
  refine OGo.st (fun _ k => XS.aloadN X0.here hx rfl (hb hby d1_0) rfl rfl k) ?_
  show OGo p e below s _ _ _ (s₁.setTop (mkF m 1 #[.val (.ref o0), .unset] [(.ref o0)]))
  refine OGo.st (fun _ k => XS.aloadN X0.here hx rfl (hb hby d1_1) rfl rfl k) ?_
  show OGo p e below s _ _ _ (s₁.setTop (mkF m 2 #[.val (.ref o0), .unset] [(.ref o0), (.ref o0)]))
  obtain ⟨cl1, Ar1, -, Sz1, Nn1, -, -⟩ := id V_o0
  refine OGo.st (fun _ k => X0.arraylength hx (by rw [e0]; exact Ar1.1) (State.isArrayOf_alike hZ.alike Ar1.2.1) (g := (mkF m 2 #[.val (.ref o0), .unset] [(.ref o0), (.ref o0)])) rfl rfl (hb hby d1_2) _ k) ?_
  rw [len_of Sz1 Nn1]
  show OGo p e below s _ _ _ (s₁.setTop (mkF m 3 #[.val (.ref o0), .unset] [(.int (0 : Int32)), (.ref o0)]))
  refine OGo.st (fun _ k => XS.iconst X0.here hx rfl (hb hby d1_3) k) ?_
  show OGo p e below s _ _ _ (s₁.setTop (mkF m 4 #[.val (.ref o0), .unset] [(.int (1 : Int32)), (.int (0 : Int32)), (.ref o0)]))
  refine OGo.st (fun _ k => XS.iadd X0.here hx rfl (hb hby d1_4) rfl k) ?_
  rw [show ((0 : Int32) + (1 : Int32)) = (1 : Int32) from by decide]
  show OGo p e below s _ _ _ (s₁.setTop (mkF m 5 #[.val (.ref o0), .unset] [(.int (1 : Int32)), (.ref o0)]))
  obtain ⟨_, _, ⟨T2, L2, k2, n2⟩, -, X2, ⟨Lc2, hQ2, l2, y2, z2⟩, st2⟩ := Jvm.LawKit.callS X0 hx (y := (⟨"java/util/Arrays", "copyOf", "([BI)[B"⟩ : MethodName)) hown (mvT hZ (hw _ (List.mem_of_getElem? (i := 5) rfl))) (mvT hZ (hw _ (List.mem_of_getElem? (i := 6) rfl))) (mvT hZ (hw _ (List.mem_of_getElem? (i := 7) rfl))) (mvT hZ (hw _ (List.mem_of_getElem? (i := 8) rfl))) (by decide) (backOf (W := 0) (rm2L0 l Z a0 hw [] o0 k_o0 h0 n0 Z0 V_o0) hZ (hw _ (List.mem_of_getElem? (i := 8) rfl)) (hw _ (List.mem_of_getElem? (i := 7) rfl)) (by decide) (by decide)) (g := (mkF m 5 #[.val (.ref o0), .unset] [(.int (1 : Int32)), (.ref o0)])) rfl (by rw [hml]; rfl) (argsL := [(.ref o0), (.int (1 : Int32))]) (rest := []) (lenOf pd_1L0_0 rfl) rfl (by show 2 * 0 + _ ≤ _; exact Nat.le_of_eq rfl) (hb hby d1_5) (fun _ _ => ⟨rfl, e0, (by decide : 0 + 1 ≤ _), (by decide : 0 + 1 ≤ _)⟩)
  dsimp only [Pt.U, Pt.locs, Pt.cells, Pt.slots] at X2 l2 y2 z2 st2 hQ2
  subst l2 y2 z2
  obtain ⟨b2, kk2, rfl, N2q, Kc2, szq2, g_b2, V2⟩ := hQ2
  have ne_o0_b2 : o0 ≠ b2 := Nat.ne_of_lt (Nat.lt_of_lt_of_le V_o0.lt szq2)
  have sz_b2 : h0.size ≤ b2 := Nat.le_trans (Keep.refl h0 []).1 szq2
  have V_o0_w2 := V_o0.keep Kc2 nin0
  have K2 : Keep h0 T2.heap [] := (Keep.refl h0 _).trans Kc2 all0
  have Z2 : n0 ≤ T2.heap.size := Nat.le_trans Z0 Kc2.1
  have V2 : Arv Z T2.heap b2 kk2 .byte (1 : Int32) [(.int (0 : Int32))] (.int (0 : Int32)) := V2
  have N2 := Fr.app N0 N2q
  refine OGo.st st2 ?_
  show OGo p e below s _ _ _ (T2.setTop (mkF m 8 #[.val (.ref o0), .unset] [(.ref b2)]))
  refine OGo.st (fun _ k => XS.astoreN X2.here hx rfl (hb hby d1_8) rfl rfl (l' := #[.val (.ref o0), .val (.ref b2)]) rfl k) ?_
  show OGo p e below s _ _ _ (T2.setTop (mkF m 9 #[.val (.ref o0), .val (.ref b2)] []))
  refine OGo.st (fun _ k => XS.aloadN X2.here hx rfl (hb hby d1_9) rfl rfl k) ?_
  show OGo p e below s _ _ _ (T2.setTop (mkF m 10 #[.val (.ref o0), .val (.ref b2)] [(.ref b2)]))
  refine OGo.st (fun _ k => XS.aloadN X2.here hx rfl (hb hby d1_10) rfl rfl k) ?_
  show OGo p e below s _ _ _ (T2.setTop (mkF m 11 #[.val (.ref o0), .val (.ref b2)] [(.ref o0), (.ref b2)]))
  obtain ⟨cl3, Ar3, -, Sz3, Nn3, -, -⟩ := id V_o0_w2
  refine OGo.st (fun _ k => X2.arraylength hx Ar3.1 (State.isArrayOf_alike hZ.alike Ar3.2.1) (g := (mkF m 11 #[.val (.ref o0), .val (.ref b2)] [(.ref o0), (.ref b2)])) rfl rfl (hb hby d1_11) _ k) ?_
  rw [len_of Sz3 Nn3]
  show OGo p e below s _ _ _ (T2.setTop (mkF m 12 #[.val (.ref o0), .val (.ref b2)] [(.int (0 : Int32)), (.ref b2)]))
  refine OGo.st (fun _ k => XS.iconst X2.here hx rfl (hb hby d1_12) k) ?_
  show OGo p e below s _ _ _ (T2.setTop (mkF m 13 #[.val (.ref o0), .val (.ref b2)] [(.int (-1 : Int32)), (.int (0 : Int32)), (.ref b2)]))
  obtain ⟨cl4, Ar4, q4, Sz4, Nn4, Hs4, Gs4⟩ := id V2
  have hin4 : ¬ ((0 : Int32) < 0 ∨ cl4.slots.size ≤ ((0 : Int32)).toNatClampNeg) := inb_of Sz4 ⟨by decide, by decide⟩
  obtain ⟨T4, h4, X4, e4, W4, st4⟩ := stB X2 hx hZ rfl Ar4 (j := (0 : Int32)) hin4 (g := (mkF m 13 #[.val (.ref o0), .val (.ref b2)] [(.int (-1 : Int32)), (.int (0 : Int32)), (.ref b2)])) rfl rfl (hb hby d1_13)
  refine OGo.st st4 ?_
  have V_o0_w4 := V_o0_w2.other W4 ne_o0_b2
  have K4 : Keep h0 h4 [] := (K2).wr W4 (Or.inr sz_b2)
  have N4 := Fr.snoc X4 N2 g_b2
  have Z4 : n0 ≤ h4.size := Nat.le_trans Z2 (Keep.of_wr W4).1
  have V4 : Arv Z h4 b2 kk2 .byte (1 : Int32) [(.int (-1 : Int32))] (.int (0 : Int32)) := Arv.set Ar4 q4 Sz4 Nn4 Hs4 Gs4 (by decide) W4 0 rfl (Nat.le_of_ble_eq_true rfl)
  show OGo p e below s _ _ _ (T4.setTop (mkF m 14 #[.val (.ref o0), .val (.ref b2)] []))
  refine OGo.st (fun _ k => XS.aloadN X4.here hx rfl (hb hby d1_14) rfl rfl k) ?_
  show OGo p e below s _ _ _ (T4.setTop (mkF m 15 #[.val (.ref o0), .val (.ref b2)] [(.ref b2)]))
  exact oretA X4 hx Bd.notSynchronized Bd.returns rfl rfl (hb hby d1_15) e4 ⟨b2, kk2, rfl, N4, K4, sz_b2, g_b2, V4⟩ (by decide) (by decide)
theorem d4_0 : decode method_3_code 0 = .ok (.iload_n 1, 1) := by decide +kernel
theorem d4_1 : decode method_3_code 1 = .ok (.iconst 1, 1) := by decide +kernel
theorem d4_2 : decode method_3_code 2 = .ok (.if_icmp .lt 12, 3) := by decide +kernel
theorem d4_14 : decode method_3_code 14 = .ok (.iload_n 1, 1) := by decide +kernel
theorem d4_15 : decode method_3_code 15 = .ok (.iconst 2, 1) := by decide +kernel
theorem d4_16 : decode method_3_code 16 = .ok (.if_icmp .lt 12, 3) := by decide +kernel
theorem d4_28 : decode method_3_code 28 = .ok (.iload_n 1, 1) := by decide +kernel
theorem d4_29 : decode method_3_code 29 = .ok (.iconst 3, 1) := by decide +kernel
theorem d4_30 : decode method_3_code 30 = .ok (.if_icmp .lt 13, 3) := by decide +kernel
theorem d4_43 : decode method_3_code 43 = .ok (.iconst 1, 1) := by decide +kernel
theorem d4_44 : decode method_3_code 44 = .ok (.ireturn, 1) := by decide +kernel
theorem pn_4 : plainName "com/example/rows_over_order/rowsoverorder/TupleCodecRangeEndPinLaw" = true := by first | (simp [plainName, overriddenIn]; done) | decide +kernel
theorem ef_4L00 (m : MethodId) (o0 : Addr) (p2 : Int32) (p3 : Int32) (p4 : Int32) : entryFrame m #[(.ref o0), (.int (0 : Int32)), (.int p2), (.int p3), (.int p4)] 5 = mkF m 0 #[.val (.ref o0), .val (.int (0 : Int32)), .val (.int p2), .val (.int p3), .val (.int p4)] [] := by first | (simp [entryFrame, mkF, argsToLocals, Value.category]; done) | rfl
def f4L00 : Int32 := (1 : Int32)
def Q4L00 (Z : State) (o0 : Addr) (p2 : Int32) (p3 : Int32) (p4 : Int32) (k_o0 : ClassId) (h0 : Heap) (n0 : Nat) (v : Option Value) (h : Heap) (L : List Loc) : Prop := v = some (.int (f4L00)) ∧ Fr n0 L ∧ h = h0
set_option maxRecDepth 65536 in
set_option maxHeartbeats 40000000 in
theorem rm4L00 (l : Launch) (Z : State) (a0 : Array Value) (hw : ∀ d ∈ tables_1, d.before a0 Z = true) (ws : List Jvm.Cond) (o0 : Addr) (p2 : Int32) (p3 : Int32) (p4 : Int32) (k_o0 : ClassId) (h0 : Heap) (n0 : Nat) (Z0 : n0 ≤ h0.size) (V_o0 : Arv Z h0 o0 k_o0 .byte (0 : Int32) [] (.int (0 : Int32))) :
    MetFree l (⟨"com/example/rows_over_order/rowsoverorder/TupleCodecRangeEndPinLaw", "matches", "([BIBBB)Z"⟩ : MethodName) (head1 (Jvm.Cond.code (⟨"com/example/rows_over_order/rowsoverorder/TupleCodecRangeEndPinLaw", "matches", "([BIBBB)Z"⟩ : MethodName) method_3_code 5 (some .boolean) :: ws) ({ frames := 0, cells := 0, slots := 0, locals := 0 } : Room)) (fun a U => a = #[(.ref o0), (.int (0 : Int32)), (.int p2), (.int p3), (.int p4)] ∧ Z.Warmed39 U.vm ∧ U.heap = h0) (fun _ _ _ _ _ => True) (fun _ U o U' => ∃ v L, o = .returned v ∧ Q4L00 Z o0 p2 p3 p4 k_o0 h0 n0 v U'.heap L ∧ FrameEnd U o U' L ({ frames := 0, cells := 0, slots := 0, locals := 0 } : Room).cells ({ frames := 0, cells := 0, slots := 0, locals := 0 } : Room).slots) := by
  refine MetFree.of_bodySF (plainFor_of_name pn_4) hisR ?_
  intro p e s m args below meth c s₁ Bd hml0 hP hK
  obtain ⟨rfl, hZ, hh⟩ := hP
  have hx := Bd.exec
  have hby := Bd.bytes
  have hml : c.maxLocals = 5 := hml0
  have hown : s.vm.findClass "com/example/rows_over_order/rowsoverorder/TupleCodecRangeEndPinLaw" = some m.cls := findClass_of_methodNamed Bd.named
  have hnm := (name_of_methodNamed Bd.named Bd.method).1
  have X0 : Stand p l e ({ frames := 0, cells := 0, slots := 0, locals := 0 } : Room) s m #[(.ref o0), (.int (0 : Int32)), (.int p2), (.int p3), (.int p4)] below meth c s₁ [] 0 0 := Stand.of_body Bd
  have e0 : s₁.heap = h0 := by rw [← hh, Bd.state]; rfl
  have N0 := Fr.nil n0
  show OGo p e below s (Q4L00 Z o0 p2 p3 p4 k_o0 h0 n0) ({ frames := 0, cells := 0, slots := 0, locals := 0 } : Room).cells ({ frames := 0, cells := 0, slots := 0, locals := 0 } : Room).slots _
  refine OGo.st (fun _ k => castTop (ef_4L00 m o0 p2 p3 p4) k) ?_
  show OGo p e below s _ _ _ (s₁.setTop (mkF m 0 #[.val (.ref o0), .val (.int (0 : Int32)), .val (.int p2), .val (.int p3), .val (.int p4)] []))
  refine OGo.st (fun _ k => XS.iloadN X0.here hx rfl (hb hby d4_0) rfl k) ?_
  show OGo p e below s _ _ _ (s₁.setTop (mkF m 1 #[.val (.ref o0), .val (.int (0 : Int32)), .val (.int p2), .val (.int p3), .val (.int p4)] [(.int (0 : Int32))]))
  refine OGo.st (fun _ k => XS.iconst X0.here hx rfl (hb hby d4_1) k) ?_
  show OGo p e below s _ _ _ (s₁.setTop (mkF m 2 #[.val (.ref o0), .val (.int (0 : Int32)), .val (.int p2), .val (.int p3), .val (.int p4)] [(.int (1 : Int32)), (.int (0 : Int32))]))
  refine OGo.st (fun _ k => XS.icmpYes X0.here hx rfl (pc0 := 2) (pc' := 14) rfl (hb hby d4_2) rfl (tlt (by decide : (0 : Int32) < (1 : Int32))).1 (by decide) (by decide) k) ?_
  show OGo p e below s _ _ _ (s₁.setTop (mkF m 14 #[.val (.ref o0), .val (.int (0 : Int32)), .val (.int p2), .val (.int p3), .val (.int p4)] []))
  refine OGo.st (fun _ k => XS.iloadN X0.here hx rfl (hb hby d4_14) rfl k) ?_
  show OGo p e below s _ _ _ (s₁.setTop (mkF m 15 #[.val (.ref o0), .val (.int (0 : Int32)), .val (.int p2), .val (.int p3), .val (.int p4)] [(.int (0 : Int32))]))
  refine OGo.st (fun _ k => XS.iconst X0.here hx rfl (hb hby d4_15) k) ?_
  show OGo p e below s _ _ _ (s₁.setTop (mkF m 16 #[.val (.ref o0), .val (.int (0 : Int32)), .val (.int p2), .val (.int p3), .val (.int p4)] [(.int (2 : Int32)), (.int (0 : Int32))]))
  refine OGo.st (fun _ k => XS.icmpYes X0.here hx rfl (pc0 := 16) (pc' := 28) rfl (hb hby d4_16) rfl (tlt (by decide : (0 : Int32) < (2 : Int32))).1 (by decide) (by decide) k) ?_
  show OGo p e below s _ _ _ (s₁.setTop (mkF m 28 #[.val (.ref o0), .val (.int (0 : Int32)), .val (.int p2), .val (.int p3), .val (.int p4)] []))
  refine OGo.st (fun _ k => XS.iloadN X0.here hx rfl (hb hby d4_28) rfl k) ?_
  show OGo p e below s _ _ _ (s₁.setTop (mkF m 29 #[.val (.ref o0), .val (.int (0 : Int32)), .val (.int p2), .val (.int p3), .val (.int p4)] [(.int (0 : Int32))]))
  refine OGo.st (fun _ k => XS.iconst X0.here hx rfl (hb hby d4_29) k) ?_
  show OGo p e below s _ _ _ (s₁.setTop (mkF m 30 #[.val (.ref o0), .val (.int (0 : Int32)), .val (.int p2), .val (.int p3), .val (.int p4)] [(.int (3 : Int32)), (.int (0 : Int32))]))
  refine OGo.st (fun _ k => XS.icmpYes X0.here hx rfl (pc0 := 30) (pc' := 43) rfl (hb hby d4_30) rfl (tlt (by decide : (0 : Int32) < (3 : Int32))).1 (by decide) (by decide) k) ?_
  show OGo p e below s _ _ _ (s₁.setTop (mkF m 43 #[.val (.ref o0), .val (.int (0 : Int32)), .val (.int p2), .val (.int p3), .val (.int p4)] []))
  refine OGo.st (fun _ k => XS.iconst X0.here hx rfl (hb hby d4_43) k) ?_
  show OGo p e below s _ _ _ (s₁.setTop (mkF m 44 #[.val (.ref o0), .val (.int (0 : Int32)), .val (.int p2), .val (.int p3), .val (.int p4)] [(.int (1 : Int32))]))
  exact oretN X0 hx Bd.notSynchronized (t := .boolean) Bd.returns (by simp) (hb hby d4_44) (z' := (1 : Int32)) (by decide) e0 ⟨(congrArg (fun z => some (Value.int z)) (show (1 : Int32) = f4L00 from Eq.symm (by unfold f4L00; exact rfl))), N0, rfl⟩ (by decide) (by decide)
theorem ef_4L10 (m : MethodId) (o0 : Addr) (p2 : Int32) (p3 : Int32) (p4 : Int32) : entryFrame m #[(.ref o0), (.int (0 : Int32)), (.int p2), (.int p3), (.int p4)] 5 = mkF m 0 #[.val (.ref o0), .val (.int (0 : Int32)), .val (.int p2), .val (.int p3), .val (.int p4)] [] := by first | (simp [entryFrame, mkF, argsToLocals, Value.category]; done) | rfl
def f4L10 : Int32 := (1 : Int32)
def Q4L10 (Z : State) (o0 : Addr) (p2 : Int32) (p3 : Int32) (p4 : Int32) (k_o0 : ClassId) (x0 : Int32) (h0 : Heap) (n0 : Nat) (v : Option Value) (h : Heap) (L : List Loc) : Prop := v = some (.int (f4L10)) ∧ Fr n0 L ∧ h = h0
set_option maxRecDepth 65536 in
set_option maxHeartbeats 40000000 in
theorem rm4L10 (l : Launch) (Z : State) (a0 : Array Value) (hw : ∀ d ∈ tables_1, d.before a0 Z = true) (ws : List Jvm.Cond) (o0 : Addr) (p2 : Int32) (p3 : Int32) (p4 : Int32) (k_o0 : ClassId) (x0 : Int32) (h0 : Heap) (n0 : Nat) (Z0 : n0 ≤ h0.size) (V_o0 : Arv Z h0 o0 k_o0 .byte (1 : Int32) [(.int x0)] (.int (0 : Int32))) :
    MetFree l (⟨"com/example/rows_over_order/rowsoverorder/TupleCodecRangeEndPinLaw", "matches", "([BIBBB)Z"⟩ : MethodName) (head1 (Jvm.Cond.code (⟨"com/example/rows_over_order/rowsoverorder/TupleCodecRangeEndPinLaw", "matches", "([BIBBB)Z"⟩ : MethodName) method_3_code 5 (some .boolean) :: ws) ({ frames := 0, cells := 0, slots := 0, locals := 0 } : Room)) (fun a U => a = #[(.ref o0), (.int (0 : Int32)), (.int p2), (.int p3), (.int p4)] ∧ Z.Warmed39 U.vm ∧ U.heap = h0) (fun _ _ _ _ _ => True) (fun _ U o U' => ∃ v L, o = .returned v ∧ Q4L10 Z o0 p2 p3 p4 k_o0 x0 h0 n0 v U'.heap L ∧ FrameEnd U o U' L ({ frames := 0, cells := 0, slots := 0, locals := 0 } : Room).cells ({ frames := 0, cells := 0, slots := 0, locals := 0 } : Room).slots) := by
  refine MetFree.of_bodySF (plainFor_of_name pn_4) hisR ?_
  intro p e s m args below meth c s₁ Bd hml0 hP hK
  obtain ⟨rfl, hZ, hh⟩ := hP
  have hx := Bd.exec
  have hby := Bd.bytes
  have hml : c.maxLocals = 5 := hml0
  have hown : s.vm.findClass "com/example/rows_over_order/rowsoverorder/TupleCodecRangeEndPinLaw" = some m.cls := findClass_of_methodNamed Bd.named
  have hnm := (name_of_methodNamed Bd.named Bd.method).1
  have X0 : Stand p l e ({ frames := 0, cells := 0, slots := 0, locals := 0 } : Room) s m #[(.ref o0), (.int (0 : Int32)), (.int p2), (.int p3), (.int p4)] below meth c s₁ [] 0 0 := Stand.of_body Bd
  have e0 : s₁.heap = h0 := by rw [← hh, Bd.state]; rfl
  have N0 := Fr.nil n0
  show OGo p e below s (Q4L10 Z o0 p2 p3 p4 k_o0 x0 h0 n0) ({ frames := 0, cells := 0, slots := 0, locals := 0 } : Room).cells ({ frames := 0, cells := 0, slots := 0, locals := 0 } : Room).slots _
  refine OGo.st (fun _ k => castTop (ef_4L10 m o0 p2 p3 p4) k) ?_
  show OGo p e below s _ _ _ (s₁.setTop (mkF m 0 #[.val (.ref o0), .val (.int (0 : Int32)), .val (.int p2), .val (.int p3), .val (.int p4)] []))
  refine OGo.st (fun _ k => XS.iloadN X0.here hx rfl (hb hby d4_0) rfl k) ?_
  show OGo p e below s _ _ _ (s₁.setTop (mkF m 1 #[.val (.ref o0), .val (.int (0 : Int32)), .val (.int p2), .val (.int p3), .val (.int p4)] [(.int (0 : Int32))]))
  refine OGo.st (fun _ k => XS.iconst X0.here hx rfl (hb hby d4_1) k) ?_
  show OGo p e below s _ _ _ (s₁.setTop (mkF m 2 #[.val (.ref o0), .val (.int (0 : Int32)), .val (.int p2), .val (.int p3), .val (.int p4)] [(.int (1 : Int32)), (.int (0 : Int32))]))
  refine OGo.st (fun _ k => XS.icmpYes X0.here hx rfl (pc0 := 2) (pc' := 14) rfl (hb hby d4_2) rfl (tlt (by decide : (0 : Int32) < (1 : Int32))).1 (by decide) (by decide) k) ?_
  show OGo p e below s _ _ _ (s₁.setTop (mkF m 14 #[.val (.ref o0), .val (.int (0 : Int32)), .val (.int p2), .val (.int p3), .val (.int p4)] []))
  refine OGo.st (fun _ k => XS.iloadN X0.here hx rfl (hb hby d4_14) rfl k) ?_
  show OGo p e below s _ _ _ (s₁.setTop (mkF m 15 #[.val (.ref o0), .val (.int (0 : Int32)), .val (.int p2), .val (.int p3), .val (.int p4)] [(.int (0 : Int32))]))
  refine OGo.st (fun _ k => XS.iconst X0.here hx rfl (hb hby d4_15) k) ?_
  show OGo p e below s _ _ _ (s₁.setTop (mkF m 16 #[.val (.ref o0), .val (.int (0 : Int32)), .val (.int p2), .val (.int p3), .val (.int p4)] [(.int (2 : Int32)), (.int (0 : Int32))]))
  refine OGo.st (fun _ k => XS.icmpYes X0.here hx rfl (pc0 := 16) (pc' := 28) rfl (hb hby d4_16) rfl (tlt (by decide : (0 : Int32) < (2 : Int32))).1 (by decide) (by decide) k) ?_
  show OGo p e below s _ _ _ (s₁.setTop (mkF m 28 #[.val (.ref o0), .val (.int (0 : Int32)), .val (.int p2), .val (.int p3), .val (.int p4)] []))
  refine OGo.st (fun _ k => XS.iloadN X0.here hx rfl (hb hby d4_28) rfl k) ?_
  show OGo p e below s _ _ _ (s₁.setTop (mkF m 29 #[.val (.ref o0), .val (.int (0 : Int32)), .val (.int p2), .val (.int p3), .val (.int p4)] [(.int (0 : Int32))]))
  refine OGo.st (fun _ k => XS.iconst X0.here hx rfl (hb hby d4_29) k) ?_
  show OGo p e below s _ _ _ (s₁.setTop (mkF m 30 #[.val (.ref o0), .val (.int (0 : Int32)), .val (.int p2), .val (.int p3), .val (.int p4)] [(.int (3 : Int32)), (.int (0 : Int32))]))
  refine OGo.st (fun _ k => XS.icmpYes X0.here hx rfl (pc0 := 30) (pc' := 43) rfl (hb hby d4_30) rfl (tlt (by decide : (0 : Int32) < (3 : Int32))).1 (by decide) (by decide) k) ?_
  show OGo p e below s _ _ _ (s₁.setTop (mkF m 43 #[.val (.ref o0), .val (.int (0 : Int32)), .val (.int p2), .val (.int p3), .val (.int p4)] []))
  refine OGo.st (fun _ k => XS.iconst X0.here hx rfl (hb hby d4_43) k) ?_
  show OGo p e below s _ _ _ (s₁.setTop (mkF m 44 #[.val (.ref o0), .val (.int (0 : Int32)), .val (.int p2), .val (.int p3), .val (.int p4)] [(.int (1 : Int32))]))
  exact oretN X0 hx Bd.notSynchronized (t := .boolean) Bd.returns (by simp) (hb hby d4_44) (z' := (1 : Int32)) (by decide) e0 ⟨(congrArg (fun z => some (Value.int z)) (show (1 : Int32) = f4L10 from Eq.symm (by unfold f4L10; exact rfl))), N0, rfl⟩ (by decide) (by decide)
theorem ef_3L1 (m : MethodId) : entryFrame m #[(.int (1 : Int32)), (.int (2 : Int32))] 2 = mkF m 0 #[.val (.int (1 : Int32)), .val (.int (2 : Int32))] [] := by first | (simp [entryFrame, mkF, argsToLocals, Value.category]; done) | rfl
def f3L1 : Int32 := (1 : Int32)
def Q3L1 (Z : State) (h0 : Heap) (n0 : Nat) (v : Option Value) (h : Heap) (L : List Loc) : Prop := v = some (.int (f3L1)) ∧ Fr n0 L ∧ h = h0
set_option maxRecDepth 65536 in
set_option maxHeartbeats 40000000 in
theorem rm3L1 (l : Launch) (Z : State) (a0 : Array Value) (hw : ∀ d ∈ tables_1, d.before a0 Z = true) (ws : List Jvm.Cond) (h0 : Heap) (n0 : Nat) (Z0 : n0 ≤ h0.size) :
    MetFree l (⟨"java/lang/Math", "min", "(II)I"⟩ : MethodName) (head1 (Jvm.Cond.code (⟨"java/lang/Math", "min", "(II)I"⟩ : MethodName) jdk_29_method_69_code 2 (some .int) :: ws) ({ frames := 0, cells := 0, slots := 0, locals := 0 } : Room)) (fun a U => a = #[(.int (1 : Int32)), (.int (2 : Int32))] ∧ Z.Warmed39 U.vm ∧ U.heap = h0) (fun _ _ _ _ _ => True) (fun _ U o U' => ∃ v L, o = .returned v ∧ Q3L1 Z h0 n0 v U'.heap L ∧ FrameEnd U o U' L ({ frames := 0, cells := 0, slots := 0, locals := 0 } : Room).cells ({ frames := 0, cells := 0, slots := 0, locals := 0 } : Room).slots) := by
  refine MetFree.of_bodySF (Jvm.Free.JP.mathPlain rfl (by decide +kernel)) hisR ?_
  intro p e s m args below meth c s₁ Bd hml0 hP hK
  obtain ⟨rfl, hZ, hh⟩ := hP
  have hx := Bd.exec
  have hby := Bd.bytes
  have hml : c.maxLocals = 2 := hml0
  have hown : s.vm.findClass "java/lang/Math" = some m.cls := findClass_of_methodNamed Bd.named
  have hnm := (name_of_methodNamed Bd.named Bd.method).1
  have X0 : Stand p l e ({ frames := 0, cells := 0, slots := 0, locals := 0 } : Room) s m #[(.int (1 : Int32)), (.int (2 : Int32))] below meth c s₁ [] 0 0 := Stand.of_body Bd
  have e0 : s₁.heap = h0 := by rw [← hh, Bd.state]; rfl
  have N0 := Fr.nil n0
  show OGo p e below s (Q3L1 Z h0 n0) ({ frames := 0, cells := 0, slots := 0, locals := 0 } : Room).cells ({ frames := 0, cells := 0, slots := 0, locals := 0 } : Room).slots _
  refine OGo.st (fun _ k => castTop (ef_3L1 m) k) ?_
  show OGo p e below s _ _ _ (s₁.setTop (mkF m 0 #[.val (.int (1 : Int32)), .val (.int (2 : Int32))] []))
  refine OGo.st (fun _ k => XS.iloadN X0.here hx rfl (hb hby d3_0) rfl k) ?_
  show OGo p e below s _ _ _ (s₁.setTop (mkF m 1 #[.val (.int (1 : Int32)), .val (.int (2 : Int32))] [(.int (1 : Int32))]))
  refine OGo.st (fun _ k => XS.iloadN X0.here hx rfl (hb hby d3_1) rfl k) ?_
  show OGo p e below s _ _ _ (s₁.setTop (mkF m 2 #[.val (.int (1 : Int32)), .val (.int (2 : Int32))] [(.int (2 : Int32)), (.int (1 : Int32))]))
  refine OGo.st (fun _ k => XS.icmpNo X0.here hx rfl (hb hby d3_2) rfl (flt (by decide : ¬ ((2 : Int32) < (1 : Int32)))).2.2.1 k) ?_
  show OGo p e below s _ _ _ (s₁.setTop (mkF m 5 #[.val (.int (1 : Int32)), .val (.int (2 : Int32))] []))
  refine OGo.st (fun _ k => XS.iloadN X0.here hx rfl (hb hby d3_5) rfl k) ?_
  show OGo p e below s _ _ _ (s₁.setTop (mkF m 6 #[.val (.int (1 : Int32)), .val (.int (2 : Int32))] [(.int (1 : Int32))]))
  refine OGo.st (fun _ k => XS.goto X0.here hx rfl (pc0 := 6) (pc' := 10) rfl (hb hby d3_6) (by decide) (by decide) k) ?_
  show OGo p e below s _ _ _ (s₁.setTop (mkF m 10 #[.val (.int (1 : Int32)), .val (.int (2 : Int32))] [(.int (1 : Int32))]))
  exact oretI X0 hx Bd.notSynchronized Bd.returns (hb hby d3_10) e0 ⟨(congrArg (fun z => some (Value.int z)) (show (1 : Int32) = f3L1 from Eq.symm (by unfold f3L1; exact rfl))), N0, rfl⟩ (by decide) (by decide)
theorem pd_2L1_0 : parseMethodDescriptor "(II)I" = some ⟨[.int, .int], some .int⟩ := by decide +kernel
theorem ef_2L1 (m : MethodId) (o0 : Addr) : entryFrame m #[(.ref o0), (.int (2 : Int32))] 3 = mkF m 0 #[.val (.ref o0), .val (.int (2 : Int32)), .unset] [] := by first | (simp [entryFrame, mkF, argsToLocals, Value.category]; done) | rfl
def Q2L1 (Z : State) (o0 : Addr) (k_o0 : ClassId) (x0 : Int32) (h0 : Heap) (n0 : Nat) (v : Option Value) (h : Heap) (L : List Loc) : Prop := ∃ (b : Addr) (k : ClassId), v = some (.ref b) ∧ Fr n0 L ∧ Keep h0 h [] ∧ h0.size ≤ b ∧ n0 ≤ b ∧ Arv Z h b k .byte (2 : Int32) [(.int x0), (.int (0 : Int32))] (.int (0 : Int32))
set_option maxRecDepth 65536 in
set_option maxHeartbeats 40000000 in
theorem rm2L1 (l : Launch) (Z : State) (a0 : Array Value) (hw : ∀ d ∈ tables_1, d.before a0 Z = true) (ws : List Jvm.Cond) (o0 : Addr) (k_o0 : ClassId) (x0 : Int32) (h0 : Heap) (n0 : Nat) (Z0 : n0 ≤ h0.size) (V_o0 : Arv Z h0 o0 k_o0 .byte (1 : Int32) [(.int x0)] (.int (0 : Int32))) :
    MetFree l (⟨"java/util/Arrays", "copyOf", "([BI)[B"⟩ : MethodName) (head1 (Jvm.Cond.code (⟨"java/util/Arrays", "copyOf", "([BI)[B"⟩ : MethodName) jdk_65_method_121_code 3 (some (.array .byte)) :: ws) ({ frames := 1, cells := 1, slots := 2, locals := 18 } : Room)) (fun a U => a = #[(.ref o0), (.int (2 : Int32))] ∧ Z.Warmed39 U.vm ∧ U.heap = h0) (fun _ _ _ _ _ => True) (fun _ U o U' => ∃ v L, o = .returned v ∧ Q2L1 Z o0 k_o0 x0 h0 n0 v U'.heap L ∧ FrameEnd U o U' L ({ frames := 1, cells := 1, slots := 2, locals := 18 } : Room).cells ({ frames := 1, cells := 1, slots := 2, locals := 18 } : Room).slots) := by
  refine MetFree.of_bodySF (plainFor_of_name pn_2) hisR ?_
  intro p e s m args below meth c s₁ Bd hml0 hP hK
  obtain ⟨rfl, hZ, hh⟩ := hP
  have hx := Bd.exec
  have hby := Bd.bytes
  have hml : c.maxLocals = 3 := hml0
  have hown : s.vm.findClass "java/util/Arrays" = some m.cls := findClass_of_methodNamed Bd.named
  have hnm := (name_of_methodNamed Bd.named Bd.method).1
  have X0 : Stand p l e ({ frames := 1, cells := 1, slots := 2, locals := 18 } : Room) s m #[(.ref o0), (.int (2 : Int32))] below meth c s₁ [] 0 0 := Stand.of_body Bd
  have e0 : s₁.heap = h0 := by rw [← hh, Bd.state]; rfl
  have N0 := Fr.nil n0
  show OGo p e below s (Q2L1 Z o0 k_o0 x0 h0 n0) ({ frames := 1, cells := 1, slots := 2, locals := 18 } : Room).cells ({ frames := 1, cells := 1, slots := 2, locals := 18 } : Room).slots _
  refine OGo.st (fun _ k => castTop (ef_2L1 m o0) k) ?_
  show OGo p e below s _ _ _ (s₁.setTop (mkF m 0 #[.val (.ref o0), .val (.int (2 : Int32)), .unset] []))
  refine OGo.st (fun _ k => XS.iloadN X0.here hx rfl (hb hby d2_0) rfl k) ?_
  show OGo p e below s _ _ _ (s₁.setTop (mkF m 1 #[.val (.ref o0), .val (.int (2 : Int32)), .unset] [(.int (2 : Int32))]))
  refine OGo.st (fun _ k => XS.aloadN X0.here hx rfl (hb hby d2_1) rfl rfl k) ?_
  show OGo p e below s _ _ _ (s₁.setTop (mkF m 2 #[.val (.ref o0), .val (.int (2 : Int32)), .unset] [(.ref o0), (.int (2 : Int32))]))
  obtain ⟨cl1, Ar1, -, Sz1, Nn1, -, -⟩ := id V_o0
  refine OGo.st (fun _ k => X0.arraylength hx (by rw [e0]; exact Ar1.1) (State.isArrayOf_alike hZ.alike Ar1.2.1) (g := (mkF m 2 #[.val (.ref o0), .val (.int (2 : Int32)), .unset] [(.ref o0), (.int (2 : Int32))])) rfl rfl (hb hby d2_2) _ k) ?_
  rw [len_of Sz1 Nn1]
  show OGo p e below s _ _ _ (s₁.setTop (mkF m 3 #[.val (.ref o0), .val (.int (2 : Int32)), .unset] [(.int (1 : Int32)), (.int (2 : Int32))]))
  refine OGo.st (fun _ k => XS.icmpYes X0.here hx rfl (pc0 := 3) (pc' := 14) rfl (hb hby d2_3) rfl (feq (by decide : ¬ ((2 : Int32) = (1 : Int32)))).2 (by decide) (by decide) k) ?_
  show OGo p e below s _ _ _ (s₁.setTop (mkF m 14 #[.val (.ref o0), .val (.int (2 : Int32)), .unset] []))
  refine OGo.st (fun _ k => XS.iloadN X0.here hx rfl (hb hby d2_14) rfl k) ?_
  show OGo p e below s _ _ _ (s₁.setTop (mkF m 15 #[.val (.ref o0), .val (.int (2 : Int32)), .unset] [(.int (2 : Int32))]))
  obtain ⟨T2, h2, k2, X2, e2, E2, A2, st2⟩ := newP X0 hx hZ (hw _ (List.mem_of_getElem? (i := 0) rfl)) e0 (g := (mkF m 15 #[.val (.ref o0), .val (.int (2 : Int32)), .unset] [(.int (2 : Int32))])) rfl (hb hby d2_15) rfl (by decide) (cap := 2) (by decide) (by decide) (by decide) (by decide)
  obtain ⟨b2, g2⟩ : ∃ z, z = h0.size := ⟨_, rfl⟩
  rw [← g2] at A2 st2
  refine OGo.st st2 ?_
  have V_o0_w2 := V_o0.ext E2
  have ne_o0_b2 : o0 ≠ b2 := Nat.ne_of_lt (Nat.lt_of_lt_of_le V_o0.lt (Nat.le_of_eq g2.symm))
  have g_b2 : n0 ≤ b2 := Nat.le_trans Z0 (Nat.le_of_eq g2.symm)
  have sz_b2 : h0.size ≤ b2 := Nat.le_trans (Keep.refl h0 []).1 (Nat.le_of_eq g2.symm)
  have K2 : Keep h0 h2 [] := (Keep.refl h0 _).ext E2
  have Z2 : n0 ≤ h2.size := Nat.le_trans Z0 E2.1
  have V_b2 : Arv Z h2 b2 k2 .byte (2 : Int32) [(.int (0 : Int32)), (.int (0 : Int32))] (.int (0 : Int32)) := (Arv.new A2 (by decide)).pad (pad_rep [] (.int (0 : Int32)) 2)
  show OGo p e below s _ _ _ (T2.setTop (mkF m 17 #[.val (.ref o0), .val (.int (2 : Int32)), .unset] [(.ref b2)]))
  refine OGo.st (fun _ k => XS.astoreN X2.here hx rfl (hb hby d2_17) rfl rfl (l' := #[.val (.ref o0), .val (.int (2 : Int32)), .val (.ref b2)]) rfl k) ?_
  show OGo p e below s _ _ _ (T2.setTop (mkF m 18 #[.val (.ref o0), .val (.int (2 : Int32)), .val (.ref b2)] []))
  refine OGo.st (fun _ k => XS.aloadN X2.here hx rfl (hb hby d2_18) rfl rfl k) ?_
  show OGo p e below s _ _ _ (T2.setTop (mkF m 19 #[.val (.ref o0), .val (.int (2 : Int32)), .val (.ref b2)] [(.ref o0)]))
  refine OGo.st (fun _ k => XS.iconst X2.here hx rfl (hb hby d2_19) k) ?_
  show OGo p e below s _ _ _ (T2.setTop (mkF m 20 #[.val (.ref o0), .val (.int (2 : Int32)), .val (.ref b2)] [(.int (0 : Int32)), (.ref o0)]))
  refine OGo.st (fun _ k => XS.aloadN X2.here hx rfl (hb hby d2_20) rfl rfl k) ?_
  show OGo p e below s _ _ _ (T2.setTop (mkF m 21 #[.val (.ref o0), .val (.int (2 : Int32)), .val (.ref b2)] [(.ref b2), (.int (0 : Int32)), (.ref o0)]))
  refine OGo.st (fun _ k => XS.iconst X2.here hx rfl (hb hby d2_21) k) ?_
  show OGo p e below s _ _ _ (T2.setTop (mkF m 22 #[.val (.ref o0), .val (.int (2 : Int32)), .val (.ref b2)] [(.int (0 : Int32)), (.ref b2), (.int (0 : Int32)), (.ref o0)]))
  refine OGo.st (fun _ k => XS.aloadN X2.here hx rfl (hb hby d2_22) rfl rfl k) ?_
  show OGo p e below s _ _ _ (T2.setTop (mkF m 23 #[.val (.ref o0), .val (.int (2 : Int32)), .val (.ref b2)] [(.ref o0), (.int (0 : Int32)), (.ref b2), (.int (0 : Int32)), (.ref o0)]))
  obtain ⟨cl3, Ar3, -, Sz3, Nn3, -, -⟩ := id V_o0_w2
  refine OGo.st (fun _ k => X2.arraylength hx (by rw [e2]; exact Ar3.1) (State.isArrayOf_alike hZ.alike Ar3.2.1) (g := (mkF m 23 #[.val (.ref o0), .val (.int (2 : Int32)), .val (.ref b2)] [(.ref o0), (.int (0 : Int32)), (.ref b2), (.int (0 : Int32)), (.ref o0)])) rfl rfl (hb hby d2_23) _ k) ?_
  rw [len_of Sz3 Nn3]
  show OGo p e below s _ _ _ (T2.setTop (mkF m 24 #[.val (.ref o0), .val (.int (2 : Int32)), .val (.ref b2)] [(.int (1 : Int32)), (.int (0 : Int32)), (.ref b2), (.int (0 : Int32)), (.ref o0)]))
  refine OGo.st (fun _ k => XS.iloadN X2.here hx rfl (hb hby d2_24) rfl k) ?_
  show OGo p e below s _ _ _ (T2.setTop (mkF m 25 #[.val (.ref o0), .val (.int (2 : Int32)), .val (.ref b2)] [(.int (2 : Int32)), (.int (1 : Int32)), (.int (0 : Int32)), (.ref b2), (.int (0 : Int32)), (.ref o0)]))
  obtain ⟨_, _, ⟨T4, L4, k4, n4⟩, -, X4, ⟨Lc4, hQ4, l4, y4, z4⟩, st4⟩ := Jvm.LawKit.callS X2 hx (y := (⟨"java/lang/Math", "min", "(II)I"⟩ : MethodName)) hown (mvT hZ (hw _ (List.mem_of_getElem? (i := 9) rfl))) (mvT hZ (hw _ (List.mem_of_getElem? (i := 10) rfl))) (mvT hZ (hw _ (List.mem_of_getElem? (i := 11) rfl))) (mvT hZ (hw _ (List.mem_of_getElem? (i := 12) rfl))) (by decide) (backOf (W := 4) (rm3L1 l Z a0 hw [] h2 n0 Z2) hZ (hw _ (List.mem_of_getElem? (i := 12) rfl)) (hw _ (List.mem_of_getElem? (i := 11) rfl)) (by decide) (by decide)) (g := (mkF m 25 #[.val (.ref o0), .val (.int (2 : Int32)), .val (.ref b2)] [(.int (2 : Int32)), (.int (1 : Int32)), (.int (0 : Int32)), (.ref b2), (.int (0 : Int32)), (.ref o0)])) rfl (by rw [hml]; rfl) (argsL := [(.int (1 : Int32)), (.int (2 : Int32))]) (rest := [(.int (0 : Int32)), (.ref b2), (.int (0 : Int32)), (.ref o0)]) (lenOf pd_2L1_0 rfl) rfl (by show 2 * 0 + _ ≤ _; exact Nat.le_of_eq rfl) (hb hby d2_25) (fun _ _ => ⟨rfl, e2, (by decide : 1 + 0 ≤ _), (by decide : 2 + 0 ≤ _)⟩)
  dsimp only [Pt.U, Pt.locs, Pt.cells, Pt.slots] at X4 l4 y4 z4 st4 hQ4
  subst l4 y4 z4
  obtain ⟨rfl, N4q, e4⟩ := hQ4
  have hl4 : (f3L1) = (1 : Int32) := rfl
  have N4 := Fr.app N0 N4q
  refine OGo.st st4 ?_
  show OGo p e below s _ _ _ (T4.setTop (mkF m 28 #[.val (.ref o0), .val (.int (2 : Int32)), .val (.ref b2)] [(.int (1 : Int32)), (.int (0 : Int32)), (.ref b2), (.int (0 : Int32)), (.ref o0)]))
  obtain ⟨T5, h5, L5, X5, e5, N5, Kc5, Vq5, st5⟩ := cpA X4 hx hZ hown (hw _ (List.mem_of_getElem? (i := 13) rfl)) (hw _ (List.mem_of_getElem? (i := 16) rfl)) (hw _ (List.mem_of_getElem? (i := 14) rfl)) (hw _ (List.mem_of_getElem? (i := 15) rfl)) e4 V_o0_w2 V_b2 (us := [(.int x0)]) (sp := (0 : Int32)) (dp := (0 : Int32)) (nn := (1 : Int32)) (Or.inl ⟨rfl, rfl⟩) (by decide) (by decide) (by decide) (by decide) (by decide) rfl (by decide) N4 g_b2 (g := (mkF m 28 #[.val (.ref o0), .val (.int (2 : Int32)), .val (.ref b2)] [(.int (1 : Int32)), (.int (0 : Int32)), (.ref b2), (.int (0 : Int32)), (.ref o0)])) rfl (by rw [hml]; rfl) rfl (hb hby d2_28) (by decide) (W := 0) (by show 2 * 0 + _ ≤ _; exact Nat.le_of_eq rfl) (by decide)
  have V_o0_w5 := V_o0_w2.keep Kc5 (ninS ne_o0_b2 nin0)
  have K5 : Keep h0 h5 [] := (K2).trans Kc5 (allS (Or.inr sz_b2) all0)
  have Z5 : n0 ≤ h5.size := Nat.le_trans Z2 Kc5.1
  have V5 : Arv Z h5 b2 k2 .byte (2 : Int32) [(.int x0), (.int (0 : Int32))] (.int (0 : Int32)) := Vq5
  refine OGo.st st5 ?_
  show OGo p e below s _ _ _ (T5.setTop (mkF m 31 #[.val (.ref o0), .val (.int (2 : Int32)), .val (.ref b2)] []))
  refine OGo.st (fun _ k => XS.aloadN X5.here hx rfl (hb hby d2_31) rfl rfl k) ?_
  show OGo p e below s _ _ _ (T5.setTop (mkF m 32 #[.val (.ref o0), .val (.int (2 : Int32)), .val (.ref b2)] [(.ref b2)]))
  exact oretA X5 hx Bd.notSynchronized Bd.returns rfl rfl (hb hby d2_32) e5 ⟨b2, k2, rfl, N5, K5, sz_b2, g_b2, V5⟩ (by decide) (by decide)
theorem pd_1L1_0 : parseMethodDescriptor "([BI)[B" = some ⟨[(.array .byte), .int], some (.array .byte)⟩ := by decide +kernel
theorem ef_1L1 (m : MethodId) (o0 : Addr) : entryFrame m #[(.ref o0)] 2 = mkF m 0 #[.val (.ref o0), .unset] [] := by first | (simp [entryFrame, mkF, argsToLocals, Value.category]; done) | rfl
def Q1L1 (Z : State) (o0 : Addr) (k_o0 : ClassId) (x0 : Int32) (h0 : Heap) (n0 : Nat) (v : Option Value) (h : Heap) (L : List Loc) : Prop := ∃ (b : Addr) (k : ClassId), v = some (.ref b) ∧ Fr n0 L ∧ Keep h0 h [] ∧ h0.size ≤ b ∧ n0 ≤ b ∧ Arv Z h b k .byte (2 : Int32) [(.int x0), (.int (-1 : Int32))] (.int (0 : Int32))
set_option maxRecDepth 65536 in
set_option maxHeartbeats 40000000 in
theorem rm1L1 (l : Launch) (Z : State) (a0 : Array Value) (hw : ∀ d ∈ tables_1, d.before a0 Z = true) (ws : List Jvm.Cond) (o0 : Addr) (k_o0 : ClassId) (x0 : Int32) (h0 : Heap) (n0 : Nat) (Z0 : n0 ≤ h0.size) (V_o0 : Arv Z h0 o0 k_o0 .byte (1 : Int32) [(.int x0)] (.int (0 : Int32))) :
    MetFree l (⟨"com/example/rows_over_order/rowsoverorder/TupleCodec", "rangeEnd", "([B)[B"⟩ : MethodName) (head1 (Jvm.Cond.code (⟨"com/example/rows_over_order/rowsoverorder/TupleCodec", "rangeEnd", "([B)[B"⟩ : MethodName) prog_14_method_4_code 2 (some (.array .byte)) :: ws) ({ frames := 2, cells := 1, slots := 2, locals := 32 } : Room)) (fun a U => a = #[(.ref o0)] ∧ Z.Warmed39 U.vm ∧ U.heap = h0) (fun _ _ _ _ _ => True) (fun _ U o U' => ∃ v L, o = .returned v ∧ Q1L1 Z o0 k_o0 x0 h0 n0 v U'.heap L ∧ FrameEnd U o U' L ({ frames := 2, cells := 1, slots := 2, locals := 32 } : Room).cells ({ frames := 2, cells := 1, slots := 2, locals := 32 } : Room).slots) := by
  refine MetFree.of_bodySF (plainFor_of_name pn_1) hisR ?_
  intro p e s m args below meth c s₁ Bd hml0 hP hK
  obtain ⟨rfl, hZ, hh⟩ := hP
  have hx := Bd.exec
  have hby := Bd.bytes
  have hml : c.maxLocals = 2 := hml0
  have hown : s.vm.findClass "com/example/rows_over_order/rowsoverorder/TupleCodec" = some m.cls := findClass_of_methodNamed Bd.named
  have hnm := (name_of_methodNamed Bd.named Bd.method).1
  have X0 : Stand p l e ({ frames := 2, cells := 1, slots := 2, locals := 32 } : Room) s m #[(.ref o0)] below meth c s₁ [] 0 0 := Stand.of_body Bd
  have e0 : s₁.heap = h0 := by rw [← hh, Bd.state]; rfl
  have N0 := Fr.nil n0
  show OGo p e below s (Q1L1 Z o0 k_o0 x0 h0 n0) ({ frames := 2, cells := 1, slots := 2, locals := 32 } : Room).cells ({ frames := 2, cells := 1, slots := 2, locals := 32 } : Room).slots _
  refine OGo.st (fun _ k => castTop (ef_1L1 m o0) k) ?_
  show OGo p e below s _ _ _ (s₁.setTop (mkF m 0 #[.val (.ref o0), .unset] []))
  refine OGo.st (fun _ k => XS.aloadN X0.here hx rfl (hb hby d1_0) rfl rfl k) ?_
  show OGo p e below s _ _ _ (s₁.setTop (mkF m 1 #[.val (.ref o0), .unset] [(.ref o0)]))
  refine OGo.st (fun _ k => XS.aloadN X0.here hx rfl (hb hby d1_1) rfl rfl k) ?_
  show OGo p e below s _ _ _ (s₁.setTop (mkF m 2 #[.val (.ref o0), .unset] [(.ref o0), (.ref o0)]))
  obtain ⟨cl1, Ar1, -, Sz1, Nn1, -, -⟩ := id V_o0
  refine OGo.st (fun _ k => X0.arraylength hx (by rw [e0]; exact Ar1.1) (State.isArrayOf_alike hZ.alike Ar1.2.1) (g := (mkF m 2 #[.val (.ref o0), .unset] [(.ref o0), (.ref o0)])) rfl rfl (hb hby d1_2) _ k) ?_
  rw [len_of Sz1 Nn1]
  show OGo p e below s _ _ _ (s₁.setTop (mkF m 3 #[.val (.ref o0), .unset] [(.int (1 : Int32)), (.ref o0)]))
  refine OGo.st (fun _ k => XS.iconst X0.here hx rfl (hb hby d1_3) k) ?_
  show OGo p e below s _ _ _ (s₁.setTop (mkF m 4 #[.val (.ref o0), .unset] [(.int (1 : Int32)), (.int (1 : Int32)), (.ref o0)]))
  refine OGo.st (fun _ k => XS.iadd X0.here hx rfl (hb hby d1_4) rfl k) ?_
  rw [show ((1 : Int32) + (1 : Int32)) = (2 : Int32) from by decide]
  show OGo p e below s _ _ _ (s₁.setTop (mkF m 5 #[.val (.ref o0), .unset] [(.int (2 : Int32)), (.ref o0)]))
  obtain ⟨_, _, ⟨T2, L2, k2, n2⟩, -, X2, ⟨Lc2, hQ2, l2, y2, z2⟩, st2⟩ := Jvm.LawKit.callS X0 hx (y := (⟨"java/util/Arrays", "copyOf", "([BI)[B"⟩ : MethodName)) hown (mvT hZ (hw _ (List.mem_of_getElem? (i := 5) rfl))) (mvT hZ (hw _ (List.mem_of_getElem? (i := 6) rfl))) (mvT hZ (hw _ (List.mem_of_getElem? (i := 7) rfl))) (mvT hZ (hw _ (List.mem_of_getElem? (i := 8) rfl))) (by decide) (backOf (W := 0) (rm2L1 l Z a0 hw [] o0 k_o0 x0 h0 n0 Z0 V_o0) hZ (hw _ (List.mem_of_getElem? (i := 8) rfl)) (hw _ (List.mem_of_getElem? (i := 7) rfl)) (by decide) (by decide)) (g := (mkF m 5 #[.val (.ref o0), .unset] [(.int (2 : Int32)), (.ref o0)])) rfl (by rw [hml]; rfl) (argsL := [(.ref o0), (.int (2 : Int32))]) (rest := []) (lenOf pd_1L1_0 rfl) rfl (by show 2 * 0 + _ ≤ _; exact Nat.le_of_eq rfl) (hb hby d1_5) (fun _ _ => ⟨rfl, e0, (by decide : 0 + 1 ≤ _), (by decide : 0 + 2 ≤ _)⟩)
  dsimp only [Pt.U, Pt.locs, Pt.cells, Pt.slots] at X2 l2 y2 z2 st2 hQ2
  subst l2 y2 z2
  obtain ⟨b2, kk2, rfl, N2q, Kc2, szq2, g_b2, V2⟩ := hQ2
  have ne_o0_b2 : o0 ≠ b2 := Nat.ne_of_lt (Nat.lt_of_lt_of_le V_o0.lt szq2)
  have sz_b2 : h0.size ≤ b2 := Nat.le_trans (Keep.refl h0 []).1 szq2
  have V_o0_w2 := V_o0.keep Kc2 nin0
  have K2 : Keep h0 T2.heap [] := (Keep.refl h0 _).trans Kc2 all0
  have Z2 : n0 ≤ T2.heap.size := Nat.le_trans Z0 Kc2.1
  have V2 : Arv Z T2.heap b2 kk2 .byte (2 : Int32) [(.int x0), (.int (0 : Int32))] (.int (0 : Int32)) := V2
  have N2 := Fr.app N0 N2q
  refine OGo.st st2 ?_
  show OGo p e below s _ _ _ (T2.setTop (mkF m 8 #[.val (.ref o0), .unset] [(.ref b2)]))
  refine OGo.st (fun _ k => XS.astoreN X2.here hx rfl (hb hby d1_8) rfl rfl (l' := #[.val (.ref o0), .val (.ref b2)]) rfl k) ?_
  show OGo p e below s _ _ _ (T2.setTop (mkF m 9 #[.val (.ref o0), .val (.ref b2)] []))
  refine OGo.st (fun _ k => XS.aloadN X2.here hx rfl (hb hby d1_9) rfl rfl k) ?_
  show OGo p e below s _ _ _ (T2.setTop (mkF m 10 #[.val (.ref o0), .val (.ref b2)] [(.ref b2)]))
  refine OGo.st (fun _ k => XS.aloadN X2.here hx rfl (hb hby d1_10) rfl rfl k) ?_
  show OGo p e below s _ _ _ (T2.setTop (mkF m 11 #[.val (.ref o0), .val (.ref b2)] [(.ref o0), (.ref b2)]))
  obtain ⟨cl3, Ar3, -, Sz3, Nn3, -, -⟩ := id V_o0_w2
  refine OGo.st (fun _ k => X2.arraylength hx Ar3.1 (State.isArrayOf_alike hZ.alike Ar3.2.1) (g := (mkF m 11 #[.val (.ref o0), .val (.ref b2)] [(.ref o0), (.ref b2)])) rfl rfl (hb hby d1_11) _ k) ?_
  rw [len_of Sz3 Nn3]
  show OGo p e below s _ _ _ (T2.setTop (mkF m 12 #[.val (.ref o0), .val (.ref b2)] [(.int (1 : Int32)), (.ref b2)]))
  refine OGo.st (fun _ k => XS.iconst X2.here hx rfl (hb hby d1_12) k) ?_
  show OGo p e below s _ _ _ (T2.setTop (mkF m 13 #[.val (.ref o0), .val (.ref b2)] [(.int (-1 : Int32)), (.int (1 : Int32)), (.ref b2)]))
  obtain ⟨cl4, Ar4, q4, Sz4, Nn4, Hs4, Gs4⟩ := id V2
  have hin4 : ¬ ((1 : Int32) < 0 ∨ cl4.slots.size ≤ ((1 : Int32)).toNatClampNeg) := inb_of Sz4 ⟨by decide, by decide⟩
  obtain ⟨T4, h4, X4, e4, W4, st4⟩ := stB X2 hx hZ rfl Ar4 (j := (1 : Int32)) hin4 (g := (mkF m 13 #[.val (.ref o0), .val (.ref b2)] [(.int (-1 : Int32)), (.int (1 : Int32)), (.ref b2)])) rfl rfl (hb hby d1_13)
  refine OGo.st st4 ?_
  have V_o0_w4 := V_o0_w2.other W4 ne_o0_b2
  have K4 : Keep h0 h4 [] := (K2).wr W4 (Or.inr sz_b2)
  have N4 := Fr.snoc X4 N2 g_b2
  have Z4 : n0 ≤ h4.size := Nat.le_trans Z2 (Keep.of_wr W4).1
  have V4 : Arv Z h4 b2 kk2 .byte (2 : Int32) [(.int x0), (.int (-1 : Int32))] (.int (0 : Int32)) := Arv.set Ar4 q4 Sz4 Nn4 Hs4 Gs4 (by decide) W4 1 rfl (Nat.le_of_ble_eq_true rfl)
  show OGo p e below s _ _ _ (T4.setTop (mkF m 14 #[.val (.ref o0), .val (.ref b2)] []))
  refine OGo.st (fun _ k => XS.aloadN X4.here hx rfl (hb hby d1_14) rfl rfl k) ?_
  show OGo p e below s _ _ _ (T4.setTop (mkF m 15 #[.val (.ref o0), .val (.ref b2)] [(.ref b2)]))
  exact oretA X4 hx Bd.notSynchronized Bd.returns rfl rfl (hb hby d1_15) e4 ⟨b2, kk2, rfl, N4, K4, sz_b2, g_b2, V4⟩ (by decide) (by decide)
theorem d4_5 : decode method_3_code 5 = .ok (.aload_n 0, 1) := by decide +kernel
theorem d4_6 : decode method_3_code 6 = .ok (.iconst 0, 1) := by decide +kernel
theorem d4_7 : decode method_3_code 7 = .ok (.baload, 1) := by decide +kernel
theorem d4_8 : decode method_3_code 8 = .ok (.iload_n 2, 1) := by decide +kernel
theorem d4_9 : decode method_3_code 9 = .ok (.if_icmp .eq 5, 3) := by decide +kernel
theorem d4_12 : decode method_3_code 12 = .ok (.iconst 0, 1) := by decide +kernel
theorem d4_13 : decode method_3_code 13 = .ok (.ireturn, 1) := by decide +kernel
theorem ef_4L11 (m : MethodId) (o0 : Addr) (p2 : Int32) (p3 : Int32) (p4 : Int32) : entryFrame m #[(.ref o0), (.int (1 : Int32)), (.int p2), (.int p3), (.int p4)] 5 = mkF m 0 #[.val (.ref o0), .val (.int (1 : Int32)), .val (.int p2), .val (.int p3), .val (.int p4)] [] := by first | (simp [entryFrame, mkF, argsToLocals, Value.category]; done) | rfl
def f4L11 (p2 : Int32) (x0 : Int32) : Int32 := (if x0 = p2 then (1 : Int32) else (0 : Int32))
def Q4L11 (Z : State) (o0 : Addr) (p2 : Int32) (p3 : Int32) (p4 : Int32) (k_o0 : ClassId) (x0 : Int32) (h0 : Heap) (n0 : Nat) (v : Option Value) (h : Heap) (L : List Loc) : Prop := v = some (.int (f4L11 p2 x0)) ∧ Fr n0 L ∧ h = h0
set_option maxRecDepth 65536 in
set_option maxHeartbeats 40000000 in
theorem rm4L11 (l : Launch) (Z : State) (a0 : Array Value) (hw : ∀ d ∈ tables_1, d.before a0 Z = true) (ws : List Jvm.Cond) (o0 : Addr) (p2 : Int32) (p3 : Int32) (p4 : Int32) (k_o0 : ClassId) (x0 : Int32) (h0 : Heap) (n0 : Nat) (Z0 : n0 ≤ h0.size) (V_o0 : Arv Z h0 o0 k_o0 .byte (1 : Int32) [(.int x0)] (.int (0 : Int32))) :
    MetFree l (⟨"com/example/rows_over_order/rowsoverorder/TupleCodecRangeEndPinLaw", "matches", "([BIBBB)Z"⟩ : MethodName) (head1 (Jvm.Cond.code (⟨"com/example/rows_over_order/rowsoverorder/TupleCodecRangeEndPinLaw", "matches", "([BIBBB)Z"⟩ : MethodName) method_3_code 5 (some .boolean) :: ws) ({ frames := 0, cells := 0, slots := 0, locals := 0 } : Room)) (fun a U => a = #[(.ref o0), (.int (1 : Int32)), (.int p2), (.int p3), (.int p4)] ∧ Z.Warmed39 U.vm ∧ U.heap = h0) (fun _ _ _ _ _ => True) (fun _ U o U' => ∃ v L, o = .returned v ∧ Q4L11 Z o0 p2 p3 p4 k_o0 x0 h0 n0 v U'.heap L ∧ FrameEnd U o U' L ({ frames := 0, cells := 0, slots := 0, locals := 0 } : Room).cells ({ frames := 0, cells := 0, slots := 0, locals := 0 } : Room).slots) := by
  refine MetFree.of_bodySF (plainFor_of_name pn_4) hisR ?_
  intro p e s m args below meth c s₁ Bd hml0 hP hK
  obtain ⟨rfl, hZ, hh⟩ := hP
  have hx := Bd.exec
  have hby := Bd.bytes
  have hml : c.maxLocals = 5 := hml0
  have hown : s.vm.findClass "com/example/rows_over_order/rowsoverorder/TupleCodecRangeEndPinLaw" = some m.cls := findClass_of_methodNamed Bd.named
  have hnm := (name_of_methodNamed Bd.named Bd.method).1
  have X0 : Stand p l e ({ frames := 0, cells := 0, slots := 0, locals := 0 } : Room) s m #[(.ref o0), (.int (1 : Int32)), (.int p2), (.int p3), (.int p4)] below meth c s₁ [] 0 0 := Stand.of_body Bd
  have e0 : s₁.heap = h0 := by rw [← hh, Bd.state]; rfl
  have N0 := Fr.nil n0
  show OGo p e below s (Q4L11 Z o0 p2 p3 p4 k_o0 x0 h0 n0) ({ frames := 0, cells := 0, slots := 0, locals := 0 } : Room).cells ({ frames := 0, cells := 0, slots := 0, locals := 0 } : Room).slots _
  refine OGo.st (fun _ k => castTop (ef_4L11 m o0 p2 p3 p4) k) ?_
  show OGo p e below s _ _ _ (s₁.setTop (mkF m 0 #[.val (.ref o0), .val (.int (1 : Int32)), .val (.int p2), .val (.int p3), .val (.int p4)] []))
  refine OGo.st (fun _ k => XS.iloadN X0.here hx rfl (hb hby d4_0) rfl k) ?_
  show OGo p e below s _ _ _ (s₁.setTop (mkF m 1 #[.val (.ref o0), .val (.int (1 : Int32)), .val (.int p2), .val (.int p3), .val (.int p4)] [(.int (1 : Int32))]))
  refine OGo.st (fun _ k => XS.iconst X0.here hx rfl (hb hby d4_1) k) ?_
  show OGo p e below s _ _ _ (s₁.setTop (mkF m 2 #[.val (.ref o0), .val (.int (1 : Int32)), .val (.int p2), .val (.int p3), .val (.int p4)] [(.int (1 : Int32)), (.int (1 : Int32))]))
  refine OGo.st (fun _ k => XS.icmpNo X0.here hx rfl (hb hby d4_2) rfl (flt (by decide : ¬ ((1 : Int32) < (1 : Int32)))).1 k) ?_
  show OGo p e below s _ _ _ (s₁.setTop (mkF m 5 #[.val (.ref o0), .val (.int (1 : Int32)), .val (.int p2), .val (.int p3), .val (.int p4)] []))
  refine OGo.st (fun _ k => XS.aloadN X0.here hx rfl (hb hby d4_5) rfl rfl k) ?_
  show OGo p e below s _ _ _ (s₁.setTop (mkF m 6 #[.val (.ref o0), .val (.int (1 : Int32)), .val (.int p2), .val (.int p3), .val (.int p4)] [(.ref o0)]))
  refine OGo.st (fun _ k => XS.iconst X0.here hx rfl (hb hby d4_6) k) ?_
  show OGo p e below s _ _ _ (s₁.setTop (mkF m 7 #[.val (.ref o0), .val (.int (1 : Int32)), .val (.int p2), .val (.int p3), .val (.int p4)] [(.int (0 : Int32)), (.ref o0)]))
  obtain ⟨cl1, Ar1, q1, Sz1, Nn1, Hs1, Gs1⟩ := id V_o0
  have hin1 : ¬ ((0 : Int32) < 0 ∨ cl1.slots.size ≤ ((0 : Int32)).toNatClampNeg) := inb_of Sz1 ⟨by decide, by decide⟩
  have hat1 : cl1.slots[((0 : Int32)).toNatClampNeg]? = some (.int x0) := Hs1.at hin1 rfl
  refine OGo.st (fun _ k => X0.baloadBytes hx (j := (0 : Int32)) (v := (.int x0)) (by rw [e0]; exact Ar1.1) (State.isArrayOf_alike hZ.alike Ar1.2.1) Ar1.2.2 hin1 hat1 (g := (mkF m 7 #[.val (.ref o0), .val (.int (1 : Int32)), .val (.int p2), .val (.int p3), .val (.int p4)] [(.int (0 : Int32)), (.ref o0)])) rfl rfl (hb hby d4_7) _ k) ?_
  show OGo p e below s _ _ _ (s₁.setTop (mkF m 8 #[.val (.ref o0), .val (.int (1 : Int32)), .val (.int p2), .val (.int p3), .val (.int p4)] [(.int x0)]))
  refine OGo.st (fun _ k => XS.iloadN X0.here hx rfl (hb hby d4_8) rfl k) ?_
  show OGo p e below s _ _ _ (s₁.setTop (mkF m 9 #[.val (.ref o0), .val (.int (1 : Int32)), .val (.int p2), .val (.int p3), .val (.int p4)] [(.int p2), (.int x0)]))
  by_cases hc9 : x0 = p2
  · refine OGo.st (fun _ k => XS.icmpYes X0.here hx rfl (pc0 := 9) (pc' := 14) rfl (hb hby d4_9) rfl (teq hc9).1 (by decide) (by decide) k) ?_
    show OGo p e below s _ _ _ (s₁.setTop (mkF m 14 #[.val (.ref o0), .val (.int (1 : Int32)), .val (.int p2), .val (.int p3), .val (.int p4)] []))
    refine OGo.st (fun _ k => XS.iloadN X0.here hx rfl (hb hby d4_14) rfl k) ?_
    show OGo p e below s _ _ _ (s₁.setTop (mkF m 15 #[.val (.ref o0), .val (.int (1 : Int32)), .val (.int p2), .val (.int p3), .val (.int p4)] [(.int (1 : Int32))]))
    refine OGo.st (fun _ k => XS.iconst X0.here hx rfl (hb hby d4_15) k) ?_
    show OGo p e below s _ _ _ (s₁.setTop (mkF m 16 #[.val (.ref o0), .val (.int (1 : Int32)), .val (.int p2), .val (.int p3), .val (.int p4)] [(.int (2 : Int32)), (.int (1 : Int32))]))
    refine OGo.st (fun _ k => XS.icmpYes X0.here hx rfl (pc0 := 16) (pc' := 28) rfl (hb hby d4_16) rfl (tlt (by decide : (1 : Int32) < (2 : Int32))).1 (by decide) (by decide) k) ?_
    show OGo p e below s _ _ _ (s₁.setTop (mkF m 28 #[.val (.ref o0), .val (.int (1 : Int32)), .val (.int p2), .val (.int p3), .val (.int p4)] []))
    refine OGo.st (fun _ k => XS.iloadN X0.here hx rfl (hb hby d4_28) rfl k) ?_
    show OGo p e below s _ _ _ (s₁.setTop (mkF m 29 #[.val (.ref o0), .val (.int (1 : Int32)), .val (.int p2), .val (.int p3), .val (.int p4)] [(.int (1 : Int32))]))
    refine OGo.st (fun _ k => XS.iconst X0.here hx rfl (hb hby d4_29) k) ?_
    show OGo p e below s _ _ _ (s₁.setTop (mkF m 30 #[.val (.ref o0), .val (.int (1 : Int32)), .val (.int p2), .val (.int p3), .val (.int p4)] [(.int (3 : Int32)), (.int (1 : Int32))]))
    refine OGo.st (fun _ k => XS.icmpYes X0.here hx rfl (pc0 := 30) (pc' := 43) rfl (hb hby d4_30) rfl (tlt (by decide : (1 : Int32) < (3 : Int32))).1 (by decide) (by decide) k) ?_
    show OGo p e below s _ _ _ (s₁.setTop (mkF m 43 #[.val (.ref o0), .val (.int (1 : Int32)), .val (.int p2), .val (.int p3), .val (.int p4)] []))
    refine OGo.st (fun _ k => XS.iconst X0.here hx rfl (hb hby d4_43) k) ?_
    show OGo p e below s _ _ _ (s₁.setTop (mkF m 44 #[.val (.ref o0), .val (.int (1 : Int32)), .val (.int p2), .val (.int p3), .val (.int p4)] [(.int (1 : Int32))]))
    exact oretN X0 hx Bd.notSynchronized (t := .boolean) Bd.returns (by simp) (hb hby d4_44) (z' := (1 : Int32)) (by decide) e0 ⟨(congrArg (fun z => some (Value.int z)) (show (1 : Int32) = f4L11 p2 x0 from Eq.symm (by unfold f4L11; exact if_pos hc9))), N0, rfl⟩ (by decide) (by decide)
  · refine OGo.st (fun _ k => XS.icmpNo X0.here hx rfl (hb hby d4_9) rfl (feq hc9).1 k) ?_
    show OGo p e below s _ _ _ (s₁.setTop (mkF m 12 #[.val (.ref o0), .val (.int (1 : Int32)), .val (.int p2), .val (.int p3), .val (.int p4)] []))
    refine OGo.st (fun _ k => XS.iconst X0.here hx rfl (hb hby d4_12) k) ?_
    show OGo p e below s _ _ _ (s₁.setTop (mkF m 13 #[.val (.ref o0), .val (.int (1 : Int32)), .val (.int p2), .val (.int p3), .val (.int p4)] [(.int (0 : Int32))]))
    exact oretN X0 hx Bd.notSynchronized (t := .boolean) Bd.returns (by simp) (hb hby d4_13) (z' := (0 : Int32)) (by decide) e0 ⟨(congrArg (fun z => some (Value.int z)) (show (0 : Int32) = f4L11 p2 x0 from Eq.symm (by unfold f4L11; exact if_neg hc9))), N0, rfl⟩ (by decide) (by decide)
theorem ef_4L21 (m : MethodId) (o0 : Addr) (p2 : Int32) (p3 : Int32) (p4 : Int32) : entryFrame m #[(.ref o0), (.int (1 : Int32)), (.int p2), (.int p3), (.int p4)] 5 = mkF m 0 #[.val (.ref o0), .val (.int (1 : Int32)), .val (.int p2), .val (.int p3), .val (.int p4)] [] := by first | (simp [entryFrame, mkF, argsToLocals, Value.category]; done) | rfl
def f4L21 (p2 : Int32) (x0 : Int32) : Int32 := (if x0 = p2 then (1 : Int32) else (0 : Int32))
def Q4L21 (Z : State) (o0 : Addr) (p2 : Int32) (p3 : Int32) (p4 : Int32) (k_o0 : ClassId) (x0 : Int32) (x1 : Int32) (h0 : Heap) (n0 : Nat) (v : Option Value) (h : Heap) (L : List Loc) : Prop := v = some (.int (f4L21 p2 x0)) ∧ Fr n0 L ∧ h = h0
set_option maxRecDepth 65536 in
set_option maxHeartbeats 40000000 in
theorem rm4L21 (l : Launch) (Z : State) (a0 : Array Value) (hw : ∀ d ∈ tables_1, d.before a0 Z = true) (ws : List Jvm.Cond) (o0 : Addr) (p2 : Int32) (p3 : Int32) (p4 : Int32) (k_o0 : ClassId) (x0 : Int32) (x1 : Int32) (h0 : Heap) (n0 : Nat) (Z0 : n0 ≤ h0.size) (V_o0 : Arv Z h0 o0 k_o0 .byte (2 : Int32) [(.int x0), (.int x1)] (.int (0 : Int32))) :
    MetFree l (⟨"com/example/rows_over_order/rowsoverorder/TupleCodecRangeEndPinLaw", "matches", "([BIBBB)Z"⟩ : MethodName) (head1 (Jvm.Cond.code (⟨"com/example/rows_over_order/rowsoverorder/TupleCodecRangeEndPinLaw", "matches", "([BIBBB)Z"⟩ : MethodName) method_3_code 5 (some .boolean) :: ws) ({ frames := 0, cells := 0, slots := 0, locals := 0 } : Room)) (fun a U => a = #[(.ref o0), (.int (1 : Int32)), (.int p2), (.int p3), (.int p4)] ∧ Z.Warmed39 U.vm ∧ U.heap = h0) (fun _ _ _ _ _ => True) (fun _ U o U' => ∃ v L, o = .returned v ∧ Q4L21 Z o0 p2 p3 p4 k_o0 x0 x1 h0 n0 v U'.heap L ∧ FrameEnd U o U' L ({ frames := 0, cells := 0, slots := 0, locals := 0 } : Room).cells ({ frames := 0, cells := 0, slots := 0, locals := 0 } : Room).slots) := by
  refine MetFree.of_bodySF (plainFor_of_name pn_4) hisR ?_
  intro p e s m args below meth c s₁ Bd hml0 hP hK
  obtain ⟨rfl, hZ, hh⟩ := hP
  have hx := Bd.exec
  have hby := Bd.bytes
  have hml : c.maxLocals = 5 := hml0
  have hown : s.vm.findClass "com/example/rows_over_order/rowsoverorder/TupleCodecRangeEndPinLaw" = some m.cls := findClass_of_methodNamed Bd.named
  have hnm := (name_of_methodNamed Bd.named Bd.method).1
  have X0 : Stand p l e ({ frames := 0, cells := 0, slots := 0, locals := 0 } : Room) s m #[(.ref o0), (.int (1 : Int32)), (.int p2), (.int p3), (.int p4)] below meth c s₁ [] 0 0 := Stand.of_body Bd
  have e0 : s₁.heap = h0 := by rw [← hh, Bd.state]; rfl
  have N0 := Fr.nil n0
  show OGo p e below s (Q4L21 Z o0 p2 p3 p4 k_o0 x0 x1 h0 n0) ({ frames := 0, cells := 0, slots := 0, locals := 0 } : Room).cells ({ frames := 0, cells := 0, slots := 0, locals := 0 } : Room).slots _
  refine OGo.st (fun _ k => castTop (ef_4L21 m o0 p2 p3 p4) k) ?_
  show OGo p e below s _ _ _ (s₁.setTop (mkF m 0 #[.val (.ref o0), .val (.int (1 : Int32)), .val (.int p2), .val (.int p3), .val (.int p4)] []))
  refine OGo.st (fun _ k => XS.iloadN X0.here hx rfl (hb hby d4_0) rfl k) ?_
  show OGo p e below s _ _ _ (s₁.setTop (mkF m 1 #[.val (.ref o0), .val (.int (1 : Int32)), .val (.int p2), .val (.int p3), .val (.int p4)] [(.int (1 : Int32))]))
  refine OGo.st (fun _ k => XS.iconst X0.here hx rfl (hb hby d4_1) k) ?_
  show OGo p e below s _ _ _ (s₁.setTop (mkF m 2 #[.val (.ref o0), .val (.int (1 : Int32)), .val (.int p2), .val (.int p3), .val (.int p4)] [(.int (1 : Int32)), (.int (1 : Int32))]))
  refine OGo.st (fun _ k => XS.icmpNo X0.here hx rfl (hb hby d4_2) rfl (flt (by decide : ¬ ((1 : Int32) < (1 : Int32)))).1 k) ?_
  show OGo p e below s _ _ _ (s₁.setTop (mkF m 5 #[.val (.ref o0), .val (.int (1 : Int32)), .val (.int p2), .val (.int p3), .val (.int p4)] []))
  refine OGo.st (fun _ k => XS.aloadN X0.here hx rfl (hb hby d4_5) rfl rfl k) ?_
  show OGo p e below s _ _ _ (s₁.setTop (mkF m 6 #[.val (.ref o0), .val (.int (1 : Int32)), .val (.int p2), .val (.int p3), .val (.int p4)] [(.ref o0)]))
  refine OGo.st (fun _ k => XS.iconst X0.here hx rfl (hb hby d4_6) k) ?_
  show OGo p e below s _ _ _ (s₁.setTop (mkF m 7 #[.val (.ref o0), .val (.int (1 : Int32)), .val (.int p2), .val (.int p3), .val (.int p4)] [(.int (0 : Int32)), (.ref o0)]))
  obtain ⟨cl1, Ar1, q1, Sz1, Nn1, Hs1, Gs1⟩ := id V_o0
  have hin1 : ¬ ((0 : Int32) < 0 ∨ cl1.slots.size ≤ ((0 : Int32)).toNatClampNeg) := inb_of Sz1 ⟨by decide, by decide⟩
  have hat1 : cl1.slots[((0 : Int32)).toNatClampNeg]? = some (.int x0) := Hs1.at hin1 rfl
  refine OGo.st (fun _ k => X0.baloadBytes hx (j := (0 : Int32)) (v := (.int x0)) (by rw [e0]; exact Ar1.1) (State.isArrayOf_alike hZ.alike Ar1.2.1) Ar1.2.2 hin1 hat1 (g := (mkF m 7 #[.val (.ref o0), .val (.int (1 : Int32)), .val (.int p2), .val (.int p3), .val (.int p4)] [(.int (0 : Int32)), (.ref o0)])) rfl rfl (hb hby d4_7) _ k) ?_
  show OGo p e below s _ _ _ (s₁.setTop (mkF m 8 #[.val (.ref o0), .val (.int (1 : Int32)), .val (.int p2), .val (.int p3), .val (.int p4)] [(.int x0)]))
  refine OGo.st (fun _ k => XS.iloadN X0.here hx rfl (hb hby d4_8) rfl k) ?_
  show OGo p e below s _ _ _ (s₁.setTop (mkF m 9 #[.val (.ref o0), .val (.int (1 : Int32)), .val (.int p2), .val (.int p3), .val (.int p4)] [(.int p2), (.int x0)]))
  by_cases hc9 : x0 = p2
  · refine OGo.st (fun _ k => XS.icmpYes X0.here hx rfl (pc0 := 9) (pc' := 14) rfl (hb hby d4_9) rfl (teq hc9).1 (by decide) (by decide) k) ?_
    show OGo p e below s _ _ _ (s₁.setTop (mkF m 14 #[.val (.ref o0), .val (.int (1 : Int32)), .val (.int p2), .val (.int p3), .val (.int p4)] []))
    refine OGo.st (fun _ k => XS.iloadN X0.here hx rfl (hb hby d4_14) rfl k) ?_
    show OGo p e below s _ _ _ (s₁.setTop (mkF m 15 #[.val (.ref o0), .val (.int (1 : Int32)), .val (.int p2), .val (.int p3), .val (.int p4)] [(.int (1 : Int32))]))
    refine OGo.st (fun _ k => XS.iconst X0.here hx rfl (hb hby d4_15) k) ?_
    show OGo p e below s _ _ _ (s₁.setTop (mkF m 16 #[.val (.ref o0), .val (.int (1 : Int32)), .val (.int p2), .val (.int p3), .val (.int p4)] [(.int (2 : Int32)), (.int (1 : Int32))]))
    refine OGo.st (fun _ k => XS.icmpYes X0.here hx rfl (pc0 := 16) (pc' := 28) rfl (hb hby d4_16) rfl (tlt (by decide : (1 : Int32) < (2 : Int32))).1 (by decide) (by decide) k) ?_
    show OGo p e below s _ _ _ (s₁.setTop (mkF m 28 #[.val (.ref o0), .val (.int (1 : Int32)), .val (.int p2), .val (.int p3), .val (.int p4)] []))
    refine OGo.st (fun _ k => XS.iloadN X0.here hx rfl (hb hby d4_28) rfl k) ?_
    show OGo p e below s _ _ _ (s₁.setTop (mkF m 29 #[.val (.ref o0), .val (.int (1 : Int32)), .val (.int p2), .val (.int p3), .val (.int p4)] [(.int (1 : Int32))]))
    refine OGo.st (fun _ k => XS.iconst X0.here hx rfl (hb hby d4_29) k) ?_
    show OGo p e below s _ _ _ (s₁.setTop (mkF m 30 #[.val (.ref o0), .val (.int (1 : Int32)), .val (.int p2), .val (.int p3), .val (.int p4)] [(.int (3 : Int32)), (.int (1 : Int32))]))
    refine OGo.st (fun _ k => XS.icmpYes X0.here hx rfl (pc0 := 30) (pc' := 43) rfl (hb hby d4_30) rfl (tlt (by decide : (1 : Int32) < (3 : Int32))).1 (by decide) (by decide) k) ?_
    show OGo p e below s _ _ _ (s₁.setTop (mkF m 43 #[.val (.ref o0), .val (.int (1 : Int32)), .val (.int p2), .val (.int p3), .val (.int p4)] []))
    refine OGo.st (fun _ k => XS.iconst X0.here hx rfl (hb hby d4_43) k) ?_
    show OGo p e below s _ _ _ (s₁.setTop (mkF m 44 #[.val (.ref o0), .val (.int (1 : Int32)), .val (.int p2), .val (.int p3), .val (.int p4)] [(.int (1 : Int32))]))
    exact oretN X0 hx Bd.notSynchronized (t := .boolean) Bd.returns (by simp) (hb hby d4_44) (z' := (1 : Int32)) (by decide) e0 ⟨(congrArg (fun z => some (Value.int z)) (show (1 : Int32) = f4L21 p2 x0 from Eq.symm (by unfold f4L21; exact if_pos hc9))), N0, rfl⟩ (by decide) (by decide)
  · refine OGo.st (fun _ k => XS.icmpNo X0.here hx rfl (hb hby d4_9) rfl (feq hc9).1 k) ?_
    show OGo p e below s _ _ _ (s₁.setTop (mkF m 12 #[.val (.ref o0), .val (.int (1 : Int32)), .val (.int p2), .val (.int p3), .val (.int p4)] []))
    refine OGo.st (fun _ k => XS.iconst X0.here hx rfl (hb hby d4_12) k) ?_
    show OGo p e below s _ _ _ (s₁.setTop (mkF m 13 #[.val (.ref o0), .val (.int (1 : Int32)), .val (.int p2), .val (.int p3), .val (.int p4)] [(.int (0 : Int32))]))
    exact oretN X0 hx Bd.notSynchronized (t := .boolean) Bd.returns (by simp) (hb hby d4_13) (z' := (0 : Int32)) (by decide) e0 ⟨(congrArg (fun z => some (Value.int z)) (show (0 : Int32) = f4L21 p2 x0 from Eq.symm (by unfold f4L21; exact if_neg hc9))), N0, rfl⟩ (by decide) (by decide)
theorem ef_3L2 (m : MethodId) : entryFrame m #[(.int (2 : Int32)), (.int (3 : Int32))] 2 = mkF m 0 #[.val (.int (2 : Int32)), .val (.int (3 : Int32))] [] := by first | (simp [entryFrame, mkF, argsToLocals, Value.category]; done) | rfl
def f3L2 : Int32 := (2 : Int32)
def Q3L2 (Z : State) (h0 : Heap) (n0 : Nat) (v : Option Value) (h : Heap) (L : List Loc) : Prop := v = some (.int (f3L2)) ∧ Fr n0 L ∧ h = h0
set_option maxRecDepth 65536 in
set_option maxHeartbeats 40000000 in
theorem rm3L2 (l : Launch) (Z : State) (a0 : Array Value) (hw : ∀ d ∈ tables_1, d.before a0 Z = true) (ws : List Jvm.Cond) (h0 : Heap) (n0 : Nat) (Z0 : n0 ≤ h0.size) :
    MetFree l (⟨"java/lang/Math", "min", "(II)I"⟩ : MethodName) (head1 (Jvm.Cond.code (⟨"java/lang/Math", "min", "(II)I"⟩ : MethodName) jdk_29_method_69_code 2 (some .int) :: ws) ({ frames := 0, cells := 0, slots := 0, locals := 0 } : Room)) (fun a U => a = #[(.int (2 : Int32)), (.int (3 : Int32))] ∧ Z.Warmed39 U.vm ∧ U.heap = h0) (fun _ _ _ _ _ => True) (fun _ U o U' => ∃ v L, o = .returned v ∧ Q3L2 Z h0 n0 v U'.heap L ∧ FrameEnd U o U' L ({ frames := 0, cells := 0, slots := 0, locals := 0 } : Room).cells ({ frames := 0, cells := 0, slots := 0, locals := 0 } : Room).slots) := by
  refine MetFree.of_bodySF (Jvm.Free.JP.mathPlain rfl (by decide +kernel)) hisR ?_
  intro p e s m args below meth c s₁ Bd hml0 hP hK
  obtain ⟨rfl, hZ, hh⟩ := hP
  have hx := Bd.exec
  have hby := Bd.bytes
  have hml : c.maxLocals = 2 := hml0
  have hown : s.vm.findClass "java/lang/Math" = some m.cls := findClass_of_methodNamed Bd.named
  have hnm := (name_of_methodNamed Bd.named Bd.method).1
  have X0 : Stand p l e ({ frames := 0, cells := 0, slots := 0, locals := 0 } : Room) s m #[(.int (2 : Int32)), (.int (3 : Int32))] below meth c s₁ [] 0 0 := Stand.of_body Bd
  have e0 : s₁.heap = h0 := by rw [← hh, Bd.state]; rfl
  have N0 := Fr.nil n0
  show OGo p e below s (Q3L2 Z h0 n0) ({ frames := 0, cells := 0, slots := 0, locals := 0 } : Room).cells ({ frames := 0, cells := 0, slots := 0, locals := 0 } : Room).slots _
  refine OGo.st (fun _ k => castTop (ef_3L2 m) k) ?_
  show OGo p e below s _ _ _ (s₁.setTop (mkF m 0 #[.val (.int (2 : Int32)), .val (.int (3 : Int32))] []))
  refine OGo.st (fun _ k => XS.iloadN X0.here hx rfl (hb hby d3_0) rfl k) ?_
  show OGo p e below s _ _ _ (s₁.setTop (mkF m 1 #[.val (.int (2 : Int32)), .val (.int (3 : Int32))] [(.int (2 : Int32))]))
  refine OGo.st (fun _ k => XS.iloadN X0.here hx rfl (hb hby d3_1) rfl k) ?_
  show OGo p e below s _ _ _ (s₁.setTop (mkF m 2 #[.val (.int (2 : Int32)), .val (.int (3 : Int32))] [(.int (3 : Int32)), (.int (2 : Int32))]))
  refine OGo.st (fun _ k => XS.icmpNo X0.here hx rfl (hb hby d3_2) rfl (flt (by decide : ¬ ((3 : Int32) < (2 : Int32)))).2.2.1 k) ?_
  show OGo p e below s _ _ _ (s₁.setTop (mkF m 5 #[.val (.int (2 : Int32)), .val (.int (3 : Int32))] []))
  refine OGo.st (fun _ k => XS.iloadN X0.here hx rfl (hb hby d3_5) rfl k) ?_
  show OGo p e below s _ _ _ (s₁.setTop (mkF m 6 #[.val (.int (2 : Int32)), .val (.int (3 : Int32))] [(.int (2 : Int32))]))
  refine OGo.st (fun _ k => XS.goto X0.here hx rfl (pc0 := 6) (pc' := 10) rfl (hb hby d3_6) (by decide) (by decide) k) ?_
  show OGo p e below s _ _ _ (s₁.setTop (mkF m 10 #[.val (.int (2 : Int32)), .val (.int (3 : Int32))] [(.int (2 : Int32))]))
  exact oretI X0 hx Bd.notSynchronized Bd.returns (hb hby d3_10) e0 ⟨(congrArg (fun z => some (Value.int z)) (show (2 : Int32) = f3L2 from Eq.symm (by unfold f3L2; exact rfl))), N0, rfl⟩ (by decide) (by decide)
theorem pd_2L2_0 : parseMethodDescriptor "(II)I" = some ⟨[.int, .int], some .int⟩ := by decide +kernel
theorem ef_2L2 (m : MethodId) (o0 : Addr) : entryFrame m #[(.ref o0), (.int (3 : Int32))] 3 = mkF m 0 #[.val (.ref o0), .val (.int (3 : Int32)), .unset] [] := by first | (simp [entryFrame, mkF, argsToLocals, Value.category]; done) | rfl
def Q2L2 (Z : State) (o0 : Addr) (k_o0 : ClassId) (x0 : Int32) (x1 : Int32) (h0 : Heap) (n0 : Nat) (v : Option Value) (h : Heap) (L : List Loc) : Prop := ∃ (b : Addr) (k : ClassId), v = some (.ref b) ∧ Fr n0 L ∧ Keep h0 h [] ∧ h0.size ≤ b ∧ n0 ≤ b ∧ Arv Z h b k .byte (3 : Int32) [(.int x0), (.int x1), (.int (0 : Int32))] (.int (0 : Int32))
set_option maxRecDepth 65536 in
set_option maxHeartbeats 40000000 in
theorem rm2L2 (l : Launch) (Z : State) (a0 : Array Value) (hw : ∀ d ∈ tables_1, d.before a0 Z = true) (ws : List Jvm.Cond) (o0 : Addr) (k_o0 : ClassId) (x0 : Int32) (x1 : Int32) (h0 : Heap) (n0 : Nat) (Z0 : n0 ≤ h0.size) (V_o0 : Arv Z h0 o0 k_o0 .byte (2 : Int32) [(.int x0), (.int x1)] (.int (0 : Int32))) :
    MetFree l (⟨"java/util/Arrays", "copyOf", "([BI)[B"⟩ : MethodName) (head1 (Jvm.Cond.code (⟨"java/util/Arrays", "copyOf", "([BI)[B"⟩ : MethodName) jdk_65_method_121_code 3 (some (.array .byte)) :: ws) ({ frames := 1, cells := 1, slots := 3, locals := 18 } : Room)) (fun a U => a = #[(.ref o0), (.int (3 : Int32))] ∧ Z.Warmed39 U.vm ∧ U.heap = h0) (fun _ _ _ _ _ => True) (fun _ U o U' => ∃ v L, o = .returned v ∧ Q2L2 Z o0 k_o0 x0 x1 h0 n0 v U'.heap L ∧ FrameEnd U o U' L ({ frames := 1, cells := 1, slots := 3, locals := 18 } : Room).cells ({ frames := 1, cells := 1, slots := 3, locals := 18 } : Room).slots) := by
  refine MetFree.of_bodySF (plainFor_of_name pn_2) hisR ?_
  intro p e s m args below meth c s₁ Bd hml0 hP hK
  obtain ⟨rfl, hZ, hh⟩ := hP
  have hx := Bd.exec
  have hby := Bd.bytes
  have hml : c.maxLocals = 3 := hml0
  have hown : s.vm.findClass "java/util/Arrays" = some m.cls := findClass_of_methodNamed Bd.named
  have hnm := (name_of_methodNamed Bd.named Bd.method).1
  have X0 : Stand p l e ({ frames := 1, cells := 1, slots := 3, locals := 18 } : Room) s m #[(.ref o0), (.int (3 : Int32))] below meth c s₁ [] 0 0 := Stand.of_body Bd
  have e0 : s₁.heap = h0 := by rw [← hh, Bd.state]; rfl
  have N0 := Fr.nil n0
  show OGo p e below s (Q2L2 Z o0 k_o0 x0 x1 h0 n0) ({ frames := 1, cells := 1, slots := 3, locals := 18 } : Room).cells ({ frames := 1, cells := 1, slots := 3, locals := 18 } : Room).slots _
  refine OGo.st (fun _ k => castTop (ef_2L2 m o0) k) ?_
  show OGo p e below s _ _ _ (s₁.setTop (mkF m 0 #[.val (.ref o0), .val (.int (3 : Int32)), .unset] []))
  refine OGo.st (fun _ k => XS.iloadN X0.here hx rfl (hb hby d2_0) rfl k) ?_
  show OGo p e below s _ _ _ (s₁.setTop (mkF m 1 #[.val (.ref o0), .val (.int (3 : Int32)), .unset] [(.int (3 : Int32))]))
  refine OGo.st (fun _ k => XS.aloadN X0.here hx rfl (hb hby d2_1) rfl rfl k) ?_
  show OGo p e below s _ _ _ (s₁.setTop (mkF m 2 #[.val (.ref o0), .val (.int (3 : Int32)), .unset] [(.ref o0), (.int (3 : Int32))]))
  obtain ⟨cl1, Ar1, -, Sz1, Nn1, -, -⟩ := id V_o0
  refine OGo.st (fun _ k => X0.arraylength hx (by rw [e0]; exact Ar1.1) (State.isArrayOf_alike hZ.alike Ar1.2.1) (g := (mkF m 2 #[.val (.ref o0), .val (.int (3 : Int32)), .unset] [(.ref o0), (.int (3 : Int32))])) rfl rfl (hb hby d2_2) _ k) ?_
  rw [len_of Sz1 Nn1]
  show OGo p e below s _ _ _ (s₁.setTop (mkF m 3 #[.val (.ref o0), .val (.int (3 : Int32)), .unset] [(.int (2 : Int32)), (.int (3 : Int32))]))
  refine OGo.st (fun _ k => XS.icmpYes X0.here hx rfl (pc0 := 3) (pc' := 14) rfl (hb hby d2_3) rfl (feq (by decide : ¬ ((3 : Int32) = (2 : Int32)))).2 (by decide) (by decide) k) ?_
  show OGo p e below s _ _ _ (s₁.setTop (mkF m 14 #[.val (.ref o0), .val (.int (3 : Int32)), .unset] []))
  refine OGo.st (fun _ k => XS.iloadN X0.here hx rfl (hb hby d2_14) rfl k) ?_
  show OGo p e below s _ _ _ (s₁.setTop (mkF m 15 #[.val (.ref o0), .val (.int (3 : Int32)), .unset] [(.int (3 : Int32))]))
  obtain ⟨T2, h2, k2, X2, e2, E2, A2, st2⟩ := newP X0 hx hZ (hw _ (List.mem_of_getElem? (i := 0) rfl)) e0 (g := (mkF m 15 #[.val (.ref o0), .val (.int (3 : Int32)), .unset] [(.int (3 : Int32))])) rfl (hb hby d2_15) rfl (by decide) (cap := 3) (by decide) (by decide) (by decide) (by decide)
  obtain ⟨b2, g2⟩ : ∃ z, z = h0.size := ⟨_, rfl⟩
  rw [← g2] at A2 st2
  refine OGo.st st2 ?_
  have V_o0_w2 := V_o0.ext E2
  have ne_o0_b2 : o0 ≠ b2 := Nat.ne_of_lt (Nat.lt_of_lt_of_le V_o0.lt (Nat.le_of_eq g2.symm))
  have g_b2 : n0 ≤ b2 := Nat.le_trans Z0 (Nat.le_of_eq g2.symm)
  have sz_b2 : h0.size ≤ b2 := Nat.le_trans (Keep.refl h0 []).1 (Nat.le_of_eq g2.symm)
  have K2 : Keep h0 h2 [] := (Keep.refl h0 _).ext E2
  have Z2 : n0 ≤ h2.size := Nat.le_trans Z0 E2.1
  have V_b2 : Arv Z h2 b2 k2 .byte (3 : Int32) [(.int (0 : Int32)), (.int (0 : Int32)), (.int (0 : Int32))] (.int (0 : Int32)) := (Arv.new A2 (by decide)).pad (pad_rep [] (.int (0 : Int32)) 3)
  show OGo p e below s _ _ _ (T2.setTop (mkF m 17 #[.val (.ref o0), .val (.int (3 : Int32)), .unset] [(.ref b2)]))
  refine OGo.st (fun _ k => XS.astoreN X2.here hx rfl (hb hby d2_17) rfl rfl (l' := #[.val (.ref o0), .val (.int (3 : Int32)), .val (.ref b2)]) rfl k) ?_
  show OGo p e below s _ _ _ (T2.setTop (mkF m 18 #[.val (.ref o0), .val (.int (3 : Int32)), .val (.ref b2)] []))
  refine OGo.st (fun _ k => XS.aloadN X2.here hx rfl (hb hby d2_18) rfl rfl k) ?_
  show OGo p e below s _ _ _ (T2.setTop (mkF m 19 #[.val (.ref o0), .val (.int (3 : Int32)), .val (.ref b2)] [(.ref o0)]))
  refine OGo.st (fun _ k => XS.iconst X2.here hx rfl (hb hby d2_19) k) ?_
  show OGo p e below s _ _ _ (T2.setTop (mkF m 20 #[.val (.ref o0), .val (.int (3 : Int32)), .val (.ref b2)] [(.int (0 : Int32)), (.ref o0)]))
  refine OGo.st (fun _ k => XS.aloadN X2.here hx rfl (hb hby d2_20) rfl rfl k) ?_
  show OGo p e below s _ _ _ (T2.setTop (mkF m 21 #[.val (.ref o0), .val (.int (3 : Int32)), .val (.ref b2)] [(.ref b2), (.int (0 : Int32)), (.ref o0)]))
  refine OGo.st (fun _ k => XS.iconst X2.here hx rfl (hb hby d2_21) k) ?_
  show OGo p e below s _ _ _ (T2.setTop (mkF m 22 #[.val (.ref o0), .val (.int (3 : Int32)), .val (.ref b2)] [(.int (0 : Int32)), (.ref b2), (.int (0 : Int32)), (.ref o0)]))
  refine OGo.st (fun _ k => XS.aloadN X2.here hx rfl (hb hby d2_22) rfl rfl k) ?_
  show OGo p e below s _ _ _ (T2.setTop (mkF m 23 #[.val (.ref o0), .val (.int (3 : Int32)), .val (.ref b2)] [(.ref o0), (.int (0 : Int32)), (.ref b2), (.int (0 : Int32)), (.ref o0)]))
  obtain ⟨cl3, Ar3, -, Sz3, Nn3, -, -⟩ := id V_o0_w2
  refine OGo.st (fun _ k => X2.arraylength hx (by rw [e2]; exact Ar3.1) (State.isArrayOf_alike hZ.alike Ar3.2.1) (g := (mkF m 23 #[.val (.ref o0), .val (.int (3 : Int32)), .val (.ref b2)] [(.ref o0), (.int (0 : Int32)), (.ref b2), (.int (0 : Int32)), (.ref o0)])) rfl rfl (hb hby d2_23) _ k) ?_
  rw [len_of Sz3 Nn3]
  show OGo p e below s _ _ _ (T2.setTop (mkF m 24 #[.val (.ref o0), .val (.int (3 : Int32)), .val (.ref b2)] [(.int (2 : Int32)), (.int (0 : Int32)), (.ref b2), (.int (0 : Int32)), (.ref o0)]))
  refine OGo.st (fun _ k => XS.iloadN X2.here hx rfl (hb hby d2_24) rfl k) ?_
  show OGo p e below s _ _ _ (T2.setTop (mkF m 25 #[.val (.ref o0), .val (.int (3 : Int32)), .val (.ref b2)] [(.int (3 : Int32)), (.int (2 : Int32)), (.int (0 : Int32)), (.ref b2), (.int (0 : Int32)), (.ref o0)]))
  obtain ⟨_, _, ⟨T4, L4, k4, n4⟩, -, X4, ⟨Lc4, hQ4, l4, y4, z4⟩, st4⟩ := Jvm.LawKit.callS X2 hx (y := (⟨"java/lang/Math", "min", "(II)I"⟩ : MethodName)) hown (mvT hZ (hw _ (List.mem_of_getElem? (i := 9) rfl))) (mvT hZ (hw _ (List.mem_of_getElem? (i := 10) rfl))) (mvT hZ (hw _ (List.mem_of_getElem? (i := 11) rfl))) (mvT hZ (hw _ (List.mem_of_getElem? (i := 12) rfl))) (by decide) (backOf (W := 4) (rm3L2 l Z a0 hw [] h2 n0 Z2) hZ (hw _ (List.mem_of_getElem? (i := 12) rfl)) (hw _ (List.mem_of_getElem? (i := 11) rfl)) (by decide) (by decide)) (g := (mkF m 25 #[.val (.ref o0), .val (.int (3 : Int32)), .val (.ref b2)] [(.int (3 : Int32)), (.int (2 : Int32)), (.int (0 : Int32)), (.ref b2), (.int (0 : Int32)), (.ref o0)])) rfl (by rw [hml]; rfl) (argsL := [(.int (2 : Int32)), (.int (3 : Int32))]) (rest := [(.int (0 : Int32)), (.ref b2), (.int (0 : Int32)), (.ref o0)]) (lenOf pd_2L2_0 rfl) rfl (by show 2 * 0 + _ ≤ _; exact Nat.le_of_eq rfl) (hb hby d2_25) (fun _ _ => ⟨rfl, e2, (by decide : 1 + 0 ≤ _), (by decide : 3 + 0 ≤ _)⟩)
  dsimp only [Pt.U, Pt.locs, Pt.cells, Pt.slots] at X4 l4 y4 z4 st4 hQ4
  subst l4 y4 z4
  obtain ⟨rfl, N4q, e4⟩ := hQ4
  have hl4 : (f3L2) = (2 : Int32) := rfl
  have N4 := Fr.app N0 N4q
  refine OGo.st st4 ?_
  show OGo p e below s _ _ _ (T4.setTop (mkF m 28 #[.val (.ref o0), .val (.int (3 : Int32)), .val (.ref b2)] [(.int (2 : Int32)), (.int (0 : Int32)), (.ref b2), (.int (0 : Int32)), (.ref o0)]))
  obtain ⟨T5, h5, L5, X5, e5, N5, Kc5, Vq5, st5⟩ := cpA X4 hx hZ hown (hw _ (List.mem_of_getElem? (i := 13) rfl)) (hw _ (List.mem_of_getElem? (i := 16) rfl)) (hw _ (List.mem_of_getElem? (i := 14) rfl)) (hw _ (List.mem_of_getElem? (i := 15) rfl)) e4 V_o0_w2 V_b2 (us := [(.int x0), (.int x1)]) (sp := (0 : Int32)) (dp := (0 : Int32)) (nn := (2 : Int32)) (Or.inl ⟨rfl, rfl⟩) (by decide) (by decide) (by decide) (by decide) (by decide) rfl (by decide) N4 g_b2 (g := (mkF m 28 #[.val (.ref o0), .val (.int (3 : Int32)), .val (.ref b2)] [(.int (2 : Int32)), (.int (0 : Int32)), (.ref b2), (.int (0 : Int32)), (.ref o0)])) rfl (by rw [hml]; rfl) rfl (hb hby d2_28) (by decide) (W := 0) (by show 2 * 0 + _ ≤ _; exact Nat.le_of_eq rfl) (by decide)
  have V_o0_w5 := V_o0_w2.keep Kc5 (ninS ne_o0_b2 nin0)
  have K5 : Keep h0 h5 [] := (K2).trans Kc5 (allS (Or.inr sz_b2) all0)
  have Z5 : n0 ≤ h5.size := Nat.le_trans Z2 Kc5.1
  have V5 : Arv Z h5 b2 k2 .byte (3 : Int32) [(.int x0), (.int x1), (.int (0 : Int32))] (.int (0 : Int32)) := Vq5
  refine OGo.st st5 ?_
  show OGo p e below s _ _ _ (T5.setTop (mkF m 31 #[.val (.ref o0), .val (.int (3 : Int32)), .val (.ref b2)] []))
  refine OGo.st (fun _ k => XS.aloadN X5.here hx rfl (hb hby d2_31) rfl rfl k) ?_
  show OGo p e below s _ _ _ (T5.setTop (mkF m 32 #[.val (.ref o0), .val (.int (3 : Int32)), .val (.ref b2)] [(.ref b2)]))
  exact oretA X5 hx Bd.notSynchronized Bd.returns rfl rfl (hb hby d2_32) e5 ⟨b2, k2, rfl, N5, K5, sz_b2, g_b2, V5⟩ (by decide) (by decide)
theorem pd_1L2_0 : parseMethodDescriptor "([BI)[B" = some ⟨[(.array .byte), .int], some (.array .byte)⟩ := by decide +kernel
theorem ef_1L2 (m : MethodId) (o0 : Addr) : entryFrame m #[(.ref o0)] 2 = mkF m 0 #[.val (.ref o0), .unset] [] := by first | (simp [entryFrame, mkF, argsToLocals, Value.category]; done) | rfl
def Q1L2 (Z : State) (o0 : Addr) (k_o0 : ClassId) (x0 : Int32) (x1 : Int32) (h0 : Heap) (n0 : Nat) (v : Option Value) (h : Heap) (L : List Loc) : Prop := ∃ (b : Addr) (k : ClassId), v = some (.ref b) ∧ Fr n0 L ∧ Keep h0 h [] ∧ h0.size ≤ b ∧ n0 ≤ b ∧ Arv Z h b k .byte (3 : Int32) [(.int x0), (.int x1), (.int (-1 : Int32))] (.int (0 : Int32))
set_option maxRecDepth 65536 in
set_option maxHeartbeats 40000000 in
theorem rm1L2 (l : Launch) (Z : State) (a0 : Array Value) (hw : ∀ d ∈ tables_1, d.before a0 Z = true) (ws : List Jvm.Cond) (o0 : Addr) (k_o0 : ClassId) (x0 : Int32) (x1 : Int32) (h0 : Heap) (n0 : Nat) (Z0 : n0 ≤ h0.size) (V_o0 : Arv Z h0 o0 k_o0 .byte (2 : Int32) [(.int x0), (.int x1)] (.int (0 : Int32))) :
    MetFree l (⟨"com/example/rows_over_order/rowsoverorder/TupleCodec", "rangeEnd", "([B)[B"⟩ : MethodName) (head1 (Jvm.Cond.code (⟨"com/example/rows_over_order/rowsoverorder/TupleCodec", "rangeEnd", "([B)[B"⟩ : MethodName) prog_14_method_4_code 2 (some (.array .byte)) :: ws) ({ frames := 2, cells := 1, slots := 3, locals := 32 } : Room)) (fun a U => a = #[(.ref o0)] ∧ Z.Warmed39 U.vm ∧ U.heap = h0) (fun _ _ _ _ _ => True) (fun _ U o U' => ∃ v L, o = .returned v ∧ Q1L2 Z o0 k_o0 x0 x1 h0 n0 v U'.heap L ∧ FrameEnd U o U' L ({ frames := 2, cells := 1, slots := 3, locals := 32 } : Room).cells ({ frames := 2, cells := 1, slots := 3, locals := 32 } : Room).slots) := by
  refine MetFree.of_bodySF (plainFor_of_name pn_1) hisR ?_
  intro p e s m args below meth c s₁ Bd hml0 hP hK
  obtain ⟨rfl, hZ, hh⟩ := hP
  have hx := Bd.exec
  have hby := Bd.bytes
  have hml : c.maxLocals = 2 := hml0
  have hown : s.vm.findClass "com/example/rows_over_order/rowsoverorder/TupleCodec" = some m.cls := findClass_of_methodNamed Bd.named
  have hnm := (name_of_methodNamed Bd.named Bd.method).1
  have X0 : Stand p l e ({ frames := 2, cells := 1, slots := 3, locals := 32 } : Room) s m #[(.ref o0)] below meth c s₁ [] 0 0 := Stand.of_body Bd
  have e0 : s₁.heap = h0 := by rw [← hh, Bd.state]; rfl
  have N0 := Fr.nil n0
  show OGo p e below s (Q1L2 Z o0 k_o0 x0 x1 h0 n0) ({ frames := 2, cells := 1, slots := 3, locals := 32 } : Room).cells ({ frames := 2, cells := 1, slots := 3, locals := 32 } : Room).slots _
  refine OGo.st (fun _ k => castTop (ef_1L2 m o0) k) ?_
  show OGo p e below s _ _ _ (s₁.setTop (mkF m 0 #[.val (.ref o0), .unset] []))
  refine OGo.st (fun _ k => XS.aloadN X0.here hx rfl (hb hby d1_0) rfl rfl k) ?_
  show OGo p e below s _ _ _ (s₁.setTop (mkF m 1 #[.val (.ref o0), .unset] [(.ref o0)]))
  refine OGo.st (fun _ k => XS.aloadN X0.here hx rfl (hb hby d1_1) rfl rfl k) ?_
  show OGo p e below s _ _ _ (s₁.setTop (mkF m 2 #[.val (.ref o0), .unset] [(.ref o0), (.ref o0)]))
  obtain ⟨cl1, Ar1, -, Sz1, Nn1, -, -⟩ := id V_o0
  refine OGo.st (fun _ k => X0.arraylength hx (by rw [e0]; exact Ar1.1) (State.isArrayOf_alike hZ.alike Ar1.2.1) (g := (mkF m 2 #[.val (.ref o0), .unset] [(.ref o0), (.ref o0)])) rfl rfl (hb hby d1_2) _ k) ?_
  rw [len_of Sz1 Nn1]
  show OGo p e below s _ _ _ (s₁.setTop (mkF m 3 #[.val (.ref o0), .unset] [(.int (2 : Int32)), (.ref o0)]))
  refine OGo.st (fun _ k => XS.iconst X0.here hx rfl (hb hby d1_3) k) ?_
  show OGo p e below s _ _ _ (s₁.setTop (mkF m 4 #[.val (.ref o0), .unset] [(.int (1 : Int32)), (.int (2 : Int32)), (.ref o0)]))
  refine OGo.st (fun _ k => XS.iadd X0.here hx rfl (hb hby d1_4) rfl k) ?_
  rw [show ((2 : Int32) + (1 : Int32)) = (3 : Int32) from by decide]
  show OGo p e below s _ _ _ (s₁.setTop (mkF m 5 #[.val (.ref o0), .unset] [(.int (3 : Int32)), (.ref o0)]))
  obtain ⟨_, _, ⟨T2, L2, k2, n2⟩, -, X2, ⟨Lc2, hQ2, l2, y2, z2⟩, st2⟩ := Jvm.LawKit.callS X0 hx (y := (⟨"java/util/Arrays", "copyOf", "([BI)[B"⟩ : MethodName)) hown (mvT hZ (hw _ (List.mem_of_getElem? (i := 5) rfl))) (mvT hZ (hw _ (List.mem_of_getElem? (i := 6) rfl))) (mvT hZ (hw _ (List.mem_of_getElem? (i := 7) rfl))) (mvT hZ (hw _ (List.mem_of_getElem? (i := 8) rfl))) (by decide) (backOf (W := 0) (rm2L2 l Z a0 hw [] o0 k_o0 x0 x1 h0 n0 Z0 V_o0) hZ (hw _ (List.mem_of_getElem? (i := 8) rfl)) (hw _ (List.mem_of_getElem? (i := 7) rfl)) (by decide) (by decide)) (g := (mkF m 5 #[.val (.ref o0), .unset] [(.int (3 : Int32)), (.ref o0)])) rfl (by rw [hml]; rfl) (argsL := [(.ref o0), (.int (3 : Int32))]) (rest := []) (lenOf pd_1L2_0 rfl) rfl (by show 2 * 0 + _ ≤ _; exact Nat.le_of_eq rfl) (hb hby d1_5) (fun _ _ => ⟨rfl, e0, (by decide : 0 + 1 ≤ _), (by decide : 0 + 3 ≤ _)⟩)
  dsimp only [Pt.U, Pt.locs, Pt.cells, Pt.slots] at X2 l2 y2 z2 st2 hQ2
  subst l2 y2 z2
  obtain ⟨b2, kk2, rfl, N2q, Kc2, szq2, g_b2, V2⟩ := hQ2
  have ne_o0_b2 : o0 ≠ b2 := Nat.ne_of_lt (Nat.lt_of_lt_of_le V_o0.lt szq2)
  have sz_b2 : h0.size ≤ b2 := Nat.le_trans (Keep.refl h0 []).1 szq2
  have V_o0_w2 := V_o0.keep Kc2 nin0
  have K2 : Keep h0 T2.heap [] := (Keep.refl h0 _).trans Kc2 all0
  have Z2 : n0 ≤ T2.heap.size := Nat.le_trans Z0 Kc2.1
  have V2 : Arv Z T2.heap b2 kk2 .byte (3 : Int32) [(.int x0), (.int x1), (.int (0 : Int32))] (.int (0 : Int32)) := V2
  have N2 := Fr.app N0 N2q
  refine OGo.st st2 ?_
  show OGo p e below s _ _ _ (T2.setTop (mkF m 8 #[.val (.ref o0), .unset] [(.ref b2)]))
  refine OGo.st (fun _ k => XS.astoreN X2.here hx rfl (hb hby d1_8) rfl rfl (l' := #[.val (.ref o0), .val (.ref b2)]) rfl k) ?_
  show OGo p e below s _ _ _ (T2.setTop (mkF m 9 #[.val (.ref o0), .val (.ref b2)] []))
  refine OGo.st (fun _ k => XS.aloadN X2.here hx rfl (hb hby d1_9) rfl rfl k) ?_
  show OGo p e below s _ _ _ (T2.setTop (mkF m 10 #[.val (.ref o0), .val (.ref b2)] [(.ref b2)]))
  refine OGo.st (fun _ k => XS.aloadN X2.here hx rfl (hb hby d1_10) rfl rfl k) ?_
  show OGo p e below s _ _ _ (T2.setTop (mkF m 11 #[.val (.ref o0), .val (.ref b2)] [(.ref o0), (.ref b2)]))
  obtain ⟨cl3, Ar3, -, Sz3, Nn3, -, -⟩ := id V_o0_w2
  refine OGo.st (fun _ k => X2.arraylength hx Ar3.1 (State.isArrayOf_alike hZ.alike Ar3.2.1) (g := (mkF m 11 #[.val (.ref o0), .val (.ref b2)] [(.ref o0), (.ref b2)])) rfl rfl (hb hby d1_11) _ k) ?_
  rw [len_of Sz3 Nn3]
  show OGo p e below s _ _ _ (T2.setTop (mkF m 12 #[.val (.ref o0), .val (.ref b2)] [(.int (2 : Int32)), (.ref b2)]))
  refine OGo.st (fun _ k => XS.iconst X2.here hx rfl (hb hby d1_12) k) ?_
  show OGo p e below s _ _ _ (T2.setTop (mkF m 13 #[.val (.ref o0), .val (.ref b2)] [(.int (-1 : Int32)), (.int (2 : Int32)), (.ref b2)]))
  obtain ⟨cl4, Ar4, q4, Sz4, Nn4, Hs4, Gs4⟩ := id V2
  have hin4 : ¬ ((2 : Int32) < 0 ∨ cl4.slots.size ≤ ((2 : Int32)).toNatClampNeg) := inb_of Sz4 ⟨by decide, by decide⟩
  obtain ⟨T4, h4, X4, e4, W4, st4⟩ := stB X2 hx hZ rfl Ar4 (j := (2 : Int32)) hin4 (g := (mkF m 13 #[.val (.ref o0), .val (.ref b2)] [(.int (-1 : Int32)), (.int (2 : Int32)), (.ref b2)])) rfl rfl (hb hby d1_13)
  refine OGo.st st4 ?_
  have V_o0_w4 := V_o0_w2.other W4 ne_o0_b2
  have K4 : Keep h0 h4 [] := (K2).wr W4 (Or.inr sz_b2)
  have N4 := Fr.snoc X4 N2 g_b2
  have Z4 : n0 ≤ h4.size := Nat.le_trans Z2 (Keep.of_wr W4).1
  have V4 : Arv Z h4 b2 kk2 .byte (3 : Int32) [(.int x0), (.int x1), (.int (-1 : Int32))] (.int (0 : Int32)) := Arv.set Ar4 q4 Sz4 Nn4 Hs4 Gs4 (by decide) W4 2 rfl (Nat.le_of_ble_eq_true rfl)
  show OGo p e below s _ _ _ (T4.setTop (mkF m 14 #[.val (.ref o0), .val (.ref b2)] []))
  refine OGo.st (fun _ k => XS.aloadN X4.here hx rfl (hb hby d1_14) rfl rfl k) ?_
  show OGo p e below s _ _ _ (T4.setTop (mkF m 15 #[.val (.ref o0), .val (.ref b2)] [(.ref b2)]))
  exact oretA X4 hx Bd.notSynchronized Bd.returns rfl rfl (hb hby d1_15) e4 ⟨b2, kk2, rfl, N4, K4, sz_b2, g_b2, V4⟩ (by decide) (by decide)
theorem d4_19 : decode method_3_code 19 = .ok (.aload_n 0, 1) := by decide +kernel
theorem d4_20 : decode method_3_code 20 = .ok (.iconst 1, 1) := by decide +kernel
theorem d4_21 : decode method_3_code 21 = .ok (.baload, 1) := by decide +kernel
theorem d4_22 : decode method_3_code 22 = .ok (.iload_n 3, 1) := by decide +kernel
theorem d4_23 : decode method_3_code 23 = .ok (.if_icmp .eq 5, 3) := by decide +kernel
theorem d4_26 : decode method_3_code 26 = .ok (.iconst 0, 1) := by decide +kernel
theorem d4_27 : decode method_3_code 27 = .ok (.ireturn, 1) := by decide +kernel
theorem ef_4L22 (m : MethodId) (o0 : Addr) (p2 : Int32) (p3 : Int32) (p4 : Int32) : entryFrame m #[(.ref o0), (.int (2 : Int32)), (.int p2), (.int p3), (.int p4)] 5 = mkF m 0 #[.val (.ref o0), .val (.int (2 : Int32)), .val (.int p2), .val (.int p3), .val (.int p4)] [] := by first | (simp [entryFrame, mkF, argsToLocals, Value.category]; done) | rfl
def f4L22 (p2 : Int32) (p3 : Int32) (x0 : Int32) (x1 : Int32) : Int32 := (if x0 = p2 then (if x1 = p3 then (1 : Int32) else (0 : Int32)) else (0 : Int32))
def Q4L22 (Z : State) (o0 : Addr) (p2 : Int32) (p3 : Int32) (p4 : Int32) (k_o0 : ClassId) (x0 : Int32) (x1 : Int32) (h0 : Heap) (n0 : Nat) (v : Option Value) (h : Heap) (L : List Loc) : Prop := v = some (.int (f4L22 p2 p3 x0 x1)) ∧ Fr n0 L ∧ h = h0
set_option maxRecDepth 65536 in
set_option maxHeartbeats 40000000 in
theorem rm4L22 (l : Launch) (Z : State) (a0 : Array Value) (hw : ∀ d ∈ tables_1, d.before a0 Z = true) (ws : List Jvm.Cond) (o0 : Addr) (p2 : Int32) (p3 : Int32) (p4 : Int32) (k_o0 : ClassId) (x0 : Int32) (x1 : Int32) (h0 : Heap) (n0 : Nat) (Z0 : n0 ≤ h0.size) (V_o0 : Arv Z h0 o0 k_o0 .byte (2 : Int32) [(.int x0), (.int x1)] (.int (0 : Int32))) :
    MetFree l (⟨"com/example/rows_over_order/rowsoverorder/TupleCodecRangeEndPinLaw", "matches", "([BIBBB)Z"⟩ : MethodName) (head1 (Jvm.Cond.code (⟨"com/example/rows_over_order/rowsoverorder/TupleCodecRangeEndPinLaw", "matches", "([BIBBB)Z"⟩ : MethodName) method_3_code 5 (some .boolean) :: ws) ({ frames := 0, cells := 0, slots := 0, locals := 0 } : Room)) (fun a U => a = #[(.ref o0), (.int (2 : Int32)), (.int p2), (.int p3), (.int p4)] ∧ Z.Warmed39 U.vm ∧ U.heap = h0) (fun _ _ _ _ _ => True) (fun _ U o U' => ∃ v L, o = .returned v ∧ Q4L22 Z o0 p2 p3 p4 k_o0 x0 x1 h0 n0 v U'.heap L ∧ FrameEnd U o U' L ({ frames := 0, cells := 0, slots := 0, locals := 0 } : Room).cells ({ frames := 0, cells := 0, slots := 0, locals := 0 } : Room).slots) := by
  refine MetFree.of_bodySF (plainFor_of_name pn_4) hisR ?_
  intro p e s m args below meth c s₁ Bd hml0 hP hK
  obtain ⟨rfl, hZ, hh⟩ := hP
  have hx := Bd.exec
  have hby := Bd.bytes
  have hml : c.maxLocals = 5 := hml0
  have hown : s.vm.findClass "com/example/rows_over_order/rowsoverorder/TupleCodecRangeEndPinLaw" = some m.cls := findClass_of_methodNamed Bd.named
  have hnm := (name_of_methodNamed Bd.named Bd.method).1
  have X0 : Stand p l e ({ frames := 0, cells := 0, slots := 0, locals := 0 } : Room) s m #[(.ref o0), (.int (2 : Int32)), (.int p2), (.int p3), (.int p4)] below meth c s₁ [] 0 0 := Stand.of_body Bd
  have e0 : s₁.heap = h0 := by rw [← hh, Bd.state]; rfl
  have N0 := Fr.nil n0
  show OGo p e below s (Q4L22 Z o0 p2 p3 p4 k_o0 x0 x1 h0 n0) ({ frames := 0, cells := 0, slots := 0, locals := 0 } : Room).cells ({ frames := 0, cells := 0, slots := 0, locals := 0 } : Room).slots _
  refine OGo.st (fun _ k => castTop (ef_4L22 m o0 p2 p3 p4) k) ?_
  show OGo p e below s _ _ _ (s₁.setTop (mkF m 0 #[.val (.ref o0), .val (.int (2 : Int32)), .val (.int p2), .val (.int p3), .val (.int p4)] []))
  refine OGo.st (fun _ k => XS.iloadN X0.here hx rfl (hb hby d4_0) rfl k) ?_
  show OGo p e below s _ _ _ (s₁.setTop (mkF m 1 #[.val (.ref o0), .val (.int (2 : Int32)), .val (.int p2), .val (.int p3), .val (.int p4)] [(.int (2 : Int32))]))
  refine OGo.st (fun _ k => XS.iconst X0.here hx rfl (hb hby d4_1) k) ?_
  show OGo p e below s _ _ _ (s₁.setTop (mkF m 2 #[.val (.ref o0), .val (.int (2 : Int32)), .val (.int p2), .val (.int p3), .val (.int p4)] [(.int (1 : Int32)), (.int (2 : Int32))]))
  refine OGo.st (fun _ k => XS.icmpNo X0.here hx rfl (hb hby d4_2) rfl (flt (by decide : ¬ ((2 : Int32) < (1 : Int32)))).1 k) ?_
  show OGo p e below s _ _ _ (s₁.setTop (mkF m 5 #[.val (.ref o0), .val (.int (2 : Int32)), .val (.int p2), .val (.int p3), .val (.int p4)] []))
  refine OGo.st (fun _ k => XS.aloadN X0.here hx rfl (hb hby d4_5) rfl rfl k) ?_
  show OGo p e below s _ _ _ (s₁.setTop (mkF m 6 #[.val (.ref o0), .val (.int (2 : Int32)), .val (.int p2), .val (.int p3), .val (.int p4)] [(.ref o0)]))
  refine OGo.st (fun _ k => XS.iconst X0.here hx rfl (hb hby d4_6) k) ?_
  show OGo p e below s _ _ _ (s₁.setTop (mkF m 7 #[.val (.ref o0), .val (.int (2 : Int32)), .val (.int p2), .val (.int p3), .val (.int p4)] [(.int (0 : Int32)), (.ref o0)]))
  obtain ⟨cl1, Ar1, q1, Sz1, Nn1, Hs1, Gs1⟩ := id V_o0
  have hin1 : ¬ ((0 : Int32) < 0 ∨ cl1.slots.size ≤ ((0 : Int32)).toNatClampNeg) := inb_of Sz1 ⟨by decide, by decide⟩
  have hat1 : cl1.slots[((0 : Int32)).toNatClampNeg]? = some (.int x0) := Hs1.at hin1 rfl
  refine OGo.st (fun _ k => X0.baloadBytes hx (j := (0 : Int32)) (v := (.int x0)) (by rw [e0]; exact Ar1.1) (State.isArrayOf_alike hZ.alike Ar1.2.1) Ar1.2.2 hin1 hat1 (g := (mkF m 7 #[.val (.ref o0), .val (.int (2 : Int32)), .val (.int p2), .val (.int p3), .val (.int p4)] [(.int (0 : Int32)), (.ref o0)])) rfl rfl (hb hby d4_7) _ k) ?_
  show OGo p e below s _ _ _ (s₁.setTop (mkF m 8 #[.val (.ref o0), .val (.int (2 : Int32)), .val (.int p2), .val (.int p3), .val (.int p4)] [(.int x0)]))
  refine OGo.st (fun _ k => XS.iloadN X0.here hx rfl (hb hby d4_8) rfl k) ?_
  show OGo p e below s _ _ _ (s₁.setTop (mkF m 9 #[.val (.ref o0), .val (.int (2 : Int32)), .val (.int p2), .val (.int p3), .val (.int p4)] [(.int p2), (.int x0)]))
  by_cases hc9 : x0 = p2
  · refine OGo.st (fun _ k => XS.icmpYes X0.here hx rfl (pc0 := 9) (pc' := 14) rfl (hb hby d4_9) rfl (teq hc9).1 (by decide) (by decide) k) ?_
    show OGo p e below s _ _ _ (s₁.setTop (mkF m 14 #[.val (.ref o0), .val (.int (2 : Int32)), .val (.int p2), .val (.int p3), .val (.int p4)] []))
    refine OGo.st (fun _ k => XS.iloadN X0.here hx rfl (hb hby d4_14) rfl k) ?_
    show OGo p e below s _ _ _ (s₁.setTop (mkF m 15 #[.val (.ref o0), .val (.int (2 : Int32)), .val (.int p2), .val (.int p3), .val (.int p4)] [(.int (2 : Int32))]))
    refine OGo.st (fun _ k => XS.iconst X0.here hx rfl (hb hby d4_15) k) ?_
    show OGo p e below s _ _ _ (s₁.setTop (mkF m 16 #[.val (.ref o0), .val (.int (2 : Int32)), .val (.int p2), .val (.int p3), .val (.int p4)] [(.int (2 : Int32)), (.int (2 : Int32))]))
    refine OGo.st (fun _ k => XS.icmpNo X0.here hx rfl (hb hby d4_16) rfl (flt (by decide : ¬ ((2 : Int32) < (2 : Int32)))).1 k) ?_
    show OGo p e below s _ _ _ (s₁.setTop (mkF m 19 #[.val (.ref o0), .val (.int (2 : Int32)), .val (.int p2), .val (.int p3), .val (.int p4)] []))
    refine OGo.st (fun _ k => XS.aloadN X0.here hx rfl (hb hby d4_19) rfl rfl k) ?_
    show OGo p e below s _ _ _ (s₁.setTop (mkF m 20 #[.val (.ref o0), .val (.int (2 : Int32)), .val (.int p2), .val (.int p3), .val (.int p4)] [(.ref o0)]))
    refine OGo.st (fun _ k => XS.iconst X0.here hx rfl (hb hby d4_20) k) ?_
    show OGo p e below s _ _ _ (s₁.setTop (mkF m 21 #[.val (.ref o0), .val (.int (2 : Int32)), .val (.int p2), .val (.int p3), .val (.int p4)] [(.int (1 : Int32)), (.ref o0)]))
    obtain ⟨cl2, Ar2, q2, Sz2, Nn2, Hs2, Gs2⟩ := id V_o0
    have hin2 : ¬ ((1 : Int32) < 0 ∨ cl2.slots.size ≤ ((1 : Int32)).toNatClampNeg) := inb_of Sz2 ⟨by decide, by decide⟩
    have hat2 : cl2.slots[((1 : Int32)).toNatClampNeg]? = some (.int x1) := Hs2.at hin2 rfl
    refine OGo.st (fun _ k => X0.baloadBytes hx (j := (1 : Int32)) (v := (.int x1)) (by rw [e0]; exact Ar2.1) (State.isArrayOf_alike hZ.alike Ar2.2.1) Ar2.2.2 hin2 hat2 (g := (mkF m 21 #[.val (.ref o0), .val (.int (2 : Int32)), .val (.int p2), .val (.int p3), .val (.int p4)] [(.int (1 : Int32)), (.ref o0)])) rfl rfl (hb hby d4_21) _ k) ?_
    show OGo p e below s _ _ _ (s₁.setTop (mkF m 22 #[.val (.ref o0), .val (.int (2 : Int32)), .val (.int p2), .val (.int p3), .val (.int p4)] [(.int x1)]))
    refine OGo.st (fun _ k => XS.iloadN X0.here hx rfl (hb hby d4_22) rfl k) ?_
    show OGo p e below s _ _ _ (s₁.setTop (mkF m 23 #[.val (.ref o0), .val (.int (2 : Int32)), .val (.int p2), .val (.int p3), .val (.int p4)] [(.int p3), (.int x1)]))
    by_cases hc23 : x1 = p3
    · refine OGo.st (fun _ k => XS.icmpYes X0.here hx rfl (pc0 := 23) (pc' := 28) rfl (hb hby d4_23) rfl (teq hc23).1 (by decide) (by decide) k) ?_
      show OGo p e below s _ _ _ (s₁.setTop (mkF m 28 #[.val (.ref o0), .val (.int (2 : Int32)), .val (.int p2), .val (.int p3), .val (.int p4)] []))
      refine OGo.st (fun _ k => XS.iloadN X0.here hx rfl (hb hby d4_28) rfl k) ?_
      show OGo p e below s _ _ _ (s₁.setTop (mkF m 29 #[.val (.ref o0), .val (.int (2 : Int32)), .val (.int p2), .val (.int p3), .val (.int p4)] [(.int (2 : Int32))]))
      refine OGo.st (fun _ k => XS.iconst X0.here hx rfl (hb hby d4_29) k) ?_
      show OGo p e below s _ _ _ (s₁.setTop (mkF m 30 #[.val (.ref o0), .val (.int (2 : Int32)), .val (.int p2), .val (.int p3), .val (.int p4)] [(.int (3 : Int32)), (.int (2 : Int32))]))
      refine OGo.st (fun _ k => XS.icmpYes X0.here hx rfl (pc0 := 30) (pc' := 43) rfl (hb hby d4_30) rfl (tlt (by decide : (2 : Int32) < (3 : Int32))).1 (by decide) (by decide) k) ?_
      show OGo p e below s _ _ _ (s₁.setTop (mkF m 43 #[.val (.ref o0), .val (.int (2 : Int32)), .val (.int p2), .val (.int p3), .val (.int p4)] []))
      refine OGo.st (fun _ k => XS.iconst X0.here hx rfl (hb hby d4_43) k) ?_
      show OGo p e below s _ _ _ (s₁.setTop (mkF m 44 #[.val (.ref o0), .val (.int (2 : Int32)), .val (.int p2), .val (.int p3), .val (.int p4)] [(.int (1 : Int32))]))
      exact oretN X0 hx Bd.notSynchronized (t := .boolean) Bd.returns (by simp) (hb hby d4_44) (z' := (1 : Int32)) (by decide) e0 ⟨(congrArg (fun z => some (Value.int z)) (show (1 : Int32) = f4L22 p2 p3 x0 x1 from Eq.symm (by unfold f4L22; exact (if_pos hc9).trans (if_pos hc23)))), N0, rfl⟩ (by decide) (by decide)
    · refine OGo.st (fun _ k => XS.icmpNo X0.here hx rfl (hb hby d4_23) rfl (feq hc23).1 k) ?_
      show OGo p e below s _ _ _ (s₁.setTop (mkF m 26 #[.val (.ref o0), .val (.int (2 : Int32)), .val (.int p2), .val (.int p3), .val (.int p4)] []))
      refine OGo.st (fun _ k => XS.iconst X0.here hx rfl (hb hby d4_26) k) ?_
      show OGo p e below s _ _ _ (s₁.setTop (mkF m 27 #[.val (.ref o0), .val (.int (2 : Int32)), .val (.int p2), .val (.int p3), .val (.int p4)] [(.int (0 : Int32))]))
      exact oretN X0 hx Bd.notSynchronized (t := .boolean) Bd.returns (by simp) (hb hby d4_27) (z' := (0 : Int32)) (by decide) e0 ⟨(congrArg (fun z => some (Value.int z)) (show (0 : Int32) = f4L22 p2 p3 x0 x1 from Eq.symm (by unfold f4L22; exact (if_pos hc9).trans (if_neg hc23)))), N0, rfl⟩ (by decide) (by decide)
  · refine OGo.st (fun _ k => XS.icmpNo X0.here hx rfl (hb hby d4_9) rfl (feq hc9).1 k) ?_
    show OGo p e below s _ _ _ (s₁.setTop (mkF m 12 #[.val (.ref o0), .val (.int (2 : Int32)), .val (.int p2), .val (.int p3), .val (.int p4)] []))
    refine OGo.st (fun _ k => XS.iconst X0.here hx rfl (hb hby d4_12) k) ?_
    show OGo p e below s _ _ _ (s₁.setTop (mkF m 13 #[.val (.ref o0), .val (.int (2 : Int32)), .val (.int p2), .val (.int p3), .val (.int p4)] [(.int (0 : Int32))]))
    exact oretN X0 hx Bd.notSynchronized (t := .boolean) Bd.returns (by simp) (hb hby d4_13) (z' := (0 : Int32)) (by decide) e0 ⟨(congrArg (fun z => some (Value.int z)) (show (0 : Int32) = f4L22 p2 p3 x0 x1 from Eq.symm (by unfold f4L22; exact if_neg hc9))), N0, rfl⟩ (by decide) (by decide)
theorem ef_4L32 (m : MethodId) (o0 : Addr) (p2 : Int32) (p3 : Int32) (p4 : Int32) : entryFrame m #[(.ref o0), (.int (2 : Int32)), (.int p2), (.int p3), (.int p4)] 5 = mkF m 0 #[.val (.ref o0), .val (.int (2 : Int32)), .val (.int p2), .val (.int p3), .val (.int p4)] [] := by first | (simp [entryFrame, mkF, argsToLocals, Value.category]; done) | rfl
def f4L32 (p2 : Int32) (p3 : Int32) (x0 : Int32) (x1 : Int32) : Int32 := (if x0 = p2 then (if x1 = p3 then (1 : Int32) else (0 : Int32)) else (0 : Int32))
def Q4L32 (Z : State) (o0 : Addr) (p2 : Int32) (p3 : Int32) (p4 : Int32) (k_o0 : ClassId) (x0 : Int32) (x1 : Int32) (x2 : Int32) (h0 : Heap) (n0 : Nat) (v : Option Value) (h : Heap) (L : List Loc) : Prop := v = some (.int (f4L32 p2 p3 x0 x1)) ∧ Fr n0 L ∧ h = h0
set_option maxRecDepth 65536 in
set_option maxHeartbeats 40000000 in
theorem rm4L32 (l : Launch) (Z : State) (a0 : Array Value) (hw : ∀ d ∈ tables_1, d.before a0 Z = true) (ws : List Jvm.Cond) (o0 : Addr) (p2 : Int32) (p3 : Int32) (p4 : Int32) (k_o0 : ClassId) (x0 : Int32) (x1 : Int32) (x2 : Int32) (h0 : Heap) (n0 : Nat) (Z0 : n0 ≤ h0.size) (V_o0 : Arv Z h0 o0 k_o0 .byte (3 : Int32) [(.int x0), (.int x1), (.int x2)] (.int (0 : Int32))) :
    MetFree l (⟨"com/example/rows_over_order/rowsoverorder/TupleCodecRangeEndPinLaw", "matches", "([BIBBB)Z"⟩ : MethodName) (head1 (Jvm.Cond.code (⟨"com/example/rows_over_order/rowsoverorder/TupleCodecRangeEndPinLaw", "matches", "([BIBBB)Z"⟩ : MethodName) method_3_code 5 (some .boolean) :: ws) ({ frames := 0, cells := 0, slots := 0, locals := 0 } : Room)) (fun a U => a = #[(.ref o0), (.int (2 : Int32)), (.int p2), (.int p3), (.int p4)] ∧ Z.Warmed39 U.vm ∧ U.heap = h0) (fun _ _ _ _ _ => True) (fun _ U o U' => ∃ v L, o = .returned v ∧ Q4L32 Z o0 p2 p3 p4 k_o0 x0 x1 x2 h0 n0 v U'.heap L ∧ FrameEnd U o U' L ({ frames := 0, cells := 0, slots := 0, locals := 0 } : Room).cells ({ frames := 0, cells := 0, slots := 0, locals := 0 } : Room).slots) := by
  refine MetFree.of_bodySF (plainFor_of_name pn_4) hisR ?_
  intro p e s m args below meth c s₁ Bd hml0 hP hK
  obtain ⟨rfl, hZ, hh⟩ := hP
  have hx := Bd.exec
  have hby := Bd.bytes
  have hml : c.maxLocals = 5 := hml0
  have hown : s.vm.findClass "com/example/rows_over_order/rowsoverorder/TupleCodecRangeEndPinLaw" = some m.cls := findClass_of_methodNamed Bd.named
  have hnm := (name_of_methodNamed Bd.named Bd.method).1
  have X0 : Stand p l e ({ frames := 0, cells := 0, slots := 0, locals := 0 } : Room) s m #[(.ref o0), (.int (2 : Int32)), (.int p2), (.int p3), (.int p4)] below meth c s₁ [] 0 0 := Stand.of_body Bd
  have e0 : s₁.heap = h0 := by rw [← hh, Bd.state]; rfl
  have N0 := Fr.nil n0
  show OGo p e below s (Q4L32 Z o0 p2 p3 p4 k_o0 x0 x1 x2 h0 n0) ({ frames := 0, cells := 0, slots := 0, locals := 0 } : Room).cells ({ frames := 0, cells := 0, slots := 0, locals := 0 } : Room).slots _
  refine OGo.st (fun _ k => castTop (ef_4L32 m o0 p2 p3 p4) k) ?_
  show OGo p e below s _ _ _ (s₁.setTop (mkF m 0 #[.val (.ref o0), .val (.int (2 : Int32)), .val (.int p2), .val (.int p3), .val (.int p4)] []))
  refine OGo.st (fun _ k => XS.iloadN X0.here hx rfl (hb hby d4_0) rfl k) ?_
  show OGo p e below s _ _ _ (s₁.setTop (mkF m 1 #[.val (.ref o0), .val (.int (2 : Int32)), .val (.int p2), .val (.int p3), .val (.int p4)] [(.int (2 : Int32))]))
  refine OGo.st (fun _ k => XS.iconst X0.here hx rfl (hb hby d4_1) k) ?_
  show OGo p e below s _ _ _ (s₁.setTop (mkF m 2 #[.val (.ref o0), .val (.int (2 : Int32)), .val (.int p2), .val (.int p3), .val (.int p4)] [(.int (1 : Int32)), (.int (2 : Int32))]))
  refine OGo.st (fun _ k => XS.icmpNo X0.here hx rfl (hb hby d4_2) rfl (flt (by decide : ¬ ((2 : Int32) < (1 : Int32)))).1 k) ?_
  show OGo p e below s _ _ _ (s₁.setTop (mkF m 5 #[.val (.ref o0), .val (.int (2 : Int32)), .val (.int p2), .val (.int p3), .val (.int p4)] []))
  refine OGo.st (fun _ k => XS.aloadN X0.here hx rfl (hb hby d4_5) rfl rfl k) ?_
  show OGo p e below s _ _ _ (s₁.setTop (mkF m 6 #[.val (.ref o0), .val (.int (2 : Int32)), .val (.int p2), .val (.int p3), .val (.int p4)] [(.ref o0)]))
  refine OGo.st (fun _ k => XS.iconst X0.here hx rfl (hb hby d4_6) k) ?_
  show OGo p e below s _ _ _ (s₁.setTop (mkF m 7 #[.val (.ref o0), .val (.int (2 : Int32)), .val (.int p2), .val (.int p3), .val (.int p4)] [(.int (0 : Int32)), (.ref o0)]))
  obtain ⟨cl1, Ar1, q1, Sz1, Nn1, Hs1, Gs1⟩ := id V_o0
  have hin1 : ¬ ((0 : Int32) < 0 ∨ cl1.slots.size ≤ ((0 : Int32)).toNatClampNeg) := inb_of Sz1 ⟨by decide, by decide⟩
  have hat1 : cl1.slots[((0 : Int32)).toNatClampNeg]? = some (.int x0) := Hs1.at hin1 rfl
  refine OGo.st (fun _ k => X0.baloadBytes hx (j := (0 : Int32)) (v := (.int x0)) (by rw [e0]; exact Ar1.1) (State.isArrayOf_alike hZ.alike Ar1.2.1) Ar1.2.2 hin1 hat1 (g := (mkF m 7 #[.val (.ref o0), .val (.int (2 : Int32)), .val (.int p2), .val (.int p3), .val (.int p4)] [(.int (0 : Int32)), (.ref o0)])) rfl rfl (hb hby d4_7) _ k) ?_
  show OGo p e below s _ _ _ (s₁.setTop (mkF m 8 #[.val (.ref o0), .val (.int (2 : Int32)), .val (.int p2), .val (.int p3), .val (.int p4)] [(.int x0)]))
  refine OGo.st (fun _ k => XS.iloadN X0.here hx rfl (hb hby d4_8) rfl k) ?_
  show OGo p e below s _ _ _ (s₁.setTop (mkF m 9 #[.val (.ref o0), .val (.int (2 : Int32)), .val (.int p2), .val (.int p3), .val (.int p4)] [(.int p2), (.int x0)]))
  by_cases hc9 : x0 = p2
  · refine OGo.st (fun _ k => XS.icmpYes X0.here hx rfl (pc0 := 9) (pc' := 14) rfl (hb hby d4_9) rfl (teq hc9).1 (by decide) (by decide) k) ?_
    show OGo p e below s _ _ _ (s₁.setTop (mkF m 14 #[.val (.ref o0), .val (.int (2 : Int32)), .val (.int p2), .val (.int p3), .val (.int p4)] []))
    refine OGo.st (fun _ k => XS.iloadN X0.here hx rfl (hb hby d4_14) rfl k) ?_
    show OGo p e below s _ _ _ (s₁.setTop (mkF m 15 #[.val (.ref o0), .val (.int (2 : Int32)), .val (.int p2), .val (.int p3), .val (.int p4)] [(.int (2 : Int32))]))
    refine OGo.st (fun _ k => XS.iconst X0.here hx rfl (hb hby d4_15) k) ?_
    show OGo p e below s _ _ _ (s₁.setTop (mkF m 16 #[.val (.ref o0), .val (.int (2 : Int32)), .val (.int p2), .val (.int p3), .val (.int p4)] [(.int (2 : Int32)), (.int (2 : Int32))]))
    refine OGo.st (fun _ k => XS.icmpNo X0.here hx rfl (hb hby d4_16) rfl (flt (by decide : ¬ ((2 : Int32) < (2 : Int32)))).1 k) ?_
    show OGo p e below s _ _ _ (s₁.setTop (mkF m 19 #[.val (.ref o0), .val (.int (2 : Int32)), .val (.int p2), .val (.int p3), .val (.int p4)] []))
    refine OGo.st (fun _ k => XS.aloadN X0.here hx rfl (hb hby d4_19) rfl rfl k) ?_
    show OGo p e below s _ _ _ (s₁.setTop (mkF m 20 #[.val (.ref o0), .val (.int (2 : Int32)), .val (.int p2), .val (.int p3), .val (.int p4)] [(.ref o0)]))
    refine OGo.st (fun _ k => XS.iconst X0.here hx rfl (hb hby d4_20) k) ?_
    show OGo p e below s _ _ _ (s₁.setTop (mkF m 21 #[.val (.ref o0), .val (.int (2 : Int32)), .val (.int p2), .val (.int p3), .val (.int p4)] [(.int (1 : Int32)), (.ref o0)]))
    obtain ⟨cl2, Ar2, q2, Sz2, Nn2, Hs2, Gs2⟩ := id V_o0
    have hin2 : ¬ ((1 : Int32) < 0 ∨ cl2.slots.size ≤ ((1 : Int32)).toNatClampNeg) := inb_of Sz2 ⟨by decide, by decide⟩
    have hat2 : cl2.slots[((1 : Int32)).toNatClampNeg]? = some (.int x1) := Hs2.at hin2 rfl
    refine OGo.st (fun _ k => X0.baloadBytes hx (j := (1 : Int32)) (v := (.int x1)) (by rw [e0]; exact Ar2.1) (State.isArrayOf_alike hZ.alike Ar2.2.1) Ar2.2.2 hin2 hat2 (g := (mkF m 21 #[.val (.ref o0), .val (.int (2 : Int32)), .val (.int p2), .val (.int p3), .val (.int p4)] [(.int (1 : Int32)), (.ref o0)])) rfl rfl (hb hby d4_21) _ k) ?_
    show OGo p e below s _ _ _ (s₁.setTop (mkF m 22 #[.val (.ref o0), .val (.int (2 : Int32)), .val (.int p2), .val (.int p3), .val (.int p4)] [(.int x1)]))
    refine OGo.st (fun _ k => XS.iloadN X0.here hx rfl (hb hby d4_22) rfl k) ?_
    show OGo p e below s _ _ _ (s₁.setTop (mkF m 23 #[.val (.ref o0), .val (.int (2 : Int32)), .val (.int p2), .val (.int p3), .val (.int p4)] [(.int p3), (.int x1)]))
    by_cases hc23 : x1 = p3
    · refine OGo.st (fun _ k => XS.icmpYes X0.here hx rfl (pc0 := 23) (pc' := 28) rfl (hb hby d4_23) rfl (teq hc23).1 (by decide) (by decide) k) ?_
      show OGo p e below s _ _ _ (s₁.setTop (mkF m 28 #[.val (.ref o0), .val (.int (2 : Int32)), .val (.int p2), .val (.int p3), .val (.int p4)] []))
      refine OGo.st (fun _ k => XS.iloadN X0.here hx rfl (hb hby d4_28) rfl k) ?_
      show OGo p e below s _ _ _ (s₁.setTop (mkF m 29 #[.val (.ref o0), .val (.int (2 : Int32)), .val (.int p2), .val (.int p3), .val (.int p4)] [(.int (2 : Int32))]))
      refine OGo.st (fun _ k => XS.iconst X0.here hx rfl (hb hby d4_29) k) ?_
      show OGo p e below s _ _ _ (s₁.setTop (mkF m 30 #[.val (.ref o0), .val (.int (2 : Int32)), .val (.int p2), .val (.int p3), .val (.int p4)] [(.int (3 : Int32)), (.int (2 : Int32))]))
      refine OGo.st (fun _ k => XS.icmpYes X0.here hx rfl (pc0 := 30) (pc' := 43) rfl (hb hby d4_30) rfl (tlt (by decide : (2 : Int32) < (3 : Int32))).1 (by decide) (by decide) k) ?_
      show OGo p e below s _ _ _ (s₁.setTop (mkF m 43 #[.val (.ref o0), .val (.int (2 : Int32)), .val (.int p2), .val (.int p3), .val (.int p4)] []))
      refine OGo.st (fun _ k => XS.iconst X0.here hx rfl (hb hby d4_43) k) ?_
      show OGo p e below s _ _ _ (s₁.setTop (mkF m 44 #[.val (.ref o0), .val (.int (2 : Int32)), .val (.int p2), .val (.int p3), .val (.int p4)] [(.int (1 : Int32))]))
      exact oretN X0 hx Bd.notSynchronized (t := .boolean) Bd.returns (by simp) (hb hby d4_44) (z' := (1 : Int32)) (by decide) e0 ⟨(congrArg (fun z => some (Value.int z)) (show (1 : Int32) = f4L32 p2 p3 x0 x1 from Eq.symm (by unfold f4L32; exact (if_pos hc9).trans (if_pos hc23)))), N0, rfl⟩ (by decide) (by decide)
    · refine OGo.st (fun _ k => XS.icmpNo X0.here hx rfl (hb hby d4_23) rfl (feq hc23).1 k) ?_
      show OGo p e below s _ _ _ (s₁.setTop (mkF m 26 #[.val (.ref o0), .val (.int (2 : Int32)), .val (.int p2), .val (.int p3), .val (.int p4)] []))
      refine OGo.st (fun _ k => XS.iconst X0.here hx rfl (hb hby d4_26) k) ?_
      show OGo p e below s _ _ _ (s₁.setTop (mkF m 27 #[.val (.ref o0), .val (.int (2 : Int32)), .val (.int p2), .val (.int p3), .val (.int p4)] [(.int (0 : Int32))]))
      exact oretN X0 hx Bd.notSynchronized (t := .boolean) Bd.returns (by simp) (hb hby d4_27) (z' := (0 : Int32)) (by decide) e0 ⟨(congrArg (fun z => some (Value.int z)) (show (0 : Int32) = f4L32 p2 p3 x0 x1 from Eq.symm (by unfold f4L32; exact (if_pos hc9).trans (if_neg hc23)))), N0, rfl⟩ (by decide) (by decide)
  · refine OGo.st (fun _ k => XS.icmpNo X0.here hx rfl (hb hby d4_9) rfl (feq hc9).1 k) ?_
    show OGo p e below s _ _ _ (s₁.setTop (mkF m 12 #[.val (.ref o0), .val (.int (2 : Int32)), .val (.int p2), .val (.int p3), .val (.int p4)] []))
    refine OGo.st (fun _ k => XS.iconst X0.here hx rfl (hb hby d4_12) k) ?_
    show OGo p e below s _ _ _ (s₁.setTop (mkF m 13 #[.val (.ref o0), .val (.int (2 : Int32)), .val (.int p2), .val (.int p3), .val (.int p4)] [(.int (0 : Int32))]))
    exact oretN X0 hx Bd.notSynchronized (t := .boolean) Bd.returns (by simp) (hb hby d4_13) (z' := (0 : Int32)) (by decide) e0 ⟨(congrArg (fun z => some (Value.int z)) (show (0 : Int32) = f4L32 p2 p3 x0 x1 from Eq.symm (by unfold f4L32; exact if_neg hc9))), N0, rfl⟩ (by decide) (by decide)
theorem ef_3L3 (m : MethodId) : entryFrame m #[(.int (3 : Int32)), (.int (4 : Int32))] 2 = mkF m 0 #[.val (.int (3 : Int32)), .val (.int (4 : Int32))] [] := by first | (simp [entryFrame, mkF, argsToLocals, Value.category]; done) | rfl
def f3L3 : Int32 := (3 : Int32)
def Q3L3 (Z : State) (h0 : Heap) (n0 : Nat) (v : Option Value) (h : Heap) (L : List Loc) : Prop := v = some (.int (f3L3)) ∧ Fr n0 L ∧ h = h0
set_option maxRecDepth 65536 in
set_option maxHeartbeats 40000000 in
theorem rm3L3 (l : Launch) (Z : State) (a0 : Array Value) (hw : ∀ d ∈ tables_1, d.before a0 Z = true) (ws : List Jvm.Cond) (h0 : Heap) (n0 : Nat) (Z0 : n0 ≤ h0.size) :
    MetFree l (⟨"java/lang/Math", "min", "(II)I"⟩ : MethodName) (head1 (Jvm.Cond.code (⟨"java/lang/Math", "min", "(II)I"⟩ : MethodName) jdk_29_method_69_code 2 (some .int) :: ws) ({ frames := 0, cells := 0, slots := 0, locals := 0 } : Room)) (fun a U => a = #[(.int (3 : Int32)), (.int (4 : Int32))] ∧ Z.Warmed39 U.vm ∧ U.heap = h0) (fun _ _ _ _ _ => True) (fun _ U o U' => ∃ v L, o = .returned v ∧ Q3L3 Z h0 n0 v U'.heap L ∧ FrameEnd U o U' L ({ frames := 0, cells := 0, slots := 0, locals := 0 } : Room).cells ({ frames := 0, cells := 0, slots := 0, locals := 0 } : Room).slots) := by
  refine MetFree.of_bodySF (Jvm.Free.JP.mathPlain rfl (by decide +kernel)) hisR ?_
  intro p e s m args below meth c s₁ Bd hml0 hP hK
  obtain ⟨rfl, hZ, hh⟩ := hP
  have hx := Bd.exec
  have hby := Bd.bytes
  have hml : c.maxLocals = 2 := hml0
  have hown : s.vm.findClass "java/lang/Math" = some m.cls := findClass_of_methodNamed Bd.named
  have hnm := (name_of_methodNamed Bd.named Bd.method).1
  have X0 : Stand p l e ({ frames := 0, cells := 0, slots := 0, locals := 0 } : Room) s m #[(.int (3 : Int32)), (.int (4 : Int32))] below meth c s₁ [] 0 0 := Stand.of_body Bd
  have e0 : s₁.heap = h0 := by rw [← hh, Bd.state]; rfl
  have N0 := Fr.nil n0
  show OGo p e below s (Q3L3 Z h0 n0) ({ frames := 0, cells := 0, slots := 0, locals := 0 } : Room).cells ({ frames := 0, cells := 0, slots := 0, locals := 0 } : Room).slots _
  refine OGo.st (fun _ k => castTop (ef_3L3 m) k) ?_
  show OGo p e below s _ _ _ (s₁.setTop (mkF m 0 #[.val (.int (3 : Int32)), .val (.int (4 : Int32))] []))
  refine OGo.st (fun _ k => XS.iloadN X0.here hx rfl (hb hby d3_0) rfl k) ?_
  show OGo p e below s _ _ _ (s₁.setTop (mkF m 1 #[.val (.int (3 : Int32)), .val (.int (4 : Int32))] [(.int (3 : Int32))]))
  refine OGo.st (fun _ k => XS.iloadN X0.here hx rfl (hb hby d3_1) rfl k) ?_
  show OGo p e below s _ _ _ (s₁.setTop (mkF m 2 #[.val (.int (3 : Int32)), .val (.int (4 : Int32))] [(.int (4 : Int32)), (.int (3 : Int32))]))
  refine OGo.st (fun _ k => XS.icmpNo X0.here hx rfl (hb hby d3_2) rfl (flt (by decide : ¬ ((4 : Int32) < (3 : Int32)))).2.2.1 k) ?_
  show OGo p e below s _ _ _ (s₁.setTop (mkF m 5 #[.val (.int (3 : Int32)), .val (.int (4 : Int32))] []))
  refine OGo.st (fun _ k => XS.iloadN X0.here hx rfl (hb hby d3_5) rfl k) ?_
  show OGo p e below s _ _ _ (s₁.setTop (mkF m 6 #[.val (.int (3 : Int32)), .val (.int (4 : Int32))] [(.int (3 : Int32))]))
  refine OGo.st (fun _ k => XS.goto X0.here hx rfl (pc0 := 6) (pc' := 10) rfl (hb hby d3_6) (by decide) (by decide) k) ?_
  show OGo p e below s _ _ _ (s₁.setTop (mkF m 10 #[.val (.int (3 : Int32)), .val (.int (4 : Int32))] [(.int (3 : Int32))]))
  exact oretI X0 hx Bd.notSynchronized Bd.returns (hb hby d3_10) e0 ⟨(congrArg (fun z => some (Value.int z)) (show (3 : Int32) = f3L3 from Eq.symm (by unfold f3L3; exact rfl))), N0, rfl⟩ (by decide) (by decide)
theorem pd_2L3_0 : parseMethodDescriptor "(II)I" = some ⟨[.int, .int], some .int⟩ := by decide +kernel
theorem ef_2L3 (m : MethodId) (o0 : Addr) : entryFrame m #[(.ref o0), (.int (4 : Int32))] 3 = mkF m 0 #[.val (.ref o0), .val (.int (4 : Int32)), .unset] [] := by first | (simp [entryFrame, mkF, argsToLocals, Value.category]; done) | rfl
def Q2L3 (Z : State) (o0 : Addr) (k_o0 : ClassId) (x0 : Int32) (x1 : Int32) (x2 : Int32) (h0 : Heap) (n0 : Nat) (v : Option Value) (h : Heap) (L : List Loc) : Prop := ∃ (b : Addr) (k : ClassId), v = some (.ref b) ∧ Fr n0 L ∧ Keep h0 h [] ∧ h0.size ≤ b ∧ n0 ≤ b ∧ Arv Z h b k .byte (4 : Int32) [(.int x0), (.int x1), (.int x2), (.int (0 : Int32))] (.int (0 : Int32))
set_option maxRecDepth 65536 in
set_option maxHeartbeats 40000000 in
theorem rm2L3 (l : Launch) (Z : State) (a0 : Array Value) (hw : ∀ d ∈ tables_1, d.before a0 Z = true) (ws : List Jvm.Cond) (o0 : Addr) (k_o0 : ClassId) (x0 : Int32) (x1 : Int32) (x2 : Int32) (h0 : Heap) (n0 : Nat) (Z0 : n0 ≤ h0.size) (V_o0 : Arv Z h0 o0 k_o0 .byte (3 : Int32) [(.int x0), (.int x1), (.int x2)] (.int (0 : Int32))) :
    MetFree l (⟨"java/util/Arrays", "copyOf", "([BI)[B"⟩ : MethodName) (head1 (Jvm.Cond.code (⟨"java/util/Arrays", "copyOf", "([BI)[B"⟩ : MethodName) jdk_65_method_121_code 3 (some (.array .byte)) :: ws) ({ frames := 1, cells := 1, slots := 4, locals := 18 } : Room)) (fun a U => a = #[(.ref o0), (.int (4 : Int32))] ∧ Z.Warmed39 U.vm ∧ U.heap = h0) (fun _ _ _ _ _ => True) (fun _ U o U' => ∃ v L, o = .returned v ∧ Q2L3 Z o0 k_o0 x0 x1 x2 h0 n0 v U'.heap L ∧ FrameEnd U o U' L ({ frames := 1, cells := 1, slots := 4, locals := 18 } : Room).cells ({ frames := 1, cells := 1, slots := 4, locals := 18 } : Room).slots) := by
  refine MetFree.of_bodySF (plainFor_of_name pn_2) hisR ?_
  intro p e s m args below meth c s₁ Bd hml0 hP hK
  obtain ⟨rfl, hZ, hh⟩ := hP
  have hx := Bd.exec
  have hby := Bd.bytes
  have hml : c.maxLocals = 3 := hml0
  have hown : s.vm.findClass "java/util/Arrays" = some m.cls := findClass_of_methodNamed Bd.named
  have hnm := (name_of_methodNamed Bd.named Bd.method).1
  have X0 : Stand p l e ({ frames := 1, cells := 1, slots := 4, locals := 18 } : Room) s m #[(.ref o0), (.int (4 : Int32))] below meth c s₁ [] 0 0 := Stand.of_body Bd
  have e0 : s₁.heap = h0 := by rw [← hh, Bd.state]; rfl
  have N0 := Fr.nil n0
  show OGo p e below s (Q2L3 Z o0 k_o0 x0 x1 x2 h0 n0) ({ frames := 1, cells := 1, slots := 4, locals := 18 } : Room).cells ({ frames := 1, cells := 1, slots := 4, locals := 18 } : Room).slots _
  refine OGo.st (fun _ k => castTop (ef_2L3 m o0) k) ?_
  show OGo p e below s _ _ _ (s₁.setTop (mkF m 0 #[.val (.ref o0), .val (.int (4 : Int32)), .unset] []))
  refine OGo.st (fun _ k => XS.iloadN X0.here hx rfl (hb hby d2_0) rfl k) ?_
  show OGo p e below s _ _ _ (s₁.setTop (mkF m 1 #[.val (.ref o0), .val (.int (4 : Int32)), .unset] [(.int (4 : Int32))]))
  refine OGo.st (fun _ k => XS.aloadN X0.here hx rfl (hb hby d2_1) rfl rfl k) ?_
  show OGo p e below s _ _ _ (s₁.setTop (mkF m 2 #[.val (.ref o0), .val (.int (4 : Int32)), .unset] [(.ref o0), (.int (4 : Int32))]))
  obtain ⟨cl1, Ar1, -, Sz1, Nn1, -, -⟩ := id V_o0
  refine OGo.st (fun _ k => X0.arraylength hx (by rw [e0]; exact Ar1.1) (State.isArrayOf_alike hZ.alike Ar1.2.1) (g := (mkF m 2 #[.val (.ref o0), .val (.int (4 : Int32)), .unset] [(.ref o0), (.int (4 : Int32))])) rfl rfl (hb hby d2_2) _ k) ?_
  rw [len_of Sz1 Nn1]
  show OGo p e below s _ _ _ (s₁.setTop (mkF m 3 #[.val (.ref o0), .val (.int (4 : Int32)), .unset] [(.int (3 : Int32)), (.int (4 : Int32))]))
  refine OGo.st (fun _ k => XS.icmpYes X0.here hx rfl (pc0 := 3) (pc' := 14) rfl (hb hby d2_3) rfl (feq (by decide : ¬ ((4 : Int32) = (3 : Int32)))).2 (by decide) (by decide) k) ?_
  show OGo p e below s _ _ _ (s₁.setTop (mkF m 14 #[.val (.ref o0), .val (.int (4 : Int32)), .unset] []))
  refine OGo.st (fun _ k => XS.iloadN X0.here hx rfl (hb hby d2_14) rfl k) ?_
  show OGo p e below s _ _ _ (s₁.setTop (mkF m 15 #[.val (.ref o0), .val (.int (4 : Int32)), .unset] [(.int (4 : Int32))]))
  obtain ⟨T2, h2, k2, X2, e2, E2, A2, st2⟩ := newP X0 hx hZ (hw _ (List.mem_of_getElem? (i := 0) rfl)) e0 (g := (mkF m 15 #[.val (.ref o0), .val (.int (4 : Int32)), .unset] [(.int (4 : Int32))])) rfl (hb hby d2_15) rfl (by decide) (cap := 4) (by decide) (by decide) (by decide) (by decide)
  obtain ⟨b2, g2⟩ : ∃ z, z = h0.size := ⟨_, rfl⟩
  rw [← g2] at A2 st2
  refine OGo.st st2 ?_
  have V_o0_w2 := V_o0.ext E2
  have ne_o0_b2 : o0 ≠ b2 := Nat.ne_of_lt (Nat.lt_of_lt_of_le V_o0.lt (Nat.le_of_eq g2.symm))
  have g_b2 : n0 ≤ b2 := Nat.le_trans Z0 (Nat.le_of_eq g2.symm)
  have sz_b2 : h0.size ≤ b2 := Nat.le_trans (Keep.refl h0 []).1 (Nat.le_of_eq g2.symm)
  have K2 : Keep h0 h2 [] := (Keep.refl h0 _).ext E2
  have Z2 : n0 ≤ h2.size := Nat.le_trans Z0 E2.1
  have V_b2 : Arv Z h2 b2 k2 .byte (4 : Int32) [(.int (0 : Int32)), (.int (0 : Int32)), (.int (0 : Int32)), (.int (0 : Int32))] (.int (0 : Int32)) := (Arv.new A2 (by decide)).pad (pad_rep [] (.int (0 : Int32)) 4)
  show OGo p e below s _ _ _ (T2.setTop (mkF m 17 #[.val (.ref o0), .val (.int (4 : Int32)), .unset] [(.ref b2)]))
  refine OGo.st (fun _ k => XS.astoreN X2.here hx rfl (hb hby d2_17) rfl rfl (l' := #[.val (.ref o0), .val (.int (4 : Int32)), .val (.ref b2)]) rfl k) ?_
  show OGo p e below s _ _ _ (T2.setTop (mkF m 18 #[.val (.ref o0), .val (.int (4 : Int32)), .val (.ref b2)] []))
  refine OGo.st (fun _ k => XS.aloadN X2.here hx rfl (hb hby d2_18) rfl rfl k) ?_
  show OGo p e below s _ _ _ (T2.setTop (mkF m 19 #[.val (.ref o0), .val (.int (4 : Int32)), .val (.ref b2)] [(.ref o0)]))
  refine OGo.st (fun _ k => XS.iconst X2.here hx rfl (hb hby d2_19) k) ?_
  show OGo p e below s _ _ _ (T2.setTop (mkF m 20 #[.val (.ref o0), .val (.int (4 : Int32)), .val (.ref b2)] [(.int (0 : Int32)), (.ref o0)]))
  refine OGo.st (fun _ k => XS.aloadN X2.here hx rfl (hb hby d2_20) rfl rfl k) ?_
  show OGo p e below s _ _ _ (T2.setTop (mkF m 21 #[.val (.ref o0), .val (.int (4 : Int32)), .val (.ref b2)] [(.ref b2), (.int (0 : Int32)), (.ref o0)]))
  refine OGo.st (fun _ k => XS.iconst X2.here hx rfl (hb hby d2_21) k) ?_
  show OGo p e below s _ _ _ (T2.setTop (mkF m 22 #[.val (.ref o0), .val (.int (4 : Int32)), .val (.ref b2)] [(.int (0 : Int32)), (.ref b2), (.int (0 : Int32)), (.ref o0)]))
  refine OGo.st (fun _ k => XS.aloadN X2.here hx rfl (hb hby d2_22) rfl rfl k) ?_
  show OGo p e below s _ _ _ (T2.setTop (mkF m 23 #[.val (.ref o0), .val (.int (4 : Int32)), .val (.ref b2)] [(.ref o0), (.int (0 : Int32)), (.ref b2), (.int (0 : Int32)), (.ref o0)]))
  obtain ⟨cl3, Ar3, -, Sz3, Nn3, -, -⟩ := id V_o0_w2
  refine OGo.st (fun _ k => X2.arraylength hx (by rw [e2]; exact Ar3.1) (State.isArrayOf_alike hZ.alike Ar3.2.1) (g := (mkF m 23 #[.val (.ref o0), .val (.int (4 : Int32)), .val (.ref b2)] [(.ref o0), (.int (0 : Int32)), (.ref b2), (.int (0 : Int32)), (.ref o0)])) rfl rfl (hb hby d2_23) _ k) ?_
  rw [len_of Sz3 Nn3]
  show OGo p e below s _ _ _ (T2.setTop (mkF m 24 #[.val (.ref o0), .val (.int (4 : Int32)), .val (.ref b2)] [(.int (3 : Int32)), (.int (0 : Int32)), (.ref b2), (.int (0 : Int32)), (.ref o0)]))
  refine OGo.st (fun _ k => XS.iloadN X2.here hx rfl (hb hby d2_24) rfl k) ?_
  show OGo p e below s _ _ _ (T2.setTop (mkF m 25 #[.val (.ref o0), .val (.int (4 : Int32)), .val (.ref b2)] [(.int (4 : Int32)), (.int (3 : Int32)), (.int (0 : Int32)), (.ref b2), (.int (0 : Int32)), (.ref o0)]))
  obtain ⟨_, _, ⟨T4, L4, k4, n4⟩, -, X4, ⟨Lc4, hQ4, l4, y4, z4⟩, st4⟩ := Jvm.LawKit.callS X2 hx (y := (⟨"java/lang/Math", "min", "(II)I"⟩ : MethodName)) hown (mvT hZ (hw _ (List.mem_of_getElem? (i := 9) rfl))) (mvT hZ (hw _ (List.mem_of_getElem? (i := 10) rfl))) (mvT hZ (hw _ (List.mem_of_getElem? (i := 11) rfl))) (mvT hZ (hw _ (List.mem_of_getElem? (i := 12) rfl))) (by decide) (backOf (W := 4) (rm3L3 l Z a0 hw [] h2 n0 Z2) hZ (hw _ (List.mem_of_getElem? (i := 12) rfl)) (hw _ (List.mem_of_getElem? (i := 11) rfl)) (by decide) (by decide)) (g := (mkF m 25 #[.val (.ref o0), .val (.int (4 : Int32)), .val (.ref b2)] [(.int (4 : Int32)), (.int (3 : Int32)), (.int (0 : Int32)), (.ref b2), (.int (0 : Int32)), (.ref o0)])) rfl (by rw [hml]; rfl) (argsL := [(.int (3 : Int32)), (.int (4 : Int32))]) (rest := [(.int (0 : Int32)), (.ref b2), (.int (0 : Int32)), (.ref o0)]) (lenOf pd_2L3_0 rfl) rfl (by show 2 * 0 + _ ≤ _; exact Nat.le_of_eq rfl) (hb hby d2_25) (fun _ _ => ⟨rfl, e2, (by decide : 1 + 0 ≤ _), (by decide : 4 + 0 ≤ _)⟩)
  dsimp only [Pt.U, Pt.locs, Pt.cells, Pt.slots] at X4 l4 y4 z4 st4 hQ4
  subst l4 y4 z4
  obtain ⟨rfl, N4q, e4⟩ := hQ4
  have hl4 : (f3L3) = (3 : Int32) := rfl
  have N4 := Fr.app N0 N4q
  refine OGo.st st4 ?_
  show OGo p e below s _ _ _ (T4.setTop (mkF m 28 #[.val (.ref o0), .val (.int (4 : Int32)), .val (.ref b2)] [(.int (3 : Int32)), (.int (0 : Int32)), (.ref b2), (.int (0 : Int32)), (.ref o0)]))
  obtain ⟨T5, h5, L5, X5, e5, N5, Kc5, Vq5, st5⟩ := cpA X4 hx hZ hown (hw _ (List.mem_of_getElem? (i := 13) rfl)) (hw _ (List.mem_of_getElem? (i := 16) rfl)) (hw _ (List.mem_of_getElem? (i := 14) rfl)) (hw _ (List.mem_of_getElem? (i := 15) rfl)) e4 V_o0_w2 V_b2 (us := [(.int x0), (.int x1), (.int x2)]) (sp := (0 : Int32)) (dp := (0 : Int32)) (nn := (3 : Int32)) (Or.inl ⟨rfl, rfl⟩) (by decide) (by decide) (by decide) (by decide) (by decide) rfl (by decide) N4 g_b2 (g := (mkF m 28 #[.val (.ref o0), .val (.int (4 : Int32)), .val (.ref b2)] [(.int (3 : Int32)), (.int (0 : Int32)), (.ref b2), (.int (0 : Int32)), (.ref o0)])) rfl (by rw [hml]; rfl) rfl (hb hby d2_28) (by decide) (W := 0) (by show 2 * 0 + _ ≤ _; exact Nat.le_of_eq rfl) (by decide)
  have V_o0_w5 := V_o0_w2.keep Kc5 (ninS ne_o0_b2 nin0)
  have K5 : Keep h0 h5 [] := (K2).trans Kc5 (allS (Or.inr sz_b2) all0)
  have Z5 : n0 ≤ h5.size := Nat.le_trans Z2 Kc5.1
  have V5 : Arv Z h5 b2 k2 .byte (4 : Int32) [(.int x0), (.int x1), (.int x2), (.int (0 : Int32))] (.int (0 : Int32)) := Vq5
  refine OGo.st st5 ?_
  show OGo p e below s _ _ _ (T5.setTop (mkF m 31 #[.val (.ref o0), .val (.int (4 : Int32)), .val (.ref b2)] []))
  refine OGo.st (fun _ k => XS.aloadN X5.here hx rfl (hb hby d2_31) rfl rfl k) ?_
  show OGo p e below s _ _ _ (T5.setTop (mkF m 32 #[.val (.ref o0), .val (.int (4 : Int32)), .val (.ref b2)] [(.ref b2)]))
  exact oretA X5 hx Bd.notSynchronized Bd.returns rfl rfl (hb hby d2_32) e5 ⟨b2, k2, rfl, N5, K5, sz_b2, g_b2, V5⟩ (by decide) (by decide)
theorem pd_1L3_0 : parseMethodDescriptor "([BI)[B" = some ⟨[(.array .byte), .int], some (.array .byte)⟩ := by decide +kernel
theorem ef_1L3 (m : MethodId) (o0 : Addr) : entryFrame m #[(.ref o0)] 2 = mkF m 0 #[.val (.ref o0), .unset] [] := by first | (simp [entryFrame, mkF, argsToLocals, Value.category]; done) | rfl
def Q1L3 (Z : State) (o0 : Addr) (k_o0 : ClassId) (x0 : Int32) (x1 : Int32) (x2 : Int32) (h0 : Heap) (n0 : Nat) (v : Option Value) (h : Heap) (L : List Loc) : Prop := ∃ (b : Addr) (k : ClassId), v = some (.ref b) ∧ Fr n0 L ∧ Keep h0 h [] ∧ h0.size ≤ b ∧ n0 ≤ b ∧ Arv Z h b k .byte (4 : Int32) [(.int x0), (.int x1), (.int x2), (.int (-1 : Int32))] (.int (0 : Int32))
set_option maxRecDepth 65536 in
set_option maxHeartbeats 40000000 in
theorem rm1L3 (l : Launch) (Z : State) (a0 : Array Value) (hw : ∀ d ∈ tables_1, d.before a0 Z = true) (ws : List Jvm.Cond) (o0 : Addr) (k_o0 : ClassId) (x0 : Int32) (x1 : Int32) (x2 : Int32) (h0 : Heap) (n0 : Nat) (Z0 : n0 ≤ h0.size) (V_o0 : Arv Z h0 o0 k_o0 .byte (3 : Int32) [(.int x0), (.int x1), (.int x2)] (.int (0 : Int32))) :
    MetFree l (⟨"com/example/rows_over_order/rowsoverorder/TupleCodec", "rangeEnd", "([B)[B"⟩ : MethodName) (head1 (Jvm.Cond.code (⟨"com/example/rows_over_order/rowsoverorder/TupleCodec", "rangeEnd", "([B)[B"⟩ : MethodName) prog_14_method_4_code 2 (some (.array .byte)) :: ws) ({ frames := 2, cells := 1, slots := 4, locals := 32 } : Room)) (fun a U => a = #[(.ref o0)] ∧ Z.Warmed39 U.vm ∧ U.heap = h0) (fun _ _ _ _ _ => True) (fun _ U o U' => ∃ v L, o = .returned v ∧ Q1L3 Z o0 k_o0 x0 x1 x2 h0 n0 v U'.heap L ∧ FrameEnd U o U' L ({ frames := 2, cells := 1, slots := 4, locals := 32 } : Room).cells ({ frames := 2, cells := 1, slots := 4, locals := 32 } : Room).slots) := by
  refine MetFree.of_bodySF (plainFor_of_name pn_1) hisR ?_
  intro p e s m args below meth c s₁ Bd hml0 hP hK
  obtain ⟨rfl, hZ, hh⟩ := hP
  have hx := Bd.exec
  have hby := Bd.bytes
  have hml : c.maxLocals = 2 := hml0
  have hown : s.vm.findClass "com/example/rows_over_order/rowsoverorder/TupleCodec" = some m.cls := findClass_of_methodNamed Bd.named
  have hnm := (name_of_methodNamed Bd.named Bd.method).1
  have X0 : Stand p l e ({ frames := 2, cells := 1, slots := 4, locals := 32 } : Room) s m #[(.ref o0)] below meth c s₁ [] 0 0 := Stand.of_body Bd
  have e0 : s₁.heap = h0 := by rw [← hh, Bd.state]; rfl
  have N0 := Fr.nil n0
  show OGo p e below s (Q1L3 Z o0 k_o0 x0 x1 x2 h0 n0) ({ frames := 2, cells := 1, slots := 4, locals := 32 } : Room).cells ({ frames := 2, cells := 1, slots := 4, locals := 32 } : Room).slots _
  refine OGo.st (fun _ k => castTop (ef_1L3 m o0) k) ?_
  show OGo p e below s _ _ _ (s₁.setTop (mkF m 0 #[.val (.ref o0), .unset] []))
  refine OGo.st (fun _ k => XS.aloadN X0.here hx rfl (hb hby d1_0) rfl rfl k) ?_
  show OGo p e below s _ _ _ (s₁.setTop (mkF m 1 #[.val (.ref o0), .unset] [(.ref o0)]))
  refine OGo.st (fun _ k => XS.aloadN X0.here hx rfl (hb hby d1_1) rfl rfl k) ?_
  show OGo p e below s _ _ _ (s₁.setTop (mkF m 2 #[.val (.ref o0), .unset] [(.ref o0), (.ref o0)]))
  obtain ⟨cl1, Ar1, -, Sz1, Nn1, -, -⟩ := id V_o0
  refine OGo.st (fun _ k => X0.arraylength hx (by rw [e0]; exact Ar1.1) (State.isArrayOf_alike hZ.alike Ar1.2.1) (g := (mkF m 2 #[.val (.ref o0), .unset] [(.ref o0), (.ref o0)])) rfl rfl (hb hby d1_2) _ k) ?_
  rw [len_of Sz1 Nn1]
  show OGo p e below s _ _ _ (s₁.setTop (mkF m 3 #[.val (.ref o0), .unset] [(.int (3 : Int32)), (.ref o0)]))
  refine OGo.st (fun _ k => XS.iconst X0.here hx rfl (hb hby d1_3) k) ?_
  show OGo p e below s _ _ _ (s₁.setTop (mkF m 4 #[.val (.ref o0), .unset] [(.int (1 : Int32)), (.int (3 : Int32)), (.ref o0)]))
  refine OGo.st (fun _ k => XS.iadd X0.here hx rfl (hb hby d1_4) rfl k) ?_
  rw [show ((3 : Int32) + (1 : Int32)) = (4 : Int32) from by decide]
  show OGo p e below s _ _ _ (s₁.setTop (mkF m 5 #[.val (.ref o0), .unset] [(.int (4 : Int32)), (.ref o0)]))
  obtain ⟨_, _, ⟨T2, L2, k2, n2⟩, -, X2, ⟨Lc2, hQ2, l2, y2, z2⟩, st2⟩ := Jvm.LawKit.callS X0 hx (y := (⟨"java/util/Arrays", "copyOf", "([BI)[B"⟩ : MethodName)) hown (mvT hZ (hw _ (List.mem_of_getElem? (i := 5) rfl))) (mvT hZ (hw _ (List.mem_of_getElem? (i := 6) rfl))) (mvT hZ (hw _ (List.mem_of_getElem? (i := 7) rfl))) (mvT hZ (hw _ (List.mem_of_getElem? (i := 8) rfl))) (by decide) (backOf (W := 0) (rm2L3 l Z a0 hw [] o0 k_o0 x0 x1 x2 h0 n0 Z0 V_o0) hZ (hw _ (List.mem_of_getElem? (i := 8) rfl)) (hw _ (List.mem_of_getElem? (i := 7) rfl)) (by decide) (by decide)) (g := (mkF m 5 #[.val (.ref o0), .unset] [(.int (4 : Int32)), (.ref o0)])) rfl (by rw [hml]; rfl) (argsL := [(.ref o0), (.int (4 : Int32))]) (rest := []) (lenOf pd_1L3_0 rfl) rfl (by show 2 * 0 + _ ≤ _; exact Nat.le_of_eq rfl) (hb hby d1_5) (fun _ _ => ⟨rfl, e0, (by decide : 0 + 1 ≤ _), (by decide : 0 + 4 ≤ _)⟩)
  dsimp only [Pt.U, Pt.locs, Pt.cells, Pt.slots] at X2 l2 y2 z2 st2 hQ2
  subst l2 y2 z2
  obtain ⟨b2, kk2, rfl, N2q, Kc2, szq2, g_b2, V2⟩ := hQ2
  have ne_o0_b2 : o0 ≠ b2 := Nat.ne_of_lt (Nat.lt_of_lt_of_le V_o0.lt szq2)
  have sz_b2 : h0.size ≤ b2 := Nat.le_trans (Keep.refl h0 []).1 szq2
  have V_o0_w2 := V_o0.keep Kc2 nin0
  have K2 : Keep h0 T2.heap [] := (Keep.refl h0 _).trans Kc2 all0
  have Z2 : n0 ≤ T2.heap.size := Nat.le_trans Z0 Kc2.1
  have V2 : Arv Z T2.heap b2 kk2 .byte (4 : Int32) [(.int x0), (.int x1), (.int x2), (.int (0 : Int32))] (.int (0 : Int32)) := V2
  have N2 := Fr.app N0 N2q
  refine OGo.st st2 ?_
  show OGo p e below s _ _ _ (T2.setTop (mkF m 8 #[.val (.ref o0), .unset] [(.ref b2)]))
  refine OGo.st (fun _ k => XS.astoreN X2.here hx rfl (hb hby d1_8) rfl rfl (l' := #[.val (.ref o0), .val (.ref b2)]) rfl k) ?_
  show OGo p e below s _ _ _ (T2.setTop (mkF m 9 #[.val (.ref o0), .val (.ref b2)] []))
  refine OGo.st (fun _ k => XS.aloadN X2.here hx rfl (hb hby d1_9) rfl rfl k) ?_
  show OGo p e below s _ _ _ (T2.setTop (mkF m 10 #[.val (.ref o0), .val (.ref b2)] [(.ref b2)]))
  refine OGo.st (fun _ k => XS.aloadN X2.here hx rfl (hb hby d1_10) rfl rfl k) ?_
  show OGo p e below s _ _ _ (T2.setTop (mkF m 11 #[.val (.ref o0), .val (.ref b2)] [(.ref o0), (.ref b2)]))
  obtain ⟨cl3, Ar3, -, Sz3, Nn3, -, -⟩ := id V_o0_w2
  refine OGo.st (fun _ k => X2.arraylength hx Ar3.1 (State.isArrayOf_alike hZ.alike Ar3.2.1) (g := (mkF m 11 #[.val (.ref o0), .val (.ref b2)] [(.ref o0), (.ref b2)])) rfl rfl (hb hby d1_11) _ k) ?_
  rw [len_of Sz3 Nn3]
  show OGo p e below s _ _ _ (T2.setTop (mkF m 12 #[.val (.ref o0), .val (.ref b2)] [(.int (3 : Int32)), (.ref b2)]))
  refine OGo.st (fun _ k => XS.iconst X2.here hx rfl (hb hby d1_12) k) ?_
  show OGo p e below s _ _ _ (T2.setTop (mkF m 13 #[.val (.ref o0), .val (.ref b2)] [(.int (-1 : Int32)), (.int (3 : Int32)), (.ref b2)]))
  obtain ⟨cl4, Ar4, q4, Sz4, Nn4, Hs4, Gs4⟩ := id V2
  have hin4 : ¬ ((3 : Int32) < 0 ∨ cl4.slots.size ≤ ((3 : Int32)).toNatClampNeg) := inb_of Sz4 ⟨by decide, by decide⟩
  obtain ⟨T4, h4, X4, e4, W4, st4⟩ := stB X2 hx hZ rfl Ar4 (j := (3 : Int32)) hin4 (g := (mkF m 13 #[.val (.ref o0), .val (.ref b2)] [(.int (-1 : Int32)), (.int (3 : Int32)), (.ref b2)])) rfl rfl (hb hby d1_13)
  refine OGo.st st4 ?_
  have V_o0_w4 := V_o0_w2.other W4 ne_o0_b2
  have K4 : Keep h0 h4 [] := (K2).wr W4 (Or.inr sz_b2)
  have N4 := Fr.snoc X4 N2 g_b2
  have Z4 : n0 ≤ h4.size := Nat.le_trans Z2 (Keep.of_wr W4).1
  have V4 : Arv Z h4 b2 kk2 .byte (4 : Int32) [(.int x0), (.int x1), (.int x2), (.int (-1 : Int32))] (.int (0 : Int32)) := Arv.set Ar4 q4 Sz4 Nn4 Hs4 Gs4 (by decide) W4 3 rfl (Nat.le_of_ble_eq_true rfl)
  show OGo p e below s _ _ _ (T4.setTop (mkF m 14 #[.val (.ref o0), .val (.ref b2)] []))
  refine OGo.st (fun _ k => XS.aloadN X4.here hx rfl (hb hby d1_14) rfl rfl k) ?_
  show OGo p e below s _ _ _ (T4.setTop (mkF m 15 #[.val (.ref o0), .val (.ref b2)] [(.ref b2)]))
  exact oretA X4 hx Bd.notSynchronized Bd.returns rfl rfl (hb hby d1_15) e4 ⟨b2, kk2, rfl, N4, K4, sz_b2, g_b2, V4⟩ (by decide) (by decide)
theorem d4_33 : decode method_3_code 33 = .ok (.aload_n 0, 1) := by decide +kernel
theorem d4_34 : decode method_3_code 34 = .ok (.iconst 2, 1) := by decide +kernel
theorem d4_35 : decode method_3_code 35 = .ok (.baload, 1) := by decide +kernel
theorem d4_36 : decode method_3_code 36 = .ok (.iload 4, 2) := by decide +kernel
theorem d4_38 : decode method_3_code 38 = .ok (.if_icmp .eq 5, 3) := by decide +kernel
theorem d4_41 : decode method_3_code 41 = .ok (.iconst 0, 1) := by decide +kernel
theorem d4_42 : decode method_3_code 42 = .ok (.ireturn, 1) := by decide +kernel
theorem ef_4L33 (m : MethodId) (o0 : Addr) (p2 : Int32) (p3 : Int32) (p4 : Int32) : entryFrame m #[(.ref o0), (.int (3 : Int32)), (.int p2), (.int p3), (.int p4)] 5 = mkF m 0 #[.val (.ref o0), .val (.int (3 : Int32)), .val (.int p2), .val (.int p3), .val (.int p4)] [] := by first | (simp [entryFrame, mkF, argsToLocals, Value.category]; done) | rfl
def f4L33 (p2 : Int32) (p3 : Int32) (p4 : Int32) (x0 : Int32) (x1 : Int32) (x2 : Int32) : Int32 := (if x0 = p2 then (if x1 = p3 then (if x2 = p4 then (1 : Int32) else (0 : Int32)) else (0 : Int32)) else (0 : Int32))
def Q4L33 (Z : State) (o0 : Addr) (p2 : Int32) (p3 : Int32) (p4 : Int32) (k_o0 : ClassId) (x0 : Int32) (x1 : Int32) (x2 : Int32) (h0 : Heap) (n0 : Nat) (v : Option Value) (h : Heap) (L : List Loc) : Prop := v = some (.int (f4L33 p2 p3 p4 x0 x1 x2)) ∧ Fr n0 L ∧ h = h0
set_option maxRecDepth 65536 in
set_option maxHeartbeats 40000000 in
theorem rm4L33 (l : Launch) (Z : State) (a0 : Array Value) (hw : ∀ d ∈ tables_1, d.before a0 Z = true) (ws : List Jvm.Cond) (o0 : Addr) (p2 : Int32) (p3 : Int32) (p4 : Int32) (k_o0 : ClassId) (x0 : Int32) (x1 : Int32) (x2 : Int32) (h0 : Heap) (n0 : Nat) (Z0 : n0 ≤ h0.size) (V_o0 : Arv Z h0 o0 k_o0 .byte (3 : Int32) [(.int x0), (.int x1), (.int x2)] (.int (0 : Int32))) :
    MetFree l (⟨"com/example/rows_over_order/rowsoverorder/TupleCodecRangeEndPinLaw", "matches", "([BIBBB)Z"⟩ : MethodName) (head1 (Jvm.Cond.code (⟨"com/example/rows_over_order/rowsoverorder/TupleCodecRangeEndPinLaw", "matches", "([BIBBB)Z"⟩ : MethodName) method_3_code 5 (some .boolean) :: ws) ({ frames := 0, cells := 0, slots := 0, locals := 0 } : Room)) (fun a U => a = #[(.ref o0), (.int (3 : Int32)), (.int p2), (.int p3), (.int p4)] ∧ Z.Warmed39 U.vm ∧ U.heap = h0) (fun _ _ _ _ _ => True) (fun _ U o U' => ∃ v L, o = .returned v ∧ Q4L33 Z o0 p2 p3 p4 k_o0 x0 x1 x2 h0 n0 v U'.heap L ∧ FrameEnd U o U' L ({ frames := 0, cells := 0, slots := 0, locals := 0 } : Room).cells ({ frames := 0, cells := 0, slots := 0, locals := 0 } : Room).slots) := by
  refine MetFree.of_bodySF (plainFor_of_name pn_4) hisR ?_
  intro p e s m args below meth c s₁ Bd hml0 hP hK
  obtain ⟨rfl, hZ, hh⟩ := hP
  have hx := Bd.exec
  have hby := Bd.bytes
  have hml : c.maxLocals = 5 := hml0
  have hown : s.vm.findClass "com/example/rows_over_order/rowsoverorder/TupleCodecRangeEndPinLaw" = some m.cls := findClass_of_methodNamed Bd.named
  have hnm := (name_of_methodNamed Bd.named Bd.method).1
  have X0 : Stand p l e ({ frames := 0, cells := 0, slots := 0, locals := 0 } : Room) s m #[(.ref o0), (.int (3 : Int32)), (.int p2), (.int p3), (.int p4)] below meth c s₁ [] 0 0 := Stand.of_body Bd
  have e0 : s₁.heap = h0 := by rw [← hh, Bd.state]; rfl
  have N0 := Fr.nil n0
  show OGo p e below s (Q4L33 Z o0 p2 p3 p4 k_o0 x0 x1 x2 h0 n0) ({ frames := 0, cells := 0, slots := 0, locals := 0 } : Room).cells ({ frames := 0, cells := 0, slots := 0, locals := 0 } : Room).slots _
  refine OGo.st (fun _ k => castTop (ef_4L33 m o0 p2 p3 p4) k) ?_
  show OGo p e below s _ _ _ (s₁.setTop (mkF m 0 #[.val (.ref o0), .val (.int (3 : Int32)), .val (.int p2), .val (.int p3), .val (.int p4)] []))
  refine OGo.st (fun _ k => XS.iloadN X0.here hx rfl (hb hby d4_0) rfl k) ?_
  show OGo p e below s _ _ _ (s₁.setTop (mkF m 1 #[.val (.ref o0), .val (.int (3 : Int32)), .val (.int p2), .val (.int p3), .val (.int p4)] [(.int (3 : Int32))]))
  refine OGo.st (fun _ k => XS.iconst X0.here hx rfl (hb hby d4_1) k) ?_
  show OGo p e below s _ _ _ (s₁.setTop (mkF m 2 #[.val (.ref o0), .val (.int (3 : Int32)), .val (.int p2), .val (.int p3), .val (.int p4)] [(.int (1 : Int32)), (.int (3 : Int32))]))
  refine OGo.st (fun _ k => XS.icmpNo X0.here hx rfl (hb hby d4_2) rfl (flt (by decide : ¬ ((3 : Int32) < (1 : Int32)))).1 k) ?_
  show OGo p e below s _ _ _ (s₁.setTop (mkF m 5 #[.val (.ref o0), .val (.int (3 : Int32)), .val (.int p2), .val (.int p3), .val (.int p4)] []))
  refine OGo.st (fun _ k => XS.aloadN X0.here hx rfl (hb hby d4_5) rfl rfl k) ?_
  show OGo p e below s _ _ _ (s₁.setTop (mkF m 6 #[.val (.ref o0), .val (.int (3 : Int32)), .val (.int p2), .val (.int p3), .val (.int p4)] [(.ref o0)]))
  refine OGo.st (fun _ k => XS.iconst X0.here hx rfl (hb hby d4_6) k) ?_
  show OGo p e below s _ _ _ (s₁.setTop (mkF m 7 #[.val (.ref o0), .val (.int (3 : Int32)), .val (.int p2), .val (.int p3), .val (.int p4)] [(.int (0 : Int32)), (.ref o0)]))
  obtain ⟨cl1, Ar1, q1, Sz1, Nn1, Hs1, Gs1⟩ := id V_o0
  have hin1 : ¬ ((0 : Int32) < 0 ∨ cl1.slots.size ≤ ((0 : Int32)).toNatClampNeg) := inb_of Sz1 ⟨by decide, by decide⟩
  have hat1 : cl1.slots[((0 : Int32)).toNatClampNeg]? = some (.int x0) := Hs1.at hin1 rfl
  refine OGo.st (fun _ k => X0.baloadBytes hx (j := (0 : Int32)) (v := (.int x0)) (by rw [e0]; exact Ar1.1) (State.isArrayOf_alike hZ.alike Ar1.2.1) Ar1.2.2 hin1 hat1 (g := (mkF m 7 #[.val (.ref o0), .val (.int (3 : Int32)), .val (.int p2), .val (.int p3), .val (.int p4)] [(.int (0 : Int32)), (.ref o0)])) rfl rfl (hb hby d4_7) _ k) ?_
  show OGo p e below s _ _ _ (s₁.setTop (mkF m 8 #[.val (.ref o0), .val (.int (3 : Int32)), .val (.int p2), .val (.int p3), .val (.int p4)] [(.int x0)]))
  refine OGo.st (fun _ k => XS.iloadN X0.here hx rfl (hb hby d4_8) rfl k) ?_
  show OGo p e below s _ _ _ (s₁.setTop (mkF m 9 #[.val (.ref o0), .val (.int (3 : Int32)), .val (.int p2), .val (.int p3), .val (.int p4)] [(.int p2), (.int x0)]))
  by_cases hc9 : x0 = p2
  · refine OGo.st (fun _ k => XS.icmpYes X0.here hx rfl (pc0 := 9) (pc' := 14) rfl (hb hby d4_9) rfl (teq hc9).1 (by decide) (by decide) k) ?_
    show OGo p e below s _ _ _ (s₁.setTop (mkF m 14 #[.val (.ref o0), .val (.int (3 : Int32)), .val (.int p2), .val (.int p3), .val (.int p4)] []))
    refine OGo.st (fun _ k => XS.iloadN X0.here hx rfl (hb hby d4_14) rfl k) ?_
    show OGo p e below s _ _ _ (s₁.setTop (mkF m 15 #[.val (.ref o0), .val (.int (3 : Int32)), .val (.int p2), .val (.int p3), .val (.int p4)] [(.int (3 : Int32))]))
    refine OGo.st (fun _ k => XS.iconst X0.here hx rfl (hb hby d4_15) k) ?_
    show OGo p e below s _ _ _ (s₁.setTop (mkF m 16 #[.val (.ref o0), .val (.int (3 : Int32)), .val (.int p2), .val (.int p3), .val (.int p4)] [(.int (2 : Int32)), (.int (3 : Int32))]))
    refine OGo.st (fun _ k => XS.icmpNo X0.here hx rfl (hb hby d4_16) rfl (flt (by decide : ¬ ((3 : Int32) < (2 : Int32)))).1 k) ?_
    show OGo p e below s _ _ _ (s₁.setTop (mkF m 19 #[.val (.ref o0), .val (.int (3 : Int32)), .val (.int p2), .val (.int p3), .val (.int p4)] []))
    refine OGo.st (fun _ k => XS.aloadN X0.here hx rfl (hb hby d4_19) rfl rfl k) ?_
    show OGo p e below s _ _ _ (s₁.setTop (mkF m 20 #[.val (.ref o0), .val (.int (3 : Int32)), .val (.int p2), .val (.int p3), .val (.int p4)] [(.ref o0)]))
    refine OGo.st (fun _ k => XS.iconst X0.here hx rfl (hb hby d4_20) k) ?_
    show OGo p e below s _ _ _ (s₁.setTop (mkF m 21 #[.val (.ref o0), .val (.int (3 : Int32)), .val (.int p2), .val (.int p3), .val (.int p4)] [(.int (1 : Int32)), (.ref o0)]))
    obtain ⟨cl2, Ar2, q2, Sz2, Nn2, Hs2, Gs2⟩ := id V_o0
    have hin2 : ¬ ((1 : Int32) < 0 ∨ cl2.slots.size ≤ ((1 : Int32)).toNatClampNeg) := inb_of Sz2 ⟨by decide, by decide⟩
    have hat2 : cl2.slots[((1 : Int32)).toNatClampNeg]? = some (.int x1) := Hs2.at hin2 rfl
    refine OGo.st (fun _ k => X0.baloadBytes hx (j := (1 : Int32)) (v := (.int x1)) (by rw [e0]; exact Ar2.1) (State.isArrayOf_alike hZ.alike Ar2.2.1) Ar2.2.2 hin2 hat2 (g := (mkF m 21 #[.val (.ref o0), .val (.int (3 : Int32)), .val (.int p2), .val (.int p3), .val (.int p4)] [(.int (1 : Int32)), (.ref o0)])) rfl rfl (hb hby d4_21) _ k) ?_
    show OGo p e below s _ _ _ (s₁.setTop (mkF m 22 #[.val (.ref o0), .val (.int (3 : Int32)), .val (.int p2), .val (.int p3), .val (.int p4)] [(.int x1)]))
    refine OGo.st (fun _ k => XS.iloadN X0.here hx rfl (hb hby d4_22) rfl k) ?_
    show OGo p e below s _ _ _ (s₁.setTop (mkF m 23 #[.val (.ref o0), .val (.int (3 : Int32)), .val (.int p2), .val (.int p3), .val (.int p4)] [(.int p3), (.int x1)]))
    by_cases hc23 : x1 = p3
    · refine OGo.st (fun _ k => XS.icmpYes X0.here hx rfl (pc0 := 23) (pc' := 28) rfl (hb hby d4_23) rfl (teq hc23).1 (by decide) (by decide) k) ?_
      show OGo p e below s _ _ _ (s₁.setTop (mkF m 28 #[.val (.ref o0), .val (.int (3 : Int32)), .val (.int p2), .val (.int p3), .val (.int p4)] []))
      refine OGo.st (fun _ k => XS.iloadN X0.here hx rfl (hb hby d4_28) rfl k) ?_
      show OGo p e below s _ _ _ (s₁.setTop (mkF m 29 #[.val (.ref o0), .val (.int (3 : Int32)), .val (.int p2), .val (.int p3), .val (.int p4)] [(.int (3 : Int32))]))
      refine OGo.st (fun _ k => XS.iconst X0.here hx rfl (hb hby d4_29) k) ?_
      show OGo p e below s _ _ _ (s₁.setTop (mkF m 30 #[.val (.ref o0), .val (.int (3 : Int32)), .val (.int p2), .val (.int p3), .val (.int p4)] [(.int (3 : Int32)), (.int (3 : Int32))]))
      refine OGo.st (fun _ k => XS.icmpNo X0.here hx rfl (hb hby d4_30) rfl (flt (by decide : ¬ ((3 : Int32) < (3 : Int32)))).1 k) ?_
      show OGo p e below s _ _ _ (s₁.setTop (mkF m 33 #[.val (.ref o0), .val (.int (3 : Int32)), .val (.int p2), .val (.int p3), .val (.int p4)] []))
      refine OGo.st (fun _ k => XS.aloadN X0.here hx rfl (hb hby d4_33) rfl rfl k) ?_
      show OGo p e below s _ _ _ (s₁.setTop (mkF m 34 #[.val (.ref o0), .val (.int (3 : Int32)), .val (.int p2), .val (.int p3), .val (.int p4)] [(.ref o0)]))
      refine OGo.st (fun _ k => XS.iconst X0.here hx rfl (hb hby d4_34) k) ?_
      show OGo p e below s _ _ _ (s₁.setTop (mkF m 35 #[.val (.ref o0), .val (.int (3 : Int32)), .val (.int p2), .val (.int p3), .val (.int p4)] [(.int (2 : Int32)), (.ref o0)]))
      obtain ⟨cl3, Ar3, q3, Sz3, Nn3, Hs3, Gs3⟩ := id V_o0
      have hin3 : ¬ ((2 : Int32) < 0 ∨ cl3.slots.size ≤ ((2 : Int32)).toNatClampNeg) := inb_of Sz3 ⟨by decide, by decide⟩
      have hat3 : cl3.slots[((2 : Int32)).toNatClampNeg]? = some (.int x2) := Hs3.at hin3 rfl
      refine OGo.st (fun _ k => X0.baloadBytes hx (j := (2 : Int32)) (v := (.int x2)) (by rw [e0]; exact Ar3.1) (State.isArrayOf_alike hZ.alike Ar3.2.1) Ar3.2.2 hin3 hat3 (g := (mkF m 35 #[.val (.ref o0), .val (.int (3 : Int32)), .val (.int p2), .val (.int p3), .val (.int p4)] [(.int (2 : Int32)), (.ref o0)])) rfl rfl (hb hby d4_35) _ k) ?_
      show OGo p e below s _ _ _ (s₁.setTop (mkF m 36 #[.val (.ref o0), .val (.int (3 : Int32)), .val (.int p2), .val (.int p3), .val (.int p4)] [(.int x2)]))
      refine OGo.st (fun _ k => XS.iload X0.here hx rfl (hb hby d4_36) rfl k) ?_
      show OGo p e below s _ _ _ (s₁.setTop (mkF m 38 #[.val (.ref o0), .val (.int (3 : Int32)), .val (.int p2), .val (.int p3), .val (.int p4)] [(.int p4), (.int x2)]))
      by_cases hc38 : x2 = p4
      · refine OGo.st (fun _ k => XS.icmpYes X0.here hx rfl (pc0 := 38) (pc' := 43) rfl (hb hby d4_38) rfl (teq hc38).1 (by decide) (by decide) k) ?_
        show OGo p e below s _ _ _ (s₁.setTop (mkF m 43 #[.val (.ref o0), .val (.int (3 : Int32)), .val (.int p2), .val (.int p3), .val (.int p4)] []))
        refine OGo.st (fun _ k => XS.iconst X0.here hx rfl (hb hby d4_43) k) ?_
        show OGo p e below s _ _ _ (s₁.setTop (mkF m 44 #[.val (.ref o0), .val (.int (3 : Int32)), .val (.int p2), .val (.int p3), .val (.int p4)] [(.int (1 : Int32))]))
        exact oretN X0 hx Bd.notSynchronized (t := .boolean) Bd.returns (by simp) (hb hby d4_44) (z' := (1 : Int32)) (by decide) e0 ⟨(congrArg (fun z => some (Value.int z)) (show (1 : Int32) = f4L33 p2 p3 p4 x0 x1 x2 from Eq.symm (by unfold f4L33; exact (if_pos hc9).trans ((if_pos hc23).trans (if_pos hc38))))), N0, rfl⟩ (by decide) (by decide)
      · refine OGo.st (fun _ k => XS.icmpNo X0.here hx rfl (hb hby d4_38) rfl (feq hc38).1 k) ?_
        show OGo p e below s _ _ _ (s₁.setTop (mkF m 41 #[.val (.ref o0), .val (.int (3 : Int32)), .val (.int p2), .val (.int p3), .val (.int p4)] []))
        refine OGo.st (fun _ k => XS.iconst X0.here hx rfl (hb hby d4_41) k) ?_
        show OGo p e below s _ _ _ (s₁.setTop (mkF m 42 #[.val (.ref o0), .val (.int (3 : Int32)), .val (.int p2), .val (.int p3), .val (.int p4)] [(.int (0 : Int32))]))
        exact oretN X0 hx Bd.notSynchronized (t := .boolean) Bd.returns (by simp) (hb hby d4_42) (z' := (0 : Int32)) (by decide) e0 ⟨(congrArg (fun z => some (Value.int z)) (show (0 : Int32) = f4L33 p2 p3 p4 x0 x1 x2 from Eq.symm (by unfold f4L33; exact (if_pos hc9).trans ((if_pos hc23).trans (if_neg hc38))))), N0, rfl⟩ (by decide) (by decide)
    · refine OGo.st (fun _ k => XS.icmpNo X0.here hx rfl (hb hby d4_23) rfl (feq hc23).1 k) ?_
      show OGo p e below s _ _ _ (s₁.setTop (mkF m 26 #[.val (.ref o0), .val (.int (3 : Int32)), .val (.int p2), .val (.int p3), .val (.int p4)] []))
      refine OGo.st (fun _ k => XS.iconst X0.here hx rfl (hb hby d4_26) k) ?_
      show OGo p e below s _ _ _ (s₁.setTop (mkF m 27 #[.val (.ref o0), .val (.int (3 : Int32)), .val (.int p2), .val (.int p3), .val (.int p4)] [(.int (0 : Int32))]))
      exact oretN X0 hx Bd.notSynchronized (t := .boolean) Bd.returns (by simp) (hb hby d4_27) (z' := (0 : Int32)) (by decide) e0 ⟨(congrArg (fun z => some (Value.int z)) (show (0 : Int32) = f4L33 p2 p3 p4 x0 x1 x2 from Eq.symm (by unfold f4L33; exact (if_pos hc9).trans (if_neg hc23)))), N0, rfl⟩ (by decide) (by decide)
  · refine OGo.st (fun _ k => XS.icmpNo X0.here hx rfl (hb hby d4_9) rfl (feq hc9).1 k) ?_
    show OGo p e below s _ _ _ (s₁.setTop (mkF m 12 #[.val (.ref o0), .val (.int (3 : Int32)), .val (.int p2), .val (.int p3), .val (.int p4)] []))
    refine OGo.st (fun _ k => XS.iconst X0.here hx rfl (hb hby d4_12) k) ?_
    show OGo p e below s _ _ _ (s₁.setTop (mkF m 13 #[.val (.ref o0), .val (.int (3 : Int32)), .val (.int p2), .val (.int p3), .val (.int p4)] [(.int (0 : Int32))]))
    exact oretN X0 hx Bd.notSynchronized (t := .boolean) Bd.returns (by simp) (hb hby d4_13) (z' := (0 : Int32)) (by decide) e0 ⟨(congrArg (fun z => some (Value.int z)) (show (0 : Int32) = f4L33 p2 p3 p4 x0 x1 x2 from Eq.symm (by unfold f4L33; exact if_neg hc9))), N0, rfl⟩ (by decide) (by decide)
theorem ef_4L43 (m : MethodId) (o0 : Addr) (p2 : Int32) (p3 : Int32) (p4 : Int32) : entryFrame m #[(.ref o0), (.int (3 : Int32)), (.int p2), (.int p3), (.int p4)] 5 = mkF m 0 #[.val (.ref o0), .val (.int (3 : Int32)), .val (.int p2), .val (.int p3), .val (.int p4)] [] := by first | (simp [entryFrame, mkF, argsToLocals, Value.category]; done) | rfl
def f4L43 (p2 : Int32) (p3 : Int32) (p4 : Int32) (x0 : Int32) (x1 : Int32) (x2 : Int32) : Int32 := (if x0 = p2 then (if x1 = p3 then (if x2 = p4 then (1 : Int32) else (0 : Int32)) else (0 : Int32)) else (0 : Int32))
def Q4L43 (Z : State) (o0 : Addr) (p2 : Int32) (p3 : Int32) (p4 : Int32) (k_o0 : ClassId) (x0 : Int32) (x1 : Int32) (x2 : Int32) (x3 : Int32) (h0 : Heap) (n0 : Nat) (v : Option Value) (h : Heap) (L : List Loc) : Prop := v = some (.int (f4L43 p2 p3 p4 x0 x1 x2)) ∧ Fr n0 L ∧ h = h0
set_option maxRecDepth 65536 in
set_option maxHeartbeats 40000000 in
theorem rm4L43 (l : Launch) (Z : State) (a0 : Array Value) (hw : ∀ d ∈ tables_1, d.before a0 Z = true) (ws : List Jvm.Cond) (o0 : Addr) (p2 : Int32) (p3 : Int32) (p4 : Int32) (k_o0 : ClassId) (x0 : Int32) (x1 : Int32) (x2 : Int32) (x3 : Int32) (h0 : Heap) (n0 : Nat) (Z0 : n0 ≤ h0.size) (V_o0 : Arv Z h0 o0 k_o0 .byte (4 : Int32) [(.int x0), (.int x1), (.int x2), (.int x3)] (.int (0 : Int32))) :
    MetFree l (⟨"com/example/rows_over_order/rowsoverorder/TupleCodecRangeEndPinLaw", "matches", "([BIBBB)Z"⟩ : MethodName) (head1 (Jvm.Cond.code (⟨"com/example/rows_over_order/rowsoverorder/TupleCodecRangeEndPinLaw", "matches", "([BIBBB)Z"⟩ : MethodName) method_3_code 5 (some .boolean) :: ws) ({ frames := 0, cells := 0, slots := 0, locals := 0 } : Room)) (fun a U => a = #[(.ref o0), (.int (3 : Int32)), (.int p2), (.int p3), (.int p4)] ∧ Z.Warmed39 U.vm ∧ U.heap = h0) (fun _ _ _ _ _ => True) (fun _ U o U' => ∃ v L, o = .returned v ∧ Q4L43 Z o0 p2 p3 p4 k_o0 x0 x1 x2 x3 h0 n0 v U'.heap L ∧ FrameEnd U o U' L ({ frames := 0, cells := 0, slots := 0, locals := 0 } : Room).cells ({ frames := 0, cells := 0, slots := 0, locals := 0 } : Room).slots) := by
  refine MetFree.of_bodySF (plainFor_of_name pn_4) hisR ?_
  intro p e s m args below meth c s₁ Bd hml0 hP hK
  obtain ⟨rfl, hZ, hh⟩ := hP
  have hx := Bd.exec
  have hby := Bd.bytes
  have hml : c.maxLocals = 5 := hml0
  have hown : s.vm.findClass "com/example/rows_over_order/rowsoverorder/TupleCodecRangeEndPinLaw" = some m.cls := findClass_of_methodNamed Bd.named
  have hnm := (name_of_methodNamed Bd.named Bd.method).1
  have X0 : Stand p l e ({ frames := 0, cells := 0, slots := 0, locals := 0 } : Room) s m #[(.ref o0), (.int (3 : Int32)), (.int p2), (.int p3), (.int p4)] below meth c s₁ [] 0 0 := Stand.of_body Bd
  have e0 : s₁.heap = h0 := by rw [← hh, Bd.state]; rfl
  have N0 := Fr.nil n0
  show OGo p e below s (Q4L43 Z o0 p2 p3 p4 k_o0 x0 x1 x2 x3 h0 n0) ({ frames := 0, cells := 0, slots := 0, locals := 0 } : Room).cells ({ frames := 0, cells := 0, slots := 0, locals := 0 } : Room).slots _
  refine OGo.st (fun _ k => castTop (ef_4L43 m o0 p2 p3 p4) k) ?_
  show OGo p e below s _ _ _ (s₁.setTop (mkF m 0 #[.val (.ref o0), .val (.int (3 : Int32)), .val (.int p2), .val (.int p3), .val (.int p4)] []))
  refine OGo.st (fun _ k => XS.iloadN X0.here hx rfl (hb hby d4_0) rfl k) ?_
  show OGo p e below s _ _ _ (s₁.setTop (mkF m 1 #[.val (.ref o0), .val (.int (3 : Int32)), .val (.int p2), .val (.int p3), .val (.int p4)] [(.int (3 : Int32))]))
  refine OGo.st (fun _ k => XS.iconst X0.here hx rfl (hb hby d4_1) k) ?_
  show OGo p e below s _ _ _ (s₁.setTop (mkF m 2 #[.val (.ref o0), .val (.int (3 : Int32)), .val (.int p2), .val (.int p3), .val (.int p4)] [(.int (1 : Int32)), (.int (3 : Int32))]))
  refine OGo.st (fun _ k => XS.icmpNo X0.here hx rfl (hb hby d4_2) rfl (flt (by decide : ¬ ((3 : Int32) < (1 : Int32)))).1 k) ?_
  show OGo p e below s _ _ _ (s₁.setTop (mkF m 5 #[.val (.ref o0), .val (.int (3 : Int32)), .val (.int p2), .val (.int p3), .val (.int p4)] []))
  refine OGo.st (fun _ k => XS.aloadN X0.here hx rfl (hb hby d4_5) rfl rfl k) ?_
  show OGo p e below s _ _ _ (s₁.setTop (mkF m 6 #[.val (.ref o0), .val (.int (3 : Int32)), .val (.int p2), .val (.int p3), .val (.int p4)] [(.ref o0)]))
  refine OGo.st (fun _ k => XS.iconst X0.here hx rfl (hb hby d4_6) k) ?_
  show OGo p e below s _ _ _ (s₁.setTop (mkF m 7 #[.val (.ref o0), .val (.int (3 : Int32)), .val (.int p2), .val (.int p3), .val (.int p4)] [(.int (0 : Int32)), (.ref o0)]))
  obtain ⟨cl1, Ar1, q1, Sz1, Nn1, Hs1, Gs1⟩ := id V_o0
  have hin1 : ¬ ((0 : Int32) < 0 ∨ cl1.slots.size ≤ ((0 : Int32)).toNatClampNeg) := inb_of Sz1 ⟨by decide, by decide⟩
  have hat1 : cl1.slots[((0 : Int32)).toNatClampNeg]? = some (.int x0) := Hs1.at hin1 rfl
  refine OGo.st (fun _ k => X0.baloadBytes hx (j := (0 : Int32)) (v := (.int x0)) (by rw [e0]; exact Ar1.1) (State.isArrayOf_alike hZ.alike Ar1.2.1) Ar1.2.2 hin1 hat1 (g := (mkF m 7 #[.val (.ref o0), .val (.int (3 : Int32)), .val (.int p2), .val (.int p3), .val (.int p4)] [(.int (0 : Int32)), (.ref o0)])) rfl rfl (hb hby d4_7) _ k) ?_
  show OGo p e below s _ _ _ (s₁.setTop (mkF m 8 #[.val (.ref o0), .val (.int (3 : Int32)), .val (.int p2), .val (.int p3), .val (.int p4)] [(.int x0)]))
  refine OGo.st (fun _ k => XS.iloadN X0.here hx rfl (hb hby d4_8) rfl k) ?_
  show OGo p e below s _ _ _ (s₁.setTop (mkF m 9 #[.val (.ref o0), .val (.int (3 : Int32)), .val (.int p2), .val (.int p3), .val (.int p4)] [(.int p2), (.int x0)]))
  by_cases hc9 : x0 = p2
  · refine OGo.st (fun _ k => XS.icmpYes X0.here hx rfl (pc0 := 9) (pc' := 14) rfl (hb hby d4_9) rfl (teq hc9).1 (by decide) (by decide) k) ?_
    show OGo p e below s _ _ _ (s₁.setTop (mkF m 14 #[.val (.ref o0), .val (.int (3 : Int32)), .val (.int p2), .val (.int p3), .val (.int p4)] []))
    refine OGo.st (fun _ k => XS.iloadN X0.here hx rfl (hb hby d4_14) rfl k) ?_
    show OGo p e below s _ _ _ (s₁.setTop (mkF m 15 #[.val (.ref o0), .val (.int (3 : Int32)), .val (.int p2), .val (.int p3), .val (.int p4)] [(.int (3 : Int32))]))
    refine OGo.st (fun _ k => XS.iconst X0.here hx rfl (hb hby d4_15) k) ?_
    show OGo p e below s _ _ _ (s₁.setTop (mkF m 16 #[.val (.ref o0), .val (.int (3 : Int32)), .val (.int p2), .val (.int p3), .val (.int p4)] [(.int (2 : Int32)), (.int (3 : Int32))]))
    refine OGo.st (fun _ k => XS.icmpNo X0.here hx rfl (hb hby d4_16) rfl (flt (by decide : ¬ ((3 : Int32) < (2 : Int32)))).1 k) ?_
    show OGo p e below s _ _ _ (s₁.setTop (mkF m 19 #[.val (.ref o0), .val (.int (3 : Int32)), .val (.int p2), .val (.int p3), .val (.int p4)] []))
    refine OGo.st (fun _ k => XS.aloadN X0.here hx rfl (hb hby d4_19) rfl rfl k) ?_
    show OGo p e below s _ _ _ (s₁.setTop (mkF m 20 #[.val (.ref o0), .val (.int (3 : Int32)), .val (.int p2), .val (.int p3), .val (.int p4)] [(.ref o0)]))
    refine OGo.st (fun _ k => XS.iconst X0.here hx rfl (hb hby d4_20) k) ?_
    show OGo p e below s _ _ _ (s₁.setTop (mkF m 21 #[.val (.ref o0), .val (.int (3 : Int32)), .val (.int p2), .val (.int p3), .val (.int p4)] [(.int (1 : Int32)), (.ref o0)]))
    obtain ⟨cl2, Ar2, q2, Sz2, Nn2, Hs2, Gs2⟩ := id V_o0
    have hin2 : ¬ ((1 : Int32) < 0 ∨ cl2.slots.size ≤ ((1 : Int32)).toNatClampNeg) := inb_of Sz2 ⟨by decide, by decide⟩
    have hat2 : cl2.slots[((1 : Int32)).toNatClampNeg]? = some (.int x1) := Hs2.at hin2 rfl
    refine OGo.st (fun _ k => X0.baloadBytes hx (j := (1 : Int32)) (v := (.int x1)) (by rw [e0]; exact Ar2.1) (State.isArrayOf_alike hZ.alike Ar2.2.1) Ar2.2.2 hin2 hat2 (g := (mkF m 21 #[.val (.ref o0), .val (.int (3 : Int32)), .val (.int p2), .val (.int p3), .val (.int p4)] [(.int (1 : Int32)), (.ref o0)])) rfl rfl (hb hby d4_21) _ k) ?_
    show OGo p e below s _ _ _ (s₁.setTop (mkF m 22 #[.val (.ref o0), .val (.int (3 : Int32)), .val (.int p2), .val (.int p3), .val (.int p4)] [(.int x1)]))
    refine OGo.st (fun _ k => XS.iloadN X0.here hx rfl (hb hby d4_22) rfl k) ?_
    show OGo p e below s _ _ _ (s₁.setTop (mkF m 23 #[.val (.ref o0), .val (.int (3 : Int32)), .val (.int p2), .val (.int p3), .val (.int p4)] [(.int p3), (.int x1)]))
    by_cases hc23 : x1 = p3
    · refine OGo.st (fun _ k => XS.icmpYes X0.here hx rfl (pc0 := 23) (pc' := 28) rfl (hb hby d4_23) rfl (teq hc23).1 (by decide) (by decide) k) ?_
      show OGo p e below s _ _ _ (s₁.setTop (mkF m 28 #[.val (.ref o0), .val (.int (3 : Int32)), .val (.int p2), .val (.int p3), .val (.int p4)] []))
      refine OGo.st (fun _ k => XS.iloadN X0.here hx rfl (hb hby d4_28) rfl k) ?_
      show OGo p e below s _ _ _ (s₁.setTop (mkF m 29 #[.val (.ref o0), .val (.int (3 : Int32)), .val (.int p2), .val (.int p3), .val (.int p4)] [(.int (3 : Int32))]))
      refine OGo.st (fun _ k => XS.iconst X0.here hx rfl (hb hby d4_29) k) ?_
      show OGo p e below s _ _ _ (s₁.setTop (mkF m 30 #[.val (.ref o0), .val (.int (3 : Int32)), .val (.int p2), .val (.int p3), .val (.int p4)] [(.int (3 : Int32)), (.int (3 : Int32))]))
      refine OGo.st (fun _ k => XS.icmpNo X0.here hx rfl (hb hby d4_30) rfl (flt (by decide : ¬ ((3 : Int32) < (3 : Int32)))).1 k) ?_
      show OGo p e below s _ _ _ (s₁.setTop (mkF m 33 #[.val (.ref o0), .val (.int (3 : Int32)), .val (.int p2), .val (.int p3), .val (.int p4)] []))
      refine OGo.st (fun _ k => XS.aloadN X0.here hx rfl (hb hby d4_33) rfl rfl k) ?_
      show OGo p e below s _ _ _ (s₁.setTop (mkF m 34 #[.val (.ref o0), .val (.int (3 : Int32)), .val (.int p2), .val (.int p3), .val (.int p4)] [(.ref o0)]))
      refine OGo.st (fun _ k => XS.iconst X0.here hx rfl (hb hby d4_34) k) ?_
      show OGo p e below s _ _ _ (s₁.setTop (mkF m 35 #[.val (.ref o0), .val (.int (3 : Int32)), .val (.int p2), .val (.int p3), .val (.int p4)] [(.int (2 : Int32)), (.ref o0)]))
      obtain ⟨cl3, Ar3, q3, Sz3, Nn3, Hs3, Gs3⟩ := id V_o0
      have hin3 : ¬ ((2 : Int32) < 0 ∨ cl3.slots.size ≤ ((2 : Int32)).toNatClampNeg) := inb_of Sz3 ⟨by decide, by decide⟩
      have hat3 : cl3.slots[((2 : Int32)).toNatClampNeg]? = some (.int x2) := Hs3.at hin3 rfl
      refine OGo.st (fun _ k => X0.baloadBytes hx (j := (2 : Int32)) (v := (.int x2)) (by rw [e0]; exact Ar3.1) (State.isArrayOf_alike hZ.alike Ar3.2.1) Ar3.2.2 hin3 hat3 (g := (mkF m 35 #[.val (.ref o0), .val (.int (3 : Int32)), .val (.int p2), .val (.int p3), .val (.int p4)] [(.int (2 : Int32)), (.ref o0)])) rfl rfl (hb hby d4_35) _ k) ?_
      show OGo p e below s _ _ _ (s₁.setTop (mkF m 36 #[.val (.ref o0), .val (.int (3 : Int32)), .val (.int p2), .val (.int p3), .val (.int p4)] [(.int x2)]))
      refine OGo.st (fun _ k => XS.iload X0.here hx rfl (hb hby d4_36) rfl k) ?_
      show OGo p e below s _ _ _ (s₁.setTop (mkF m 38 #[.val (.ref o0), .val (.int (3 : Int32)), .val (.int p2), .val (.int p3), .val (.int p4)] [(.int p4), (.int x2)]))
      by_cases hc38 : x2 = p4
      · refine OGo.st (fun _ k => XS.icmpYes X0.here hx rfl (pc0 := 38) (pc' := 43) rfl (hb hby d4_38) rfl (teq hc38).1 (by decide) (by decide) k) ?_
        show OGo p e below s _ _ _ (s₁.setTop (mkF m 43 #[.val (.ref o0), .val (.int (3 : Int32)), .val (.int p2), .val (.int p3), .val (.int p4)] []))
        refine OGo.st (fun _ k => XS.iconst X0.here hx rfl (hb hby d4_43) k) ?_
        show OGo p e below s _ _ _ (s₁.setTop (mkF m 44 #[.val (.ref o0), .val (.int (3 : Int32)), .val (.int p2), .val (.int p3), .val (.int p4)] [(.int (1 : Int32))]))
        exact oretN X0 hx Bd.notSynchronized (t := .boolean) Bd.returns (by simp) (hb hby d4_44) (z' := (1 : Int32)) (by decide) e0 ⟨(congrArg (fun z => some (Value.int z)) (show (1 : Int32) = f4L43 p2 p3 p4 x0 x1 x2 from Eq.symm (by unfold f4L43; exact (if_pos hc9).trans ((if_pos hc23).trans (if_pos hc38))))), N0, rfl⟩ (by decide) (by decide)
      · refine OGo.st (fun _ k => XS.icmpNo X0.here hx rfl (hb hby d4_38) rfl (feq hc38).1 k) ?_
        show OGo p e below s _ _ _ (s₁.setTop (mkF m 41 #[.val (.ref o0), .val (.int (3 : Int32)), .val (.int p2), .val (.int p3), .val (.int p4)] []))
        refine OGo.st (fun _ k => XS.iconst X0.here hx rfl (hb hby d4_41) k) ?_
        show OGo p e below s _ _ _ (s₁.setTop (mkF m 42 #[.val (.ref o0), .val (.int (3 : Int32)), .val (.int p2), .val (.int p3), .val (.int p4)] [(.int (0 : Int32))]))
        exact oretN X0 hx Bd.notSynchronized (t := .boolean) Bd.returns (by simp) (hb hby d4_42) (z' := (0 : Int32)) (by decide) e0 ⟨(congrArg (fun z => some (Value.int z)) (show (0 : Int32) = f4L43 p2 p3 p4 x0 x1 x2 from Eq.symm (by unfold f4L43; exact (if_pos hc9).trans ((if_pos hc23).trans (if_neg hc38))))), N0, rfl⟩ (by decide) (by decide)
    · refine OGo.st (fun _ k => XS.icmpNo X0.here hx rfl (hb hby d4_23) rfl (feq hc23).1 k) ?_
      show OGo p e below s _ _ _ (s₁.setTop (mkF m 26 #[.val (.ref o0), .val (.int (3 : Int32)), .val (.int p2), .val (.int p3), .val (.int p4)] []))
      refine OGo.st (fun _ k => XS.iconst X0.here hx rfl (hb hby d4_26) k) ?_
      show OGo p e below s _ _ _ (s₁.setTop (mkF m 27 #[.val (.ref o0), .val (.int (3 : Int32)), .val (.int p2), .val (.int p3), .val (.int p4)] [(.int (0 : Int32))]))
      exact oretN X0 hx Bd.notSynchronized (t := .boolean) Bd.returns (by simp) (hb hby d4_27) (z' := (0 : Int32)) (by decide) e0 ⟨(congrArg (fun z => some (Value.int z)) (show (0 : Int32) = f4L43 p2 p3 p4 x0 x1 x2 from Eq.symm (by unfold f4L43; exact (if_pos hc9).trans (if_neg hc23)))), N0, rfl⟩ (by decide) (by decide)
  · refine OGo.st (fun _ k => XS.icmpNo X0.here hx rfl (hb hby d4_9) rfl (feq hc9).1 k) ?_
    show OGo p e below s _ _ _ (s₁.setTop (mkF m 12 #[.val (.ref o0), .val (.int (3 : Int32)), .val (.int p2), .val (.int p3), .val (.int p4)] []))
    refine OGo.st (fun _ k => XS.iconst X0.here hx rfl (hb hby d4_12) k) ?_
    show OGo p e below s _ _ _ (s₁.setTop (mkF m 13 #[.val (.ref o0), .val (.int (3 : Int32)), .val (.int p2), .val (.int p3), .val (.int p4)] [(.int (0 : Int32))]))
    exact oretN X0 hx Bd.notSynchronized (t := .boolean) Bd.returns (by simp) (hb hby d4_13) (z' := (0 : Int32)) (by decide) e0 ⟨(congrArg (fun z => some (Value.int z)) (show (0 : Int32) = f4L43 p2 p3 p4 x0 x1 x2 from Eq.symm (by unfold f4L43; exact if_neg hc9))), N0, rfl⟩ (by decide) (by decide)
theorem own_last3 (x : Int32) (h0 : ¬ (x &&& (3 : Int32)) = (0 : Int32)) (h1 : ¬ (x &&& (3 : Int32)) = (1 : Int32)) (h2 : ¬ (x &&& (3 : Int32)) = (2 : Int32)) : (x &&& (3 : Int32)) = (3 : Int32) := by
  have e := Jvm.Kit.i32_mask x 3 (k := 2) (by decide) (by decide)
  have k0 : (0 : Int32).toInt = 0 := by decide
  have k1 : (1 : Int32).toInt = 1 := by decide
  have k2 : (2 : Int32).toInt = 2 := by decide
  have k3 : (3 : Int32).toInt = 3 := by decide
  simp only [← Int32.toInt_inj, e, k0, k1, k2, k3] at h0 h1 h2 ⊢
  omega
theorem pn_0 : plainName "com/example/rows_over_order/rowsoverorder/TupleCodecRangeEndPinLaw" = true := by first | (simp [plainName, overriddenIn]; done) | decide +kernel
theorem pd_0_0 : parseMethodDescriptor "([B)[B" = some ⟨[(.array .byte)], some (.array .byte)⟩ := by decide +kernel
theorem pd_0_1 : parseMethodDescriptor "([BIBBB)Z" = some ⟨[(.array .byte), .int, .byte, .byte, .byte], some .boolean⟩ := by decide +kernel
theorem ef_0 (m : MethodId) (p0 : Int32) (p1 : Int32) (p2 : Int32) (p3 : Int32) : entryFrame m #[(.int p0), (.int p1), (.int p2), (.int p3)] maxLocals = mkF m 0 #[.val (.int p0), .val (.int p1), .val (.int p2), .val (.int p3), .unset, .unset, .unset, .unset, .unset, .unset] [] := by first | (simp [entryFrame, mkF, argsToLocals, Value.category, maxLocals]; done) | rfl
def f0 (p0 : Int32) (p1 : Int32) (p2 : Int32) (p3 : Int32) : Int32 := (if (p0 &&& (3 : Int32)) = (0 : Int32) then (if (f4L10) = (0 : Int32) then (0 : Int32) else (if (f4L00) = (0 : Int32) then (0 : Int32) else (1 : Int32))) else (if (p0 &&& (3 : Int32)) = (1 : Int32) then (if (f4L21 (p1.toInt8.toInt32) (nar .byte (p1.toInt8.toInt32))) = (0 : Int32) then (0 : Int32) else (if (f4L11 (p1.toInt8.toInt32) (nar .byte (p1.toInt8.toInt32))) = (0 : Int32) then (0 : Int32) else (1 : Int32))) else (if (p0 &&& (3 : Int32)) = (2 : Int32) then (if (f4L32 (p1.toInt8.toInt32) (p2.toInt8.toInt32) (nar .byte (p1.toInt8.toInt32)) (nar .byte (p2.toInt8.toInt32))) = (0 : Int32) then (0 : Int32) else (if (f4L22 (p1.toInt8.toInt32) (p2.toInt8.toInt32) (nar .byte (p1.toInt8.toInt32)) (nar .byte (p2.toInt8.toInt32))) = (0 : Int32) then (0 : Int32) else (1 : Int32))) else (if (f4L43 (p1.toInt8.toInt32) (p2.toInt8.toInt32) (p3.toInt8.toInt32) (nar .byte (p1.toInt8.toInt32)) (nar .byte (p2.toInt8.toInt32)) (nar .byte (p3.toInt8.toInt32))) = (0 : Int32) then (0 : Int32) else (if (f4L33 (p1.toInt8.toInt32) (p2.toInt8.toInt32) (p3.toInt8.toInt32) (nar .byte (p1.toInt8.toInt32)) (nar .byte (p2.toInt8.toInt32)) (nar .byte (p3.toInt8.toInt32))) = (0 : Int32) then (0 : Int32) else (1 : Int32))))))
def Q0 (Z : State) (p0 : Int32) (p1 : Int32) (p2 : Int32) (p3 : Int32) (h0 : Heap) (n0 : Nat) (v : Option Value) (h : Heap) (L : List Loc) : Prop := v = some (.int (f0 p0 p1 p2 p3)) ∧ Fr n0 L
set_option maxRecDepth 65536 in
set_option maxHeartbeats 40000000 in
theorem rm0 (l : Launch) (Z : State) (a0 : Array Value) (hw : ∀ d ∈ tables_1, d.before a0 Z = true) (ws : List Jvm.Cond) (p0 : Int32) (p1 : Int32) (p2 : Int32) (p3 : Int32) (h0 : Heap) (n0 : Nat) (Z0 : n0 ≤ h0.size) :
    MetFree l x (head1 (Jvm.Cond.code x code maxLocals ret :: ws) room_1) (fun a U => a = #[(.int p0), (.int p1), (.int p2), (.int p3)] ∧ Z.Warmed39 U.vm ∧ U.heap = h0) (fun _ _ _ _ _ => True) (fun _ U o U' => ∃ v L, o = .returned v ∧ Q0 Z p0 p1 p2 p3 h0 n0 v U'.heap L ∧ FrameEnd U o U' L room_1.cells room_1.slots) := by
  refine MetFree.of_bodySF (plainFor_of_name pn_0) hisR ?_
  intro p e s m args below meth c s₁ Bd hml0 hP hK
  obtain ⟨rfl, hZ, hh⟩ := hP
  have hx := Bd.exec
  have hby := Bd.bytes
  have hml : c.maxLocals = 10 := hml0
  have hown : s.vm.findClass "com/example/rows_over_order/rowsoverorder/TupleCodecRangeEndPinLaw" = some m.cls := findClass_of_methodNamed Bd.named
  have hnm := (name_of_methodNamed Bd.named Bd.method).1
  have X0 : Stand p l e room_1 s m #[(.int p0), (.int p1), (.int p2), (.int p3)] below meth c s₁ [] 0 0 := Stand.of_body Bd
  have e0 : s₁.heap = h0 := by rw [← hh, Bd.state]; rfl
  have N0 := Fr.nil n0
  show OGo p e below s (Q0 Z p0 p1 p2 p3 h0 n0) room_1.cells room_1.slots _
  refine OGo.st (fun _ k => castTop (ef_0 m p0 p1 p2 p3) k) ?_
  show OGo p e below s _ _ _ (s₁.setTop (mkF m 0 #[.val (.int p0), .val (.int p1), .val (.int p2), .val (.int p3), .unset, .unset, .unset, .unset, .unset, .unset] []))
  refine OGo.st (fun _ k => XS.iloadN X0.here hx rfl (hb hby at_0) rfl k) ?_
  show OGo p e below s _ _ _ (s₁.setTop (mkF m 1 #[.val (.int p0), .val (.int p1), .val (.int p2), .val (.int p3), .unset, .unset, .unset, .unset, .unset, .unset] [(.int p0)]))
  refine OGo.st (fun _ k => XS.iconst X0.here hx rfl (hb hby at_1) k) ?_
  show OGo p e below s _ _ _ (s₁.setTop (mkF m 2 #[.val (.int p0), .val (.int p1), .val (.int p2), .val (.int p3), .unset, .unset, .unset, .unset, .unset, .unset] [(.int (3 : Int32)), (.int p0)]))
  refine OGo.st (fun _ k => XS.iand X0.here hx rfl (hb hby at_2) rfl k) ?_
  show OGo p e below s _ _ _ (s₁.setTop (mkF m 3 #[.val (.int p0), .val (.int p1), .val (.int p2), .val (.int p3), .unset, .unset, .unset, .unset, .unset, .unset] [(.int (p0 &&& (3 : Int32)))]))
  refine OGo.st (fun _ k => XS.istore X0.here hx rfl (hb hby at_3) rfl (l' := #[.val (.int p0), .val (.int p1), .val (.int p2), .val (.int p3), .val (.int (p0 &&& (3 : Int32))), .unset, .unset, .unset, .unset, .unset]) rfl k) ?_
  show OGo p e below s _ _ _ (s₁.setTop (mkF m 5 #[.val (.int p0), .val (.int p1), .val (.int p2), .val (.int p3), .val (.int (p0 &&& (3 : Int32))), .unset, .unset, .unset, .unset, .unset] []))
  by_cases hc5 : (p0 &&& (3 : Int32)) = (0 : Int32)
  · rw [hc5]
    show OGo p e below s _ _ _ (s₁.setTop (mkF m 5 #[.val (.int p0), .val (.int p1), .val (.int p2), .val (.int p3), .val (.int (0 : Int32)), .unset, .unset, .unset, .unset, .unset] []))
    refine OGo.st (fun _ k => XS.iloadN X0.here hx rfl (hb hby at_5) rfl k) ?_
    show OGo p e below s _ _ _ (s₁.setTop (mkF m 6 #[.val (.int p0), .val (.int p1), .val (.int p2), .val (.int p3), .val (.int (0 : Int32)), .unset, .unset, .unset, .unset, .unset] [(.int p1)]))
    refine OGo.st (fun _ k => XS.i2b X0.here hx rfl (hb hby at_6) rfl k) ?_
    show OGo p e below s _ _ _ (s₁.setTop (mkF m 7 #[.val (.int p0), .val (.int p1), .val (.int p2), .val (.int p3), .val (.int (0 : Int32)), .unset, .unset, .unset, .unset, .unset] [(.int (p1.toInt8.toInt32))]))
    refine OGo.st (fun _ k => XS.istore X0.here hx rfl (hb hby at_7) rfl (l' := #[.val (.int p0), .val (.int p1), .val (.int p2), .val (.int p3), .val (.int (0 : Int32)), .val (.int (p1.toInt8.toInt32)), .unset, .unset, .unset, .unset]) rfl k) ?_
    show OGo p e below s _ _ _ (s₁.setTop (mkF m 9 #[.val (.int p0), .val (.int p1), .val (.int p2), .val (.int p3), .val (.int (0 : Int32)), .val (.int (p1.toInt8.toInt32)), .unset, .unset, .unset, .unset] []))
    refine OGo.st (fun _ k => XS.iloadN X0.here hx rfl (hb hby at_9) rfl k) ?_
    show OGo p e below s _ _ _ (s₁.setTop (mkF m 10 #[.val (.int p0), .val (.int p1), .val (.int p2), .val (.int p3), .val (.int (0 : Int32)), .val (.int (p1.toInt8.toInt32)), .unset, .unset, .unset, .unset] [(.int p2)]))
    refine OGo.st (fun _ k => XS.i2b X0.here hx rfl (hb hby at_10) rfl k) ?_
    show OGo p e below s _ _ _ (s₁.setTop (mkF m 11 #[.val (.int p0), .val (.int p1), .val (.int p2), .val (.int p3), .val (.int (0 : Int32)), .val (.int (p1.toInt8.toInt32)), .unset, .unset, .unset, .unset] [(.int (p2.toInt8.toInt32))]))
    refine OGo.st (fun _ k => XS.istore X0.here hx rfl (hb hby at_11) rfl (l' := #[.val (.int p0), .val (.int p1), .val (.int p2), .val (.int p3), .val (.int (0 : Int32)), .val (.int (p1.toInt8.toInt32)), .val (.int (p2.toInt8.toInt32)), .unset, .unset, .unset]) rfl k) ?_
    show OGo p e below s _ _ _ (s₁.setTop (mkF m 13 #[.val (.int p0), .val (.int p1), .val (.int p2), .val (.int p3), .val (.int (0 : Int32)), .val (.int (p1.toInt8.toInt32)), .val (.int (p2.toInt8.toInt32)), .unset, .unset, .unset] []))
    refine OGo.st (fun _ k => XS.iloadN X0.here hx rfl (hb hby at_13) rfl k) ?_
    show OGo p e below s _ _ _ (s₁.setTop (mkF m 14 #[.val (.int p0), .val (.int p1), .val (.int p2), .val (.int p3), .val (.int (0 : Int32)), .val (.int (p1.toInt8.toInt32)), .val (.int (p2.toInt8.toInt32)), .unset, .unset, .unset] [(.int p3)]))
    refine OGo.st (fun _ k => XS.i2b X0.here hx rfl (hb hby at_14) rfl k) ?_
    show OGo p e below s _ _ _ (s₁.setTop (mkF m 15 #[.val (.int p0), .val (.int p1), .val (.int p2), .val (.int p3), .val (.int (0 : Int32)), .val (.int (p1.toInt8.toInt32)), .val (.int (p2.toInt8.toInt32)), .unset, .unset, .unset] [(.int (p3.toInt8.toInt32))]))
    refine OGo.st (fun _ k => XS.istore X0.here hx rfl (hb hby at_15) rfl (l' := #[.val (.int p0), .val (.int p1), .val (.int p2), .val (.int p3), .val (.int (0 : Int32)), .val (.int (p1.toInt8.toInt32)), .val (.int (p2.toInt8.toInt32)), .val (.int (p3.toInt8.toInt32)), .unset, .unset]) rfl k) ?_
    show OGo p e below s _ _ _ (s₁.setTop (mkF m 17 #[.val (.int p0), .val (.int p1), .val (.int p2), .val (.int p3), .val (.int (0 : Int32)), .val (.int (p1.toInt8.toInt32)), .val (.int (p2.toInt8.toInt32)), .val (.int (p3.toInt8.toInt32)), .unset, .unset] []))
    refine OGo.st (fun _ k => XS.iload X0.here hx rfl (hb hby at_17) rfl k) ?_
    show OGo p e below s _ _ _ (s₁.setTop (mkF m 19 #[.val (.int p0), .val (.int p1), .val (.int p2), .val (.int p3), .val (.int (0 : Int32)), .val (.int (p1.toInt8.toInt32)), .val (.int (p2.toInt8.toInt32)), .val (.int (p3.toInt8.toInt32)), .unset, .unset] [(.int (0 : Int32))]))
    refine OGo.st (fun _ k => XS.ifNo X0.here hx rfl (hb hby at_19) rfl ((if0 _ _).trans (teq (by decide : (0 : Int32) = (0 : Int32))).2) k) ?_
    show OGo p e below s _ _ _ (s₁.setTop (mkF m 22 #[.val (.int p0), .val (.int p1), .val (.int p2), .val (.int p3), .val (.int (0 : Int32)), .val (.int (p1.toInt8.toInt32)), .val (.int (p2.toInt8.toInt32)), .val (.int (p3.toInt8.toInt32)), .unset, .unset] []))
    refine OGo.st (fun _ k => XS.iconst X0.here hx rfl (hb hby at_22) k) ?_
    show OGo p e below s _ _ _ (s₁.setTop (mkF m 23 #[.val (.int p0), .val (.int p1), .val (.int p2), .val (.int p3), .val (.int (0 : Int32)), .val (.int (p1.toInt8.toInt32)), .val (.int (p2.toInt8.toInt32)), .val (.int (p3.toInt8.toInt32)), .unset, .unset] [(.int (0 : Int32))]))
    obtain ⟨T1, h1, k1, X1, e1, E1, A1, st1⟩ := newP X0 hx hZ (hw _ (List.mem_of_getElem? (i := 0) rfl)) e0 (g := (mkF m 23 #[.val (.int p0), .val (.int p1), .val (.int p2), .val (.int p3), .val (.int (0 : Int32)), .val (.int (p1.toInt8.toInt32)), .val (.int (p2.toInt8.toInt32)), .val (.int (p3.toInt8.toInt32)), .unset, .unset] [(.int (0 : Int32))])) rfl (hb hby at_23) rfl (by decide) (cap := 0) (by decide) (by decide) (by decide) (by decide)
    obtain ⟨b1, g1⟩ : ∃ z, z = h0.size := ⟨_, rfl⟩
    rw [← g1] at A1 st1
    refine OGo.st st1 ?_
    have g_b1 : n0 ≤ b1 := Nat.le_trans Z0 (Nat.le_of_eq g1.symm)
    have sz_b1 : h0.size ≤ b1 := Nat.le_trans (Keep.refl h0 []).1 (Nat.le_of_eq g1.symm)
    have K1 : Keep h0 h1 [] := (Keep.refl h0 _).ext E1
    have Z1 : n0 ≤ h1.size := Nat.le_trans Z0 E1.1
    have V_b1 : Arv Z h1 b1 k1 .byte (0 : Int32) [] (.int (0 : Int32)) := (Arv.new A1 (by decide)).pad (pad_rep [] (.int (0 : Int32)) 0)
    show OGo p e below s _ _ _ (T1.setTop (mkF m 25 #[.val (.int p0), .val (.int p1), .val (.int p2), .val (.int p3), .val (.int (0 : Int32)), .val (.int (p1.toInt8.toInt32)), .val (.int (p2.toInt8.toInt32)), .val (.int (p3.toInt8.toInt32)), .unset, .unset] [(.ref b1)]))
    refine OGo.st (fun _ k => XS.astore X1.here hx rfl (hb hby at_25) rfl rfl (l' := #[.val (.int p0), .val (.int p1), .val (.int p2), .val (.int p3), .val (.int (0 : Int32)), .val (.int (p1.toInt8.toInt32)), .val (.int (p2.toInt8.toInt32)), .val (.int (p3.toInt8.toInt32)), .val (.ref b1), .unset]) rfl k) ?_
    show OGo p e below s _ _ _ (T1.setTop (mkF m 27 #[.val (.int p0), .val (.int p1), .val (.int p2), .val (.int p3), .val (.int (0 : Int32)), .val (.int (p1.toInt8.toInt32)), .val (.int (p2.toInt8.toInt32)), .val (.int (p3.toInt8.toInt32)), .val (.ref b1), .unset] []))
    refine OGo.st (fun _ k => XS.goto X1.here hx rfl (pc0 := 27) (pc' := 93) rfl (hb hby at_27) (by decide) (by decide) k) ?_
    show OGo p e below s _ _ _ (T1.setTop (mkF m 93 #[.val (.int p0), .val (.int p1), .val (.int p2), .val (.int p3), .val (.int (0 : Int32)), .val (.int (p1.toInt8.toInt32)), .val (.int (p2.toInt8.toInt32)), .val (.int (p3.toInt8.toInt32)), .val (.ref b1), .unset] []))
    refine OGo.st (fun _ k => XS.aload X1.here hx rfl (hb hby at_93) rfl rfl k) ?_
    show OGo p e below s _ _ _ (T1.setTop (mkF m 95 #[.val (.int p0), .val (.int p1), .val (.int p2), .val (.int p3), .val (.int (0 : Int32)), .val (.int (p1.toInt8.toInt32)), .val (.int (p2.toInt8.toInt32)), .val (.int (p3.toInt8.toInt32)), .val (.ref b1), .unset] [(.ref b1)]))
    obtain ⟨_, _, ⟨T2, L2, k2, n2⟩, -, X2, ⟨Lc2, hQ2, l2, y2, z2⟩, st2⟩ := Jvm.LawKit.callS X1 hx (y := (⟨"com/example/rows_over_order/rowsoverorder/TupleCodec", "rangeEnd", "([B)[B"⟩ : MethodName)) hown (mvT hZ (hw _ (List.mem_of_getElem? (i := 1) rfl))) (mvT hZ (hw _ (List.mem_of_getElem? (i := 2) rfl))) (mvT hZ (hw _ (List.mem_of_getElem? (i := 3) rfl))) (mvT hZ (hw _ (List.mem_of_getElem? (i := 4) rfl))) (by decide) (backOf (W := 0) (rm1L0 l Z a0 hw [] b1 k1 h1 n0 Z1 V_b1) hZ (hw _ (List.mem_of_getElem? (i := 4) rfl)) (hw _ (List.mem_of_getElem? (i := 3) rfl)) (by decide) (by decide)) (g := (mkF m 95 #[.val (.int p0), .val (.int p1), .val (.int p2), .val (.int p3), .val (.int (0 : Int32)), .val (.int (p1.toInt8.toInt32)), .val (.int (p2.toInt8.toInt32)), .val (.int (p3.toInt8.toInt32)), .val (.ref b1), .unset] [(.ref b1)])) rfl (by rw [hml]; rfl) (argsL := [(.ref b1)]) (rest := []) (lenOf pd_0_0 rfl) rfl (by show 2 * 0 + _ ≤ _; exact Nat.le_of_eq rfl) (hb hby at_95) (fun _ _ => ⟨rfl, e1, (by decide : 1 + 1 ≤ _), (by decide : 0 + 1 ≤ _)⟩)
    dsimp only [Pt.U, Pt.locs, Pt.cells, Pt.slots] at X2 l2 y2 z2 st2 hQ2
    subst l2 y2 z2
    obtain ⟨b2, kk2, rfl, N2q, Kc2, szq2, g_b2, V2⟩ := hQ2
    have ne_b1_b2 : b1 ≠ b2 := Nat.ne_of_lt (Nat.lt_of_lt_of_le V_b1.lt szq2)
    have sz_b2 : h0.size ≤ b2 := Nat.le_trans (K1).1 szq2
    have V_b1_w2 := V_b1.keep Kc2 nin0
    have K2 : Keep h0 T2.heap [] := (K1).trans Kc2 all0
    have Z2 : n0 ≤ T2.heap.size := Nat.le_trans Z1 Kc2.1
    have V2 : Arv Z T2.heap b2 kk2 .byte (1 : Int32) [(.int (-1 : Int32))] (.int (0 : Int32)) := V2
    have N2 := Fr.app N0 N2q
    refine OGo.st st2 ?_
    show OGo p e below s _ _ _ (T2.setTop (mkF m 98 #[.val (.int p0), .val (.int p1), .val (.int p2), .val (.int p3), .val (.int (0 : Int32)), .val (.int (p1.toInt8.toInt32)), .val (.int (p2.toInt8.toInt32)), .val (.int (p3.toInt8.toInt32)), .val (.ref b1), .unset] [(.ref b2)]))
    refine OGo.st (fun _ k => XS.astore X2.here hx rfl (hb hby at_98) rfl rfl (l' := #[.val (.int p0), .val (.int p1), .val (.int p2), .val (.int p3), .val (.int (0 : Int32)), .val (.int (p1.toInt8.toInt32)), .val (.int (p2.toInt8.toInt32)), .val (.int (p3.toInt8.toInt32)), .val (.ref b1), .val (.ref b2)]) rfl k) ?_
    show OGo p e below s _ _ _ (T2.setTop (mkF m 100 #[.val (.int p0), .val (.int p1), .val (.int p2), .val (.int p3), .val (.int (0 : Int32)), .val (.int (p1.toInt8.toInt32)), .val (.int (p2.toInt8.toInt32)), .val (.int (p3.toInt8.toInt32)), .val (.ref b1), .val (.ref b2)] []))
    refine OGo.st (fun _ k => XS.aload X2.here hx rfl (hb hby at_100) rfl rfl k) ?_
    show OGo p e below s _ _ _ (T2.setTop (mkF m 102 #[.val (.int p0), .val (.int p1), .val (.int p2), .val (.int p3), .val (.int (0 : Int32)), .val (.int (p1.toInt8.toInt32)), .val (.int (p2.toInt8.toInt32)), .val (.int (p3.toInt8.toInt32)), .val (.ref b1), .val (.ref b2)] [(.ref b2)]))
    refine OGo.st (fun _ k => XS.ifnullNo X2.here hx rfl (hb hby at_102) rfl k) ?_
    show OGo p e below s _ _ _ (T2.setTop (mkF m 105 #[.val (.int p0), .val (.int p1), .val (.int p2), .val (.int p3), .val (.int (0 : Int32)), .val (.int (p1.toInt8.toInt32)), .val (.int (p2.toInt8.toInt32)), .val (.int (p3.toInt8.toInt32)), .val (.ref b1), .val (.ref b2)] []))
    refine OGo.st (fun _ k => XS.aload X2.here hx rfl (hb hby at_105) rfl rfl k) ?_
    show OGo p e below s _ _ _ (T2.setTop (mkF m 107 #[.val (.int p0), .val (.int p1), .val (.int p2), .val (.int p3), .val (.int (0 : Int32)), .val (.int (p1.toInt8.toInt32)), .val (.int (p2.toInt8.toInt32)), .val (.int (p3.toInt8.toInt32)), .val (.ref b1), .val (.ref b2)] [(.ref b2)]))
    refine OGo.st (fun _ k => XS.aload X2.here hx rfl (hb hby at_107) rfl rfl k) ?_
    show OGo p e below s _ _ _ (T2.setTop (mkF m 109 #[.val (.int p0), .val (.int p1), .val (.int p2), .val (.int p3), .val (.int (0 : Int32)), .val (.int (p1.toInt8.toInt32)), .val (.int (p2.toInt8.toInt32)), .val (.int (p3.toInt8.toInt32)), .val (.ref b1), .val (.ref b2)] [(.ref b1), (.ref b2)]))
    refine OGo.st (fun _ k => Jvm.RoadKit.acmp (g := (mkF m 109 #[.val (.int p0), .val (.int p1), .val (.int p2), .val (.int p3), .val (.int (0 : Int32)), .val (.int (p1.toInt8.toInt32)), .val (.int (p2.toInt8.toInt32)), .val (.int (p3.toInt8.toInt32)), .val (.ref b1), .val (.ref b2)] [(.ref b1), (.ref b2)])) X2 hx rfl rfl rfl (pc0 := 109) (pc' := 112) (same := false) rfl (hb hby at_109) rfl (decide_eq_false fun q => (Ne.symm ne_b1_b2) (Value.ref.inj q)) (by decide) (by decide) k) ?_
    show OGo p e below s _ _ _ (T2.setTop (mkF m 112 #[.val (.int p0), .val (.int p1), .val (.int p2), .val (.int p3), .val (.int (0 : Int32)), .val (.int (p1.toInt8.toInt32)), .val (.int (p2.toInt8.toInt32)), .val (.int (p3.toInt8.toInt32)), .val (.ref b1), .val (.ref b2)] []))
    refine OGo.st (fun _ k => XS.aload X2.here hx rfl (hb hby at_112) rfl rfl k) ?_
    show OGo p e below s _ _ _ (T2.setTop (mkF m 114 #[.val (.int p0), .val (.int p1), .val (.int p2), .val (.int p3), .val (.int (0 : Int32)), .val (.int (p1.toInt8.toInt32)), .val (.int (p2.toInt8.toInt32)), .val (.int (p3.toInt8.toInt32)), .val (.ref b1), .val (.ref b2)] [(.ref b2)]))
    obtain ⟨cl3, Ar3, -, Sz3, Nn3, -, -⟩ := id V2
    refine OGo.st (fun _ k => X2.arraylength hx Ar3.1 (State.isArrayOf_alike hZ.alike Ar3.2.1) (g := (mkF m 114 #[.val (.int p0), .val (.int p1), .val (.int p2), .val (.int p3), .val (.int (0 : Int32)), .val (.int (p1.toInt8.toInt32)), .val (.int (p2.toInt8.toInt32)), .val (.int (p3.toInt8.toInt32)), .val (.ref b1), .val (.ref b2)] [(.ref b2)])) rfl rfl (hb hby at_114) _ k) ?_
    rw [len_of Sz3 Nn3]
    show OGo p e below s _ _ _ (T2.setTop (mkF m 115 #[.val (.int p0), .val (.int p1), .val (.int p2), .val (.int p3), .val (.int (0 : Int32)), .val (.int (p1.toInt8.toInt32)), .val (.int (p2.toInt8.toInt32)), .val (.int (p3.toInt8.toInt32)), .val (.ref b1), .val (.ref b2)] [(.int (1 : Int32))]))
    refine OGo.st (fun _ k => XS.iload X2.here hx rfl (hb hby at_115) rfl k) ?_
    show OGo p e below s _ _ _ (T2.setTop (mkF m 117 #[.val (.int p0), .val (.int p1), .val (.int p2), .val (.int p3), .val (.int (0 : Int32)), .val (.int (p1.toInt8.toInt32)), .val (.int (p2.toInt8.toInt32)), .val (.int (p3.toInt8.toInt32)), .val (.ref b1), .val (.ref b2)] [(.int (0 : Int32)), (.int (1 : Int32))]))
    refine OGo.st (fun _ k => XS.iconst X2.here hx rfl (hb hby at_117) k) ?_
    show OGo p e below s _ _ _ (T2.setTop (mkF m 118 #[.val (.int p0), .val (.int p1), .val (.int p2), .val (.int p3), .val (.int (0 : Int32)), .val (.int (p1.toInt8.toInt32)), .val (.int (p2.toInt8.toInt32)), .val (.int (p3.toInt8.toInt32)), .val (.ref b1), .val (.ref b2)] [(.int (1 : Int32)), (.int (0 : Int32)), (.int (1 : Int32))]))
    refine OGo.st (fun _ k => XS.iadd X2.here hx rfl (hb hby at_118) rfl k) ?_
    rw [show ((0 : Int32) + (1 : Int32)) = (1 : Int32) from by decide]
    show OGo p e below s _ _ _ (T2.setTop (mkF m 119 #[.val (.int p0), .val (.int p1), .val (.int p2), .val (.int p3), .val (.int (0 : Int32)), .val (.int (p1.toInt8.toInt32)), .val (.int (p2.toInt8.toInt32)), .val (.int (p3.toInt8.toInt32)), .val (.ref b1), .val (.ref b2)] [(.int (1 : Int32)), (.int (1 : Int32))]))
    refine OGo.st (fun _ k => XS.icmpYes X2.here hx rfl (pc0 := 119) (pc' := 124) rfl (hb hby at_119) rfl (teq (by decide : (1 : Int32) = (1 : Int32))).1 (by decide) (by decide) k) ?_
    show OGo p e below s _ _ _ (T2.setTop (mkF m 124 #[.val (.int p0), .val (.int p1), .val (.int p2), .val (.int p3), .val (.int (0 : Int32)), .val (.int (p1.toInt8.toInt32)), .val (.int (p2.toInt8.toInt32)), .val (.int (p3.toInt8.toInt32)), .val (.ref b1), .val (.ref b2)] []))
    refine OGo.st (fun _ k => XS.aload X2.here hx rfl (hb hby at_124) rfl rfl k) ?_
    show OGo p e below s _ _ _ (T2.setTop (mkF m 126 #[.val (.int p0), .val (.int p1), .val (.int p2), .val (.int p3), .val (.int (0 : Int32)), .val (.int (p1.toInt8.toInt32)), .val (.int (p2.toInt8.toInt32)), .val (.int (p3.toInt8.toInt32)), .val (.ref b1), .val (.ref b2)] [(.ref b2)]))
    refine OGo.st (fun _ k => XS.iload X2.here hx rfl (hb hby at_126) rfl k) ?_
    show OGo p e below s _ _ _ (T2.setTop (mkF m 128 #[.val (.int p0), .val (.int p1), .val (.int p2), .val (.int p3), .val (.int (0 : Int32)), .val (.int (p1.toInt8.toInt32)), .val (.int (p2.toInt8.toInt32)), .val (.int (p3.toInt8.toInt32)), .val (.ref b1), .val (.ref b2)] [(.int (0 : Int32)), (.ref b2)]))
    refine OGo.st (fun _ k => XS.iload X2.here hx rfl (hb hby at_128) rfl k) ?_
    show OGo p e below s _ _ _ (T2.setTop (mkF m 130 #[.val (.int p0), .val (.int p1), .val (.int p2), .val (.int p3), .val (.int (0 : Int32)), .val (.int (p1.toInt8.toInt32)), .val (.int (p2.toInt8.toInt32)), .val (.int (p3.toInt8.toInt32)), .val (.ref b1), .val (.ref b2)] [(.int (p1.toInt8.toInt32)), (.int (0 : Int32)), (.ref b2)]))
    refine OGo.st (fun _ k => XS.iload X2.here hx rfl (hb hby at_130) rfl k) ?_
    show OGo p e below s _ _ _ (T2.setTop (mkF m 132 #[.val (.int p0), .val (.int p1), .val (.int p2), .val (.int p3), .val (.int (0 : Int32)), .val (.int (p1.toInt8.toInt32)), .val (.int (p2.toInt8.toInt32)), .val (.int (p3.toInt8.toInt32)), .val (.ref b1), .val (.ref b2)] [(.int (p2.toInt8.toInt32)), (.int (p1.toInt8.toInt32)), (.int (0 : Int32)), (.ref b2)]))
    refine OGo.st (fun _ k => XS.iload X2.here hx rfl (hb hby at_132) rfl k) ?_
    show OGo p e below s _ _ _ (T2.setTop (mkF m 134 #[.val (.int p0), .val (.int p1), .val (.int p2), .val (.int p3), .val (.int (0 : Int32)), .val (.int (p1.toInt8.toInt32)), .val (.int (p2.toInt8.toInt32)), .val (.int (p3.toInt8.toInt32)), .val (.ref b1), .val (.ref b2)] [(.int (p3.toInt8.toInt32)), (.int (p2.toInt8.toInt32)), (.int (p1.toInt8.toInt32)), (.int (0 : Int32)), (.ref b2)]))
    obtain ⟨_, _, ⟨T4, L4, k4, n4⟩, -, X4, ⟨Lc4, hQ4, l4, y4, z4⟩, st4⟩ := Jvm.LawKit.callS X2 hx (y := (⟨"com/example/rows_over_order/rowsoverorder/TupleCodecRangeEndPinLaw", "matches", "([BIBBB)Z"⟩ : MethodName)) hown (mvT hZ (hw _ (List.mem_of_getElem? (i := 17) rfl))) (mvT hZ (hw _ (List.mem_of_getElem? (i := 18) rfl))) (mvT hZ (hw _ (List.mem_of_getElem? (i := 19) rfl))) (mvT hZ (hw _ (List.mem_of_getElem? (i := 20) rfl))) (by decide) (backOf (W := 0) (rm4L10 l Z a0 hw [] b2 (p1.toInt8.toInt32) (p2.toInt8.toInt32) (p3.toInt8.toInt32) kk2 (-1 : Int32) T2.heap n0 Z2 V2) hZ (hw _ (List.mem_of_getElem? (i := 20) rfl)) (hw _ (List.mem_of_getElem? (i := 19) rfl)) (by decide) (by decide)) (g := (mkF m 134 #[.val (.int p0), .val (.int p1), .val (.int p2), .val (.int p3), .val (.int (0 : Int32)), .val (.int (p1.toInt8.toInt32)), .val (.int (p2.toInt8.toInt32)), .val (.int (p3.toInt8.toInt32)), .val (.ref b1), .val (.ref b2)] [(.int (p3.toInt8.toInt32)), (.int (p2.toInt8.toInt32)), (.int (p1.toInt8.toInt32)), (.int (0 : Int32)), (.ref b2)])) rfl (by rw [hml]; rfl) (argsL := [(.ref b2), (.int (0 : Int32)), (.int (p1.toInt8.toInt32)), (.int (p2.toInt8.toInt32)), (.int (p3.toInt8.toInt32))]) (rest := []) (lenOf pd_0_1 rfl) rfl (by show 2 * 0 + _ ≤ _; exact Nat.le_of_eq rfl) (hb hby at_134) (fun _ _ => ⟨rfl, rfl, (by decide : 2 + 0 ≤ _), (by decide : 1 + 0 ≤ _)⟩)
    dsimp only [Pt.U, Pt.locs, Pt.cells, Pt.slots] at X4 l4 y4 z4 st4 hQ4
    subst l4 y4 z4
    obtain ⟨rfl, N4q, e4⟩ := hQ4
    have N4 := Fr.app N2 N4q
    refine OGo.st st4 ?_
    show OGo p e below s _ _ _ (T4.setTop (mkF m 137 #[.val (.int p0), .val (.int p1), .val (.int p2), .val (.int p3), .val (.int (0 : Int32)), .val (.int (p1.toInt8.toInt32)), .val (.int (p2.toInt8.toInt32)), .val (.int (p3.toInt8.toInt32)), .val (.ref b1), .val (.ref b2)] [(.int (f4L10))]))
    by_cases hc137 : (f4L10) = (0 : Int32)
    · refine OGo.st (fun _ k => XS.ifNo X4.here hx rfl (hb hby at_137) rfl ((if0 _ _).trans (teq hc137).2) k) ?_
      show OGo p e below s _ _ _ (T4.setTop (mkF m 140 #[.val (.int p0), .val (.int p1), .val (.int p2), .val (.int p3), .val (.int (0 : Int32)), .val (.int (p1.toInt8.toInt32)), .val (.int (p2.toInt8.toInt32)), .val (.int (p3.toInt8.toInt32)), .val (.ref b1), .val (.ref b2)] []))
      refine OGo.st (fun _ k => XS.iconst X4.here hx rfl (hb hby at_140) k) ?_
      show OGo p e below s _ _ _ (T4.setTop (mkF m 141 #[.val (.int p0), .val (.int p1), .val (.int p2), .val (.int p3), .val (.int (0 : Int32)), .val (.int (p1.toInt8.toInt32)), .val (.int (p2.toInt8.toInt32)), .val (.int (p3.toInt8.toInt32)), .val (.ref b1), .val (.ref b2)] [(.int (0 : Int32))]))
      exact oretN X4 hx Bd.notSynchronized (t := .boolean) Bd.returns (by simp) (hb hby at_141) (z' := (0 : Int32)) (by decide) e4 ⟨(congrArg (fun z => some (Value.int z)) (show (0 : Int32) = f0 p0 p1 p2 p3 from Eq.symm (by unfold f0; exact (if_pos hc5).trans (if_pos hc137)))), N4⟩ (by decide) (by decide)
    · refine OGo.st (fun _ k => XS.ifYes X4.here hx rfl (pc0 := 137) (pc' := 142) rfl (hb hby at_137) rfl ((if0 _ _).trans (feq hc137).2) (by decide) (by decide) k) ?_
      show OGo p e below s _ _ _ (T4.setTop (mkF m 142 #[.val (.int p0), .val (.int p1), .val (.int p2), .val (.int p3), .val (.int (0 : Int32)), .val (.int (p1.toInt8.toInt32)), .val (.int (p2.toInt8.toInt32)), .val (.int (p3.toInt8.toInt32)), .val (.ref b1), .val (.ref b2)] []))
      refine OGo.st (fun _ k => XS.aload X4.here hx rfl (hb hby at_142) rfl rfl k) ?_
      show OGo p e below s _ _ _ (T4.setTop (mkF m 144 #[.val (.int p0), .val (.int p1), .val (.int p2), .val (.int p3), .val (.int (0 : Int32)), .val (.int (p1.toInt8.toInt32)), .val (.int (p2.toInt8.toInt32)), .val (.int (p3.toInt8.toInt32)), .val (.ref b1), .val (.ref b2)] [(.ref b2)]))
      refine OGo.st (fun _ k => XS.iload X4.here hx rfl (hb hby at_144) rfl k) ?_
      show OGo p e below s _ _ _ (T4.setTop (mkF m 146 #[.val (.int p0), .val (.int p1), .val (.int p2), .val (.int p3), .val (.int (0 : Int32)), .val (.int (p1.toInt8.toInt32)), .val (.int (p2.toInt8.toInt32)), .val (.int (p3.toInt8.toInt32)), .val (.ref b1), .val (.ref b2)] [(.int (0 : Int32)), (.ref b2)]))
      obtain ⟨cl5, Ar5, q5, Sz5, Nn5, Hs5, Gs5⟩ := id V2
      have hin5 : ¬ ((0 : Int32) < 0 ∨ cl5.slots.size ≤ ((0 : Int32)).toNatClampNeg) := inb_of Sz5 ⟨by decide, by decide⟩
      have hat5 : cl5.slots[((0 : Int32)).toNatClampNeg]? = some (.int (-1 : Int32)) := Hs5.at hin5 rfl
      refine OGo.st (fun _ k => X4.baloadBytes hx (j := (0 : Int32)) (v := (.int (-1 : Int32))) (by rw [e4]; exact Ar5.1) (State.isArrayOf_alike hZ.alike Ar5.2.1) Ar5.2.2 hin5 hat5 (g := (mkF m 146 #[.val (.int p0), .val (.int p1), .val (.int p2), .val (.int p3), .val (.int (0 : Int32)), .val (.int (p1.toInt8.toInt32)), .val (.int (p2.toInt8.toInt32)), .val (.int (p3.toInt8.toInt32)), .val (.ref b1), .val (.ref b2)] [(.int (0 : Int32)), (.ref b2)])) rfl rfl (hb hby at_146) _ k) ?_
      show OGo p e below s _ _ _ (T4.setTop (mkF m 147 #[.val (.int p0), .val (.int p1), .val (.int p2), .val (.int p3), .val (.int (0 : Int32)), .val (.int (p1.toInt8.toInt32)), .val (.int (p2.toInt8.toInt32)), .val (.int (p3.toInt8.toInt32)), .val (.ref b1), .val (.ref b2)] [(.int (-1 : Int32))]))
      refine OGo.st (fun _ k => XS.iconst X4.here hx rfl (hb hby at_147) k) ?_
      show OGo p e below s _ _ _ (T4.setTop (mkF m 148 #[.val (.int p0), .val (.int p1), .val (.int p2), .val (.int p3), .val (.int (0 : Int32)), .val (.int (p1.toInt8.toInt32)), .val (.int (p2.toInt8.toInt32)), .val (.int (p3.toInt8.toInt32)), .val (.ref b1), .val (.ref b2)] [(.int (-1 : Int32)), (.int (-1 : Int32))]))
      refine OGo.st (fun _ k => XS.icmpYes X4.here hx rfl (pc0 := 148) (pc' := 153) rfl (hb hby at_148) rfl (teq (by decide : (-1 : Int32) = (-1 : Int32))).1 (by decide) (by decide) k) ?_
      show OGo p e below s _ _ _ (T4.setTop (mkF m 153 #[.val (.int p0), .val (.int p1), .val (.int p2), .val (.int p3), .val (.int (0 : Int32)), .val (.int (p1.toInt8.toInt32)), .val (.int (p2.toInt8.toInt32)), .val (.int (p3.toInt8.toInt32)), .val (.ref b1), .val (.ref b2)] []))
      refine OGo.st (fun _ k => XS.aload X4.here hx rfl (hb hby at_153) rfl rfl k) ?_
      show OGo p e below s _ _ _ (T4.setTop (mkF m 155 #[.val (.int p0), .val (.int p1), .val (.int p2), .val (.int p3), .val (.int (0 : Int32)), .val (.int (p1.toInt8.toInt32)), .val (.int (p2.toInt8.toInt32)), .val (.int (p3.toInt8.toInt32)), .val (.ref b1), .val (.ref b2)] [(.ref b1)]))
      obtain ⟨cl6, Ar6, -, Sz6, Nn6, -, -⟩ := id V_b1_w2
      refine OGo.st (fun _ k => X4.arraylength hx (by rw [e4]; exact Ar6.1) (State.isArrayOf_alike hZ.alike Ar6.2.1) (g := (mkF m 155 #[.val (.int p0), .val (.int p1), .val (.int p2), .val (.int p3), .val (.int (0 : Int32)), .val (.int (p1.toInt8.toInt32)), .val (.int (p2.toInt8.toInt32)), .val (.int (p3.toInt8.toInt32)), .val (.ref b1), .val (.ref b2)] [(.ref b1)])) rfl rfl (hb hby at_155) _ k) ?_
      rw [len_of Sz6 Nn6]
      show OGo p e below s _ _ _ (T4.setTop (mkF m 156 #[.val (.int p0), .val (.int p1), .val (.int p2), .val (.int p3), .val (.int (0 : Int32)), .val (.int (p1.toInt8.toInt32)), .val (.int (p2.toInt8.toInt32)), .val (.int (p3.toInt8.toInt32)), .val (.ref b1), .val (.ref b2)] [(.int (0 : Int32))]))
      refine OGo.st (fun _ k => XS.iload X4.here hx rfl (hb hby at_156) rfl k) ?_
      show OGo p e below s _ _ _ (T4.setTop (mkF m 158 #[.val (.int p0), .val (.int p1), .val (.int p2), .val (.int p3), .val (.int (0 : Int32)), .val (.int (p1.toInt8.toInt32)), .val (.int (p2.toInt8.toInt32)), .val (.int (p3.toInt8.toInt32)), .val (.ref b1), .val (.ref b2)] [(.int (0 : Int32)), (.int (0 : Int32))]))
      refine OGo.st (fun _ k => XS.icmpNo X4.here hx rfl (hb hby at_158) rfl (teq (by decide : (0 : Int32) = (0 : Int32))).2 k) ?_
      show OGo p e below s _ _ _ (T4.setTop (mkF m 161 #[.val (.int p0), .val (.int p1), .val (.int p2), .val (.int p3), .val (.int (0 : Int32)), .val (.int (p1.toInt8.toInt32)), .val (.int (p2.toInt8.toInt32)), .val (.int (p3.toInt8.toInt32)), .val (.ref b1), .val (.ref b2)] []))
      refine OGo.st (fun _ k => XS.aload X4.here hx rfl (hb hby at_161) rfl rfl k) ?_
      show OGo p e below s _ _ _ (T4.setTop (mkF m 163 #[.val (.int p0), .val (.int p1), .val (.int p2), .val (.int p3), .val (.int (0 : Int32)), .val (.int (p1.toInt8.toInt32)), .val (.int (p2.toInt8.toInt32)), .val (.int (p3.toInt8.toInt32)), .val (.ref b1), .val (.ref b2)] [(.ref b1)]))
      refine OGo.st (fun _ k => XS.iload X4.here hx rfl (hb hby at_163) rfl k) ?_
      show OGo p e below s _ _ _ (T4.setTop (mkF m 165 #[.val (.int p0), .val (.int p1), .val (.int p2), .val (.int p3), .val (.int (0 : Int32)), .val (.int (p1.toInt8.toInt32)), .val (.int (p2.toInt8.toInt32)), .val (.int (p3.toInt8.toInt32)), .val (.ref b1), .val (.ref b2)] [(.int (0 : Int32)), (.ref b1)]))
      refine OGo.st (fun _ k => XS.iload X4.here hx rfl (hb hby at_165) rfl k) ?_
      show OGo p e below s _ _ _ (T4.setTop (mkF m 167 #[.val (.int p0), .val (.int p1), .val (.int p2), .val (.int p3), .val (.int (0 : Int32)), .val (.int (p1.toInt8.toInt32)), .val (.int (p2.toInt8.toInt32)), .val (.int (p3.toInt8.toInt32)), .val (.ref b1), .val (.ref b2)] [(.int (p1.toInt8.toInt32)), (.int (0 : Int32)), (.ref b1)]))
      refine OGo.st (fun _ k => XS.iload X4.here hx rfl (hb hby at_167) rfl k) ?_
      show OGo p e below s _ _ _ (T4.setTop (mkF m 169 #[.val (.int p0), .val (.int p1), .val (.int p2), .val (.int p3), .val (.int (0 : Int32)), .val (.int (p1.toInt8.toInt32)), .val (.int (p2.toInt8.toInt32)), .val (.int (p3.toInt8.toInt32)), .val (.ref b1), .val (.ref b2)] [(.int (p2.toInt8.toInt32)), (.int (p1.toInt8.toInt32)), (.int (0 : Int32)), (.ref b1)]))
      refine OGo.st (fun _ k => XS.iload X4.here hx rfl (hb hby at_169) rfl k) ?_
      show OGo p e below s _ _ _ (T4.setTop (mkF m 171 #[.val (.int p0), .val (.int p1), .val (.int p2), .val (.int p3), .val (.int (0 : Int32)), .val (.int (p1.toInt8.toInt32)), .val (.int (p2.toInt8.toInt32)), .val (.int (p3.toInt8.toInt32)), .val (.ref b1), .val (.ref b2)] [(.int (p3.toInt8.toInt32)), (.int (p2.toInt8.toInt32)), (.int (p1.toInt8.toInt32)), (.int (0 : Int32)), (.ref b1)]))
      obtain ⟨_, _, ⟨T7, L7, k7, n7⟩, -, X7, ⟨Lc7, hQ7, l7, y7, z7⟩, st7⟩ := Jvm.LawKit.callS X4 hx (y := (⟨"com/example/rows_over_order/rowsoverorder/TupleCodecRangeEndPinLaw", "matches", "([BIBBB)Z"⟩ : MethodName)) hown (mvT hZ (hw _ (List.mem_of_getElem? (i := 17) rfl))) (mvT hZ (hw _ (List.mem_of_getElem? (i := 18) rfl))) (mvT hZ (hw _ (List.mem_of_getElem? (i := 19) rfl))) (mvT hZ (hw _ (List.mem_of_getElem? (i := 20) rfl))) (by decide) (backOf (W := 0) (rm4L00 l Z a0 hw [] b1 (p1.toInt8.toInt32) (p2.toInt8.toInt32) (p3.toInt8.toInt32) k1 T2.heap n0 Z2 V_b1_w2) hZ (hw _ (List.mem_of_getElem? (i := 20) rfl)) (hw _ (List.mem_of_getElem? (i := 19) rfl)) (by decide) (by decide)) (g := (mkF m 171 #[.val (.int p0), .val (.int p1), .val (.int p2), .val (.int p3), .val (.int (0 : Int32)), .val (.int (p1.toInt8.toInt32)), .val (.int (p2.toInt8.toInt32)), .val (.int (p3.toInt8.toInt32)), .val (.ref b1), .val (.ref b2)] [(.int (p3.toInt8.toInt32)), (.int (p2.toInt8.toInt32)), (.int (p1.toInt8.toInt32)), (.int (0 : Int32)), (.ref b1)])) rfl (by rw [hml]; rfl) (argsL := [(.ref b1), (.int (0 : Int32)), (.int (p1.toInt8.toInt32)), (.int (p2.toInt8.toInt32)), (.int (p3.toInt8.toInt32))]) (rest := []) (lenOf pd_0_1 rfl) rfl (by show 2 * 0 + _ ≤ _; exact Nat.le_of_eq rfl) (hb hby at_171) (fun _ _ => ⟨rfl, e4, (by decide : 2 + 0 ≤ _), (by decide : 1 + 0 ≤ _)⟩)
      dsimp only [Pt.U, Pt.locs, Pt.cells, Pt.slots] at X7 l7 y7 z7 st7 hQ7
      subst l7 y7 z7
      obtain ⟨rfl, N7q, e7⟩ := hQ7
      have N7 := Fr.app N4 N7q
      refine OGo.st st7 ?_
      show OGo p e below s _ _ _ (T7.setTop (mkF m 174 #[.val (.int p0), .val (.int p1), .val (.int p2), .val (.int p3), .val (.int (0 : Int32)), .val (.int (p1.toInt8.toInt32)), .val (.int (p2.toInt8.toInt32)), .val (.int (p3.toInt8.toInt32)), .val (.ref b1), .val (.ref b2)] [(.int (f4L00))]))
      by_cases hc174 : (f4L00) = (0 : Int32)
      · refine OGo.st (fun _ k => XS.ifYes X7.here hx rfl (pc0 := 174) (pc' := 181) rfl (hb hby at_174) rfl ((if0 _ _).trans (teq hc174).1) (by decide) (by decide) k) ?_
        show OGo p e below s _ _ _ (T7.setTop (mkF m 181 #[.val (.int p0), .val (.int p1), .val (.int p2), .val (.int p3), .val (.int (0 : Int32)), .val (.int (p1.toInt8.toInt32)), .val (.int (p2.toInt8.toInt32)), .val (.int (p3.toInt8.toInt32)), .val (.ref b1), .val (.ref b2)] []))
        refine OGo.st (fun _ k => XS.iconst X7.here hx rfl (hb hby at_181) k) ?_
        show OGo p e below s _ _ _ (T7.setTop (mkF m 182 #[.val (.int p0), .val (.int p1), .val (.int p2), .val (.int p3), .val (.int (0 : Int32)), .val (.int (p1.toInt8.toInt32)), .val (.int (p2.toInt8.toInt32)), .val (.int (p3.toInt8.toInt32)), .val (.ref b1), .val (.ref b2)] [(.int (0 : Int32))]))
        exact oretN X7 hx Bd.notSynchronized (t := .boolean) Bd.returns (by simp) (hb hby at_182) (z' := (0 : Int32)) (by decide) e7 ⟨(congrArg (fun z => some (Value.int z)) (show (0 : Int32) = f0 p0 p1 p2 p3 from Eq.symm (by unfold f0; exact (if_pos hc5).trans ((if_neg hc137).trans (if_pos hc174))))), N7⟩ (by decide) (by decide)
      · refine OGo.st (fun _ k => XS.ifNo X7.here hx rfl (hb hby at_174) rfl ((if0 _ _).trans (feq hc174).1) k) ?_
        show OGo p e below s _ _ _ (T7.setTop (mkF m 177 #[.val (.int p0), .val (.int p1), .val (.int p2), .val (.int p3), .val (.int (0 : Int32)), .val (.int (p1.toInt8.toInt32)), .val (.int (p2.toInt8.toInt32)), .val (.int (p3.toInt8.toInt32)), .val (.ref b1), .val (.ref b2)] []))
        refine OGo.st (fun _ k => XS.iconst X7.here hx rfl (hb hby at_177) k) ?_
        show OGo p e below s _ _ _ (T7.setTop (mkF m 178 #[.val (.int p0), .val (.int p1), .val (.int p2), .val (.int p3), .val (.int (0 : Int32)), .val (.int (p1.toInt8.toInt32)), .val (.int (p2.toInt8.toInt32)), .val (.int (p3.toInt8.toInt32)), .val (.ref b1), .val (.ref b2)] [(.int (1 : Int32))]))
        refine OGo.st (fun _ k => XS.goto X7.here hx rfl (pc0 := 178) (pc' := 182) rfl (hb hby at_178) (by decide) (by decide) k) ?_
        show OGo p e below s _ _ _ (T7.setTop (mkF m 182 #[.val (.int p0), .val (.int p1), .val (.int p2), .val (.int p3), .val (.int (0 : Int32)), .val (.int (p1.toInt8.toInt32)), .val (.int (p2.toInt8.toInt32)), .val (.int (p3.toInt8.toInt32)), .val (.ref b1), .val (.ref b2)] [(.int (1 : Int32))]))
        exact oretN X7 hx Bd.notSynchronized (t := .boolean) Bd.returns (by simp) (hb hby at_182) (z' := (1 : Int32)) (by decide) e7 ⟨(congrArg (fun z => some (Value.int z)) (show (1 : Int32) = f0 p0 p1 p2 p3 from Eq.symm (by unfold f0; exact (if_pos hc5).trans ((if_neg hc137).trans (if_neg hc174))))), N7⟩ (by decide) (by decide)
  · by_cases hc5_2 : (p0 &&& (3 : Int32)) = (1 : Int32)
    · rw [hc5_2]
      show OGo p e below s _ _ _ (s₁.setTop (mkF m 5 #[.val (.int p0), .val (.int p1), .val (.int p2), .val (.int p3), .val (.int (1 : Int32)), .unset, .unset, .unset, .unset, .unset] []))
      refine OGo.st (fun _ k => XS.iloadN X0.here hx rfl (hb hby at_5) rfl k) ?_
      show OGo p e below s _ _ _ (s₁.setTop (mkF m 6 #[.val (.int p0), .val (.int p1), .val (.int p2), .val (.int p3), .val (.int (1 : Int32)), .unset, .unset, .unset, .unset, .unset] [(.int p1)]))
      refine OGo.st (fun _ k => XS.i2b X0.here hx rfl (hb hby at_6) rfl k) ?_
      show OGo p e below s _ _ _ (s₁.setTop (mkF m 7 #[.val (.int p0), .val (.int p1), .val (.int p2), .val (.int p3), .val (.int (1 : Int32)), .unset, .unset, .unset, .unset, .unset] [(.int (p1.toInt8.toInt32))]))
      refine OGo.st (fun _ k => XS.istore X0.here hx rfl (hb hby at_7) rfl (l' := #[.val (.int p0), .val (.int p1), .val (.int p2), .val (.int p3), .val (.int (1 : Int32)), .val (.int (p1.toInt8.toInt32)), .unset, .unset, .unset, .unset]) rfl k) ?_
      show OGo p e below s _ _ _ (s₁.setTop (mkF m 9 #[.val (.int p0), .val (.int p1), .val (.int p2), .val (.int p3), .val (.int (1 : Int32)), .val (.int (p1.toInt8.toInt32)), .unset, .unset, .unset, .unset] []))
      refine OGo.st (fun _ k => XS.iloadN X0.here hx rfl (hb hby at_9) rfl k) ?_
      show OGo p e below s _ _ _ (s₁.setTop (mkF m 10 #[.val (.int p0), .val (.int p1), .val (.int p2), .val (.int p3), .val (.int (1 : Int32)), .val (.int (p1.toInt8.toInt32)), .unset, .unset, .unset, .unset] [(.int p2)]))
      refine OGo.st (fun _ k => XS.i2b X0.here hx rfl (hb hby at_10) rfl k) ?_
      show OGo p e below s _ _ _ (s₁.setTop (mkF m 11 #[.val (.int p0), .val (.int p1), .val (.int p2), .val (.int p3), .val (.int (1 : Int32)), .val (.int (p1.toInt8.toInt32)), .unset, .unset, .unset, .unset] [(.int (p2.toInt8.toInt32))]))
      refine OGo.st (fun _ k => XS.istore X0.here hx rfl (hb hby at_11) rfl (l' := #[.val (.int p0), .val (.int p1), .val (.int p2), .val (.int p3), .val (.int (1 : Int32)), .val (.int (p1.toInt8.toInt32)), .val (.int (p2.toInt8.toInt32)), .unset, .unset, .unset]) rfl k) ?_
      show OGo p e below s _ _ _ (s₁.setTop (mkF m 13 #[.val (.int p0), .val (.int p1), .val (.int p2), .val (.int p3), .val (.int (1 : Int32)), .val (.int (p1.toInt8.toInt32)), .val (.int (p2.toInt8.toInt32)), .unset, .unset, .unset] []))
      refine OGo.st (fun _ k => XS.iloadN X0.here hx rfl (hb hby at_13) rfl k) ?_
      show OGo p e below s _ _ _ (s₁.setTop (mkF m 14 #[.val (.int p0), .val (.int p1), .val (.int p2), .val (.int p3), .val (.int (1 : Int32)), .val (.int (p1.toInt8.toInt32)), .val (.int (p2.toInt8.toInt32)), .unset, .unset, .unset] [(.int p3)]))
      refine OGo.st (fun _ k => XS.i2b X0.here hx rfl (hb hby at_14) rfl k) ?_
      show OGo p e below s _ _ _ (s₁.setTop (mkF m 15 #[.val (.int p0), .val (.int p1), .val (.int p2), .val (.int p3), .val (.int (1 : Int32)), .val (.int (p1.toInt8.toInt32)), .val (.int (p2.toInt8.toInt32)), .unset, .unset, .unset] [(.int (p3.toInt8.toInt32))]))
      refine OGo.st (fun _ k => XS.istore X0.here hx rfl (hb hby at_15) rfl (l' := #[.val (.int p0), .val (.int p1), .val (.int p2), .val (.int p3), .val (.int (1 : Int32)), .val (.int (p1.toInt8.toInt32)), .val (.int (p2.toInt8.toInt32)), .val (.int (p3.toInt8.toInt32)), .unset, .unset]) rfl k) ?_
      show OGo p e below s _ _ _ (s₁.setTop (mkF m 17 #[.val (.int p0), .val (.int p1), .val (.int p2), .val (.int p3), .val (.int (1 : Int32)), .val (.int (p1.toInt8.toInt32)), .val (.int (p2.toInt8.toInt32)), .val (.int (p3.toInt8.toInt32)), .unset, .unset] []))
      refine OGo.st (fun _ k => XS.iload X0.here hx rfl (hb hby at_17) rfl k) ?_
      show OGo p e below s _ _ _ (s₁.setTop (mkF m 19 #[.val (.int p0), .val (.int p1), .val (.int p2), .val (.int p3), .val (.int (1 : Int32)), .val (.int (p1.toInt8.toInt32)), .val (.int (p2.toInt8.toInt32)), .val (.int (p3.toInt8.toInt32)), .unset, .unset] [(.int (1 : Int32))]))
      refine OGo.st (fun _ k => XS.ifYes X0.here hx rfl (pc0 := 19) (pc' := 30) rfl (hb hby at_19) rfl ((if0 _ _).trans (feq (by decide : ¬ ((1 : Int32) = (0 : Int32)))).2) (by decide) (by decide) k) ?_
      show OGo p e below s _ _ _ (s₁.setTop (mkF m 30 #[.val (.int p0), .val (.int p1), .val (.int p2), .val (.int p3), .val (.int (1 : Int32)), .val (.int (p1.toInt8.toInt32)), .val (.int (p2.toInt8.toInt32)), .val (.int (p3.toInt8.toInt32)), .unset, .unset] []))
      refine OGo.st (fun _ k => XS.iload X0.here hx rfl (hb hby at_30) rfl k) ?_
      show OGo p e below s _ _ _ (s₁.setTop (mkF m 32 #[.val (.int p0), .val (.int p1), .val (.int p2), .val (.int p3), .val (.int (1 : Int32)), .val (.int (p1.toInt8.toInt32)), .val (.int (p2.toInt8.toInt32)), .val (.int (p3.toInt8.toInt32)), .unset, .unset] [(.int (1 : Int32))]))
      refine OGo.st (fun _ k => XS.iconst X0.here hx rfl (hb hby at_32) k) ?_
      show OGo p e below s _ _ _ (s₁.setTop (mkF m 33 #[.val (.int p0), .val (.int p1), .val (.int p2), .val (.int p3), .val (.int (1 : Int32)), .val (.int (p1.toInt8.toInt32)), .val (.int (p2.toInt8.toInt32)), .val (.int (p3.toInt8.toInt32)), .unset, .unset] [(.int (1 : Int32)), (.int (1 : Int32))]))
      refine OGo.st (fun _ k => XS.icmpNo X0.here hx rfl (hb hby at_33) rfl (teq (by decide : (1 : Int32) = (1 : Int32))).2 k) ?_
      show OGo p e below s _ _ _ (s₁.setTop (mkF m 36 #[.val (.int p0), .val (.int p1), .val (.int p2), .val (.int p3), .val (.int (1 : Int32)), .val (.int (p1.toInt8.toInt32)), .val (.int (p2.toInt8.toInt32)), .val (.int (p3.toInt8.toInt32)), .unset, .unset] []))
      refine OGo.st (fun _ k => XS.iconst X0.here hx rfl (hb hby at_36) k) ?_
      show OGo p e below s _ _ _ (s₁.setTop (mkF m 37 #[.val (.int p0), .val (.int p1), .val (.int p2), .val (.int p3), .val (.int (1 : Int32)), .val (.int (p1.toInt8.toInt32)), .val (.int (p2.toInt8.toInt32)), .val (.int (p3.toInt8.toInt32)), .unset, .unset] [(.int (1 : Int32))]))
      obtain ⟨T8, h8, k8, X8, e8, E8, A8, st8⟩ := newP X0 hx hZ (hw _ (List.mem_of_getElem? (i := 0) rfl)) e0 (g := (mkF m 37 #[.val (.int p0), .val (.int p1), .val (.int p2), .val (.int p3), .val (.int (1 : Int32)), .val (.int (p1.toInt8.toInt32)), .val (.int (p2.toInt8.toInt32)), .val (.int (p3.toInt8.toInt32)), .unset, .unset] [(.int (1 : Int32))])) rfl (hb hby at_37) rfl (by decide) (cap := 1) (by decide) (by decide) (by decide) (by decide)
      obtain ⟨b8, g8⟩ : ∃ z, z = h0.size := ⟨_, rfl⟩
      rw [← g8] at A8 st8
      refine OGo.st st8 ?_
      have g_b8 : n0 ≤ b8 := Nat.le_trans Z0 (Nat.le_of_eq g8.symm)
      have sz_b8 : h0.size ≤ b8 := Nat.le_trans (Keep.refl h0 []).1 (Nat.le_of_eq g8.symm)
      have K8 : Keep h0 h8 [] := (Keep.refl h0 _).ext E8
      have Z8 : n0 ≤ h8.size := Nat.le_trans Z0 E8.1
      have V_b8 : Arv Z h8 b8 k8 .byte (1 : Int32) [(.int (0 : Int32))] (.int (0 : Int32)) := (Arv.new A8 (by decide)).pad (pad_rep [] (.int (0 : Int32)) 1)
      show OGo p e below s _ _ _ (T8.setTop (mkF m 39 #[.val (.int p0), .val (.int p1), .val (.int p2), .val (.int p3), .val (.int (1 : Int32)), .val (.int (p1.toInt8.toInt32)), .val (.int (p2.toInt8.toInt32)), .val (.int (p3.toInt8.toInt32)), .unset, .unset] [(.ref b8)]))
      refine OGo.st (fun _ k => XS.dup X8.here hx rfl (hb hby at_39) rfl rfl k) ?_
      show OGo p e below s _ _ _ (T8.setTop (mkF m 40 #[.val (.int p0), .val (.int p1), .val (.int p2), .val (.int p3), .val (.int (1 : Int32)), .val (.int (p1.toInt8.toInt32)), .val (.int (p2.toInt8.toInt32)), .val (.int (p3.toInt8.toInt32)), .unset, .unset] [(.ref b8), (.ref b8)]))
      refine OGo.st (fun _ k => XS.iconst X8.here hx rfl (hb hby at_40) k) ?_
      show OGo p e below s _ _ _ (T8.setTop (mkF m 41 #[.val (.int p0), .val (.int p1), .val (.int p2), .val (.int p3), .val (.int (1 : Int32)), .val (.int (p1.toInt8.toInt32)), .val (.int (p2.toInt8.toInt32)), .val (.int (p3.toInt8.toInt32)), .unset, .unset] [(.int (0 : Int32)), (.ref b8), (.ref b8)]))
      refine OGo.st (fun _ k => XS.iload X8.here hx rfl (hb hby at_41) rfl k) ?_
      show OGo p e below s _ _ _ (T8.setTop (mkF m 43 #[.val (.int p0), .val (.int p1), .val (.int p2), .val (.int p3), .val (.int (1 : Int32)), .val (.int (p1.toInt8.toInt32)), .val (.int (p2.toInt8.toInt32)), .val (.int (p3.toInt8.toInt32)), .unset, .unset] [(.int (p1.toInt8.toInt32)), (.int (0 : Int32)), (.ref b8), (.ref b8)]))
      obtain ⟨cl9, Ar9, q9, Sz9, Nn9, Hs9, Gs9⟩ := id V_b8
      have hin9 : ¬ ((0 : Int32) < 0 ∨ cl9.slots.size ≤ ((0 : Int32)).toNatClampNeg) := inb_of Sz9 ⟨by decide, by decide⟩
      obtain ⟨T9, h9, X9, e9, W9, st9⟩ := stB X8 hx hZ e8 Ar9 (j := (0 : Int32)) hin9 (g := (mkF m 43 #[.val (.int p0), .val (.int p1), .val (.int p2), .val (.int p3), .val (.int (1 : Int32)), .val (.int (p1.toInt8.toInt32)), .val (.int (p2.toInt8.toInt32)), .val (.int (p3.toInt8.toInt32)), .unset, .unset] [(.int (p1.toInt8.toInt32)), (.int (0 : Int32)), (.ref b8), (.ref b8)])) rfl rfl (hb hby at_43)
      refine OGo.st st9 ?_
      have K9 : Keep h0 h9 [] := (K8).wr W9 (Or.inr sz_b8)
      have N9 := Fr.snoc X9 N0 g_b8
      have Z9 : n0 ≤ h9.size := Nat.le_trans Z8 (Keep.of_wr W9).1
      have V9 : Arv Z h9 b8 k8 .byte (1 : Int32) [(.int (nar .byte (p1.toInt8.toInt32)))] (.int (0 : Int32)) := Arv.set Ar9 q9 Sz9 Nn9 Hs9 Gs9 (fits_nar_byte _) W9 0 rfl (Nat.le_of_ble_eq_true rfl)
      show OGo p e below s _ _ _ (T9.setTop (mkF m 44 #[.val (.int p0), .val (.int p1), .val (.int p2), .val (.int p3), .val (.int (1 : Int32)), .val (.int (p1.toInt8.toInt32)), .val (.int (p2.toInt8.toInt32)), .val (.int (p3.toInt8.toInt32)), .unset, .unset] [(.ref b8)]))
      refine OGo.st (fun _ k => XS.astore X9.here hx rfl (hb hby at_44) rfl rfl (l' := #[.val (.int p0), .val (.int p1), .val (.int p2), .val (.int p3), .val (.int (1 : Int32)), .val (.int (p1.toInt8.toInt32)), .val (.int (p2.toInt8.toInt32)), .val (.int (p3.toInt8.toInt32)), .val (.ref b8), .unset]) rfl k) ?_
      show OGo p e below s _ _ _ (T9.setTop (mkF m 46 #[.val (.int p0), .val (.int p1), .val (.int p2), .val (.int p3), .val (.int (1 : Int32)), .val (.int (p1.toInt8.toInt32)), .val (.int (p2.toInt8.toInt32)), .val (.int (p3.toInt8.toInt32)), .val (.ref b8), .unset] []))
      refine OGo.st (fun _ k => XS.goto X9.here hx rfl (pc0 := 46) (pc' := 93) rfl (hb hby at_46) (by decide) (by decide) k) ?_
      show OGo p e below s _ _ _ (T9.setTop (mkF m 93 #[.val (.int p0), .val (.int p1), .val (.int p2), .val (.int p3), .val (.int (1 : Int32)), .val (.int (p1.toInt8.toInt32)), .val (.int (p2.toInt8.toInt32)), .val (.int (p3.toInt8.toInt32)), .val (.ref b8), .unset] []))
      refine OGo.st (fun _ k => XS.aload X9.here hx rfl (hb hby at_93) rfl rfl k) ?_
      show OGo p e below s _ _ _ (T9.setTop (mkF m 95 #[.val (.int p0), .val (.int p1), .val (.int p2), .val (.int p3), .val (.int (1 : Int32)), .val (.int (p1.toInt8.toInt32)), .val (.int (p2.toInt8.toInt32)), .val (.int (p3.toInt8.toInt32)), .val (.ref b8), .unset] [(.ref b8)]))
      obtain ⟨_, _, ⟨T10, L10, k10, n10⟩, -, X10, ⟨Lc10, hQ10, l10, y10, z10⟩, st10⟩ := Jvm.LawKit.callS X9 hx (y := (⟨"com/example/rows_over_order/rowsoverorder/TupleCodec", "rangeEnd", "([B)[B"⟩ : MethodName)) hown (mvT hZ (hw _ (List.mem_of_getElem? (i := 1) rfl))) (mvT hZ (hw _ (List.mem_of_getElem? (i := 2) rfl))) (mvT hZ (hw _ (List.mem_of_getElem? (i := 3) rfl))) (mvT hZ (hw _ (List.mem_of_getElem? (i := 4) rfl))) (by decide) (backOf (W := 0) (rm1L1 l Z a0 hw [] b8 k8 (nar .byte (p1.toInt8.toInt32)) h9 n0 Z9 V9) hZ (hw _ (List.mem_of_getElem? (i := 4) rfl)) (hw _ (List.mem_of_getElem? (i := 3) rfl)) (by decide) (by decide)) (g := (mkF m 95 #[.val (.int p0), .val (.int p1), .val (.int p2), .val (.int p3), .val (.int (1 : Int32)), .val (.int (p1.toInt8.toInt32)), .val (.int (p2.toInt8.toInt32)), .val (.int (p3.toInt8.toInt32)), .val (.ref b8), .unset] [(.ref b8)])) rfl (by rw [hml]; rfl) (argsL := [(.ref b8)]) (rest := []) (lenOf pd_0_0 rfl) rfl (by show 2 * 0 + _ ≤ _; exact Nat.le_of_eq rfl) (hb hby at_95) (fun _ _ => ⟨rfl, e9, (by decide : 1 + 1 ≤ _), (by decide : 1 + 2 ≤ _)⟩)
      dsimp only [Pt.U, Pt.locs, Pt.cells, Pt.slots] at X10 l10 y10 z10 st10 hQ10
      subst l10 y10 z10
      obtain ⟨b10, kk10, rfl, N10q, Kc10, szq10, g_b10, V10⟩ := hQ10
      have ne_b8_b10 : b8 ≠ b10 := Nat.ne_of_lt (Nat.lt_of_lt_of_le V9.lt szq10)
      have sz_b10 : h0.size ≤ b10 := Nat.le_trans (K9).1 szq10
      have V9_w10 := V9.keep Kc10 nin0
      have K10 : Keep h0 T10.heap [] := (K9).trans Kc10 all0
      have Z10 : n0 ≤ T10.heap.size := Nat.le_trans Z9 Kc10.1
      have V10 : Arv Z T10.heap b10 kk10 .byte (2 : Int32) [(.int (nar .byte (p1.toInt8.toInt32))), (.int (-1 : Int32))] (.int (0 : Int32)) := V10
      have N10 := Fr.app N9 N10q
      refine OGo.st st10 ?_
      show OGo p e below s _ _ _ (T10.setTop (mkF m 98 #[.val (.int p0), .val (.int p1), .val (.int p2), .val (.int p3), .val (.int (1 : Int32)), .val (.int (p1.toInt8.toInt32)), .val (.int (p2.toInt8.toInt32)), .val (.int (p3.toInt8.toInt32)), .val (.ref b8), .unset] [(.ref b10)]))
      refine OGo.st (fun _ k => XS.astore X10.here hx rfl (hb hby at_98) rfl rfl (l' := #[.val (.int p0), .val (.int p1), .val (.int p2), .val (.int p3), .val (.int (1 : Int32)), .val (.int (p1.toInt8.toInt32)), .val (.int (p2.toInt8.toInt32)), .val (.int (p3.toInt8.toInt32)), .val (.ref b8), .val (.ref b10)]) rfl k) ?_
      show OGo p e below s _ _ _ (T10.setTop (mkF m 100 #[.val (.int p0), .val (.int p1), .val (.int p2), .val (.int p3), .val (.int (1 : Int32)), .val (.int (p1.toInt8.toInt32)), .val (.int (p2.toInt8.toInt32)), .val (.int (p3.toInt8.toInt32)), .val (.ref b8), .val (.ref b10)] []))
      refine OGo.st (fun _ k => XS.aload X10.here hx rfl (hb hby at_100) rfl rfl k) ?_
      show OGo p e below s _ _ _ (T10.setTop (mkF m 102 #[.val (.int p0), .val (.int p1), .val (.int p2), .val (.int p3), .val (.int (1 : Int32)), .val (.int (p1.toInt8.toInt32)), .val (.int (p2.toInt8.toInt32)), .val (.int (p3.toInt8.toInt32)), .val (.ref b8), .val (.ref b10)] [(.ref b10)]))
      refine OGo.st (fun _ k => XS.ifnullNo X10.here hx rfl (hb hby at_102) rfl k) ?_
      show OGo p e below s _ _ _ (T10.setTop (mkF m 105 #[.val (.int p0), .val (.int p1), .val (.int p2), .val (.int p3), .val (.int (1 : Int32)), .val (.int (p1.toInt8.toInt32)), .val (.int (p2.toInt8.toInt32)), .val (.int (p3.toInt8.toInt32)), .val (.ref b8), .val (.ref b10)] []))
      refine OGo.st (fun _ k => XS.aload X10.here hx rfl (hb hby at_105) rfl rfl k) ?_
      show OGo p e below s _ _ _ (T10.setTop (mkF m 107 #[.val (.int p0), .val (.int p1), .val (.int p2), .val (.int p3), .val (.int (1 : Int32)), .val (.int (p1.toInt8.toInt32)), .val (.int (p2.toInt8.toInt32)), .val (.int (p3.toInt8.toInt32)), .val (.ref b8), .val (.ref b10)] [(.ref b10)]))
      refine OGo.st (fun _ k => XS.aload X10.here hx rfl (hb hby at_107) rfl rfl k) ?_
      show OGo p e below s _ _ _ (T10.setTop (mkF m 109 #[.val (.int p0), .val (.int p1), .val (.int p2), .val (.int p3), .val (.int (1 : Int32)), .val (.int (p1.toInt8.toInt32)), .val (.int (p2.toInt8.toInt32)), .val (.int (p3.toInt8.toInt32)), .val (.ref b8), .val (.ref b10)] [(.ref b8), (.ref b10)]))
      refine OGo.st (fun _ k => Jvm.RoadKit.acmp (g := (mkF m 109 #[.val (.int p0), .val (.int p1), .val (.int p2), .val (.int p3), .val (.int (1 : Int32)), .val (.int (p1.toInt8.toInt32)), .val (.int (p2.toInt8.toInt32)), .val (.int (p3.toInt8.toInt32)), .val (.ref b8), .val (.ref b10)] [(.ref b8), (.ref b10)])) X10 hx rfl rfl rfl (pc0 := 109) (pc' := 112) (same := false) rfl (hb hby at_109) rfl (decide_eq_false fun q => (Ne.symm ne_b8_b10) (Value.ref.inj q)) (by decide) (by decide) k) ?_
      show OGo p e below s _ _ _ (T10.setTop (mkF m 112 #[.val (.int p0), .val (.int p1), .val (.int p2), .val (.int p3), .val (.int (1 : Int32)), .val (.int (p1.toInt8.toInt32)), .val (.int (p2.toInt8.toInt32)), .val (.int (p3.toInt8.toInt32)), .val (.ref b8), .val (.ref b10)] []))
      refine OGo.st (fun _ k => XS.aload X10.here hx rfl (hb hby at_112) rfl rfl k) ?_
      show OGo p e below s _ _ _ (T10.setTop (mkF m 114 #[.val (.int p0), .val (.int p1), .val (.int p2), .val (.int p3), .val (.int (1 : Int32)), .val (.int (p1.toInt8.toInt32)), .val (.int (p2.toInt8.toInt32)), .val (.int (p3.toInt8.toInt32)), .val (.ref b8), .val (.ref b10)] [(.ref b10)]))
      obtain ⟨cl11, Ar11, -, Sz11, Nn11, -, -⟩ := id V10
      refine OGo.st (fun _ k => X10.arraylength hx Ar11.1 (State.isArrayOf_alike hZ.alike Ar11.2.1) (g := (mkF m 114 #[.val (.int p0), .val (.int p1), .val (.int p2), .val (.int p3), .val (.int (1 : Int32)), .val (.int (p1.toInt8.toInt32)), .val (.int (p2.toInt8.toInt32)), .val (.int (p3.toInt8.toInt32)), .val (.ref b8), .val (.ref b10)] [(.ref b10)])) rfl rfl (hb hby at_114) _ k) ?_
      rw [len_of Sz11 Nn11]
      show OGo p e below s _ _ _ (T10.setTop (mkF m 115 #[.val (.int p0), .val (.int p1), .val (.int p2), .val (.int p3), .val (.int (1 : Int32)), .val (.int (p1.toInt8.toInt32)), .val (.int (p2.toInt8.toInt32)), .val (.int (p3.toInt8.toInt32)), .val (.ref b8), .val (.ref b10)] [(.int (2 : Int32))]))
      refine OGo.st (fun _ k => XS.iload X10.here hx rfl (hb hby at_115) rfl k) ?_
      show OGo p e below s _ _ _ (T10.setTop (mkF m 117 #[.val (.int p0), .val (.int p1), .val (.int p2), .val (.int p3), .val (.int (1 : Int32)), .val (.int (p1.toInt8.toInt32)), .val (.int (p2.toInt8.toInt32)), .val (.int (p3.toInt8.toInt32)), .val (.ref b8), .val (.ref b10)] [(.int (1 : Int32)), (.int (2 : Int32))]))
      refine OGo.st (fun _ k => XS.iconst X10.here hx rfl (hb hby at_117) k) ?_
      show OGo p e below s _ _ _ (T10.setTop (mkF m 118 #[.val (.int p0), .val (.int p1), .val (.int p2), .val (.int p3), .val (.int (1 : Int32)), .val (.int (p1.toInt8.toInt32)), .val (.int (p2.toInt8.toInt32)), .val (.int (p3.toInt8.toInt32)), .val (.ref b8), .val (.ref b10)] [(.int (1 : Int32)), (.int (1 : Int32)), (.int (2 : Int32))]))
      refine OGo.st (fun _ k => XS.iadd X10.here hx rfl (hb hby at_118) rfl k) ?_
      rw [show ((1 : Int32) + (1 : Int32)) = (2 : Int32) from by decide]
      show OGo p e below s _ _ _ (T10.setTop (mkF m 119 #[.val (.int p0), .val (.int p1), .val (.int p2), .val (.int p3), .val (.int (1 : Int32)), .val (.int (p1.toInt8.toInt32)), .val (.int (p2.toInt8.toInt32)), .val (.int (p3.toInt8.toInt32)), .val (.ref b8), .val (.ref b10)] [(.int (2 : Int32)), (.int (2 : Int32))]))
      refine OGo.st (fun _ k => XS.icmpYes X10.here hx rfl (pc0 := 119) (pc' := 124) rfl (hb hby at_119) rfl (teq (by decide : (2 : Int32) = (2 : Int32))).1 (by decide) (by decide) k) ?_
      show OGo p e below s _ _ _ (T10.setTop (mkF m 124 #[.val (.int p0), .val (.int p1), .val (.int p2), .val (.int p3), .val (.int (1 : Int32)), .val (.int (p1.toInt8.toInt32)), .val (.int (p2.toInt8.toInt32)), .val (.int (p3.toInt8.toInt32)), .val (.ref b8), .val (.ref b10)] []))
      refine OGo.st (fun _ k => XS.aload X10.here hx rfl (hb hby at_124) rfl rfl k) ?_
      show OGo p e below s _ _ _ (T10.setTop (mkF m 126 #[.val (.int p0), .val (.int p1), .val (.int p2), .val (.int p3), .val (.int (1 : Int32)), .val (.int (p1.toInt8.toInt32)), .val (.int (p2.toInt8.toInt32)), .val (.int (p3.toInt8.toInt32)), .val (.ref b8), .val (.ref b10)] [(.ref b10)]))
      refine OGo.st (fun _ k => XS.iload X10.here hx rfl (hb hby at_126) rfl k) ?_
      show OGo p e below s _ _ _ (T10.setTop (mkF m 128 #[.val (.int p0), .val (.int p1), .val (.int p2), .val (.int p3), .val (.int (1 : Int32)), .val (.int (p1.toInt8.toInt32)), .val (.int (p2.toInt8.toInt32)), .val (.int (p3.toInt8.toInt32)), .val (.ref b8), .val (.ref b10)] [(.int (1 : Int32)), (.ref b10)]))
      refine OGo.st (fun _ k => XS.iload X10.here hx rfl (hb hby at_128) rfl k) ?_
      show OGo p e below s _ _ _ (T10.setTop (mkF m 130 #[.val (.int p0), .val (.int p1), .val (.int p2), .val (.int p3), .val (.int (1 : Int32)), .val (.int (p1.toInt8.toInt32)), .val (.int (p2.toInt8.toInt32)), .val (.int (p3.toInt8.toInt32)), .val (.ref b8), .val (.ref b10)] [(.int (p1.toInt8.toInt32)), (.int (1 : Int32)), (.ref b10)]))
      refine OGo.st (fun _ k => XS.iload X10.here hx rfl (hb hby at_130) rfl k) ?_
      show OGo p e below s _ _ _ (T10.setTop (mkF m 132 #[.val (.int p0), .val (.int p1), .val (.int p2), .val (.int p3), .val (.int (1 : Int32)), .val (.int (p1.toInt8.toInt32)), .val (.int (p2.toInt8.toInt32)), .val (.int (p3.toInt8.toInt32)), .val (.ref b8), .val (.ref b10)] [(.int (p2.toInt8.toInt32)), (.int (p1.toInt8.toInt32)), (.int (1 : Int32)), (.ref b10)]))
      refine OGo.st (fun _ k => XS.iload X10.here hx rfl (hb hby at_132) rfl k) ?_
      show OGo p e below s _ _ _ (T10.setTop (mkF m 134 #[.val (.int p0), .val (.int p1), .val (.int p2), .val (.int p3), .val (.int (1 : Int32)), .val (.int (p1.toInt8.toInt32)), .val (.int (p2.toInt8.toInt32)), .val (.int (p3.toInt8.toInt32)), .val (.ref b8), .val (.ref b10)] [(.int (p3.toInt8.toInt32)), (.int (p2.toInt8.toInt32)), (.int (p1.toInt8.toInt32)), (.int (1 : Int32)), (.ref b10)]))
      obtain ⟨_, _, ⟨T12, L12, k12, n12⟩, -, X12, ⟨Lc12, hQ12, l12, y12, z12⟩, st12⟩ := Jvm.LawKit.callS X10 hx (y := (⟨"com/example/rows_over_order/rowsoverorder/TupleCodecRangeEndPinLaw", "matches", "([BIBBB)Z"⟩ : MethodName)) hown (mvT hZ (hw _ (List.mem_of_getElem? (i := 17) rfl))) (mvT hZ (hw _ (List.mem_of_getElem? (i := 18) rfl))) (mvT hZ (hw _ (List.mem_of_getElem? (i := 19) rfl))) (mvT hZ (hw _ (List.mem_of_getElem? (i := 20) rfl))) (by decide) (backOf (W := 0) (rm4L21 l Z a0 hw [] b10 (p1.toInt8.toInt32) (p2.toInt8.toInt32) (p3.toInt8.toInt32) kk10 (nar .byte (p1.toInt8.toInt32)) (-1 : Int32) T10.heap n0 Z10 V10) hZ (hw _ (List.mem_of_getElem? (i := 20) rfl)) (hw _ (List.mem_of_getElem? (i := 19) rfl)) (by decide) (by decide)) (g := (mkF m 134 #[.val (.int p0), .val (.int p1), .val (.int p2), .val (.int p3), .val (.int (1 : Int32)), .val (.int (p1.toInt8.toInt32)), .val (.int (p2.toInt8.toInt32)), .val (.int (p3.toInt8.toInt32)), .val (.ref b8), .val (.ref b10)] [(.int (p3.toInt8.toInt32)), (.int (p2.toInt8.toInt32)), (.int (p1.toInt8.toInt32)), (.int (1 : Int32)), (.ref b10)])) rfl (by rw [hml]; rfl) (argsL := [(.ref b10), (.int (1 : Int32)), (.int (p1.toInt8.toInt32)), (.int (p2.toInt8.toInt32)), (.int (p3.toInt8.toInt32))]) (rest := []) (lenOf pd_0_1 rfl) rfl (by show 2 * 0 + _ ≤ _; exact Nat.le_of_eq rfl) (hb hby at_134) (fun _ _ => ⟨rfl, rfl, (by decide : 2 + 0 ≤ _), (by decide : 3 + 0 ≤ _)⟩)
      dsimp only [Pt.U, Pt.locs, Pt.cells, Pt.slots] at X12 l12 y12 z12 st12 hQ12
      subst l12 y12 z12
      obtain ⟨rfl, N12q, e12⟩ := hQ12
      have N12 := Fr.app N10 N12q
      refine OGo.st st12 ?_
      show OGo p e below s _ _ _ (T12.setTop (mkF m 137 #[.val (.int p0), .val (.int p1), .val (.int p2), .val (.int p3), .val (.int (1 : Int32)), .val (.int (p1.toInt8.toInt32)), .val (.int (p2.toInt8.toInt32)), .val (.int (p3.toInt8.toInt32)), .val (.ref b8), .val (.ref b10)] [(.int (f4L21 (p1.toInt8.toInt32) (nar .byte (p1.toInt8.toInt32))))]))
      by_cases hc137 : (f4L21 (p1.toInt8.toInt32) (nar .byte (p1.toInt8.toInt32))) = (0 : Int32)
      · refine OGo.st (fun _ k => XS.ifNo X12.here hx rfl (hb hby at_137) rfl ((if0 _ _).trans (teq hc137).2) k) ?_
        show OGo p e below s _ _ _ (T12.setTop (mkF m 140 #[.val (.int p0), .val (.int p1), .val (.int p2), .val (.int p3), .val (.int (1 : Int32)), .val (.int (p1.toInt8.toInt32)), .val (.int (p2.toInt8.toInt32)), .val (.int (p3.toInt8.toInt32)), .val (.ref b8), .val (.ref b10)] []))
        refine OGo.st (fun _ k => XS.iconst X12.here hx rfl (hb hby at_140) k) ?_
        show OGo p e below s _ _ _ (T12.setTop (mkF m 141 #[.val (.int p0), .val (.int p1), .val (.int p2), .val (.int p3), .val (.int (1 : Int32)), .val (.int (p1.toInt8.toInt32)), .val (.int (p2.toInt8.toInt32)), .val (.int (p3.toInt8.toInt32)), .val (.ref b8), .val (.ref b10)] [(.int (0 : Int32))]))
        exact oretN X12 hx Bd.notSynchronized (t := .boolean) Bd.returns (by simp) (hb hby at_141) (z' := (0 : Int32)) (by decide) e12 ⟨(congrArg (fun z => some (Value.int z)) (show (0 : Int32) = f0 p0 p1 p2 p3 from Eq.symm (by unfold f0; exact (if_neg hc5).trans ((if_pos hc5_2).trans (if_pos hc137))))), N12⟩ (by decide) (by decide)
      · refine OGo.st (fun _ k => XS.ifYes X12.here hx rfl (pc0 := 137) (pc' := 142) rfl (hb hby at_137) rfl ((if0 _ _).trans (feq hc137).2) (by decide) (by decide) k) ?_
        show OGo p e below s _ _ _ (T12.setTop (mkF m 142 #[.val (.int p0), .val (.int p1), .val (.int p2), .val (.int p3), .val (.int (1 : Int32)), .val (.int (p1.toInt8.toInt32)), .val (.int (p2.toInt8.toInt32)), .val (.int (p3.toInt8.toInt32)), .val (.ref b8), .val (.ref b10)] []))
        refine OGo.st (fun _ k => XS.aload X12.here hx rfl (hb hby at_142) rfl rfl k) ?_
        show OGo p e below s _ _ _ (T12.setTop (mkF m 144 #[.val (.int p0), .val (.int p1), .val (.int p2), .val (.int p3), .val (.int (1 : Int32)), .val (.int (p1.toInt8.toInt32)), .val (.int (p2.toInt8.toInt32)), .val (.int (p3.toInt8.toInt32)), .val (.ref b8), .val (.ref b10)] [(.ref b10)]))
        refine OGo.st (fun _ k => XS.iload X12.here hx rfl (hb hby at_144) rfl k) ?_
        show OGo p e below s _ _ _ (T12.setTop (mkF m 146 #[.val (.int p0), .val (.int p1), .val (.int p2), .val (.int p3), .val (.int (1 : Int32)), .val (.int (p1.toInt8.toInt32)), .val (.int (p2.toInt8.toInt32)), .val (.int (p3.toInt8.toInt32)), .val (.ref b8), .val (.ref b10)] [(.int (1 : Int32)), (.ref b10)]))
        obtain ⟨cl13, Ar13, q13, Sz13, Nn13, Hs13, Gs13⟩ := id V10
        have hin13 : ¬ ((1 : Int32) < 0 ∨ cl13.slots.size ≤ ((1 : Int32)).toNatClampNeg) := inb_of Sz13 ⟨by decide, by decide⟩
        have hat13 : cl13.slots[((1 : Int32)).toNatClampNeg]? = some (.int (-1 : Int32)) := Hs13.at hin13 rfl
        refine OGo.st (fun _ k => X12.baloadBytes hx (j := (1 : Int32)) (v := (.int (-1 : Int32))) (by rw [e12]; exact Ar13.1) (State.isArrayOf_alike hZ.alike Ar13.2.1) Ar13.2.2 hin13 hat13 (g := (mkF m 146 #[.val (.int p0), .val (.int p1), .val (.int p2), .val (.int p3), .val (.int (1 : Int32)), .val (.int (p1.toInt8.toInt32)), .val (.int (p2.toInt8.toInt32)), .val (.int (p3.toInt8.toInt32)), .val (.ref b8), .val (.ref b10)] [(.int (1 : Int32)), (.ref b10)])) rfl rfl (hb hby at_146) _ k) ?_
        show OGo p e below s _ _ _ (T12.setTop (mkF m 147 #[.val (.int p0), .val (.int p1), .val (.int p2), .val (.int p3), .val (.int (1 : Int32)), .val (.int (p1.toInt8.toInt32)), .val (.int (p2.toInt8.toInt32)), .val (.int (p3.toInt8.toInt32)), .val (.ref b8), .val (.ref b10)] [(.int (-1 : Int32))]))
        refine OGo.st (fun _ k => XS.iconst X12.here hx rfl (hb hby at_147) k) ?_
        show OGo p e below s _ _ _ (T12.setTop (mkF m 148 #[.val (.int p0), .val (.int p1), .val (.int p2), .val (.int p3), .val (.int (1 : Int32)), .val (.int (p1.toInt8.toInt32)), .val (.int (p2.toInt8.toInt32)), .val (.int (p3.toInt8.toInt32)), .val (.ref b8), .val (.ref b10)] [(.int (-1 : Int32)), (.int (-1 : Int32))]))
        refine OGo.st (fun _ k => XS.icmpYes X12.here hx rfl (pc0 := 148) (pc' := 153) rfl (hb hby at_148) rfl (teq (by decide : (-1 : Int32) = (-1 : Int32))).1 (by decide) (by decide) k) ?_
        show OGo p e below s _ _ _ (T12.setTop (mkF m 153 #[.val (.int p0), .val (.int p1), .val (.int p2), .val (.int p3), .val (.int (1 : Int32)), .val (.int (p1.toInt8.toInt32)), .val (.int (p2.toInt8.toInt32)), .val (.int (p3.toInt8.toInt32)), .val (.ref b8), .val (.ref b10)] []))
        refine OGo.st (fun _ k => XS.aload X12.here hx rfl (hb hby at_153) rfl rfl k) ?_
        show OGo p e below s _ _ _ (T12.setTop (mkF m 155 #[.val (.int p0), .val (.int p1), .val (.int p2), .val (.int p3), .val (.int (1 : Int32)), .val (.int (p1.toInt8.toInt32)), .val (.int (p2.toInt8.toInt32)), .val (.int (p3.toInt8.toInt32)), .val (.ref b8), .val (.ref b10)] [(.ref b8)]))
        obtain ⟨cl14, Ar14, -, Sz14, Nn14, -, -⟩ := id V9_w10
        refine OGo.st (fun _ k => X12.arraylength hx (by rw [e12]; exact Ar14.1) (State.isArrayOf_alike hZ.alike Ar14.2.1) (g := (mkF m 155 #[.val (.int p0), .val (.int p1), .val (.int p2), .val (.int p3), .val (.int (1 : Int32)), .val (.int (p1.toInt8.toInt32)), .val (.int (p2.toInt8.toInt32)), .val (.int (p3.toInt8.toInt32)), .val (.ref b8), .val (.ref b10)] [(.ref b8)])) rfl rfl (hb hby at_155) _ k) ?_
        rw [len_of Sz14 Nn14]
        show OGo p e below s _ _ _ (T12.setTop (mkF m 156 #[.val (.int p0), .val (.int p1), .val (.int p2), .val (.int p3), .val (.int (1 : Int32)), .val (.int (p1.toInt8.toInt32)), .val (.int (p2.toInt8.toInt32)), .val (.int (p3.toInt8.toInt32)), .val (.ref b8), .val (.ref b10)] [(.int (1 : Int32))]))
        refine OGo.st (fun _ k => XS.iload X12.here hx rfl (hb hby at_156) rfl k) ?_
        show OGo p e below s _ _ _ (T12.setTop (mkF m 158 #[.val (.int p0), .val (.int p1), .val (.int p2), .val (.int p3), .val (.int (1 : Int32)), .val (.int (p1.toInt8.toInt32)), .val (.int (p2.toInt8.toInt32)), .val (.int (p3.toInt8.toInt32)), .val (.ref b8), .val (.ref b10)] [(.int (1 : Int32)), (.int (1 : Int32))]))
        refine OGo.st (fun _ k => XS.icmpNo X12.here hx rfl (hb hby at_158) rfl (teq (by decide : (1 : Int32) = (1 : Int32))).2 k) ?_
        show OGo p e below s _ _ _ (T12.setTop (mkF m 161 #[.val (.int p0), .val (.int p1), .val (.int p2), .val (.int p3), .val (.int (1 : Int32)), .val (.int (p1.toInt8.toInt32)), .val (.int (p2.toInt8.toInt32)), .val (.int (p3.toInt8.toInt32)), .val (.ref b8), .val (.ref b10)] []))
        refine OGo.st (fun _ k => XS.aload X12.here hx rfl (hb hby at_161) rfl rfl k) ?_
        show OGo p e below s _ _ _ (T12.setTop (mkF m 163 #[.val (.int p0), .val (.int p1), .val (.int p2), .val (.int p3), .val (.int (1 : Int32)), .val (.int (p1.toInt8.toInt32)), .val (.int (p2.toInt8.toInt32)), .val (.int (p3.toInt8.toInt32)), .val (.ref b8), .val (.ref b10)] [(.ref b8)]))
        refine OGo.st (fun _ k => XS.iload X12.here hx rfl (hb hby at_163) rfl k) ?_
        show OGo p e below s _ _ _ (T12.setTop (mkF m 165 #[.val (.int p0), .val (.int p1), .val (.int p2), .val (.int p3), .val (.int (1 : Int32)), .val (.int (p1.toInt8.toInt32)), .val (.int (p2.toInt8.toInt32)), .val (.int (p3.toInt8.toInt32)), .val (.ref b8), .val (.ref b10)] [(.int (1 : Int32)), (.ref b8)]))
        refine OGo.st (fun _ k => XS.iload X12.here hx rfl (hb hby at_165) rfl k) ?_
        show OGo p e below s _ _ _ (T12.setTop (mkF m 167 #[.val (.int p0), .val (.int p1), .val (.int p2), .val (.int p3), .val (.int (1 : Int32)), .val (.int (p1.toInt8.toInt32)), .val (.int (p2.toInt8.toInt32)), .val (.int (p3.toInt8.toInt32)), .val (.ref b8), .val (.ref b10)] [(.int (p1.toInt8.toInt32)), (.int (1 : Int32)), (.ref b8)]))
        refine OGo.st (fun _ k => XS.iload X12.here hx rfl (hb hby at_167) rfl k) ?_
        show OGo p e below s _ _ _ (T12.setTop (mkF m 169 #[.val (.int p0), .val (.int p1), .val (.int p2), .val (.int p3), .val (.int (1 : Int32)), .val (.int (p1.toInt8.toInt32)), .val (.int (p2.toInt8.toInt32)), .val (.int (p3.toInt8.toInt32)), .val (.ref b8), .val (.ref b10)] [(.int (p2.toInt8.toInt32)), (.int (p1.toInt8.toInt32)), (.int (1 : Int32)), (.ref b8)]))
        refine OGo.st (fun _ k => XS.iload X12.here hx rfl (hb hby at_169) rfl k) ?_
        show OGo p e below s _ _ _ (T12.setTop (mkF m 171 #[.val (.int p0), .val (.int p1), .val (.int p2), .val (.int p3), .val (.int (1 : Int32)), .val (.int (p1.toInt8.toInt32)), .val (.int (p2.toInt8.toInt32)), .val (.int (p3.toInt8.toInt32)), .val (.ref b8), .val (.ref b10)] [(.int (p3.toInt8.toInt32)), (.int (p2.toInt8.toInt32)), (.int (p1.toInt8.toInt32)), (.int (1 : Int32)), (.ref b8)]))
        obtain ⟨_, _, ⟨T15, L15, k15, n15⟩, -, X15, ⟨Lc15, hQ15, l15, y15, z15⟩, st15⟩ := Jvm.LawKit.callS X12 hx (y := (⟨"com/example/rows_over_order/rowsoverorder/TupleCodecRangeEndPinLaw", "matches", "([BIBBB)Z"⟩ : MethodName)) hown (mvT hZ (hw _ (List.mem_of_getElem? (i := 17) rfl))) (mvT hZ (hw _ (List.mem_of_getElem? (i := 18) rfl))) (mvT hZ (hw _ (List.mem_of_getElem? (i := 19) rfl))) (mvT hZ (hw _ (List.mem_of_getElem? (i := 20) rfl))) (by decide) (backOf (W := 0) (rm4L11 l Z a0 hw [] b8 (p1.toInt8.toInt32) (p2.toInt8.toInt32) (p3.toInt8.toInt32) k8 (nar .byte (p1.toInt8.toInt32)) T10.heap n0 Z10 V9_w10) hZ (hw _ (List.mem_of_getElem? (i := 20) rfl)) (hw _ (List.mem_of_getElem? (i := 19) rfl)) (by decide) (by decide)) (g := (mkF m 171 #[.val (.int p0), .val (.int p1), .val (.int p2), .val (.int p3), .val (.int (1 : Int32)), .val (.int (p1.toInt8.toInt32)), .val (.int (p2.toInt8.toInt32)), .val (.int (p3.toInt8.toInt32)), .val (.ref b8), .val (.ref b10)] [(.int (p3.toInt8.toInt32)), (.int (p2.toInt8.toInt32)), (.int (p1.toInt8.toInt32)), (.int (1 : Int32)), (.ref b8)])) rfl (by rw [hml]; rfl) (argsL := [(.ref b8), (.int (1 : Int32)), (.int (p1.toInt8.toInt32)), (.int (p2.toInt8.toInt32)), (.int (p3.toInt8.toInt32))]) (rest := []) (lenOf pd_0_1 rfl) rfl (by show 2 * 0 + _ ≤ _; exact Nat.le_of_eq rfl) (hb hby at_171) (fun _ _ => ⟨rfl, e12, (by decide : 2 + 0 ≤ _), (by decide : 3 + 0 ≤ _)⟩)
        dsimp only [Pt.U, Pt.locs, Pt.cells, Pt.slots] at X15 l15 y15 z15 st15 hQ15
        subst l15 y15 z15
        obtain ⟨rfl, N15q, e15⟩ := hQ15
        have N15 := Fr.app N12 N15q
        refine OGo.st st15 ?_
        show OGo p e below s _ _ _ (T15.setTop (mkF m 174 #[.val (.int p0), .val (.int p1), .val (.int p2), .val (.int p3), .val (.int (1 : Int32)), .val (.int (p1.toInt8.toInt32)), .val (.int (p2.toInt8.toInt32)), .val (.int (p3.toInt8.toInt32)), .val (.ref b8), .val (.ref b10)] [(.int (f4L11 (p1.toInt8.toInt32) (nar .byte (p1.toInt8.toInt32))))]))
        by_cases hc174 : (f4L11 (p1.toInt8.toInt32) (nar .byte (p1.toInt8.toInt32))) = (0 : Int32)
        · refine OGo.st (fun _ k => XS.ifYes X15.here hx rfl (pc0 := 174) (pc' := 181) rfl (hb hby at_174) rfl ((if0 _ _).trans (teq hc174).1) (by decide) (by decide) k) ?_
          show OGo p e below s _ _ _ (T15.setTop (mkF m 181 #[.val (.int p0), .val (.int p1), .val (.int p2), .val (.int p3), .val (.int (1 : Int32)), .val (.int (p1.toInt8.toInt32)), .val (.int (p2.toInt8.toInt32)), .val (.int (p3.toInt8.toInt32)), .val (.ref b8), .val (.ref b10)] []))
          refine OGo.st (fun _ k => XS.iconst X15.here hx rfl (hb hby at_181) k) ?_
          show OGo p e below s _ _ _ (T15.setTop (mkF m 182 #[.val (.int p0), .val (.int p1), .val (.int p2), .val (.int p3), .val (.int (1 : Int32)), .val (.int (p1.toInt8.toInt32)), .val (.int (p2.toInt8.toInt32)), .val (.int (p3.toInt8.toInt32)), .val (.ref b8), .val (.ref b10)] [(.int (0 : Int32))]))
          exact oretN X15 hx Bd.notSynchronized (t := .boolean) Bd.returns (by simp) (hb hby at_182) (z' := (0 : Int32)) (by decide) e15 ⟨(congrArg (fun z => some (Value.int z)) (show (0 : Int32) = f0 p0 p1 p2 p3 from Eq.symm (by unfold f0; exact (if_neg hc5).trans ((if_pos hc5_2).trans ((if_neg hc137).trans (if_pos hc174)))))), N15⟩ (by decide) (by decide)
        · refine OGo.st (fun _ k => XS.ifNo X15.here hx rfl (hb hby at_174) rfl ((if0 _ _).trans (feq hc174).1) k) ?_
          show OGo p e below s _ _ _ (T15.setTop (mkF m 177 #[.val (.int p0), .val (.int p1), .val (.int p2), .val (.int p3), .val (.int (1 : Int32)), .val (.int (p1.toInt8.toInt32)), .val (.int (p2.toInt8.toInt32)), .val (.int (p3.toInt8.toInt32)), .val (.ref b8), .val (.ref b10)] []))
          refine OGo.st (fun _ k => XS.iconst X15.here hx rfl (hb hby at_177) k) ?_
          show OGo p e below s _ _ _ (T15.setTop (mkF m 178 #[.val (.int p0), .val (.int p1), .val (.int p2), .val (.int p3), .val (.int (1 : Int32)), .val (.int (p1.toInt8.toInt32)), .val (.int (p2.toInt8.toInt32)), .val (.int (p3.toInt8.toInt32)), .val (.ref b8), .val (.ref b10)] [(.int (1 : Int32))]))
          refine OGo.st (fun _ k => XS.goto X15.here hx rfl (pc0 := 178) (pc' := 182) rfl (hb hby at_178) (by decide) (by decide) k) ?_
          show OGo p e below s _ _ _ (T15.setTop (mkF m 182 #[.val (.int p0), .val (.int p1), .val (.int p2), .val (.int p3), .val (.int (1 : Int32)), .val (.int (p1.toInt8.toInt32)), .val (.int (p2.toInt8.toInt32)), .val (.int (p3.toInt8.toInt32)), .val (.ref b8), .val (.ref b10)] [(.int (1 : Int32))]))
          exact oretN X15 hx Bd.notSynchronized (t := .boolean) Bd.returns (by simp) (hb hby at_182) (z' := (1 : Int32)) (by decide) e15 ⟨(congrArg (fun z => some (Value.int z)) (show (1 : Int32) = f0 p0 p1 p2 p3 from Eq.symm (by unfold f0; exact (if_neg hc5).trans ((if_pos hc5_2).trans ((if_neg hc137).trans (if_neg hc174)))))), N15⟩ (by decide) (by decide)
    · by_cases hc5_3 : (p0 &&& (3 : Int32)) = (2 : Int32)
      · rw [hc5_3]
        show OGo p e below s _ _ _ (s₁.setTop (mkF m 5 #[.val (.int p0), .val (.int p1), .val (.int p2), .val (.int p3), .val (.int (2 : Int32)), .unset, .unset, .unset, .unset, .unset] []))
        refine OGo.st (fun _ k => XS.iloadN X0.here hx rfl (hb hby at_5) rfl k) ?_
        show OGo p e below s _ _ _ (s₁.setTop (mkF m 6 #[.val (.int p0), .val (.int p1), .val (.int p2), .val (.int p3), .val (.int (2 : Int32)), .unset, .unset, .unset, .unset, .unset] [(.int p1)]))
        refine OGo.st (fun _ k => XS.i2b X0.here hx rfl (hb hby at_6) rfl k) ?_
        show OGo p e below s _ _ _ (s₁.setTop (mkF m 7 #[.val (.int p0), .val (.int p1), .val (.int p2), .val (.int p3), .val (.int (2 : Int32)), .unset, .unset, .unset, .unset, .unset] [(.int (p1.toInt8.toInt32))]))
        refine OGo.st (fun _ k => XS.istore X0.here hx rfl (hb hby at_7) rfl (l' := #[.val (.int p0), .val (.int p1), .val (.int p2), .val (.int p3), .val (.int (2 : Int32)), .val (.int (p1.toInt8.toInt32)), .unset, .unset, .unset, .unset]) rfl k) ?_
        show OGo p e below s _ _ _ (s₁.setTop (mkF m 9 #[.val (.int p0), .val (.int p1), .val (.int p2), .val (.int p3), .val (.int (2 : Int32)), .val (.int (p1.toInt8.toInt32)), .unset, .unset, .unset, .unset] []))
        refine OGo.st (fun _ k => XS.iloadN X0.here hx rfl (hb hby at_9) rfl k) ?_
        show OGo p e below s _ _ _ (s₁.setTop (mkF m 10 #[.val (.int p0), .val (.int p1), .val (.int p2), .val (.int p3), .val (.int (2 : Int32)), .val (.int (p1.toInt8.toInt32)), .unset, .unset, .unset, .unset] [(.int p2)]))
        refine OGo.st (fun _ k => XS.i2b X0.here hx rfl (hb hby at_10) rfl k) ?_
        show OGo p e below s _ _ _ (s₁.setTop (mkF m 11 #[.val (.int p0), .val (.int p1), .val (.int p2), .val (.int p3), .val (.int (2 : Int32)), .val (.int (p1.toInt8.toInt32)), .unset, .unset, .unset, .unset] [(.int (p2.toInt8.toInt32))]))
        refine OGo.st (fun _ k => XS.istore X0.here hx rfl (hb hby at_11) rfl (l' := #[.val (.int p0), .val (.int p1), .val (.int p2), .val (.int p3), .val (.int (2 : Int32)), .val (.int (p1.toInt8.toInt32)), .val (.int (p2.toInt8.toInt32)), .unset, .unset, .unset]) rfl k) ?_
        show OGo p e below s _ _ _ (s₁.setTop (mkF m 13 #[.val (.int p0), .val (.int p1), .val (.int p2), .val (.int p3), .val (.int (2 : Int32)), .val (.int (p1.toInt8.toInt32)), .val (.int (p2.toInt8.toInt32)), .unset, .unset, .unset] []))
        refine OGo.st (fun _ k => XS.iloadN X0.here hx rfl (hb hby at_13) rfl k) ?_
        show OGo p e below s _ _ _ (s₁.setTop (mkF m 14 #[.val (.int p0), .val (.int p1), .val (.int p2), .val (.int p3), .val (.int (2 : Int32)), .val (.int (p1.toInt8.toInt32)), .val (.int (p2.toInt8.toInt32)), .unset, .unset, .unset] [(.int p3)]))
        refine OGo.st (fun _ k => XS.i2b X0.here hx rfl (hb hby at_14) rfl k) ?_
        show OGo p e below s _ _ _ (s₁.setTop (mkF m 15 #[.val (.int p0), .val (.int p1), .val (.int p2), .val (.int p3), .val (.int (2 : Int32)), .val (.int (p1.toInt8.toInt32)), .val (.int (p2.toInt8.toInt32)), .unset, .unset, .unset] [(.int (p3.toInt8.toInt32))]))
        refine OGo.st (fun _ k => XS.istore X0.here hx rfl (hb hby at_15) rfl (l' := #[.val (.int p0), .val (.int p1), .val (.int p2), .val (.int p3), .val (.int (2 : Int32)), .val (.int (p1.toInt8.toInt32)), .val (.int (p2.toInt8.toInt32)), .val (.int (p3.toInt8.toInt32)), .unset, .unset]) rfl k) ?_
        show OGo p e below s _ _ _ (s₁.setTop (mkF m 17 #[.val (.int p0), .val (.int p1), .val (.int p2), .val (.int p3), .val (.int (2 : Int32)), .val (.int (p1.toInt8.toInt32)), .val (.int (p2.toInt8.toInt32)), .val (.int (p3.toInt8.toInt32)), .unset, .unset] []))
        refine OGo.st (fun _ k => XS.iload X0.here hx rfl (hb hby at_17) rfl k) ?_
        show OGo p e below s _ _ _ (s₁.setTop (mkF m 19 #[.val (.int p0), .val (.int p1), .val (.int p2), .val (.int p3), .val (.int (2 : Int32)), .val (.int (p1.toInt8.toInt32)), .val (.int (p2.toInt8.toInt32)), .val (.int (p3.toInt8.toInt32)), .unset, .unset] [(.int (2 : Int32))]))
        refine OGo.st (fun _ k => XS.ifYes X0.here hx rfl (pc0 := 19) (pc' := 30) rfl (hb hby at_19) rfl ((if0 _ _).trans (feq (by decide : ¬ ((2 : Int32) = (0 : Int32)))).2) (by decide) (by decide) k) ?_
        show OGo p e below s _ _ _ (s₁.setTop (mkF m 30 #[.val (.int p0), .val (.int p1), .val (.int p2), .val (.int p3), .val (.int (2 : Int32)), .val (.int (p1.toInt8.toInt32)), .val (.int (p2.toInt8.toInt32)), .val (.int (p3.toInt8.toInt32)), .unset, .unset] []))
        refine OGo.st (fun _ k => XS.iload X0.here hx rfl (hb hby at_30) rfl k) ?_
        show OGo p e below s _ _ _ (s₁.setTop (mkF m 32 #[.val (.int p0), .val (.int p1), .val (.int p2), .val (.int p3), .val (.int (2 : Int32)), .val (.int (p1.toInt8.toInt32)), .val (.int (p2.toInt8.toInt32)), .val (.int (p3.toInt8.toInt32)), .unset, .unset] [(.int (2 : Int32))]))
        refine OGo.st (fun _ k => XS.iconst X0.here hx rfl (hb hby at_32) k) ?_
        show OGo p e below s _ _ _ (s₁.setTop (mkF m 33 #[.val (.int p0), .val (.int p1), .val (.int p2), .val (.int p3), .val (.int (2 : Int32)), .val (.int (p1.toInt8.toInt32)), .val (.int (p2.toInt8.toInt32)), .val (.int (p3.toInt8.toInt32)), .unset, .unset] [(.int (1 : Int32)), (.int (2 : Int32))]))
        refine OGo.st (fun _ k => XS.icmpYes X0.here hx rfl (pc0 := 33) (pc' := 49) rfl (hb hby at_33) rfl (feq (by decide : ¬ ((2 : Int32) = (1 : Int32)))).2 (by decide) (by decide) k) ?_
        show OGo p e below s _ _ _ (s₁.setTop (mkF m 49 #[.val (.int p0), .val (.int p1), .val (.int p2), .val (.int p3), .val (.int (2 : Int32)), .val (.int (p1.toInt8.toInt32)), .val (.int (p2.toInt8.toInt32)), .val (.int (p3.toInt8.toInt32)), .unset, .unset] []))
        refine OGo.st (fun _ k => XS.iload X0.here hx rfl (hb hby at_49) rfl k) ?_
        show OGo p e below s _ _ _ (s₁.setTop (mkF m 51 #[.val (.int p0), .val (.int p1), .val (.int p2), .val (.int p3), .val (.int (2 : Int32)), .val (.int (p1.toInt8.toInt32)), .val (.int (p2.toInt8.toInt32)), .val (.int (p3.toInt8.toInt32)), .unset, .unset] [(.int (2 : Int32))]))
        refine OGo.st (fun _ k => XS.iconst X0.here hx rfl (hb hby at_51) k) ?_
        show OGo p e below s _ _ _ (s₁.setTop (mkF m 52 #[.val (.int p0), .val (.int p1), .val (.int p2), .val (.int p3), .val (.int (2 : Int32)), .val (.int (p1.toInt8.toInt32)), .val (.int (p2.toInt8.toInt32)), .val (.int (p3.toInt8.toInt32)), .unset, .unset] [(.int (2 : Int32)), (.int (2 : Int32))]))
        refine OGo.st (fun _ k => XS.icmpNo X0.here hx rfl (hb hby at_52) rfl (teq (by decide : (2 : Int32) = (2 : Int32))).2 k) ?_
        show OGo p e below s _ _ _ (s₁.setTop (mkF m 55 #[.val (.int p0), .val (.int p1), .val (.int p2), .val (.int p3), .val (.int (2 : Int32)), .val (.int (p1.toInt8.toInt32)), .val (.int (p2.toInt8.toInt32)), .val (.int (p3.toInt8.toInt32)), .unset, .unset] []))
        refine OGo.st (fun _ k => XS.iconst X0.here hx rfl (hb hby at_55) k) ?_
        show OGo p e below s _ _ _ (s₁.setTop (mkF m 56 #[.val (.int p0), .val (.int p1), .val (.int p2), .val (.int p3), .val (.int (2 : Int32)), .val (.int (p1.toInt8.toInt32)), .val (.int (p2.toInt8.toInt32)), .val (.int (p3.toInt8.toInt32)), .unset, .unset] [(.int (2 : Int32))]))
        obtain ⟨T16, h16, k16, X16, e16, E16, A16, st16⟩ := newP X0 hx hZ (hw _ (List.mem_of_getElem? (i := 0) rfl)) e0 (g := (mkF m 56 #[.val (.int p0), .val (.int p1), .val (.int p2), .val (.int p3), .val (.int (2 : Int32)), .val (.int (p1.toInt8.toInt32)), .val (.int (p2.toInt8.toInt32)), .val (.int (p3.toInt8.toInt32)), .unset, .unset] [(.int (2 : Int32))])) rfl (hb hby at_56) rfl (by decide) (cap := 2) (by decide) (by decide) (by decide) (by decide)
        obtain ⟨b16, g16⟩ : ∃ z, z = h0.size := ⟨_, rfl⟩
        rw [← g16] at A16 st16
        refine OGo.st st16 ?_
        have g_b16 : n0 ≤ b16 := Nat.le_trans Z0 (Nat.le_of_eq g16.symm)
        have sz_b16 : h0.size ≤ b16 := Nat.le_trans (Keep.refl h0 []).1 (Nat.le_of_eq g16.symm)
        have K16 : Keep h0 h16 [] := (Keep.refl h0 _).ext E16
        have Z16 : n0 ≤ h16.size := Nat.le_trans Z0 E16.1
        have V_b16 : Arv Z h16 b16 k16 .byte (2 : Int32) [(.int (0 : Int32)), (.int (0 : Int32))] (.int (0 : Int32)) := (Arv.new A16 (by decide)).pad (pad_rep [] (.int (0 : Int32)) 2)
        show OGo p e below s _ _ _ (T16.setTop (mkF m 58 #[.val (.int p0), .val (.int p1), .val (.int p2), .val (.int p3), .val (.int (2 : Int32)), .val (.int (p1.toInt8.toInt32)), .val (.int (p2.toInt8.toInt32)), .val (.int (p3.toInt8.toInt32)), .unset, .unset] [(.ref b16)]))
        refine OGo.st (fun _ k => XS.dup X16.here hx rfl (hb hby at_58) rfl rfl k) ?_
        show OGo p e below s _ _ _ (T16.setTop (mkF m 59 #[.val (.int p0), .val (.int p1), .val (.int p2), .val (.int p3), .val (.int (2 : Int32)), .val (.int (p1.toInt8.toInt32)), .val (.int (p2.toInt8.toInt32)), .val (.int (p3.toInt8.toInt32)), .unset, .unset] [(.ref b16), (.ref b16)]))
        refine OGo.st (fun _ k => XS.iconst X16.here hx rfl (hb hby at_59) k) ?_
        show OGo p e below s _ _ _ (T16.setTop (mkF m 60 #[.val (.int p0), .val (.int p1), .val (.int p2), .val (.int p3), .val (.int (2 : Int32)), .val (.int (p1.toInt8.toInt32)), .val (.int (p2.toInt8.toInt32)), .val (.int (p3.toInt8.toInt32)), .unset, .unset] [(.int (0 : Int32)), (.ref b16), (.ref b16)]))
        refine OGo.st (fun _ k => XS.iload X16.here hx rfl (hb hby at_60) rfl k) ?_
        show OGo p e below s _ _ _ (T16.setTop (mkF m 62 #[.val (.int p0), .val (.int p1), .val (.int p2), .val (.int p3), .val (.int (2 : Int32)), .val (.int (p1.toInt8.toInt32)), .val (.int (p2.toInt8.toInt32)), .val (.int (p3.toInt8.toInt32)), .unset, .unset] [(.int (p1.toInt8.toInt32)), (.int (0 : Int32)), (.ref b16), (.ref b16)]))
        obtain ⟨cl17, Ar17, q17, Sz17, Nn17, Hs17, Gs17⟩ := id V_b16
        have hin17 : ¬ ((0 : Int32) < 0 ∨ cl17.slots.size ≤ ((0 : Int32)).toNatClampNeg) := inb_of Sz17 ⟨by decide, by decide⟩
        obtain ⟨T17, h17, X17, e17, W17, st17⟩ := stB X16 hx hZ e16 Ar17 (j := (0 : Int32)) hin17 (g := (mkF m 62 #[.val (.int p0), .val (.int p1), .val (.int p2), .val (.int p3), .val (.int (2 : Int32)), .val (.int (p1.toInt8.toInt32)), .val (.int (p2.toInt8.toInt32)), .val (.int (p3.toInt8.toInt32)), .unset, .unset] [(.int (p1.toInt8.toInt32)), (.int (0 : Int32)), (.ref b16), (.ref b16)])) rfl rfl (hb hby at_62)
        refine OGo.st st17 ?_
        have K17 : Keep h0 h17 [] := (K16).wr W17 (Or.inr sz_b16)
        have N17 := Fr.snoc X17 N0 g_b16
        have Z17 : n0 ≤ h17.size := Nat.le_trans Z16 (Keep.of_wr W17).1
        have V17 : Arv Z h17 b16 k16 .byte (2 : Int32) [(.int (nar .byte (p1.toInt8.toInt32))), (.int (0 : Int32))] (.int (0 : Int32)) := Arv.set Ar17 q17 Sz17 Nn17 Hs17 Gs17 (fits_nar_byte _) W17 0 rfl (Nat.le_of_ble_eq_true rfl)
        show OGo p e below s _ _ _ (T17.setTop (mkF m 63 #[.val (.int p0), .val (.int p1), .val (.int p2), .val (.int p3), .val (.int (2 : Int32)), .val (.int (p1.toInt8.toInt32)), .val (.int (p2.toInt8.toInt32)), .val (.int (p3.toInt8.toInt32)), .unset, .unset] [(.ref b16)]))
        refine OGo.st (fun _ k => XS.dup X17.here hx rfl (hb hby at_63) rfl rfl k) ?_
        show OGo p e below s _ _ _ (T17.setTop (mkF m 64 #[.val (.int p0), .val (.int p1), .val (.int p2), .val (.int p3), .val (.int (2 : Int32)), .val (.int (p1.toInt8.toInt32)), .val (.int (p2.toInt8.toInt32)), .val (.int (p3.toInt8.toInt32)), .unset, .unset] [(.ref b16), (.ref b16)]))
        refine OGo.st (fun _ k => XS.iconst X17.here hx rfl (hb hby at_64) k) ?_
        show OGo p e below s _ _ _ (T17.setTop (mkF m 65 #[.val (.int p0), .val (.int p1), .val (.int p2), .val (.int p3), .val (.int (2 : Int32)), .val (.int (p1.toInt8.toInt32)), .val (.int (p2.toInt8.toInt32)), .val (.int (p3.toInt8.toInt32)), .unset, .unset] [(.int (1 : Int32)), (.ref b16), (.ref b16)]))
        refine OGo.st (fun _ k => XS.iload X17.here hx rfl (hb hby at_65) rfl k) ?_
        show OGo p e below s _ _ _ (T17.setTop (mkF m 67 #[.val (.int p0), .val (.int p1), .val (.int p2), .val (.int p3), .val (.int (2 : Int32)), .val (.int (p1.toInt8.toInt32)), .val (.int (p2.toInt8.toInt32)), .val (.int (p3.toInt8.toInt32)), .unset, .unset] [(.int (p2.toInt8.toInt32)), (.int (1 : Int32)), (.ref b16), (.ref b16)]))
        obtain ⟨cl18, Ar18, q18, Sz18, Nn18, Hs18, Gs18⟩ := id V17
        have hin18 : ¬ ((1 : Int32) < 0 ∨ cl18.slots.size ≤ ((1 : Int32)).toNatClampNeg) := inb_of Sz18 ⟨by decide, by decide⟩
        obtain ⟨T18, h18, X18, e18, W18, st18⟩ := stB X17 hx hZ e17 Ar18 (j := (1 : Int32)) hin18 (g := (mkF m 67 #[.val (.int p0), .val (.int p1), .val (.int p2), .val (.int p3), .val (.int (2 : Int32)), .val (.int (p1.toInt8.toInt32)), .val (.int (p2.toInt8.toInt32)), .val (.int (p3.toInt8.toInt32)), .unset, .unset] [(.int (p2.toInt8.toInt32)), (.int (1 : Int32)), (.ref b16), (.ref b16)])) rfl rfl (hb hby at_67)
        refine OGo.st st18 ?_
        have K18 : Keep h0 h18 [] := (K17).wr W18 (Or.inr sz_b16)
        have N18 := Fr.snoc X18 N17 g_b16
        have Z18 : n0 ≤ h18.size := Nat.le_trans Z17 (Keep.of_wr W18).1
        have V18 : Arv Z h18 b16 k16 .byte (2 : Int32) [(.int (nar .byte (p1.toInt8.toInt32))), (.int (nar .byte (p2.toInt8.toInt32)))] (.int (0 : Int32)) := Arv.set Ar18 q18 Sz18 Nn18 Hs18 Gs18 (fits_nar_byte _) W18 1 rfl (Nat.le_of_ble_eq_true rfl)
        show OGo p e below s _ _ _ (T18.setTop (mkF m 68 #[.val (.int p0), .val (.int p1), .val (.int p2), .val (.int p3), .val (.int (2 : Int32)), .val (.int (p1.toInt8.toInt32)), .val (.int (p2.toInt8.toInt32)), .val (.int (p3.toInt8.toInt32)), .unset, .unset] [(.ref b16)]))
        refine OGo.st (fun _ k => XS.astore X18.here hx rfl (hb hby at_68) rfl rfl (l' := #[.val (.int p0), .val (.int p1), .val (.int p2), .val (.int p3), .val (.int (2 : Int32)), .val (.int (p1.toInt8.toInt32)), .val (.int (p2.toInt8.toInt32)), .val (.int (p3.toInt8.toInt32)), .val (.ref b16), .unset]) rfl k) ?_
        show OGo p e below s _ _ _ (T18.setTop (mkF m 70 #[.val (.int p0), .val (.int p1), .val (.int p2), .val (.int p3), .val (.int (2 : Int32)), .val (.int (p1.toInt8.toInt32)), .val (.int (p2.toInt8.toInt32)), .val (.int (p3.toInt8.toInt32)), .val (.ref b16), .unset] []))
        refine OGo.st (fun _ k => XS.goto X18.here hx rfl (pc0 := 70) (pc' := 93) rfl (hb hby at_70) (by decide) (by decide) k) ?_
        show OGo p e below s _ _ _ (T18.setTop (mkF m 93 #[.val (.int p0), .val (.int p1), .val (.int p2), .val (.int p3), .val (.int (2 : Int32)), .val (.int (p1.toInt8.toInt32)), .val (.int (p2.toInt8.toInt32)), .val (.int (p3.toInt8.toInt32)), .val (.ref b16), .unset] []))
        refine OGo.st (fun _ k => XS.aload X18.here hx rfl (hb hby at_93) rfl rfl k) ?_
        show OGo p e below s _ _ _ (T18.setTop (mkF m 95 #[.val (.int p0), .val (.int p1), .val (.int p2), .val (.int p3), .val (.int (2 : Int32)), .val (.int (p1.toInt8.toInt32)), .val (.int (p2.toInt8.toInt32)), .val (.int (p3.toInt8.toInt32)), .val (.ref b16), .unset] [(.ref b16)]))
        obtain ⟨_, _, ⟨T19, L19, k19, n19⟩, -, X19, ⟨Lc19, hQ19, l19, y19, z19⟩, st19⟩ := Jvm.LawKit.callS X18 hx (y := (⟨"com/example/rows_over_order/rowsoverorder/TupleCodec", "rangeEnd", "([B)[B"⟩ : MethodName)) hown (mvT hZ (hw _ (List.mem_of_getElem? (i := 1) rfl))) (mvT hZ (hw _ (List.mem_of_getElem? (i := 2) rfl))) (mvT hZ (hw _ (List.mem_of_getElem? (i := 3) rfl))) (mvT hZ (hw _ (List.mem_of_getElem? (i := 4) rfl))) (by decide) (backOf (W := 0) (rm1L2 l Z a0 hw [] b16 k16 (nar .byte (p1.toInt8.toInt32)) (nar .byte (p2.toInt8.toInt32)) h18 n0 Z18 V18) hZ (hw _ (List.mem_of_getElem? (i := 4) rfl)) (hw _ (List.mem_of_getElem? (i := 3) rfl)) (by decide) (by decide)) (g := (mkF m 95 #[.val (.int p0), .val (.int p1), .val (.int p2), .val (.int p3), .val (.int (2 : Int32)), .val (.int (p1.toInt8.toInt32)), .val (.int (p2.toInt8.toInt32)), .val (.int (p3.toInt8.toInt32)), .val (.ref b16), .unset] [(.ref b16)])) rfl (by rw [hml]; rfl) (argsL := [(.ref b16)]) (rest := []) (lenOf pd_0_0 rfl) rfl (by show 2 * 0 + _ ≤ _; exact Nat.le_of_eq rfl) (hb hby at_95) (fun _ _ => ⟨rfl, e18, (by decide : 1 + 1 ≤ _), (by decide : 2 + 3 ≤ _)⟩)
        dsimp only [Pt.U, Pt.locs, Pt.cells, Pt.slots] at X19 l19 y19 z19 st19 hQ19
        subst l19 y19 z19
        obtain ⟨b19, kk19, rfl, N19q, Kc19, szq19, g_b19, V19⟩ := hQ19
        have ne_b16_b19 : b16 ≠ b19 := Nat.ne_of_lt (Nat.lt_of_lt_of_le V18.lt szq19)
        have sz_b19 : h0.size ≤ b19 := Nat.le_trans (K18).1 szq19
        have V18_w19 := V18.keep Kc19 nin0
        have K19 : Keep h0 T19.heap [] := (K18).trans Kc19 all0
        have Z19 : n0 ≤ T19.heap.size := Nat.le_trans Z18 Kc19.1
        have V19 : Arv Z T19.heap b19 kk19 .byte (3 : Int32) [(.int (nar .byte (p1.toInt8.toInt32))), (.int (nar .byte (p2.toInt8.toInt32))), (.int (-1 : Int32))] (.int (0 : Int32)) := V19
        have N19 := Fr.app N18 N19q
        refine OGo.st st19 ?_
        show OGo p e below s _ _ _ (T19.setTop (mkF m 98 #[.val (.int p0), .val (.int p1), .val (.int p2), .val (.int p3), .val (.int (2 : Int32)), .val (.int (p1.toInt8.toInt32)), .val (.int (p2.toInt8.toInt32)), .val (.int (p3.toInt8.toInt32)), .val (.ref b16), .unset] [(.ref b19)]))
        refine OGo.st (fun _ k => XS.astore X19.here hx rfl (hb hby at_98) rfl rfl (l' := #[.val (.int p0), .val (.int p1), .val (.int p2), .val (.int p3), .val (.int (2 : Int32)), .val (.int (p1.toInt8.toInt32)), .val (.int (p2.toInt8.toInt32)), .val (.int (p3.toInt8.toInt32)), .val (.ref b16), .val (.ref b19)]) rfl k) ?_
        show OGo p e below s _ _ _ (T19.setTop (mkF m 100 #[.val (.int p0), .val (.int p1), .val (.int p2), .val (.int p3), .val (.int (2 : Int32)), .val (.int (p1.toInt8.toInt32)), .val (.int (p2.toInt8.toInt32)), .val (.int (p3.toInt8.toInt32)), .val (.ref b16), .val (.ref b19)] []))
        refine OGo.st (fun _ k => XS.aload X19.here hx rfl (hb hby at_100) rfl rfl k) ?_
        show OGo p e below s _ _ _ (T19.setTop (mkF m 102 #[.val (.int p0), .val (.int p1), .val (.int p2), .val (.int p3), .val (.int (2 : Int32)), .val (.int (p1.toInt8.toInt32)), .val (.int (p2.toInt8.toInt32)), .val (.int (p3.toInt8.toInt32)), .val (.ref b16), .val (.ref b19)] [(.ref b19)]))
        refine OGo.st (fun _ k => XS.ifnullNo X19.here hx rfl (hb hby at_102) rfl k) ?_
        show OGo p e below s _ _ _ (T19.setTop (mkF m 105 #[.val (.int p0), .val (.int p1), .val (.int p2), .val (.int p3), .val (.int (2 : Int32)), .val (.int (p1.toInt8.toInt32)), .val (.int (p2.toInt8.toInt32)), .val (.int (p3.toInt8.toInt32)), .val (.ref b16), .val (.ref b19)] []))
        refine OGo.st (fun _ k => XS.aload X19.here hx rfl (hb hby at_105) rfl rfl k) ?_
        show OGo p e below s _ _ _ (T19.setTop (mkF m 107 #[.val (.int p0), .val (.int p1), .val (.int p2), .val (.int p3), .val (.int (2 : Int32)), .val (.int (p1.toInt8.toInt32)), .val (.int (p2.toInt8.toInt32)), .val (.int (p3.toInt8.toInt32)), .val (.ref b16), .val (.ref b19)] [(.ref b19)]))
        refine OGo.st (fun _ k => XS.aload X19.here hx rfl (hb hby at_107) rfl rfl k) ?_
        show OGo p e below s _ _ _ (T19.setTop (mkF m 109 #[.val (.int p0), .val (.int p1), .val (.int p2), .val (.int p3), .val (.int (2 : Int32)), .val (.int (p1.toInt8.toInt32)), .val (.int (p2.toInt8.toInt32)), .val (.int (p3.toInt8.toInt32)), .val (.ref b16), .val (.ref b19)] [(.ref b16), (.ref b19)]))
        refine OGo.st (fun _ k => Jvm.RoadKit.acmp (g := (mkF m 109 #[.val (.int p0), .val (.int p1), .val (.int p2), .val (.int p3), .val (.int (2 : Int32)), .val (.int (p1.toInt8.toInt32)), .val (.int (p2.toInt8.toInt32)), .val (.int (p3.toInt8.toInt32)), .val (.ref b16), .val (.ref b19)] [(.ref b16), (.ref b19)])) X19 hx rfl rfl rfl (pc0 := 109) (pc' := 112) (same := false) rfl (hb hby at_109) rfl (decide_eq_false fun q => (Ne.symm ne_b16_b19) (Value.ref.inj q)) (by decide) (by decide) k) ?_
        show OGo p e below s _ _ _ (T19.setTop (mkF m 112 #[.val (.int p0), .val (.int p1), .val (.int p2), .val (.int p3), .val (.int (2 : Int32)), .val (.int (p1.toInt8.toInt32)), .val (.int (p2.toInt8.toInt32)), .val (.int (p3.toInt8.toInt32)), .val (.ref b16), .val (.ref b19)] []))
        refine OGo.st (fun _ k => XS.aload X19.here hx rfl (hb hby at_112) rfl rfl k) ?_
        show OGo p e below s _ _ _ (T19.setTop (mkF m 114 #[.val (.int p0), .val (.int p1), .val (.int p2), .val (.int p3), .val (.int (2 : Int32)), .val (.int (p1.toInt8.toInt32)), .val (.int (p2.toInt8.toInt32)), .val (.int (p3.toInt8.toInt32)), .val (.ref b16), .val (.ref b19)] [(.ref b19)]))
        obtain ⟨cl20, Ar20, -, Sz20, Nn20, -, -⟩ := id V19
        refine OGo.st (fun _ k => X19.arraylength hx Ar20.1 (State.isArrayOf_alike hZ.alike Ar20.2.1) (g := (mkF m 114 #[.val (.int p0), .val (.int p1), .val (.int p2), .val (.int p3), .val (.int (2 : Int32)), .val (.int (p1.toInt8.toInt32)), .val (.int (p2.toInt8.toInt32)), .val (.int (p3.toInt8.toInt32)), .val (.ref b16), .val (.ref b19)] [(.ref b19)])) rfl rfl (hb hby at_114) _ k) ?_
        rw [len_of Sz20 Nn20]
        show OGo p e below s _ _ _ (T19.setTop (mkF m 115 #[.val (.int p0), .val (.int p1), .val (.int p2), .val (.int p3), .val (.int (2 : Int32)), .val (.int (p1.toInt8.toInt32)), .val (.int (p2.toInt8.toInt32)), .val (.int (p3.toInt8.toInt32)), .val (.ref b16), .val (.ref b19)] [(.int (3 : Int32))]))
        refine OGo.st (fun _ k => XS.iload X19.here hx rfl (hb hby at_115) rfl k) ?_
        show OGo p e below s _ _ _ (T19.setTop (mkF m 117 #[.val (.int p0), .val (.int p1), .val (.int p2), .val (.int p3), .val (.int (2 : Int32)), .val (.int (p1.toInt8.toInt32)), .val (.int (p2.toInt8.toInt32)), .val (.int (p3.toInt8.toInt32)), .val (.ref b16), .val (.ref b19)] [(.int (2 : Int32)), (.int (3 : Int32))]))
        refine OGo.st (fun _ k => XS.iconst X19.here hx rfl (hb hby at_117) k) ?_
        show OGo p e below s _ _ _ (T19.setTop (mkF m 118 #[.val (.int p0), .val (.int p1), .val (.int p2), .val (.int p3), .val (.int (2 : Int32)), .val (.int (p1.toInt8.toInt32)), .val (.int (p2.toInt8.toInt32)), .val (.int (p3.toInt8.toInt32)), .val (.ref b16), .val (.ref b19)] [(.int (1 : Int32)), (.int (2 : Int32)), (.int (3 : Int32))]))
        refine OGo.st (fun _ k => XS.iadd X19.here hx rfl (hb hby at_118) rfl k) ?_
        rw [show ((2 : Int32) + (1 : Int32)) = (3 : Int32) from by decide]
        show OGo p e below s _ _ _ (T19.setTop (mkF m 119 #[.val (.int p0), .val (.int p1), .val (.int p2), .val (.int p3), .val (.int (2 : Int32)), .val (.int (p1.toInt8.toInt32)), .val (.int (p2.toInt8.toInt32)), .val (.int (p3.toInt8.toInt32)), .val (.ref b16), .val (.ref b19)] [(.int (3 : Int32)), (.int (3 : Int32))]))
        refine OGo.st (fun _ k => XS.icmpYes X19.here hx rfl (pc0 := 119) (pc' := 124) rfl (hb hby at_119) rfl (teq (by decide : (3 : Int32) = (3 : Int32))).1 (by decide) (by decide) k) ?_
        show OGo p e below s _ _ _ (T19.setTop (mkF m 124 #[.val (.int p0), .val (.int p1), .val (.int p2), .val (.int p3), .val (.int (2 : Int32)), .val (.int (p1.toInt8.toInt32)), .val (.int (p2.toInt8.toInt32)), .val (.int (p3.toInt8.toInt32)), .val (.ref b16), .val (.ref b19)] []))
        refine OGo.st (fun _ k => XS.aload X19.here hx rfl (hb hby at_124) rfl rfl k) ?_
        show OGo p e below s _ _ _ (T19.setTop (mkF m 126 #[.val (.int p0), .val (.int p1), .val (.int p2), .val (.int p3), .val (.int (2 : Int32)), .val (.int (p1.toInt8.toInt32)), .val (.int (p2.toInt8.toInt32)), .val (.int (p3.toInt8.toInt32)), .val (.ref b16), .val (.ref b19)] [(.ref b19)]))
        refine OGo.st (fun _ k => XS.iload X19.here hx rfl (hb hby at_126) rfl k) ?_
        show OGo p e below s _ _ _ (T19.setTop (mkF m 128 #[.val (.int p0), .val (.int p1), .val (.int p2), .val (.int p3), .val (.int (2 : Int32)), .val (.int (p1.toInt8.toInt32)), .val (.int (p2.toInt8.toInt32)), .val (.int (p3.toInt8.toInt32)), .val (.ref b16), .val (.ref b19)] [(.int (2 : Int32)), (.ref b19)]))
        refine OGo.st (fun _ k => XS.iload X19.here hx rfl (hb hby at_128) rfl k) ?_
        show OGo p e below s _ _ _ (T19.setTop (mkF m 130 #[.val (.int p0), .val (.int p1), .val (.int p2), .val (.int p3), .val (.int (2 : Int32)), .val (.int (p1.toInt8.toInt32)), .val (.int (p2.toInt8.toInt32)), .val (.int (p3.toInt8.toInt32)), .val (.ref b16), .val (.ref b19)] [(.int (p1.toInt8.toInt32)), (.int (2 : Int32)), (.ref b19)]))
        refine OGo.st (fun _ k => XS.iload X19.here hx rfl (hb hby at_130) rfl k) ?_
        show OGo p e below s _ _ _ (T19.setTop (mkF m 132 #[.val (.int p0), .val (.int p1), .val (.int p2), .val (.int p3), .val (.int (2 : Int32)), .val (.int (p1.toInt8.toInt32)), .val (.int (p2.toInt8.toInt32)), .val (.int (p3.toInt8.toInt32)), .val (.ref b16), .val (.ref b19)] [(.int (p2.toInt8.toInt32)), (.int (p1.toInt8.toInt32)), (.int (2 : Int32)), (.ref b19)]))
        refine OGo.st (fun _ k => XS.iload X19.here hx rfl (hb hby at_132) rfl k) ?_
        show OGo p e below s _ _ _ (T19.setTop (mkF m 134 #[.val (.int p0), .val (.int p1), .val (.int p2), .val (.int p3), .val (.int (2 : Int32)), .val (.int (p1.toInt8.toInt32)), .val (.int (p2.toInt8.toInt32)), .val (.int (p3.toInt8.toInt32)), .val (.ref b16), .val (.ref b19)] [(.int (p3.toInt8.toInt32)), (.int (p2.toInt8.toInt32)), (.int (p1.toInt8.toInt32)), (.int (2 : Int32)), (.ref b19)]))
        obtain ⟨_, _, ⟨T21, L21, k21, n21⟩, -, X21, ⟨Lc21, hQ21, l21, y21, z21⟩, st21⟩ := Jvm.LawKit.callS X19 hx (y := (⟨"com/example/rows_over_order/rowsoverorder/TupleCodecRangeEndPinLaw", "matches", "([BIBBB)Z"⟩ : MethodName)) hown (mvT hZ (hw _ (List.mem_of_getElem? (i := 17) rfl))) (mvT hZ (hw _ (List.mem_of_getElem? (i := 18) rfl))) (mvT hZ (hw _ (List.mem_of_getElem? (i := 19) rfl))) (mvT hZ (hw _ (List.mem_of_getElem? (i := 20) rfl))) (by decide) (backOf (W := 0) (rm4L32 l Z a0 hw [] b19 (p1.toInt8.toInt32) (p2.toInt8.toInt32) (p3.toInt8.toInt32) kk19 (nar .byte (p1.toInt8.toInt32)) (nar .byte (p2.toInt8.toInt32)) (-1 : Int32) T19.heap n0 Z19 V19) hZ (hw _ (List.mem_of_getElem? (i := 20) rfl)) (hw _ (List.mem_of_getElem? (i := 19) rfl)) (by decide) (by decide)) (g := (mkF m 134 #[.val (.int p0), .val (.int p1), .val (.int p2), .val (.int p3), .val (.int (2 : Int32)), .val (.int (p1.toInt8.toInt32)), .val (.int (p2.toInt8.toInt32)), .val (.int (p3.toInt8.toInt32)), .val (.ref b16), .val (.ref b19)] [(.int (p3.toInt8.toInt32)), (.int (p2.toInt8.toInt32)), (.int (p1.toInt8.toInt32)), (.int (2 : Int32)), (.ref b19)])) rfl (by rw [hml]; rfl) (argsL := [(.ref b19), (.int (2 : Int32)), (.int (p1.toInt8.toInt32)), (.int (p2.toInt8.toInt32)), (.int (p3.toInt8.toInt32))]) (rest := []) (lenOf pd_0_1 rfl) rfl (by show 2 * 0 + _ ≤ _; exact Nat.le_of_eq rfl) (hb hby at_134) (fun _ _ => ⟨rfl, rfl, (by decide : 2 + 0 ≤ _), (by decide : 5 + 0 ≤ _)⟩)
        dsimp only [Pt.U, Pt.locs, Pt.cells, Pt.slots] at X21 l21 y21 z21 st21 hQ21
        subst l21 y21 z21
        obtain ⟨rfl, N21q, e21⟩ := hQ21
        have N21 := Fr.app N19 N21q
        refine OGo.st st21 ?_
        show OGo p e below s _ _ _ (T21.setTop (mkF m 137 #[.val (.int p0), .val (.int p1), .val (.int p2), .val (.int p3), .val (.int (2 : Int32)), .val (.int (p1.toInt8.toInt32)), .val (.int (p2.toInt8.toInt32)), .val (.int (p3.toInt8.toInt32)), .val (.ref b16), .val (.ref b19)] [(.int (f4L32 (p1.toInt8.toInt32) (p2.toInt8.toInt32) (nar .byte (p1.toInt8.toInt32)) (nar .byte (p2.toInt8.toInt32))))]))
        by_cases hc137 : (f4L32 (p1.toInt8.toInt32) (p2.toInt8.toInt32) (nar .byte (p1.toInt8.toInt32)) (nar .byte (p2.toInt8.toInt32))) = (0 : Int32)
        · refine OGo.st (fun _ k => XS.ifNo X21.here hx rfl (hb hby at_137) rfl ((if0 _ _).trans (teq hc137).2) k) ?_
          show OGo p e below s _ _ _ (T21.setTop (mkF m 140 #[.val (.int p0), .val (.int p1), .val (.int p2), .val (.int p3), .val (.int (2 : Int32)), .val (.int (p1.toInt8.toInt32)), .val (.int (p2.toInt8.toInt32)), .val (.int (p3.toInt8.toInt32)), .val (.ref b16), .val (.ref b19)] []))
          refine OGo.st (fun _ k => XS.iconst X21.here hx rfl (hb hby at_140) k) ?_
          show OGo p e below s _ _ _ (T21.setTop (mkF m 141 #[.val (.int p0), .val (.int p1), .val (.int p2), .val (.int p3), .val (.int (2 : Int32)), .val (.int (p1.toInt8.toInt32)), .val (.int (p2.toInt8.toInt32)), .val (.int (p3.toInt8.toInt32)), .val (.ref b16), .val (.ref b19)] [(.int (0 : Int32))]))
          exact oretN X21 hx Bd.notSynchronized (t := .boolean) Bd.returns (by simp) (hb hby at_141) (z' := (0 : Int32)) (by decide) e21 ⟨(congrArg (fun z => some (Value.int z)) (show (0 : Int32) = f0 p0 p1 p2 p3 from Eq.symm (by unfold f0; exact (if_neg hc5).trans ((if_neg hc5_2).trans ((if_pos hc5_3).trans (if_pos hc137)))))), N21⟩ (by decide) (by decide)
        · refine OGo.st (fun _ k => XS.ifYes X21.here hx rfl (pc0 := 137) (pc' := 142) rfl (hb hby at_137) rfl ((if0 _ _).trans (feq hc137).2) (by decide) (by decide) k) ?_
          show OGo p e below s _ _ _ (T21.setTop (mkF m 142 #[.val (.int p0), .val (.int p1), .val (.int p2), .val (.int p3), .val (.int (2 : Int32)), .val (.int (p1.toInt8.toInt32)), .val (.int (p2.toInt8.toInt32)), .val (.int (p3.toInt8.toInt32)), .val (.ref b16), .val (.ref b19)] []))
          refine OGo.st (fun _ k => XS.aload X21.here hx rfl (hb hby at_142) rfl rfl k) ?_
          show OGo p e below s _ _ _ (T21.setTop (mkF m 144 #[.val (.int p0), .val (.int p1), .val (.int p2), .val (.int p3), .val (.int (2 : Int32)), .val (.int (p1.toInt8.toInt32)), .val (.int (p2.toInt8.toInt32)), .val (.int (p3.toInt8.toInt32)), .val (.ref b16), .val (.ref b19)] [(.ref b19)]))
          refine OGo.st (fun _ k => XS.iload X21.here hx rfl (hb hby at_144) rfl k) ?_
          show OGo p e below s _ _ _ (T21.setTop (mkF m 146 #[.val (.int p0), .val (.int p1), .val (.int p2), .val (.int p3), .val (.int (2 : Int32)), .val (.int (p1.toInt8.toInt32)), .val (.int (p2.toInt8.toInt32)), .val (.int (p3.toInt8.toInt32)), .val (.ref b16), .val (.ref b19)] [(.int (2 : Int32)), (.ref b19)]))
          obtain ⟨cl22, Ar22, q22, Sz22, Nn22, Hs22, Gs22⟩ := id V19
          have hin22 : ¬ ((2 : Int32) < 0 ∨ cl22.slots.size ≤ ((2 : Int32)).toNatClampNeg) := inb_of Sz22 ⟨by decide, by decide⟩
          have hat22 : cl22.slots[((2 : Int32)).toNatClampNeg]? = some (.int (-1 : Int32)) := Hs22.at hin22 rfl
          refine OGo.st (fun _ k => X21.baloadBytes hx (j := (2 : Int32)) (v := (.int (-1 : Int32))) (by rw [e21]; exact Ar22.1) (State.isArrayOf_alike hZ.alike Ar22.2.1) Ar22.2.2 hin22 hat22 (g := (mkF m 146 #[.val (.int p0), .val (.int p1), .val (.int p2), .val (.int p3), .val (.int (2 : Int32)), .val (.int (p1.toInt8.toInt32)), .val (.int (p2.toInt8.toInt32)), .val (.int (p3.toInt8.toInt32)), .val (.ref b16), .val (.ref b19)] [(.int (2 : Int32)), (.ref b19)])) rfl rfl (hb hby at_146) _ k) ?_
          show OGo p e below s _ _ _ (T21.setTop (mkF m 147 #[.val (.int p0), .val (.int p1), .val (.int p2), .val (.int p3), .val (.int (2 : Int32)), .val (.int (p1.toInt8.toInt32)), .val (.int (p2.toInt8.toInt32)), .val (.int (p3.toInt8.toInt32)), .val (.ref b16), .val (.ref b19)] [(.int (-1 : Int32))]))
          refine OGo.st (fun _ k => XS.iconst X21.here hx rfl (hb hby at_147) k) ?_
          show OGo p e below s _ _ _ (T21.setTop (mkF m 148 #[.val (.int p0), .val (.int p1), .val (.int p2), .val (.int p3), .val (.int (2 : Int32)), .val (.int (p1.toInt8.toInt32)), .val (.int (p2.toInt8.toInt32)), .val (.int (p3.toInt8.toInt32)), .val (.ref b16), .val (.ref b19)] [(.int (-1 : Int32)), (.int (-1 : Int32))]))
          refine OGo.st (fun _ k => XS.icmpYes X21.here hx rfl (pc0 := 148) (pc' := 153) rfl (hb hby at_148) rfl (teq (by decide : (-1 : Int32) = (-1 : Int32))).1 (by decide) (by decide) k) ?_
          show OGo p e below s _ _ _ (T21.setTop (mkF m 153 #[.val (.int p0), .val (.int p1), .val (.int p2), .val (.int p3), .val (.int (2 : Int32)), .val (.int (p1.toInt8.toInt32)), .val (.int (p2.toInt8.toInt32)), .val (.int (p3.toInt8.toInt32)), .val (.ref b16), .val (.ref b19)] []))
          refine OGo.st (fun _ k => XS.aload X21.here hx rfl (hb hby at_153) rfl rfl k) ?_
          show OGo p e below s _ _ _ (T21.setTop (mkF m 155 #[.val (.int p0), .val (.int p1), .val (.int p2), .val (.int p3), .val (.int (2 : Int32)), .val (.int (p1.toInt8.toInt32)), .val (.int (p2.toInt8.toInt32)), .val (.int (p3.toInt8.toInt32)), .val (.ref b16), .val (.ref b19)] [(.ref b16)]))
          obtain ⟨cl23, Ar23, -, Sz23, Nn23, -, -⟩ := id V18_w19
          refine OGo.st (fun _ k => X21.arraylength hx (by rw [e21]; exact Ar23.1) (State.isArrayOf_alike hZ.alike Ar23.2.1) (g := (mkF m 155 #[.val (.int p0), .val (.int p1), .val (.int p2), .val (.int p3), .val (.int (2 : Int32)), .val (.int (p1.toInt8.toInt32)), .val (.int (p2.toInt8.toInt32)), .val (.int (p3.toInt8.toInt32)), .val (.ref b16), .val (.ref b19)] [(.ref b16)])) rfl rfl (hb hby at_155) _ k) ?_
          rw [len_of Sz23 Nn23]
          show OGo p e below s _ _ _ (T21.setTop (mkF m 156 #[.val (.int p0), .val (.int p1), .val (.int p2), .val (.int p3), .val (.int (2 : Int32)), .val (.int (p1.toInt8.toInt32)), .val (.int (p2.toInt8.toInt32)), .val (.int (p3.toInt8.toInt32)), .val (.ref b16), .val (.ref b19)] [(.int (2 : Int32))]))
          refine OGo.st (fun _ k => XS.iload X21.here hx rfl (hb hby at_156) rfl k) ?_
          show OGo p e below s _ _ _ (T21.setTop (mkF m 158 #[.val (.int p0), .val (.int p1), .val (.int p2), .val (.int p3), .val (.int (2 : Int32)), .val (.int (p1.toInt8.toInt32)), .val (.int (p2.toInt8.toInt32)), .val (.int (p3.toInt8.toInt32)), .val (.ref b16), .val (.ref b19)] [(.int (2 : Int32)), (.int (2 : Int32))]))
          refine OGo.st (fun _ k => XS.icmpNo X21.here hx rfl (hb hby at_158) rfl (teq (by decide : (2 : Int32) = (2 : Int32))).2 k) ?_
          show OGo p e below s _ _ _ (T21.setTop (mkF m 161 #[.val (.int p0), .val (.int p1), .val (.int p2), .val (.int p3), .val (.int (2 : Int32)), .val (.int (p1.toInt8.toInt32)), .val (.int (p2.toInt8.toInt32)), .val (.int (p3.toInt8.toInt32)), .val (.ref b16), .val (.ref b19)] []))
          refine OGo.st (fun _ k => XS.aload X21.here hx rfl (hb hby at_161) rfl rfl k) ?_
          show OGo p e below s _ _ _ (T21.setTop (mkF m 163 #[.val (.int p0), .val (.int p1), .val (.int p2), .val (.int p3), .val (.int (2 : Int32)), .val (.int (p1.toInt8.toInt32)), .val (.int (p2.toInt8.toInt32)), .val (.int (p3.toInt8.toInt32)), .val (.ref b16), .val (.ref b19)] [(.ref b16)]))
          refine OGo.st (fun _ k => XS.iload X21.here hx rfl (hb hby at_163) rfl k) ?_
          show OGo p e below s _ _ _ (T21.setTop (mkF m 165 #[.val (.int p0), .val (.int p1), .val (.int p2), .val (.int p3), .val (.int (2 : Int32)), .val (.int (p1.toInt8.toInt32)), .val (.int (p2.toInt8.toInt32)), .val (.int (p3.toInt8.toInt32)), .val (.ref b16), .val (.ref b19)] [(.int (2 : Int32)), (.ref b16)]))
          refine OGo.st (fun _ k => XS.iload X21.here hx rfl (hb hby at_165) rfl k) ?_
          show OGo p e below s _ _ _ (T21.setTop (mkF m 167 #[.val (.int p0), .val (.int p1), .val (.int p2), .val (.int p3), .val (.int (2 : Int32)), .val (.int (p1.toInt8.toInt32)), .val (.int (p2.toInt8.toInt32)), .val (.int (p3.toInt8.toInt32)), .val (.ref b16), .val (.ref b19)] [(.int (p1.toInt8.toInt32)), (.int (2 : Int32)), (.ref b16)]))
          refine OGo.st (fun _ k => XS.iload X21.here hx rfl (hb hby at_167) rfl k) ?_
          show OGo p e below s _ _ _ (T21.setTop (mkF m 169 #[.val (.int p0), .val (.int p1), .val (.int p2), .val (.int p3), .val (.int (2 : Int32)), .val (.int (p1.toInt8.toInt32)), .val (.int (p2.toInt8.toInt32)), .val (.int (p3.toInt8.toInt32)), .val (.ref b16), .val (.ref b19)] [(.int (p2.toInt8.toInt32)), (.int (p1.toInt8.toInt32)), (.int (2 : Int32)), (.ref b16)]))
          refine OGo.st (fun _ k => XS.iload X21.here hx rfl (hb hby at_169) rfl k) ?_
          show OGo p e below s _ _ _ (T21.setTop (mkF m 171 #[.val (.int p0), .val (.int p1), .val (.int p2), .val (.int p3), .val (.int (2 : Int32)), .val (.int (p1.toInt8.toInt32)), .val (.int (p2.toInt8.toInt32)), .val (.int (p3.toInt8.toInt32)), .val (.ref b16), .val (.ref b19)] [(.int (p3.toInt8.toInt32)), (.int (p2.toInt8.toInt32)), (.int (p1.toInt8.toInt32)), (.int (2 : Int32)), (.ref b16)]))
          obtain ⟨_, _, ⟨T24, L24, k24, n24⟩, -, X24, ⟨Lc24, hQ24, l24, y24, z24⟩, st24⟩ := Jvm.LawKit.callS X21 hx (y := (⟨"com/example/rows_over_order/rowsoverorder/TupleCodecRangeEndPinLaw", "matches", "([BIBBB)Z"⟩ : MethodName)) hown (mvT hZ (hw _ (List.mem_of_getElem? (i := 17) rfl))) (mvT hZ (hw _ (List.mem_of_getElem? (i := 18) rfl))) (mvT hZ (hw _ (List.mem_of_getElem? (i := 19) rfl))) (mvT hZ (hw _ (List.mem_of_getElem? (i := 20) rfl))) (by decide) (backOf (W := 0) (rm4L22 l Z a0 hw [] b16 (p1.toInt8.toInt32) (p2.toInt8.toInt32) (p3.toInt8.toInt32) k16 (nar .byte (p1.toInt8.toInt32)) (nar .byte (p2.toInt8.toInt32)) T19.heap n0 Z19 V18_w19) hZ (hw _ (List.mem_of_getElem? (i := 20) rfl)) (hw _ (List.mem_of_getElem? (i := 19) rfl)) (by decide) (by decide)) (g := (mkF m 171 #[.val (.int p0), .val (.int p1), .val (.int p2), .val (.int p3), .val (.int (2 : Int32)), .val (.int (p1.toInt8.toInt32)), .val (.int (p2.toInt8.toInt32)), .val (.int (p3.toInt8.toInt32)), .val (.ref b16), .val (.ref b19)] [(.int (p3.toInt8.toInt32)), (.int (p2.toInt8.toInt32)), (.int (p1.toInt8.toInt32)), (.int (2 : Int32)), (.ref b16)])) rfl (by rw [hml]; rfl) (argsL := [(.ref b16), (.int (2 : Int32)), (.int (p1.toInt8.toInt32)), (.int (p2.toInt8.toInt32)), (.int (p3.toInt8.toInt32))]) (rest := []) (lenOf pd_0_1 rfl) rfl (by show 2 * 0 + _ ≤ _; exact Nat.le_of_eq rfl) (hb hby at_171) (fun _ _ => ⟨rfl, e21, (by decide : 2 + 0 ≤ _), (by decide : 5 + 0 ≤ _)⟩)
          dsimp only [Pt.U, Pt.locs, Pt.cells, Pt.slots] at X24 l24 y24 z24 st24 hQ24
          subst l24 y24 z24
          obtain ⟨rfl, N24q, e24⟩ := hQ24
          have N24 := Fr.app N21 N24q
          refine OGo.st st24 ?_
          show OGo p e below s _ _ _ (T24.setTop (mkF m 174 #[.val (.int p0), .val (.int p1), .val (.int p2), .val (.int p3), .val (.int (2 : Int32)), .val (.int (p1.toInt8.toInt32)), .val (.int (p2.toInt8.toInt32)), .val (.int (p3.toInt8.toInt32)), .val (.ref b16), .val (.ref b19)] [(.int (f4L22 (p1.toInt8.toInt32) (p2.toInt8.toInt32) (nar .byte (p1.toInt8.toInt32)) (nar .byte (p2.toInt8.toInt32))))]))
          by_cases hc174 : (f4L22 (p1.toInt8.toInt32) (p2.toInt8.toInt32) (nar .byte (p1.toInt8.toInt32)) (nar .byte (p2.toInt8.toInt32))) = (0 : Int32)
          · refine OGo.st (fun _ k => XS.ifYes X24.here hx rfl (pc0 := 174) (pc' := 181) rfl (hb hby at_174) rfl ((if0 _ _).trans (teq hc174).1) (by decide) (by decide) k) ?_
            show OGo p e below s _ _ _ (T24.setTop (mkF m 181 #[.val (.int p0), .val (.int p1), .val (.int p2), .val (.int p3), .val (.int (2 : Int32)), .val (.int (p1.toInt8.toInt32)), .val (.int (p2.toInt8.toInt32)), .val (.int (p3.toInt8.toInt32)), .val (.ref b16), .val (.ref b19)] []))
            refine OGo.st (fun _ k => XS.iconst X24.here hx rfl (hb hby at_181) k) ?_
            show OGo p e below s _ _ _ (T24.setTop (mkF m 182 #[.val (.int p0), .val (.int p1), .val (.int p2), .val (.int p3), .val (.int (2 : Int32)), .val (.int (p1.toInt8.toInt32)), .val (.int (p2.toInt8.toInt32)), .val (.int (p3.toInt8.toInt32)), .val (.ref b16), .val (.ref b19)] [(.int (0 : Int32))]))
            exact oretN X24 hx Bd.notSynchronized (t := .boolean) Bd.returns (by simp) (hb hby at_182) (z' := (0 : Int32)) (by decide) e24 ⟨(congrArg (fun z => some (Value.int z)) (show (0 : Int32) = f0 p0 p1 p2 p3 from Eq.symm (by unfold f0; exact (if_neg hc5).trans ((if_neg hc5_2).trans ((if_pos hc5_3).trans ((if_neg hc137).trans (if_pos hc174))))))), N24⟩ (by decide) (by decide)
          · refine OGo.st (fun _ k => XS.ifNo X24.here hx rfl (hb hby at_174) rfl ((if0 _ _).trans (feq hc174).1) k) ?_
            show OGo p e below s _ _ _ (T24.setTop (mkF m 177 #[.val (.int p0), .val (.int p1), .val (.int p2), .val (.int p3), .val (.int (2 : Int32)), .val (.int (p1.toInt8.toInt32)), .val (.int (p2.toInt8.toInt32)), .val (.int (p3.toInt8.toInt32)), .val (.ref b16), .val (.ref b19)] []))
            refine OGo.st (fun _ k => XS.iconst X24.here hx rfl (hb hby at_177) k) ?_
            show OGo p e below s _ _ _ (T24.setTop (mkF m 178 #[.val (.int p0), .val (.int p1), .val (.int p2), .val (.int p3), .val (.int (2 : Int32)), .val (.int (p1.toInt8.toInt32)), .val (.int (p2.toInt8.toInt32)), .val (.int (p3.toInt8.toInt32)), .val (.ref b16), .val (.ref b19)] [(.int (1 : Int32))]))
            refine OGo.st (fun _ k => XS.goto X24.here hx rfl (pc0 := 178) (pc' := 182) rfl (hb hby at_178) (by decide) (by decide) k) ?_
            show OGo p e below s _ _ _ (T24.setTop (mkF m 182 #[.val (.int p0), .val (.int p1), .val (.int p2), .val (.int p3), .val (.int (2 : Int32)), .val (.int (p1.toInt8.toInt32)), .val (.int (p2.toInt8.toInt32)), .val (.int (p3.toInt8.toInt32)), .val (.ref b16), .val (.ref b19)] [(.int (1 : Int32))]))
            exact oretN X24 hx Bd.notSynchronized (t := .boolean) Bd.returns (by simp) (hb hby at_182) (z' := (1 : Int32)) (by decide) e24 ⟨(congrArg (fun z => some (Value.int z)) (show (1 : Int32) = f0 p0 p1 p2 p3 from Eq.symm (by unfold f0; exact (if_neg hc5).trans ((if_neg hc5_2).trans ((if_pos hc5_3).trans ((if_neg hc137).trans (if_neg hc174))))))), N24⟩ (by decide) (by decide)
      · have hc5_4 : (p0 &&& (3 : Int32)) = (3 : Int32) := own_last3 _ hc5 hc5_2 hc5_3
        rw [hc5_4]
        show OGo p e below s _ _ _ (s₁.setTop (mkF m 5 #[.val (.int p0), .val (.int p1), .val (.int p2), .val (.int p3), .val (.int (3 : Int32)), .unset, .unset, .unset, .unset, .unset] []))
        refine OGo.st (fun _ k => XS.iloadN X0.here hx rfl (hb hby at_5) rfl k) ?_
        show OGo p e below s _ _ _ (s₁.setTop (mkF m 6 #[.val (.int p0), .val (.int p1), .val (.int p2), .val (.int p3), .val (.int (3 : Int32)), .unset, .unset, .unset, .unset, .unset] [(.int p1)]))
        refine OGo.st (fun _ k => XS.i2b X0.here hx rfl (hb hby at_6) rfl k) ?_
        show OGo p e below s _ _ _ (s₁.setTop (mkF m 7 #[.val (.int p0), .val (.int p1), .val (.int p2), .val (.int p3), .val (.int (3 : Int32)), .unset, .unset, .unset, .unset, .unset] [(.int (p1.toInt8.toInt32))]))
        refine OGo.st (fun _ k => XS.istore X0.here hx rfl (hb hby at_7) rfl (l' := #[.val (.int p0), .val (.int p1), .val (.int p2), .val (.int p3), .val (.int (3 : Int32)), .val (.int (p1.toInt8.toInt32)), .unset, .unset, .unset, .unset]) rfl k) ?_
        show OGo p e below s _ _ _ (s₁.setTop (mkF m 9 #[.val (.int p0), .val (.int p1), .val (.int p2), .val (.int p3), .val (.int (3 : Int32)), .val (.int (p1.toInt8.toInt32)), .unset, .unset, .unset, .unset] []))
        refine OGo.st (fun _ k => XS.iloadN X0.here hx rfl (hb hby at_9) rfl k) ?_
        show OGo p e below s _ _ _ (s₁.setTop (mkF m 10 #[.val (.int p0), .val (.int p1), .val (.int p2), .val (.int p3), .val (.int (3 : Int32)), .val (.int (p1.toInt8.toInt32)), .unset, .unset, .unset, .unset] [(.int p2)]))
        refine OGo.st (fun _ k => XS.i2b X0.here hx rfl (hb hby at_10) rfl k) ?_
        show OGo p e below s _ _ _ (s₁.setTop (mkF m 11 #[.val (.int p0), .val (.int p1), .val (.int p2), .val (.int p3), .val (.int (3 : Int32)), .val (.int (p1.toInt8.toInt32)), .unset, .unset, .unset, .unset] [(.int (p2.toInt8.toInt32))]))
        refine OGo.st (fun _ k => XS.istore X0.here hx rfl (hb hby at_11) rfl (l' := #[.val (.int p0), .val (.int p1), .val (.int p2), .val (.int p3), .val (.int (3 : Int32)), .val (.int (p1.toInt8.toInt32)), .val (.int (p2.toInt8.toInt32)), .unset, .unset, .unset]) rfl k) ?_
        show OGo p e below s _ _ _ (s₁.setTop (mkF m 13 #[.val (.int p0), .val (.int p1), .val (.int p2), .val (.int p3), .val (.int (3 : Int32)), .val (.int (p1.toInt8.toInt32)), .val (.int (p2.toInt8.toInt32)), .unset, .unset, .unset] []))
        refine OGo.st (fun _ k => XS.iloadN X0.here hx rfl (hb hby at_13) rfl k) ?_
        show OGo p e below s _ _ _ (s₁.setTop (mkF m 14 #[.val (.int p0), .val (.int p1), .val (.int p2), .val (.int p3), .val (.int (3 : Int32)), .val (.int (p1.toInt8.toInt32)), .val (.int (p2.toInt8.toInt32)), .unset, .unset, .unset] [(.int p3)]))
        refine OGo.st (fun _ k => XS.i2b X0.here hx rfl (hb hby at_14) rfl k) ?_
        show OGo p e below s _ _ _ (s₁.setTop (mkF m 15 #[.val (.int p0), .val (.int p1), .val (.int p2), .val (.int p3), .val (.int (3 : Int32)), .val (.int (p1.toInt8.toInt32)), .val (.int (p2.toInt8.toInt32)), .unset, .unset, .unset] [(.int (p3.toInt8.toInt32))]))
        refine OGo.st (fun _ k => XS.istore X0.here hx rfl (hb hby at_15) rfl (l' := #[.val (.int p0), .val (.int p1), .val (.int p2), .val (.int p3), .val (.int (3 : Int32)), .val (.int (p1.toInt8.toInt32)), .val (.int (p2.toInt8.toInt32)), .val (.int (p3.toInt8.toInt32)), .unset, .unset]) rfl k) ?_
        show OGo p e below s _ _ _ (s₁.setTop (mkF m 17 #[.val (.int p0), .val (.int p1), .val (.int p2), .val (.int p3), .val (.int (3 : Int32)), .val (.int (p1.toInt8.toInt32)), .val (.int (p2.toInt8.toInt32)), .val (.int (p3.toInt8.toInt32)), .unset, .unset] []))
        refine OGo.st (fun _ k => XS.iload X0.here hx rfl (hb hby at_17) rfl k) ?_
        show OGo p e below s _ _ _ (s₁.setTop (mkF m 19 #[.val (.int p0), .val (.int p1), .val (.int p2), .val (.int p3), .val (.int (3 : Int32)), .val (.int (p1.toInt8.toInt32)), .val (.int (p2.toInt8.toInt32)), .val (.int (p3.toInt8.toInt32)), .unset, .unset] [(.int (3 : Int32))]))
        refine OGo.st (fun _ k => XS.ifYes X0.here hx rfl (pc0 := 19) (pc' := 30) rfl (hb hby at_19) rfl ((if0 _ _).trans (feq (by decide : ¬ ((3 : Int32) = (0 : Int32)))).2) (by decide) (by decide) k) ?_
        show OGo p e below s _ _ _ (s₁.setTop (mkF m 30 #[.val (.int p0), .val (.int p1), .val (.int p2), .val (.int p3), .val (.int (3 : Int32)), .val (.int (p1.toInt8.toInt32)), .val (.int (p2.toInt8.toInt32)), .val (.int (p3.toInt8.toInt32)), .unset, .unset] []))
        refine OGo.st (fun _ k => XS.iload X0.here hx rfl (hb hby at_30) rfl k) ?_
        show OGo p e below s _ _ _ (s₁.setTop (mkF m 32 #[.val (.int p0), .val (.int p1), .val (.int p2), .val (.int p3), .val (.int (3 : Int32)), .val (.int (p1.toInt8.toInt32)), .val (.int (p2.toInt8.toInt32)), .val (.int (p3.toInt8.toInt32)), .unset, .unset] [(.int (3 : Int32))]))
        refine OGo.st (fun _ k => XS.iconst X0.here hx rfl (hb hby at_32) k) ?_
        show OGo p e below s _ _ _ (s₁.setTop (mkF m 33 #[.val (.int p0), .val (.int p1), .val (.int p2), .val (.int p3), .val (.int (3 : Int32)), .val (.int (p1.toInt8.toInt32)), .val (.int (p2.toInt8.toInt32)), .val (.int (p3.toInt8.toInt32)), .unset, .unset] [(.int (1 : Int32)), (.int (3 : Int32))]))
        refine OGo.st (fun _ k => XS.icmpYes X0.here hx rfl (pc0 := 33) (pc' := 49) rfl (hb hby at_33) rfl (feq (by decide : ¬ ((3 : Int32) = (1 : Int32)))).2 (by decide) (by decide) k) ?_
        show OGo p e below s _ _ _ (s₁.setTop (mkF m 49 #[.val (.int p0), .val (.int p1), .val (.int p2), .val (.int p3), .val (.int (3 : Int32)), .val (.int (p1.toInt8.toInt32)), .val (.int (p2.toInt8.toInt32)), .val (.int (p3.toInt8.toInt32)), .unset, .unset] []))
        refine OGo.st (fun _ k => XS.iload X0.here hx rfl (hb hby at_49) rfl k) ?_
        show OGo p e below s _ _ _ (s₁.setTop (mkF m 51 #[.val (.int p0), .val (.int p1), .val (.int p2), .val (.int p3), .val (.int (3 : Int32)), .val (.int (p1.toInt8.toInt32)), .val (.int (p2.toInt8.toInt32)), .val (.int (p3.toInt8.toInt32)), .unset, .unset] [(.int (3 : Int32))]))
        refine OGo.st (fun _ k => XS.iconst X0.here hx rfl (hb hby at_51) k) ?_
        show OGo p e below s _ _ _ (s₁.setTop (mkF m 52 #[.val (.int p0), .val (.int p1), .val (.int p2), .val (.int p3), .val (.int (3 : Int32)), .val (.int (p1.toInt8.toInt32)), .val (.int (p2.toInt8.toInt32)), .val (.int (p3.toInt8.toInt32)), .unset, .unset] [(.int (2 : Int32)), (.int (3 : Int32))]))
        refine OGo.st (fun _ k => XS.icmpYes X0.here hx rfl (pc0 := 52) (pc' := 73) rfl (hb hby at_52) rfl (feq (by decide : ¬ ((3 : Int32) = (2 : Int32)))).2 (by decide) (by decide) k) ?_
        show OGo p e below s _ _ _ (s₁.setTop (mkF m 73 #[.val (.int p0), .val (.int p1), .val (.int p2), .val (.int p3), .val (.int (3 : Int32)), .val (.int (p1.toInt8.toInt32)), .val (.int (p2.toInt8.toInt32)), .val (.int (p3.toInt8.toInt32)), .unset, .unset] []))
        refine OGo.st (fun _ k => XS.iconst X0.here hx rfl (hb hby at_73) k) ?_
        show OGo p e below s _ _ _ (s₁.setTop (mkF m 74 #[.val (.int p0), .val (.int p1), .val (.int p2), .val (.int p3), .val (.int (3 : Int32)), .val (.int (p1.toInt8.toInt32)), .val (.int (p2.toInt8.toInt32)), .val (.int (p3.toInt8.toInt32)), .unset, .unset] [(.int (3 : Int32))]))
        obtain ⟨T25, h25, k25, X25, e25, E25, A25, st25⟩ := newP X0 hx hZ (hw _ (List.mem_of_getElem? (i := 0) rfl)) e0 (g := (mkF m 74 #[.val (.int p0), .val (.int p1), .val (.int p2), .val (.int p3), .val (.int (3 : Int32)), .val (.int (p1.toInt8.toInt32)), .val (.int (p2.toInt8.toInt32)), .val (.int (p3.toInt8.toInt32)), .unset, .unset] [(.int (3 : Int32))])) rfl (hb hby at_74) rfl (by decide) (cap := 3) (by decide) (by decide) (by decide) (by decide)
        obtain ⟨b25, g25⟩ : ∃ z, z = h0.size := ⟨_, rfl⟩
        rw [← g25] at A25 st25
        refine OGo.st st25 ?_
        have g_b25 : n0 ≤ b25 := Nat.le_trans Z0 (Nat.le_of_eq g25.symm)
        have sz_b25 : h0.size ≤ b25 := Nat.le_trans (Keep.refl h0 []).1 (Nat.le_of_eq g25.symm)
        have K25 : Keep h0 h25 [] := (Keep.refl h0 _).ext E25
        have Z25 : n0 ≤ h25.size := Nat.le_trans Z0 E25.1
        have V_b25 : Arv Z h25 b25 k25 .byte (3 : Int32) [(.int (0 : Int32)), (.int (0 : Int32)), (.int (0 : Int32))] (.int (0 : Int32)) := (Arv.new A25 (by decide)).pad (pad_rep [] (.int (0 : Int32)) 3)
        show OGo p e below s _ _ _ (T25.setTop (mkF m 76 #[.val (.int p0), .val (.int p1), .val (.int p2), .val (.int p3), .val (.int (3 : Int32)), .val (.int (p1.toInt8.toInt32)), .val (.int (p2.toInt8.toInt32)), .val (.int (p3.toInt8.toInt32)), .unset, .unset] [(.ref b25)]))
        refine OGo.st (fun _ k => XS.dup X25.here hx rfl (hb hby at_76) rfl rfl k) ?_
        show OGo p e below s _ _ _ (T25.setTop (mkF m 77 #[.val (.int p0), .val (.int p1), .val (.int p2), .val (.int p3), .val (.int (3 : Int32)), .val (.int (p1.toInt8.toInt32)), .val (.int (p2.toInt8.toInt32)), .val (.int (p3.toInt8.toInt32)), .unset, .unset] [(.ref b25), (.ref b25)]))
        refine OGo.st (fun _ k => XS.iconst X25.here hx rfl (hb hby at_77) k) ?_
        show OGo p e below s _ _ _ (T25.setTop (mkF m 78 #[.val (.int p0), .val (.int p1), .val (.int p2), .val (.int p3), .val (.int (3 : Int32)), .val (.int (p1.toInt8.toInt32)), .val (.int (p2.toInt8.toInt32)), .val (.int (p3.toInt8.toInt32)), .unset, .unset] [(.int (0 : Int32)), (.ref b25), (.ref b25)]))
        refine OGo.st (fun _ k => XS.iload X25.here hx rfl (hb hby at_78) rfl k) ?_
        show OGo p e below s _ _ _ (T25.setTop (mkF m 80 #[.val (.int p0), .val (.int p1), .val (.int p2), .val (.int p3), .val (.int (3 : Int32)), .val (.int (p1.toInt8.toInt32)), .val (.int (p2.toInt8.toInt32)), .val (.int (p3.toInt8.toInt32)), .unset, .unset] [(.int (p1.toInt8.toInt32)), (.int (0 : Int32)), (.ref b25), (.ref b25)]))
        obtain ⟨cl26, Ar26, q26, Sz26, Nn26, Hs26, Gs26⟩ := id V_b25
        have hin26 : ¬ ((0 : Int32) < 0 ∨ cl26.slots.size ≤ ((0 : Int32)).toNatClampNeg) := inb_of Sz26 ⟨by decide, by decide⟩
        obtain ⟨T26, h26, X26, e26, W26, st26⟩ := stB X25 hx hZ e25 Ar26 (j := (0 : Int32)) hin26 (g := (mkF m 80 #[.val (.int p0), .val (.int p1), .val (.int p2), .val (.int p3), .val (.int (3 : Int32)), .val (.int (p1.toInt8.toInt32)), .val (.int (p2.toInt8.toInt32)), .val (.int (p3.toInt8.toInt32)), .unset, .unset] [(.int (p1.toInt8.toInt32)), (.int (0 : Int32)), (.ref b25), (.ref b25)])) rfl rfl (hb hby at_80)
        refine OGo.st st26 ?_
        have K26 : Keep h0 h26 [] := (K25).wr W26 (Or.inr sz_b25)
        have N26 := Fr.snoc X26 N0 g_b25
        have Z26 : n0 ≤ h26.size := Nat.le_trans Z25 (Keep.of_wr W26).1
        have V26 : Arv Z h26 b25 k25 .byte (3 : Int32) [(.int (nar .byte (p1.toInt8.toInt32))), (.int (0 : Int32)), (.int (0 : Int32))] (.int (0 : Int32)) := Arv.set Ar26 q26 Sz26 Nn26 Hs26 Gs26 (fits_nar_byte _) W26 0 rfl (Nat.le_of_ble_eq_true rfl)
        show OGo p e below s _ _ _ (T26.setTop (mkF m 81 #[.val (.int p0), .val (.int p1), .val (.int p2), .val (.int p3), .val (.int (3 : Int32)), .val (.int (p1.toInt8.toInt32)), .val (.int (p2.toInt8.toInt32)), .val (.int (p3.toInt8.toInt32)), .unset, .unset] [(.ref b25)]))
        refine OGo.st (fun _ k => XS.dup X26.here hx rfl (hb hby at_81) rfl rfl k) ?_
        show OGo p e below s _ _ _ (T26.setTop (mkF m 82 #[.val (.int p0), .val (.int p1), .val (.int p2), .val (.int p3), .val (.int (3 : Int32)), .val (.int (p1.toInt8.toInt32)), .val (.int (p2.toInt8.toInt32)), .val (.int (p3.toInt8.toInt32)), .unset, .unset] [(.ref b25), (.ref b25)]))
        refine OGo.st (fun _ k => XS.iconst X26.here hx rfl (hb hby at_82) k) ?_
        show OGo p e below s _ _ _ (T26.setTop (mkF m 83 #[.val (.int p0), .val (.int p1), .val (.int p2), .val (.int p3), .val (.int (3 : Int32)), .val (.int (p1.toInt8.toInt32)), .val (.int (p2.toInt8.toInt32)), .val (.int (p3.toInt8.toInt32)), .unset, .unset] [(.int (1 : Int32)), (.ref b25), (.ref b25)]))
        refine OGo.st (fun _ k => XS.iload X26.here hx rfl (hb hby at_83) rfl k) ?_
        show OGo p e below s _ _ _ (T26.setTop (mkF m 85 #[.val (.int p0), .val (.int p1), .val (.int p2), .val (.int p3), .val (.int (3 : Int32)), .val (.int (p1.toInt8.toInt32)), .val (.int (p2.toInt8.toInt32)), .val (.int (p3.toInt8.toInt32)), .unset, .unset] [(.int (p2.toInt8.toInt32)), (.int (1 : Int32)), (.ref b25), (.ref b25)]))
        obtain ⟨cl27, Ar27, q27, Sz27, Nn27, Hs27, Gs27⟩ := id V26
        have hin27 : ¬ ((1 : Int32) < 0 ∨ cl27.slots.size ≤ ((1 : Int32)).toNatClampNeg) := inb_of Sz27 ⟨by decide, by decide⟩
        obtain ⟨T27, h27, X27, e27, W27, st27⟩ := stB X26 hx hZ e26 Ar27 (j := (1 : Int32)) hin27 (g := (mkF m 85 #[.val (.int p0), .val (.int p1), .val (.int p2), .val (.int p3), .val (.int (3 : Int32)), .val (.int (p1.toInt8.toInt32)), .val (.int (p2.toInt8.toInt32)), .val (.int (p3.toInt8.toInt32)), .unset, .unset] [(.int (p2.toInt8.toInt32)), (.int (1 : Int32)), (.ref b25), (.ref b25)])) rfl rfl (hb hby at_85)
        refine OGo.st st27 ?_
        have K27 : Keep h0 h27 [] := (K26).wr W27 (Or.inr sz_b25)
        have N27 := Fr.snoc X27 N26 g_b25
        have Z27 : n0 ≤ h27.size := Nat.le_trans Z26 (Keep.of_wr W27).1
        have V27 : Arv Z h27 b25 k25 .byte (3 : Int32) [(.int (nar .byte (p1.toInt8.toInt32))), (.int (nar .byte (p2.toInt8.toInt32))), (.int (0 : Int32))] (.int (0 : Int32)) := Arv.set Ar27 q27 Sz27 Nn27 Hs27 Gs27 (fits_nar_byte _) W27 1 rfl (Nat.le_of_ble_eq_true rfl)
        show OGo p e below s _ _ _ (T27.setTop (mkF m 86 #[.val (.int p0), .val (.int p1), .val (.int p2), .val (.int p3), .val (.int (3 : Int32)), .val (.int (p1.toInt8.toInt32)), .val (.int (p2.toInt8.toInt32)), .val (.int (p3.toInt8.toInt32)), .unset, .unset] [(.ref b25)]))
        refine OGo.st (fun _ k => XS.dup X27.here hx rfl (hb hby at_86) rfl rfl k) ?_
        show OGo p e below s _ _ _ (T27.setTop (mkF m 87 #[.val (.int p0), .val (.int p1), .val (.int p2), .val (.int p3), .val (.int (3 : Int32)), .val (.int (p1.toInt8.toInt32)), .val (.int (p2.toInt8.toInt32)), .val (.int (p3.toInt8.toInt32)), .unset, .unset] [(.ref b25), (.ref b25)]))
        refine OGo.st (fun _ k => XS.iconst X27.here hx rfl (hb hby at_87) k) ?_
        show OGo p e below s _ _ _ (T27.setTop (mkF m 88 #[.val (.int p0), .val (.int p1), .val (.int p2), .val (.int p3), .val (.int (3 : Int32)), .val (.int (p1.toInt8.toInt32)), .val (.int (p2.toInt8.toInt32)), .val (.int (p3.toInt8.toInt32)), .unset, .unset] [(.int (2 : Int32)), (.ref b25), (.ref b25)]))
        refine OGo.st (fun _ k => XS.iload X27.here hx rfl (hb hby at_88) rfl k) ?_
        show OGo p e below s _ _ _ (T27.setTop (mkF m 90 #[.val (.int p0), .val (.int p1), .val (.int p2), .val (.int p3), .val (.int (3 : Int32)), .val (.int (p1.toInt8.toInt32)), .val (.int (p2.toInt8.toInt32)), .val (.int (p3.toInt8.toInt32)), .unset, .unset] [(.int (p3.toInt8.toInt32)), (.int (2 : Int32)), (.ref b25), (.ref b25)]))
        obtain ⟨cl28, Ar28, q28, Sz28, Nn28, Hs28, Gs28⟩ := id V27
        have hin28 : ¬ ((2 : Int32) < 0 ∨ cl28.slots.size ≤ ((2 : Int32)).toNatClampNeg) := inb_of Sz28 ⟨by decide, by decide⟩
        obtain ⟨T28, h28, X28, e28, W28, st28⟩ := stB X27 hx hZ e27 Ar28 (j := (2 : Int32)) hin28 (g := (mkF m 90 #[.val (.int p0), .val (.int p1), .val (.int p2), .val (.int p3), .val (.int (3 : Int32)), .val (.int (p1.toInt8.toInt32)), .val (.int (p2.toInt8.toInt32)), .val (.int (p3.toInt8.toInt32)), .unset, .unset] [(.int (p3.toInt8.toInt32)), (.int (2 : Int32)), (.ref b25), (.ref b25)])) rfl rfl (hb hby at_90)
        refine OGo.st st28 ?_
        have K28 : Keep h0 h28 [] := (K27).wr W28 (Or.inr sz_b25)
        have N28 := Fr.snoc X28 N27 g_b25
        have Z28 : n0 ≤ h28.size := Nat.le_trans Z27 (Keep.of_wr W28).1
        have V28 : Arv Z h28 b25 k25 .byte (3 : Int32) [(.int (nar .byte (p1.toInt8.toInt32))), (.int (nar .byte (p2.toInt8.toInt32))), (.int (nar .byte (p3.toInt8.toInt32)))] (.int (0 : Int32)) := Arv.set Ar28 q28 Sz28 Nn28 Hs28 Gs28 (fits_nar_byte _) W28 2 rfl (Nat.le_of_ble_eq_true rfl)
        show OGo p e below s _ _ _ (T28.setTop (mkF m 91 #[.val (.int p0), .val (.int p1), .val (.int p2), .val (.int p3), .val (.int (3 : Int32)), .val (.int (p1.toInt8.toInt32)), .val (.int (p2.toInt8.toInt32)), .val (.int (p3.toInt8.toInt32)), .unset, .unset] [(.ref b25)]))
        refine OGo.st (fun _ k => XS.astore X28.here hx rfl (hb hby at_91) rfl rfl (l' := #[.val (.int p0), .val (.int p1), .val (.int p2), .val (.int p3), .val (.int (3 : Int32)), .val (.int (p1.toInt8.toInt32)), .val (.int (p2.toInt8.toInt32)), .val (.int (p3.toInt8.toInt32)), .val (.ref b25), .unset]) rfl k) ?_
        show OGo p e below s _ _ _ (T28.setTop (mkF m 93 #[.val (.int p0), .val (.int p1), .val (.int p2), .val (.int p3), .val (.int (3 : Int32)), .val (.int (p1.toInt8.toInt32)), .val (.int (p2.toInt8.toInt32)), .val (.int (p3.toInt8.toInt32)), .val (.ref b25), .unset] []))
        refine OGo.st (fun _ k => XS.aload X28.here hx rfl (hb hby at_93) rfl rfl k) ?_
        show OGo p e below s _ _ _ (T28.setTop (mkF m 95 #[.val (.int p0), .val (.int p1), .val (.int p2), .val (.int p3), .val (.int (3 : Int32)), .val (.int (p1.toInt8.toInt32)), .val (.int (p2.toInt8.toInt32)), .val (.int (p3.toInt8.toInt32)), .val (.ref b25), .unset] [(.ref b25)]))
        obtain ⟨_, _, ⟨T29, L29, k29, n29⟩, -, X29, ⟨Lc29, hQ29, l29, y29, z29⟩, st29⟩ := Jvm.LawKit.callS X28 hx (y := (⟨"com/example/rows_over_order/rowsoverorder/TupleCodec", "rangeEnd", "([B)[B"⟩ : MethodName)) hown (mvT hZ (hw _ (List.mem_of_getElem? (i := 1) rfl))) (mvT hZ (hw _ (List.mem_of_getElem? (i := 2) rfl))) (mvT hZ (hw _ (List.mem_of_getElem? (i := 3) rfl))) (mvT hZ (hw _ (List.mem_of_getElem? (i := 4) rfl))) (by decide) (backOf (W := 0) (rm1L3 l Z a0 hw [] b25 k25 (nar .byte (p1.toInt8.toInt32)) (nar .byte (p2.toInt8.toInt32)) (nar .byte (p3.toInt8.toInt32)) h28 n0 Z28 V28) hZ (hw _ (List.mem_of_getElem? (i := 4) rfl)) (hw _ (List.mem_of_getElem? (i := 3) rfl)) (by decide) (by decide)) (g := (mkF m 95 #[.val (.int p0), .val (.int p1), .val (.int p2), .val (.int p3), .val (.int (3 : Int32)), .val (.int (p1.toInt8.toInt32)), .val (.int (p2.toInt8.toInt32)), .val (.int (p3.toInt8.toInt32)), .val (.ref b25), .unset] [(.ref b25)])) rfl (by rw [hml]; rfl) (argsL := [(.ref b25)]) (rest := []) (lenOf pd_0_0 rfl) rfl (by show 2 * 0 + _ ≤ _; exact Nat.le_of_eq rfl) (hb hby at_95) (fun _ _ => ⟨rfl, e28, (by decide : 1 + 1 ≤ _), (by decide : 3 + 4 ≤ _)⟩)
        dsimp only [Pt.U, Pt.locs, Pt.cells, Pt.slots] at X29 l29 y29 z29 st29 hQ29
        subst l29 y29 z29
        obtain ⟨b29, kk29, rfl, N29q, Kc29, szq29, g_b29, V29⟩ := hQ29
        have ne_b25_b29 : b25 ≠ b29 := Nat.ne_of_lt (Nat.lt_of_lt_of_le V28.lt szq29)
        have sz_b29 : h0.size ≤ b29 := Nat.le_trans (K28).1 szq29
        have V28_w29 := V28.keep Kc29 nin0
        have K29 : Keep h0 T29.heap [] := (K28).trans Kc29 all0
        have Z29 : n0 ≤ T29.heap.size := Nat.le_trans Z28 Kc29.1
        have V29 : Arv Z T29.heap b29 kk29 .byte (4 : Int32) [(.int (nar .byte (p1.toInt8.toInt32))), (.int (nar .byte (p2.toInt8.toInt32))), (.int (nar .byte (p3.toInt8.toInt32))), (.int (-1 : Int32))] (.int (0 : Int32)) := V29
        have N29 := Fr.app N28 N29q
        refine OGo.st st29 ?_
        show OGo p e below s _ _ _ (T29.setTop (mkF m 98 #[.val (.int p0), .val (.int p1), .val (.int p2), .val (.int p3), .val (.int (3 : Int32)), .val (.int (p1.toInt8.toInt32)), .val (.int (p2.toInt8.toInt32)), .val (.int (p3.toInt8.toInt32)), .val (.ref b25), .unset] [(.ref b29)]))
        refine OGo.st (fun _ k => XS.astore X29.here hx rfl (hb hby at_98) rfl rfl (l' := #[.val (.int p0), .val (.int p1), .val (.int p2), .val (.int p3), .val (.int (3 : Int32)), .val (.int (p1.toInt8.toInt32)), .val (.int (p2.toInt8.toInt32)), .val (.int (p3.toInt8.toInt32)), .val (.ref b25), .val (.ref b29)]) rfl k) ?_
        show OGo p e below s _ _ _ (T29.setTop (mkF m 100 #[.val (.int p0), .val (.int p1), .val (.int p2), .val (.int p3), .val (.int (3 : Int32)), .val (.int (p1.toInt8.toInt32)), .val (.int (p2.toInt8.toInt32)), .val (.int (p3.toInt8.toInt32)), .val (.ref b25), .val (.ref b29)] []))
        refine OGo.st (fun _ k => XS.aload X29.here hx rfl (hb hby at_100) rfl rfl k) ?_
        show OGo p e below s _ _ _ (T29.setTop (mkF m 102 #[.val (.int p0), .val (.int p1), .val (.int p2), .val (.int p3), .val (.int (3 : Int32)), .val (.int (p1.toInt8.toInt32)), .val (.int (p2.toInt8.toInt32)), .val (.int (p3.toInt8.toInt32)), .val (.ref b25), .val (.ref b29)] [(.ref b29)]))
        refine OGo.st (fun _ k => XS.ifnullNo X29.here hx rfl (hb hby at_102) rfl k) ?_
        show OGo p e below s _ _ _ (T29.setTop (mkF m 105 #[.val (.int p0), .val (.int p1), .val (.int p2), .val (.int p3), .val (.int (3 : Int32)), .val (.int (p1.toInt8.toInt32)), .val (.int (p2.toInt8.toInt32)), .val (.int (p3.toInt8.toInt32)), .val (.ref b25), .val (.ref b29)] []))
        refine OGo.st (fun _ k => XS.aload X29.here hx rfl (hb hby at_105) rfl rfl k) ?_
        show OGo p e below s _ _ _ (T29.setTop (mkF m 107 #[.val (.int p0), .val (.int p1), .val (.int p2), .val (.int p3), .val (.int (3 : Int32)), .val (.int (p1.toInt8.toInt32)), .val (.int (p2.toInt8.toInt32)), .val (.int (p3.toInt8.toInt32)), .val (.ref b25), .val (.ref b29)] [(.ref b29)]))
        refine OGo.st (fun _ k => XS.aload X29.here hx rfl (hb hby at_107) rfl rfl k) ?_
        show OGo p e below s _ _ _ (T29.setTop (mkF m 109 #[.val (.int p0), .val (.int p1), .val (.int p2), .val (.int p3), .val (.int (3 : Int32)), .val (.int (p1.toInt8.toInt32)), .val (.int (p2.toInt8.toInt32)), .val (.int (p3.toInt8.toInt32)), .val (.ref b25), .val (.ref b29)] [(.ref b25), (.ref b29)]))
        refine OGo.st (fun _ k => Jvm.RoadKit.acmp (g := (mkF m 109 #[.val (.int p0), .val (.int p1), .val (.int p2), .val (.int p3), .val (.int (3 : Int32)), .val (.int (p1.toInt8.toInt32)), .val (.int (p2.toInt8.toInt32)), .val (.int (p3.toInt8.toInt32)), .val (.ref b25), .val (.ref b29)] [(.ref b25), (.ref b29)])) X29 hx rfl rfl rfl (pc0 := 109) (pc' := 112) (same := false) rfl (hb hby at_109) rfl (decide_eq_false fun q => (Ne.symm ne_b25_b29) (Value.ref.inj q)) (by decide) (by decide) k) ?_
        show OGo p e below s _ _ _ (T29.setTop (mkF m 112 #[.val (.int p0), .val (.int p1), .val (.int p2), .val (.int p3), .val (.int (3 : Int32)), .val (.int (p1.toInt8.toInt32)), .val (.int (p2.toInt8.toInt32)), .val (.int (p3.toInt8.toInt32)), .val (.ref b25), .val (.ref b29)] []))
        refine OGo.st (fun _ k => XS.aload X29.here hx rfl (hb hby at_112) rfl rfl k) ?_
        show OGo p e below s _ _ _ (T29.setTop (mkF m 114 #[.val (.int p0), .val (.int p1), .val (.int p2), .val (.int p3), .val (.int (3 : Int32)), .val (.int (p1.toInt8.toInt32)), .val (.int (p2.toInt8.toInt32)), .val (.int (p3.toInt8.toInt32)), .val (.ref b25), .val (.ref b29)] [(.ref b29)]))
        obtain ⟨cl30, Ar30, -, Sz30, Nn30, -, -⟩ := id V29
        refine OGo.st (fun _ k => X29.arraylength hx Ar30.1 (State.isArrayOf_alike hZ.alike Ar30.2.1) (g := (mkF m 114 #[.val (.int p0), .val (.int p1), .val (.int p2), .val (.int p3), .val (.int (3 : Int32)), .val (.int (p1.toInt8.toInt32)), .val (.int (p2.toInt8.toInt32)), .val (.int (p3.toInt8.toInt32)), .val (.ref b25), .val (.ref b29)] [(.ref b29)])) rfl rfl (hb hby at_114) _ k) ?_
        rw [len_of Sz30 Nn30]
        show OGo p e below s _ _ _ (T29.setTop (mkF m 115 #[.val (.int p0), .val (.int p1), .val (.int p2), .val (.int p3), .val (.int (3 : Int32)), .val (.int (p1.toInt8.toInt32)), .val (.int (p2.toInt8.toInt32)), .val (.int (p3.toInt8.toInt32)), .val (.ref b25), .val (.ref b29)] [(.int (4 : Int32))]))
        refine OGo.st (fun _ k => XS.iload X29.here hx rfl (hb hby at_115) rfl k) ?_
        show OGo p e below s _ _ _ (T29.setTop (mkF m 117 #[.val (.int p0), .val (.int p1), .val (.int p2), .val (.int p3), .val (.int (3 : Int32)), .val (.int (p1.toInt8.toInt32)), .val (.int (p2.toInt8.toInt32)), .val (.int (p3.toInt8.toInt32)), .val (.ref b25), .val (.ref b29)] [(.int (3 : Int32)), (.int (4 : Int32))]))
        refine OGo.st (fun _ k => XS.iconst X29.here hx rfl (hb hby at_117) k) ?_
        show OGo p e below s _ _ _ (T29.setTop (mkF m 118 #[.val (.int p0), .val (.int p1), .val (.int p2), .val (.int p3), .val (.int (3 : Int32)), .val (.int (p1.toInt8.toInt32)), .val (.int (p2.toInt8.toInt32)), .val (.int (p3.toInt8.toInt32)), .val (.ref b25), .val (.ref b29)] [(.int (1 : Int32)), (.int (3 : Int32)), (.int (4 : Int32))]))
        refine OGo.st (fun _ k => XS.iadd X29.here hx rfl (hb hby at_118) rfl k) ?_
        rw [show ((3 : Int32) + (1 : Int32)) = (4 : Int32) from by decide]
        show OGo p e below s _ _ _ (T29.setTop (mkF m 119 #[.val (.int p0), .val (.int p1), .val (.int p2), .val (.int p3), .val (.int (3 : Int32)), .val (.int (p1.toInt8.toInt32)), .val (.int (p2.toInt8.toInt32)), .val (.int (p3.toInt8.toInt32)), .val (.ref b25), .val (.ref b29)] [(.int (4 : Int32)), (.int (4 : Int32))]))
        refine OGo.st (fun _ k => XS.icmpYes X29.here hx rfl (pc0 := 119) (pc' := 124) rfl (hb hby at_119) rfl (teq (by decide : (4 : Int32) = (4 : Int32))).1 (by decide) (by decide) k) ?_
        show OGo p e below s _ _ _ (T29.setTop (mkF m 124 #[.val (.int p0), .val (.int p1), .val (.int p2), .val (.int p3), .val (.int (3 : Int32)), .val (.int (p1.toInt8.toInt32)), .val (.int (p2.toInt8.toInt32)), .val (.int (p3.toInt8.toInt32)), .val (.ref b25), .val (.ref b29)] []))
        refine OGo.st (fun _ k => XS.aload X29.here hx rfl (hb hby at_124) rfl rfl k) ?_
        show OGo p e below s _ _ _ (T29.setTop (mkF m 126 #[.val (.int p0), .val (.int p1), .val (.int p2), .val (.int p3), .val (.int (3 : Int32)), .val (.int (p1.toInt8.toInt32)), .val (.int (p2.toInt8.toInt32)), .val (.int (p3.toInt8.toInt32)), .val (.ref b25), .val (.ref b29)] [(.ref b29)]))
        refine OGo.st (fun _ k => XS.iload X29.here hx rfl (hb hby at_126) rfl k) ?_
        show OGo p e below s _ _ _ (T29.setTop (mkF m 128 #[.val (.int p0), .val (.int p1), .val (.int p2), .val (.int p3), .val (.int (3 : Int32)), .val (.int (p1.toInt8.toInt32)), .val (.int (p2.toInt8.toInt32)), .val (.int (p3.toInt8.toInt32)), .val (.ref b25), .val (.ref b29)] [(.int (3 : Int32)), (.ref b29)]))
        refine OGo.st (fun _ k => XS.iload X29.here hx rfl (hb hby at_128) rfl k) ?_
        show OGo p e below s _ _ _ (T29.setTop (mkF m 130 #[.val (.int p0), .val (.int p1), .val (.int p2), .val (.int p3), .val (.int (3 : Int32)), .val (.int (p1.toInt8.toInt32)), .val (.int (p2.toInt8.toInt32)), .val (.int (p3.toInt8.toInt32)), .val (.ref b25), .val (.ref b29)] [(.int (p1.toInt8.toInt32)), (.int (3 : Int32)), (.ref b29)]))
        refine OGo.st (fun _ k => XS.iload X29.here hx rfl (hb hby at_130) rfl k) ?_
        show OGo p e below s _ _ _ (T29.setTop (mkF m 132 #[.val (.int p0), .val (.int p1), .val (.int p2), .val (.int p3), .val (.int (3 : Int32)), .val (.int (p1.toInt8.toInt32)), .val (.int (p2.toInt8.toInt32)), .val (.int (p3.toInt8.toInt32)), .val (.ref b25), .val (.ref b29)] [(.int (p2.toInt8.toInt32)), (.int (p1.toInt8.toInt32)), (.int (3 : Int32)), (.ref b29)]))
        refine OGo.st (fun _ k => XS.iload X29.here hx rfl (hb hby at_132) rfl k) ?_
        show OGo p e below s _ _ _ (T29.setTop (mkF m 134 #[.val (.int p0), .val (.int p1), .val (.int p2), .val (.int p3), .val (.int (3 : Int32)), .val (.int (p1.toInt8.toInt32)), .val (.int (p2.toInt8.toInt32)), .val (.int (p3.toInt8.toInt32)), .val (.ref b25), .val (.ref b29)] [(.int (p3.toInt8.toInt32)), (.int (p2.toInt8.toInt32)), (.int (p1.toInt8.toInt32)), (.int (3 : Int32)), (.ref b29)]))
        obtain ⟨_, _, ⟨T31, L31, k31, n31⟩, -, X31, ⟨Lc31, hQ31, l31, y31, z31⟩, st31⟩ := Jvm.LawKit.callS X29 hx (y := (⟨"com/example/rows_over_order/rowsoverorder/TupleCodecRangeEndPinLaw", "matches", "([BIBBB)Z"⟩ : MethodName)) hown (mvT hZ (hw _ (List.mem_of_getElem? (i := 17) rfl))) (mvT hZ (hw _ (List.mem_of_getElem? (i := 18) rfl))) (mvT hZ (hw _ (List.mem_of_getElem? (i := 19) rfl))) (mvT hZ (hw _ (List.mem_of_getElem? (i := 20) rfl))) (by decide) (backOf (W := 0) (rm4L43 l Z a0 hw [] b29 (p1.toInt8.toInt32) (p2.toInt8.toInt32) (p3.toInt8.toInt32) kk29 (nar .byte (p1.toInt8.toInt32)) (nar .byte (p2.toInt8.toInt32)) (nar .byte (p3.toInt8.toInt32)) (-1 : Int32) T29.heap n0 Z29 V29) hZ (hw _ (List.mem_of_getElem? (i := 20) rfl)) (hw _ (List.mem_of_getElem? (i := 19) rfl)) (by decide) (by decide)) (g := (mkF m 134 #[.val (.int p0), .val (.int p1), .val (.int p2), .val (.int p3), .val (.int (3 : Int32)), .val (.int (p1.toInt8.toInt32)), .val (.int (p2.toInt8.toInt32)), .val (.int (p3.toInt8.toInt32)), .val (.ref b25), .val (.ref b29)] [(.int (p3.toInt8.toInt32)), (.int (p2.toInt8.toInt32)), (.int (p1.toInt8.toInt32)), (.int (3 : Int32)), (.ref b29)])) rfl (by rw [hml]; rfl) (argsL := [(.ref b29), (.int (3 : Int32)), (.int (p1.toInt8.toInt32)), (.int (p2.toInt8.toInt32)), (.int (p3.toInt8.toInt32))]) (rest := []) (lenOf pd_0_1 rfl) rfl (by show 2 * 0 + _ ≤ _; exact Nat.le_of_eq rfl) (hb hby at_134) (fun _ _ => ⟨rfl, rfl, (by decide : 2 + 0 ≤ _), (by decide : 7 + 0 ≤ _)⟩)
        dsimp only [Pt.U, Pt.locs, Pt.cells, Pt.slots] at X31 l31 y31 z31 st31 hQ31
        subst l31 y31 z31
        obtain ⟨rfl, N31q, e31⟩ := hQ31
        have N31 := Fr.app N29 N31q
        refine OGo.st st31 ?_
        show OGo p e below s _ _ _ (T31.setTop (mkF m 137 #[.val (.int p0), .val (.int p1), .val (.int p2), .val (.int p3), .val (.int (3 : Int32)), .val (.int (p1.toInt8.toInt32)), .val (.int (p2.toInt8.toInt32)), .val (.int (p3.toInt8.toInt32)), .val (.ref b25), .val (.ref b29)] [(.int (f4L43 (p1.toInt8.toInt32) (p2.toInt8.toInt32) (p3.toInt8.toInt32) (nar .byte (p1.toInt8.toInt32)) (nar .byte (p2.toInt8.toInt32)) (nar .byte (p3.toInt8.toInt32))))]))
        by_cases hc137 : (f4L43 (p1.toInt8.toInt32) (p2.toInt8.toInt32) (p3.toInt8.toInt32) (nar .byte (p1.toInt8.toInt32)) (nar .byte (p2.toInt8.toInt32)) (nar .byte (p3.toInt8.toInt32))) = (0 : Int32)
        · refine OGo.st (fun _ k => XS.ifNo X31.here hx rfl (hb hby at_137) rfl ((if0 _ _).trans (teq hc137).2) k) ?_
          show OGo p e below s _ _ _ (T31.setTop (mkF m 140 #[.val (.int p0), .val (.int p1), .val (.int p2), .val (.int p3), .val (.int (3 : Int32)), .val (.int (p1.toInt8.toInt32)), .val (.int (p2.toInt8.toInt32)), .val (.int (p3.toInt8.toInt32)), .val (.ref b25), .val (.ref b29)] []))
          refine OGo.st (fun _ k => XS.iconst X31.here hx rfl (hb hby at_140) k) ?_
          show OGo p e below s _ _ _ (T31.setTop (mkF m 141 #[.val (.int p0), .val (.int p1), .val (.int p2), .val (.int p3), .val (.int (3 : Int32)), .val (.int (p1.toInt8.toInt32)), .val (.int (p2.toInt8.toInt32)), .val (.int (p3.toInt8.toInt32)), .val (.ref b25), .val (.ref b29)] [(.int (0 : Int32))]))
          exact oretN X31 hx Bd.notSynchronized (t := .boolean) Bd.returns (by simp) (hb hby at_141) (z' := (0 : Int32)) (by decide) e31 ⟨(congrArg (fun z => some (Value.int z)) (show (0 : Int32) = f0 p0 p1 p2 p3 from Eq.symm (by unfold f0; exact (if_neg hc5).trans ((if_neg hc5_2).trans ((if_neg hc5_3).trans (if_pos hc137)))))), N31⟩ (by decide) (by decide)
        · refine OGo.st (fun _ k => XS.ifYes X31.here hx rfl (pc0 := 137) (pc' := 142) rfl (hb hby at_137) rfl ((if0 _ _).trans (feq hc137).2) (by decide) (by decide) k) ?_
          show OGo p e below s _ _ _ (T31.setTop (mkF m 142 #[.val (.int p0), .val (.int p1), .val (.int p2), .val (.int p3), .val (.int (3 : Int32)), .val (.int (p1.toInt8.toInt32)), .val (.int (p2.toInt8.toInt32)), .val (.int (p3.toInt8.toInt32)), .val (.ref b25), .val (.ref b29)] []))
          refine OGo.st (fun _ k => XS.aload X31.here hx rfl (hb hby at_142) rfl rfl k) ?_
          show OGo p e below s _ _ _ (T31.setTop (mkF m 144 #[.val (.int p0), .val (.int p1), .val (.int p2), .val (.int p3), .val (.int (3 : Int32)), .val (.int (p1.toInt8.toInt32)), .val (.int (p2.toInt8.toInt32)), .val (.int (p3.toInt8.toInt32)), .val (.ref b25), .val (.ref b29)] [(.ref b29)]))
          refine OGo.st (fun _ k => XS.iload X31.here hx rfl (hb hby at_144) rfl k) ?_
          show OGo p e below s _ _ _ (T31.setTop (mkF m 146 #[.val (.int p0), .val (.int p1), .val (.int p2), .val (.int p3), .val (.int (3 : Int32)), .val (.int (p1.toInt8.toInt32)), .val (.int (p2.toInt8.toInt32)), .val (.int (p3.toInt8.toInt32)), .val (.ref b25), .val (.ref b29)] [(.int (3 : Int32)), (.ref b29)]))
          obtain ⟨cl32, Ar32, q32, Sz32, Nn32, Hs32, Gs32⟩ := id V29
          have hin32 : ¬ ((3 : Int32) < 0 ∨ cl32.slots.size ≤ ((3 : Int32)).toNatClampNeg) := inb_of Sz32 ⟨by decide, by decide⟩
          have hat32 : cl32.slots[((3 : Int32)).toNatClampNeg]? = some (.int (-1 : Int32)) := Hs32.at hin32 rfl
          refine OGo.st (fun _ k => X31.baloadBytes hx (j := (3 : Int32)) (v := (.int (-1 : Int32))) (by rw [e31]; exact Ar32.1) (State.isArrayOf_alike hZ.alike Ar32.2.1) Ar32.2.2 hin32 hat32 (g := (mkF m 146 #[.val (.int p0), .val (.int p1), .val (.int p2), .val (.int p3), .val (.int (3 : Int32)), .val (.int (p1.toInt8.toInt32)), .val (.int (p2.toInt8.toInt32)), .val (.int (p3.toInt8.toInt32)), .val (.ref b25), .val (.ref b29)] [(.int (3 : Int32)), (.ref b29)])) rfl rfl (hb hby at_146) _ k) ?_
          show OGo p e below s _ _ _ (T31.setTop (mkF m 147 #[.val (.int p0), .val (.int p1), .val (.int p2), .val (.int p3), .val (.int (3 : Int32)), .val (.int (p1.toInt8.toInt32)), .val (.int (p2.toInt8.toInt32)), .val (.int (p3.toInt8.toInt32)), .val (.ref b25), .val (.ref b29)] [(.int (-1 : Int32))]))
          refine OGo.st (fun _ k => XS.iconst X31.here hx rfl (hb hby at_147) k) ?_
          show OGo p e below s _ _ _ (T31.setTop (mkF m 148 #[.val (.int p0), .val (.int p1), .val (.int p2), .val (.int p3), .val (.int (3 : Int32)), .val (.int (p1.toInt8.toInt32)), .val (.int (p2.toInt8.toInt32)), .val (.int (p3.toInt8.toInt32)), .val (.ref b25), .val (.ref b29)] [(.int (-1 : Int32)), (.int (-1 : Int32))]))
          refine OGo.st (fun _ k => XS.icmpYes X31.here hx rfl (pc0 := 148) (pc' := 153) rfl (hb hby at_148) rfl (teq (by decide : (-1 : Int32) = (-1 : Int32))).1 (by decide) (by decide) k) ?_
          show OGo p e below s _ _ _ (T31.setTop (mkF m 153 #[.val (.int p0), .val (.int p1), .val (.int p2), .val (.int p3), .val (.int (3 : Int32)), .val (.int (p1.toInt8.toInt32)), .val (.int (p2.toInt8.toInt32)), .val (.int (p3.toInt8.toInt32)), .val (.ref b25), .val (.ref b29)] []))
          refine OGo.st (fun _ k => XS.aload X31.here hx rfl (hb hby at_153) rfl rfl k) ?_
          show OGo p e below s _ _ _ (T31.setTop (mkF m 155 #[.val (.int p0), .val (.int p1), .val (.int p2), .val (.int p3), .val (.int (3 : Int32)), .val (.int (p1.toInt8.toInt32)), .val (.int (p2.toInt8.toInt32)), .val (.int (p3.toInt8.toInt32)), .val (.ref b25), .val (.ref b29)] [(.ref b25)]))
          obtain ⟨cl33, Ar33, -, Sz33, Nn33, -, -⟩ := id V28_w29
          refine OGo.st (fun _ k => X31.arraylength hx (by rw [e31]; exact Ar33.1) (State.isArrayOf_alike hZ.alike Ar33.2.1) (g := (mkF m 155 #[.val (.int p0), .val (.int p1), .val (.int p2), .val (.int p3), .val (.int (3 : Int32)), .val (.int (p1.toInt8.toInt32)), .val (.int (p2.toInt8.toInt32)), .val (.int (p3.toInt8.toInt32)), .val (.ref b25), .val (.ref b29)] [(.ref b25)])) rfl rfl (hb hby at_155) _ k) ?_
          rw [len_of Sz33 Nn33]
          show OGo p e below s _ _ _ (T31.setTop (mkF m 156 #[.val (.int p0), .val (.int p1), .val (.int p2), .val (.int p3), .val (.int (3 : Int32)), .val (.int (p1.toInt8.toInt32)), .val (.int (p2.toInt8.toInt32)), .val (.int (p3.toInt8.toInt32)), .val (.ref b25), .val (.ref b29)] [(.int (3 : Int32))]))
          refine OGo.st (fun _ k => XS.iload X31.here hx rfl (hb hby at_156) rfl k) ?_
          show OGo p e below s _ _ _ (T31.setTop (mkF m 158 #[.val (.int p0), .val (.int p1), .val (.int p2), .val (.int p3), .val (.int (3 : Int32)), .val (.int (p1.toInt8.toInt32)), .val (.int (p2.toInt8.toInt32)), .val (.int (p3.toInt8.toInt32)), .val (.ref b25), .val (.ref b29)] [(.int (3 : Int32)), (.int (3 : Int32))]))
          refine OGo.st (fun _ k => XS.icmpNo X31.here hx rfl (hb hby at_158) rfl (teq (by decide : (3 : Int32) = (3 : Int32))).2 k) ?_
          show OGo p e below s _ _ _ (T31.setTop (mkF m 161 #[.val (.int p0), .val (.int p1), .val (.int p2), .val (.int p3), .val (.int (3 : Int32)), .val (.int (p1.toInt8.toInt32)), .val (.int (p2.toInt8.toInt32)), .val (.int (p3.toInt8.toInt32)), .val (.ref b25), .val (.ref b29)] []))
          refine OGo.st (fun _ k => XS.aload X31.here hx rfl (hb hby at_161) rfl rfl k) ?_
          show OGo p e below s _ _ _ (T31.setTop (mkF m 163 #[.val (.int p0), .val (.int p1), .val (.int p2), .val (.int p3), .val (.int (3 : Int32)), .val (.int (p1.toInt8.toInt32)), .val (.int (p2.toInt8.toInt32)), .val (.int (p3.toInt8.toInt32)), .val (.ref b25), .val (.ref b29)] [(.ref b25)]))
          refine OGo.st (fun _ k => XS.iload X31.here hx rfl (hb hby at_163) rfl k) ?_
          show OGo p e below s _ _ _ (T31.setTop (mkF m 165 #[.val (.int p0), .val (.int p1), .val (.int p2), .val (.int p3), .val (.int (3 : Int32)), .val (.int (p1.toInt8.toInt32)), .val (.int (p2.toInt8.toInt32)), .val (.int (p3.toInt8.toInt32)), .val (.ref b25), .val (.ref b29)] [(.int (3 : Int32)), (.ref b25)]))
          refine OGo.st (fun _ k => XS.iload X31.here hx rfl (hb hby at_165) rfl k) ?_
          show OGo p e below s _ _ _ (T31.setTop (mkF m 167 #[.val (.int p0), .val (.int p1), .val (.int p2), .val (.int p3), .val (.int (3 : Int32)), .val (.int (p1.toInt8.toInt32)), .val (.int (p2.toInt8.toInt32)), .val (.int (p3.toInt8.toInt32)), .val (.ref b25), .val (.ref b29)] [(.int (p1.toInt8.toInt32)), (.int (3 : Int32)), (.ref b25)]))
          refine OGo.st (fun _ k => XS.iload X31.here hx rfl (hb hby at_167) rfl k) ?_
          show OGo p e below s _ _ _ (T31.setTop (mkF m 169 #[.val (.int p0), .val (.int p1), .val (.int p2), .val (.int p3), .val (.int (3 : Int32)), .val (.int (p1.toInt8.toInt32)), .val (.int (p2.toInt8.toInt32)), .val (.int (p3.toInt8.toInt32)), .val (.ref b25), .val (.ref b29)] [(.int (p2.toInt8.toInt32)), (.int (p1.toInt8.toInt32)), (.int (3 : Int32)), (.ref b25)]))
          refine OGo.st (fun _ k => XS.iload X31.here hx rfl (hb hby at_169) rfl k) ?_
          show OGo p e below s _ _ _ (T31.setTop (mkF m 171 #[.val (.int p0), .val (.int p1), .val (.int p2), .val (.int p3), .val (.int (3 : Int32)), .val (.int (p1.toInt8.toInt32)), .val (.int (p2.toInt8.toInt32)), .val (.int (p3.toInt8.toInt32)), .val (.ref b25), .val (.ref b29)] [(.int (p3.toInt8.toInt32)), (.int (p2.toInt8.toInt32)), (.int (p1.toInt8.toInt32)), (.int (3 : Int32)), (.ref b25)]))
          obtain ⟨_, _, ⟨T34, L34, k34, n34⟩, -, X34, ⟨Lc34, hQ34, l34, y34, z34⟩, st34⟩ := Jvm.LawKit.callS X31 hx (y := (⟨"com/example/rows_over_order/rowsoverorder/TupleCodecRangeEndPinLaw", "matches", "([BIBBB)Z"⟩ : MethodName)) hown (mvT hZ (hw _ (List.mem_of_getElem? (i := 17) rfl))) (mvT hZ (hw _ (List.mem_of_getElem? (i := 18) rfl))) (mvT hZ (hw _ (List.mem_of_getElem? (i := 19) rfl))) (mvT hZ (hw _ (List.mem_of_getElem? (i := 20) rfl))) (by decide) (backOf (W := 0) (rm4L33 l Z a0 hw [] b25 (p1.toInt8.toInt32) (p2.toInt8.toInt32) (p3.toInt8.toInt32) k25 (nar .byte (p1.toInt8.toInt32)) (nar .byte (p2.toInt8.toInt32)) (nar .byte (p3.toInt8.toInt32)) T29.heap n0 Z29 V28_w29) hZ (hw _ (List.mem_of_getElem? (i := 20) rfl)) (hw _ (List.mem_of_getElem? (i := 19) rfl)) (by decide) (by decide)) (g := (mkF m 171 #[.val (.int p0), .val (.int p1), .val (.int p2), .val (.int p3), .val (.int (3 : Int32)), .val (.int (p1.toInt8.toInt32)), .val (.int (p2.toInt8.toInt32)), .val (.int (p3.toInt8.toInt32)), .val (.ref b25), .val (.ref b29)] [(.int (p3.toInt8.toInt32)), (.int (p2.toInt8.toInt32)), (.int (p1.toInt8.toInt32)), (.int (3 : Int32)), (.ref b25)])) rfl (by rw [hml]; rfl) (argsL := [(.ref b25), (.int (3 : Int32)), (.int (p1.toInt8.toInt32)), (.int (p2.toInt8.toInt32)), (.int (p3.toInt8.toInt32))]) (rest := []) (lenOf pd_0_1 rfl) rfl (by show 2 * 0 + _ ≤ _; exact Nat.le_of_eq rfl) (hb hby at_171) (fun _ _ => ⟨rfl, e31, (by decide : 2 + 0 ≤ _), (by decide : 7 + 0 ≤ _)⟩)
          dsimp only [Pt.U, Pt.locs, Pt.cells, Pt.slots] at X34 l34 y34 z34 st34 hQ34
          subst l34 y34 z34
          obtain ⟨rfl, N34q, e34⟩ := hQ34
          have N34 := Fr.app N31 N34q
          refine OGo.st st34 ?_
          show OGo p e below s _ _ _ (T34.setTop (mkF m 174 #[.val (.int p0), .val (.int p1), .val (.int p2), .val (.int p3), .val (.int (3 : Int32)), .val (.int (p1.toInt8.toInt32)), .val (.int (p2.toInt8.toInt32)), .val (.int (p3.toInt8.toInt32)), .val (.ref b25), .val (.ref b29)] [(.int (f4L33 (p1.toInt8.toInt32) (p2.toInt8.toInt32) (p3.toInt8.toInt32) (nar .byte (p1.toInt8.toInt32)) (nar .byte (p2.toInt8.toInt32)) (nar .byte (p3.toInt8.toInt32))))]))
          by_cases hc174 : (f4L33 (p1.toInt8.toInt32) (p2.toInt8.toInt32) (p3.toInt8.toInt32) (nar .byte (p1.toInt8.toInt32)) (nar .byte (p2.toInt8.toInt32)) (nar .byte (p3.toInt8.toInt32))) = (0 : Int32)
          · refine OGo.st (fun _ k => XS.ifYes X34.here hx rfl (pc0 := 174) (pc' := 181) rfl (hb hby at_174) rfl ((if0 _ _).trans (teq hc174).1) (by decide) (by decide) k) ?_
            show OGo p e below s _ _ _ (T34.setTop (mkF m 181 #[.val (.int p0), .val (.int p1), .val (.int p2), .val (.int p3), .val (.int (3 : Int32)), .val (.int (p1.toInt8.toInt32)), .val (.int (p2.toInt8.toInt32)), .val (.int (p3.toInt8.toInt32)), .val (.ref b25), .val (.ref b29)] []))
            refine OGo.st (fun _ k => XS.iconst X34.here hx rfl (hb hby at_181) k) ?_
            show OGo p e below s _ _ _ (T34.setTop (mkF m 182 #[.val (.int p0), .val (.int p1), .val (.int p2), .val (.int p3), .val (.int (3 : Int32)), .val (.int (p1.toInt8.toInt32)), .val (.int (p2.toInt8.toInt32)), .val (.int (p3.toInt8.toInt32)), .val (.ref b25), .val (.ref b29)] [(.int (0 : Int32))]))
            exact oretN X34 hx Bd.notSynchronized (t := .boolean) Bd.returns (by simp) (hb hby at_182) (z' := (0 : Int32)) (by decide) e34 ⟨(congrArg (fun z => some (Value.int z)) (show (0 : Int32) = f0 p0 p1 p2 p3 from Eq.symm (by unfold f0; exact (if_neg hc5).trans ((if_neg hc5_2).trans ((if_neg hc5_3).trans ((if_neg hc137).trans (if_pos hc174))))))), N34⟩ (by decide) (by decide)
          · refine OGo.st (fun _ k => XS.ifNo X34.here hx rfl (hb hby at_174) rfl ((if0 _ _).trans (feq hc174).1) k) ?_
            show OGo p e below s _ _ _ (T34.setTop (mkF m 177 #[.val (.int p0), .val (.int p1), .val (.int p2), .val (.int p3), .val (.int (3 : Int32)), .val (.int (p1.toInt8.toInt32)), .val (.int (p2.toInt8.toInt32)), .val (.int (p3.toInt8.toInt32)), .val (.ref b25), .val (.ref b29)] []))
            refine OGo.st (fun _ k => XS.iconst X34.here hx rfl (hb hby at_177) k) ?_
            show OGo p e below s _ _ _ (T34.setTop (mkF m 178 #[.val (.int p0), .val (.int p1), .val (.int p2), .val (.int p3), .val (.int (3 : Int32)), .val (.int (p1.toInt8.toInt32)), .val (.int (p2.toInt8.toInt32)), .val (.int (p3.toInt8.toInt32)), .val (.ref b25), .val (.ref b29)] [(.int (1 : Int32))]))
            refine OGo.st (fun _ k => XS.goto X34.here hx rfl (pc0 := 178) (pc' := 182) rfl (hb hby at_178) (by decide) (by decide) k) ?_
            show OGo p e below s _ _ _ (T34.setTop (mkF m 182 #[.val (.int p0), .val (.int p1), .val (.int p2), .val (.int p3), .val (.int (3 : Int32)), .val (.int (p1.toInt8.toInt32)), .val (.int (p2.toInt8.toInt32)), .val (.int (p3.toInt8.toInt32)), .val (.ref b25), .val (.ref b29)] [(.int (1 : Int32))]))
            exact oretN X34 hx Bd.notSynchronized (t := .boolean) Bd.returns (by simp) (hb hby at_182) (z' := (1 : Int32)) (by decide) e34 ⟨(congrArg (fun z => some (Value.int z)) (show (1 : Int32) = f0 p0 p1 p2 p3 from Eq.symm (by unfold f0; exact (if_neg hc5).trans ((if_neg hc5_2).trans ((if_neg hc5_3).trans ((if_neg hc137).trans (if_neg hc174))))))), N34⟩ (by decide) (by decide)
theorem own_n (x : Int32) : nar .byte (x.toInt8.toInt32) = x.toInt8.toInt32 := by
  show x.toInt8.toInt32.toInt8.toInt32 = _
  rw [Int8.toInt8_toInt32]
theorem own_plain (p0 p1 p2 p3 : Int32) : f0 p0 p1 p2 p3 = 1 := by
  unfold f0
  simp [own_n, f4L00, f4L10, f4L11, f4L21, f4L22, f4L32, f4L33, f4L43]
set_option maxRecDepth 65536 in
set_option maxHeartbeats 40000000 in
theorem comes_1 {Post : Tables → Env → Array Value → State → Outcome → State → Prop} (hpost : ∀ tb e args s v u, (limb_1_1.after args s (.returned v) u = true ∧ limb_1_2.after args s (.returned v) u = true ∧ True) → FrameEnd s (.returned v) u (Jvm.fieldLocs frame_1_writes args s ++ Jvm.arrayLocs frame_1_arrays args s ++ Jvm.staticLocs frame_1_statics s) 16 128 → Post tb e args s (.returned v) u) :
    ArmFor flags0 classFile x code maxLocals ret World_1 tables_1 room_1 Calls_1 rest_1 Pre_1 Post := by
  intro l hfl _ _ p e ha hc hk s m args below hf hA hF happ hP
  obtain ⟨hcalls, hrest, hpre⟩ := hP
  obtain ⟨-, -, -, hnamed, -, -, -, hat⟩ := (Spec.applies_iff hf).mp happ
  obtain ⟨hg, hn⟩ := and_e (Cond.before_iff.mp (show (Jvm.Cond.and given_1 narrow_1).before args s = true from hpre))
  obtain ⟨gv1, gv2⟩ := and_e hg
  obtain ⟨gv3, gv4⟩ := and_e gv2
  obtain ⟨gv5, gv6⟩ := and_e gv4
  obtain ⟨gv7, gv8⟩ := and_e gv6
  obtain ⟨w0, w1, w2, w3, rfl⟩ : ∃ w0 w1 w2 w3 : Value, args = #[w0, w1, w2, w3] := by
    have hs : args.size = 4 := by simpa [Cond.value, given_1] using gv1
    obtain ⟨L⟩ := args
    match L, hs with
    | [w0, w1, w2, w3], _ => exact ⟨w0, w1, w2, w3, rfl⟩
  have hw := fun d (hd : d ∈ tables_1) => atoms_spec (ws := Jvm.Cond.code x code maxLocals ret :: tables_1) hat d (List.mem_cons_of_mem _ hd)
  have hfit : Fit s := fun {y c} hc i hi => by
    obtain ⟨ha, rfl⟩ := Array.getElem?_eq_some_iff.mp hc
    have q := List.all_eq_true.mp ((Array.all_eq_true_iff_forall_mem.mp hF) _ (Array.getElem_mem ha)) i (List.mem_range.mpr hi)
    simpa [Array.getElem?_eq_getElem hi] using q
  obtain ⟨i0, ei0⟩ := is_v gv3
  obtain rfl : w0 = (.int i0) := Option.some.inj ei0
  obtain ⟨i1, ei1⟩ := is_v gv5
  obtain rfl : w1 = (.int i1) := Option.some.inj ei1
  obtain ⟨i2, ei2⟩ := is_v gv7
  obtain rfl : w2 = (.int i2) := Option.some.inj ei2
  obtain ⟨i3, ei3⟩ := is_v gv8
  obtain rfl : w3 = (.int i3) := Option.some.inj ei3
  have hpl := own_plain i0 i1 i2 i3
  obtain ⟨n, o, h1, h2, h3, _, L, rfl, ⟨rfl, N⟩, hq⟩ := rm0 l s _ hw tables_1 i0 i1 i2 i3 s.heap s.heap.size (Nat.le_refl _) p e ha hc hk s m _ below hf ((Spec.applies_iff_loose hf).mp happ).1 ⟨rfl, State.Warmed39.refl s, rfl⟩ trivial
  refine ⟨n, _, h1, h2, h3, hpost _ _ _ _ _ _ ⟨Cond.after_iff.mpr rfl, Cond.after_iff.mpr (eq_i res_at (Term.int_eval (1)) (congrArg Value.int hpl)), trivial⟩ ⟨hq.1, hq.2.1, (hq.2.2.sift fun y hy => Or.inr (N y hy)).mono (by decide) (by decide)⟩⟩
theorem main_1_1 : Claimed_1_1 := comes_1 fun _ _ _ _ _ _ h hF => ⟨h.1, hF⟩
theorem main_1_2 : Claimed_1_2 := comes_1 fun _ _ _ _ _ _ h hF => ⟨h.2.1, hF⟩
end Jvm.Pilot.@@N@@
namespace Jvm.Pilot.@@N@@
open Jvm Jvm.ClassFile Sem Op Lib Jvm.Free Jvm.Stand Jvm.Pilot.@@N@@.Jvm.D
/-! MADE BY PROGRAM (witnessworld.py) out of the Statement's table words and the real class files: 12 classes; the members and pool entries that the words name. The judged class is class 1, her method 1. -/
namespace start1
open Jvm.ClassFile
def u (s : String) : CpInfo := .utf8 (stringToUtf16 s)
/-- a pool by its gaps: so many unusable entries, then the entry; so many at the end -/
def gap : Nat → List CpInfo → List CpInfo
  | 0, r => r
  | n + 1, r => .unusable :: gap n r
def poolList (es : List (Nat × CpInfo)) (last : Nat) : List CpInfo := es.foldr (fun e r => gap e.1 (e.2 :: r)) (gap last [])
def pool (es : List (Nat × CpInfo)) (last : Nat) : Array CpInfo := ⟨poolList es last⟩
def fileOf (pool : Array CpInfo) (this : Nat) (attrs : Array Attribute := #[]) (ms : Array MethodInfo := #[]) (fl : Nat := 33) (sup : Nat := 0) (ifs : Array Nat := #[]) (fds : Array FieldInfo := #[]) : ClassFile where
  minorVersion := 0
  majorVersion := 65
  constantPool := pool
  accessFlags := fl
  thisClass := this
  superClass := sup
  interfaces := ifs
  fields := fds
  methods := ms
  attributes := attrs
def plain (name : String) (sup : Option ClassId) : Class where
  name := name
  kind := .ordinary
  loader := none
  accessFlags := 33
  super := sup
  interfaces := #[]
  cf := none
  fields := #[]
  methods := #[]
  instanceTypes := #[]
  staticTypes := #[]
  resolved := #[]
  callSites := []
  init := .initialized
  statics := none
  mirror := none

def pool0 : Array CpInfo := pool [(5, u "<init>"), (0, u "()V"), (1, .class_ 10), (1, u "java/lang/Object")] 113

def k0m0 : Method := { name := "<init>", desc := "()V", sig := { parameters := [], returnType := none }, accessFlags := 1, code := none }
/-- java/lang/Object -/
def k0 : Class := { plain "java/lang/Object" none with
  accessFlags := 33
  interfaces := #[]
  cf := some (fileOf pool0 8 #[] #[{ accessFlags := 1, nameIndex := 5, descriptorIndex := 6, attributes := #[] }] 33 0 #[] #[])
  fields := #[]
  methods := #[k0m0]
  instanceTypes := #[]
  staticTypes := #[]
  resolved := Array.replicate 124 none
  statics := none }

def pool1 : Array CpInfo := pool [(2, .class_ 4), (1, u "java/lang/Object"), (0, u "<init>"), (0, u "()V"), (0, .methodref 8 9), (0, .class_ 10), (0, .nameAndType 11 12), (0, u "com/example/rows_over_order/rowsoverorder/TupleCodec"), (0, u "rangeEnd"), (0, u "([B)[B"), (0, .methodref 14 15), (0, .class_ 16), (0, .nameAndType 17 18), (0, u "com/example/rows_over_order/rowsoverorder/TupleCodecRangeEndPinLaw"), (0, u "matches"), (0, u "([BIBBB)Z"), (2, u "law"), (0, u "(IIII)Z")] 5

def k1m0 : Method := { name := "<init>", desc := "()V", sig := { parameters := [], returnType := none }, accessFlags := 2, code := none }
def k1c1 : Code := { maxStack := 5, maxLocals := 10, code := code, exceptionTable := #[], attributes := #[] }
def k1m1 : Method := { name := "law", desc := "(IIII)Z", sig := { parameters := [.int, .int, .int, .int], returnType := some .boolean }, accessFlags := 9, code := some k1c1 }
def k1c2 : Code := { maxStack := 2, maxLocals := 5, code := method_3_code, exceptionTable := #[], attributes := #[] }
def k1m2 : Method := { name := "matches", desc := "([BIBBB)Z", sig := { parameters := [(.array .byte), .int, .byte, .byte, .byte], returnType := some .boolean }, accessFlags := 10, code := some k1c2 }
/-- com/example/rows_over_order/rowsoverorder/TupleCodecRangeEndPinLaw -/
def k1 : Class := { plain "com/example/rows_over_order/rowsoverorder/TupleCodecRangeEndPinLaw" (some 0) with
  accessFlags := 49
  interfaces := #[]
  cf := some (fileOf pool1 14 #[] #[{ accessFlags := 2, nameIndex := 5, descriptorIndex := 6, attributes := #[] }, { accessFlags := 9, nameIndex := 21, descriptorIndex := 22, attributes := #[] }, { accessFlags := 10, nameIndex := 17, descriptorIndex := 18, attributes := #[] }] 49 2 #[] #[])
  fields := #[]
  methods := #[k1m0, k1m1, k1m2]
  instanceTypes := #[]
  staticTypes := #[]
  resolved := Array.replicate 28 none
  statics := none }

def pool2 : Array CpInfo := pool [(2, .class_ 4), (1, u "java/lang/Object"), (0, u "<init>"), (0, u "()V"), (0, .class_ 8), (0, u "com/example/rows_over_order/rowsoverorder/TupleCodec$Output"), (12, .class_ 23), (1, u "com/example/rows_over_order/rowsoverorder/TupleCodec"), (6, .class_ 31), (0, u "com/example/rows_over_order/rowsoverorder/TupleCodec$Decoder"), (17, .methodref 50 51), (0, .class_ 52), (0, .nameAndType 53 54), (0, u "java/util/Arrays"), (0, u "copyOf"), (0, u "([BI)[B"), (177, u "MAX_NESTING"), (0, u "I"), (2, u "NULL"), (1, u "END"), (0, u "ESCAPE"), (1, u "BYTES"), (1, u "TEXT"), (1, u "NESTED"), (1, u "NEGATIVE_BIG_INTEGER"), (1, u "INTEGER_ZERO"), (1, u "POSITIVE_BIG_INTEGER"), (1, u "FLOAT"), (1, u "DOUBLE"), (1, u "FALSE"), (1, u "TRUE"), (1, u "UUID_CODE"), (1, u "MAX_INTEGER_BYTES"), (1, u "MAX_BIG_INTEGER_BYTES"), (10, u "rangeEnd"), (0, u "([B)[B")] 24

def k2m0 : Method := { name := "<init>", desc := "()V", sig := { parameters := [], returnType := none }, accessFlags := 2, code := none }
def k2c1 : Code := { maxStack := 3, maxLocals := 2, code := prog_14_method_4_code, exceptionTable := #[], attributes := #[] }
def k2m1 : Method := { name := "rangeEnd", desc := "([B)[B", sig := { parameters := [(.array .byte)], returnType := some (.array .byte) }, accessFlags := 8, code := some k2c1 }
/-- com/example/rows_over_order/rowsoverorder/TupleCodec -/
def k2 : Class := { plain "com/example/rows_over_order/rowsoverorder/TupleCodec" (some 0) with
  accessFlags := 48
  interfaces := #[]
  cf := some (fileOf pool2 21 #[.nestMembers #[7, 30]] #[{ accessFlags := 2, nameIndex := 5, descriptorIndex := 6, attributes := #[] }, { accessFlags := 8, nameIndex := 276, descriptorIndex := 277, attributes := #[] }] 48 2 #[] #[{ accessFlags := 24, nameIndex := 232, descriptorIndex := 233, attributes := #[] }, { accessFlags := 26, nameIndex := 236, descriptorIndex := 233, attributes := #[] }, { accessFlags := 26, nameIndex := 238, descriptorIndex := 233, attributes := #[] }, { accessFlags := 26, nameIndex := 239, descriptorIndex := 233, attributes := #[] }, { accessFlags := 26, nameIndex := 241, descriptorIndex := 233, attributes := #[] }, { accessFlags := 26, nameIndex := 243, descriptorIndex := 233, attributes := #[] }, { accessFlags := 26, nameIndex := 245, descriptorIndex := 233, attributes := #[] }, { accessFlags := 26, nameIndex := 247, descriptorIndex := 233, attributes := #[] }, { accessFlags := 26, nameIndex := 249, descriptorIndex := 233, attributes := #[] }, { accessFlags := 26, nameIndex := 251, descriptorIndex := 233, attributes := #[] }, { accessFlags := 26, nameIndex := 253, descriptorIndex := 233, attributes := #[] }, { accessFlags := 26, nameIndex := 255, descriptorIndex := 233, attributes := #[] }, { accessFlags := 26, nameIndex := 257, descriptorIndex := 233, attributes := #[] }, { accessFlags := 26, nameIndex := 259, descriptorIndex := 233, attributes := #[] }, { accessFlags := 26, nameIndex := 261, descriptorIndex := 233, attributes := #[] }, { accessFlags := 26, nameIndex := 263, descriptorIndex := 233, attributes := #[] }, { accessFlags := 26, nameIndex := 265, descriptorIndex := 233, attributes := #[] }])
  fields := #[{ name := "MAX_NESTING", type := .int, accessFlags := 24, slot := 0, constantValue := 0 }, { name := "NULL", type := .int, accessFlags := 26, slot := 1, constantValue := 0 }, { name := "END", type := .int, accessFlags := 26, slot := 2, constantValue := 0 }, { name := "ESCAPE", type := .int, accessFlags := 26, slot := 3, constantValue := 0 }, { name := "BYTES", type := .int, accessFlags := 26, slot := 4, constantValue := 0 }, { name := "TEXT", type := .int, accessFlags := 26, slot := 5, constantValue := 0 }, { name := "NESTED", type := .int, accessFlags := 26, slot := 6, constantValue := 0 }, { name := "NEGATIVE_BIG_INTEGER", type := .int, accessFlags := 26, slot := 7, constantValue := 0 }, { name := "INTEGER_ZERO", type := .int, accessFlags := 26, slot := 8, constantValue := 0 }, { name := "POSITIVE_BIG_INTEGER", type := .int, accessFlags := 26, slot := 9, constantValue := 0 }, { name := "FLOAT", type := .int, accessFlags := 26, slot := 10, constantValue := 0 }, { name := "DOUBLE", type := .int, accessFlags := 26, slot := 11, constantValue := 0 }, { name := "FALSE", type := .int, accessFlags := 26, slot := 12, constantValue := 0 }, { name := "TRUE", type := .int, accessFlags := 26, slot := 13, constantValue := 0 }, { name := "UUID_CODE", type := .int, accessFlags := 26, slot := 14, constantValue := 0 }, { name := "MAX_INTEGER_BYTES", type := .int, accessFlags := 26, slot := 15, constantValue := 0 }, { name := "MAX_BIG_INTEGER_BYTES", type := .int, accessFlags := 26, slot := 16, constantValue := 0 }]
  methods := #[k2m0, k2m1]
  instanceTypes := #[]
  staticTypes := #[.int, .int, .int, .int, .int, .int, .int, .int, .int, .int, .int, .int, .int, .int, .int, .int, .int]
  resolved := Array.replicate 302 none
  statics := none }

def pool3 : Array CpInfo := pool [(2, .class_ 4), (1, u "java/lang/Object"), (0, u "<init>"), (0, u "()V"), (7, .class_ 16), (1, u "java/util/Arrays"), (57, .class_ 76), (1, u "java/util/Arrays$NaturalOrder"), (36, .class_ 115), (1, u "java/util/Arrays$LegacyMergeSort"), (1, u "Z"), (32, .methodref 151 152), (0, .class_ 153), (0, .nameAndType 154 155), (0, u "java/lang/System"), (0, u "arraycopy"), (0, u "(Ljava/lang/Object;ILjava/lang/Object;II)V"), (146, u "copyOf"), (1, .methodref 305 306), (0, .class_ 307), (0, .nameAndType 308 309), (0, u "java/lang/Math"), (0, u "min"), (0, u "(II)I"), (65, .class_ 376), (0, u "java/util/Arrays$ArrayList"), (68, u "$assertionsDisabled"), (269, u "MIN_ARRAY_SORT_GRAN"), (0, u "I"), (2, u "INSERTIONSORT_THRESHOLD"), (149, u "([BI)[B"), (105, .class_ 976), (0, u "java/util/Arrays$ArrayItr")] 52

def k3m0 : Method := { name := "<init>", desc := "()V", sig := { parameters := [], returnType := none }, accessFlags := 2, code := none }
def k3c1 : Code := { maxStack := 6, maxLocals := 3, code := jdk_65_method_121_code, exceptionTable := #[], attributes := #[] }
def k3m1 : Method := { name := "copyOf", desc := "([BI)[B", sig := { parameters := [(.array .byte), .int], returnType := some (.array .byte) }, accessFlags := 9, code := some k3c1 }
/-- java/util/Arrays -/
def k3 : Class := { plain "java/util/Arrays" (some 0) with
  accessFlags := 49
  interfaces := #[]
  cf := some (fileOf pool3 14 #[.nestMembers #[975, 375, 113, 74]] #[{ accessFlags := 2, nameIndex := 5, descriptorIndex := 6, attributes := #[] }, { accessFlags := 9, nameIndex := 302, descriptorIndex := 869, attributes := #[] }] 49 2 #[] #[{ accessFlags := 26, nameIndex := 715, descriptorIndex := 716, attributes := #[] }, { accessFlags := 26, nameIndex := 719, descriptorIndex := 716, attributes := #[] }, { accessFlags := 4120, nameIndex := 445, descriptorIndex := 117, attributes := #[] }])
  fields := #[{ name := "MIN_ARRAY_SORT_GRAN", type := .int, accessFlags := 26, slot := 0, constantValue := 0 }, { name := "INSERTIONSORT_THRESHOLD", type := .int, accessFlags := 26, slot := 1, constantValue := 0 }, { name := "$assertionsDisabled", type := .boolean, accessFlags := 4120, slot := 2, constantValue := 0 }]
  methods := #[k3m0, k3m1]
  instanceTypes := #[]
  staticTypes := #[.int, .int, .boolean]
  resolved := Array.replicate 1029 none
  statics := none }

def pool4 : Array CpInfo := pool [(1, .class_ 2), (0, u "java/lang/Math"), (1, .class_ 6), (1, u "java/lang/Object"), (0, u "<init>"), (0, u "()V"), (89, .class_ 100), (1, u "java/lang/Math$RandomNumberGeneratorHolder"), (71, u "negativeZeroFloatBits"), (0, u "J"), (2, u "negativeZeroDoubleBits"), (24, u "min"), (43, u "$assertionsDisabled"), (0, u "Z"), (88, u "(II)I"), (2, u "twoToTheDoubleScaleDown"), (0, u "D"), (4, u "twoToTheDoubleScaleUp"), (9, u "E"), (3, u "PI"), (2, u "TAU"), (2, u "DEGREES_TO_RADIANS"), (0, u "RADIANS_TO_DEGREES")] 94

def k4m0 : Method := { name := "<init>", desc := "()V", sig := { parameters := [], returnType := none }, accessFlags := 2, code := none }
def k4c1 : Code := { maxStack := 2, maxLocals := 2, code := jdk_29_method_69_code, exceptionTable := #[], attributes := #[] }
def k4m1 : Method := { name := "min", desc := "(II)I", sig := { parameters := [.int, .int], returnType := some .int }, accessFlags := 9, code := some k4c1 }
/-- java/lang/Math -/
def k4 : Class := { plain "java/lang/Math" (some 0) with
  accessFlags := 49
  interfaces := #[]
  cf := some (fileOf pool4 1 #[.nestMembers #[98]] #[{ accessFlags := 2, nameIndex := 7, descriptorIndex := 8, attributes := #[] }, { accessFlags := 9, nameIndex := 201, descriptorIndex := 335, attributes := #[] }] 49 4 #[] #[{ accessFlags := 25, nameIndex := 354, descriptorIndex := 339, attributes := #[] }, { accessFlags := 25, nameIndex := 358, descriptorIndex := 339, attributes := #[] }, { accessFlags := 25, nameIndex := 361, descriptorIndex := 339, attributes := #[] }, { accessFlags := 26, nameIndex := 364, descriptorIndex := 339, attributes := #[] }, { accessFlags := 26, nameIndex := 365, descriptorIndex := 339, attributes := #[] }, { accessFlags := 26, nameIndex := 172, descriptorIndex := 173, attributes := #[] }, { accessFlags := 26, nameIndex := 176, descriptorIndex := 173, attributes := #[] }, { accessFlags := 8, nameIndex := 344, descriptorIndex := 339, attributes := #[] }, { accessFlags := 8, nameIndex := 338, descriptorIndex := 339, attributes := #[] }, { accessFlags := 4120, nameIndex := 245, descriptorIndex := 246, attributes := #[] }])
  fields := #[{ name := "E", type := .double, accessFlags := 25, slot := 0, constantValue := 0 }, { name := "PI", type := .double, accessFlags := 25, slot := 1, constantValue := 0 }, { name := "TAU", type := .double, accessFlags := 25, slot := 2, constantValue := 0 }, { name := "DEGREES_TO_RADIANS", type := .double, accessFlags := 26, slot := 3, constantValue := 0 }, { name := "RADIANS_TO_DEGREES", type := .double, accessFlags := 26, slot := 4, constantValue := 0 }, { name := "negativeZeroFloatBits", type := .long, accessFlags := 26, slot := 5, constantValue := 0 }, { name := "negativeZeroDoubleBits", type := .long, accessFlags := 26, slot := 6, constantValue := 0 }, { name := "twoToTheDoubleScaleUp", type := .double, accessFlags := 8, slot := 7, constantValue := 0 }, { name := "twoToTheDoubleScaleDown", type := .double, accessFlags := 8, slot := 8, constantValue := 0 }, { name := "$assertionsDisabled", type := .boolean, accessFlags := 4120, slot := 9, constantValue := 0 }]
  methods := #[k4m0, k4m1]
  instanceTypes := #[]
  staticTypes := #[.double, .double, .double, .double, .double, .long, .long, .double, .double, .boolean]
  resolved := Array.replicate 460 none
  statics := none }

def pool5 : Array CpInfo := pool [(2, .class_ 4), (1, u "java/lang/Object"), (0, u "<init>"), (0, u "()V"), (1, .class_ 10), (1, u "java/lang/System"), (0, u "allowSecurityManager"), (0, u "I"), (16, u "cons"), (0, u "Ljava/io/Console;"), (77, .class_ 110), (1, u "java/lang/System$CallersHolder"), (43, u "initialErrStream"), (0, u "Ljava/io/PrintStream;"), (19, u "security"), (0, u "Ljava/lang/SecurityManager;"), (31, .class_ 209), (0, u "java/lang/System$1"), (7, u "props"), (0, u "Ljava/util/Properties;"), (2, u "lineSeparator"), (0, u "Ljava/lang/String;"), (96, .class_ 321), (1, u "java/lang/System$LoggerFinder"), (5, .class_ 328), (0, u "java/lang/System$Logger"), (67, u "err"), (2, u "out"), (91, u "notSupportedJnuEncoding"), (15, u "in"), (17, u "initialIn"), (0, u "Ljava/io/InputStream;"), (35, u "bootLayer"), (0, u "Ljava/lang/ModuleLayer;"), (99, .class_ 664), (0, u "java/lang/System$2"), (9, u "NEVER"), (2, u "MAYBE"), (49, u "arraycopy"), (0, u "(Ljava/lang/Object;ILjava/lang/Object;II)V"), (72, .class_ 802), (0, u "java/lang/System$Logger$Level")] 31

def k5m0 : Method := { name := "<init>", desc := "()V", sig := { parameters := [], returnType := none }, accessFlags := 2, code := none }
def k5m1 : Method := { name := "arraycopy", desc := "(Ljava/lang/Object;ILjava/lang/Object;II)V", sig := { parameters := [(.object "java/lang/Object"), .int, (.object "java/lang/Object"), .int, .int], returnType := none }, accessFlags := 265, code := none }
/-- java/lang/System -/
def k5 : Class := { plain "java/lang/System" (some 0) with
  accessFlags := 49
  interfaces := #[]
  cf := some (fileOf pool5 8 #[.nestMembers #[319, 327, 801, 108, 663, 208]] #[{ accessFlags := 2, nameIndex := 5, descriptorIndex := 6, attributes := #[] }, { accessFlags := 265, nameIndex := 727, descriptorIndex := 728, attributes := #[] }] 49 2 #[] #[{ accessFlags := 25, nameIndex := 507, descriptorIndex := 526, attributes := #[] }, { accessFlags := 25, nameIndex := 399, descriptorIndex := 155, attributes := #[] }, { accessFlags := 25, nameIndex := 396, descriptorIndex := 155, attributes := #[] }, { accessFlags := 10, nameIndex := 525, descriptorIndex := 526, attributes := #[] }, { accessFlags := 26, nameIndex := 674, descriptorIndex := 12, attributes := #[] }, { accessFlags := 26, nameIndex := 677, descriptorIndex := 12, attributes := #[] }, { accessFlags := 10, nameIndex := 11, descriptorIndex := 12, attributes := #[] }, { accessFlags := 74, nameIndex := 175, descriptorIndex := 176, attributes := #[] }, { accessFlags := 10, nameIndex := 491, descriptorIndex := 222, attributes := #[] }, { accessFlags := 74, nameIndex := 29, descriptorIndex := 30, attributes := #[] }, { accessFlags := 74, nameIndex := 154, descriptorIndex := 155, attributes := #[] }, { accessFlags := 10, nameIndex := 217, descriptorIndex := 218, attributes := #[] }, { accessFlags := 10, nameIndex := 221, descriptorIndex := 222, attributes := #[] }, { accessFlags := 8, nameIndex := 562, descriptorIndex := 563, attributes := #[] }])
  fields := #[{ name := "in", type := (.object "java/io/InputStream"), accessFlags := 25, slot := 0, constantValue := 0 }, { name := "out", type := (.object "java/io/PrintStream"), accessFlags := 25, slot := 1, constantValue := 0 }, { name := "err", type := (.object "java/io/PrintStream"), accessFlags := 25, slot := 2, constantValue := 0 }, { name := "initialIn", type := (.object "java/io/InputStream"), accessFlags := 10, slot := 3, constantValue := 0 }, { name := "NEVER", type := .int, accessFlags := 26, slot := 4, constantValue := 0 }, { name := "MAYBE", type := .int, accessFlags := 26, slot := 5, constantValue := 0 }, { name := "allowSecurityManager", type := .int, accessFlags := 10, slot := 6, constantValue := 0 }, { name := "security", type := (.object "java/lang/SecurityManager"), accessFlags := 74, slot := 7, constantValue := 0 }, { name := "notSupportedJnuEncoding", type := (.object "java/lang/String"), accessFlags := 10, slot := 8, constantValue := 0 }, { name := "cons", type := (.object "java/io/Console"), accessFlags := 74, slot := 9, constantValue := 0 }, { name := "initialErrStream", type := (.object "java/io/PrintStream"), accessFlags := 74, slot := 10, constantValue := 0 }, { name := "props", type := (.object "java/util/Properties"), accessFlags := 10, slot := 11, constantValue := 0 }, { name := "lineSeparator", type := (.object "java/lang/String"), accessFlags := 10, slot := 12, constantValue := 0 }, { name := "bootLayer", type := (.object "java/lang/ModuleLayer"), accessFlags := 8, slot := 13, constantValue := 0 }]
  methods := #[k5m0, k5m1]
  instanceTypes := #[]
  staticTypes := #[(.object "java/io/InputStream"), (.object "java/io/PrintStream"), (.object "java/io/PrintStream"), (.object "java/io/InputStream"), .int, .int, .int, (.object "java/lang/SecurityManager"), (.object "java/lang/String"), (.object "java/io/Console"), (.object "java/io/PrintStream"), (.object "java/util/Properties"), (.object "java/lang/String"), (.object "java/lang/ModuleLayer")]
  resolved := Array.replicate 834 none
  statics := none }

def pool6 : Array CpInfo := pool [(1, u "java/lang/Cloneable"), (0, .class_ 1), (0, u "java/lang/Object"), (0, .class_ 3)] 3

/-- java/lang/Cloneable -/
def k6 : Class := { plain "java/lang/Cloneable" (some 0) with
  accessFlags := 1537
  interfaces := #[]
  cf := some (fileOf pool6 2 #[] #[] 1537 4 #[] #[])
  fields := #[]
  methods := #[]
  instanceTypes := #[]
  staticTypes := #[]
  resolved := Array.replicate 8 none
  statics := none }

def pool7 : Array CpInfo := pool [(1, u "java/io/Serializable"), (0, .class_ 1), (0, u "java/lang/Object"), (0, .class_ 3)] 3

/-- java/io/Serializable -/
def k7 : Class := { plain "java/io/Serializable" (some 0) with
  accessFlags := 1537
  interfaces := #[]
  cf := some (fileOf pool7 2 #[] #[] 1537 4 #[] #[])
  fields := #[]
  methods := #[]
  instanceTypes := #[]
  staticTypes := #[]
  resolved := Array.replicate 8 none
  statics := none }

/-- the primitive byte -/
def k8 : Class := { plain "byte" none with kind := .primitive 'B', accessFlags := 0x411 }
/-- [B -/
def k9 : Class := { plain "[B" (some 0) with kind := .array 8 .byte, interfaces := #[6, 7], accessFlags := 1041 }

/-- the primitive int -/
def k10 : Class := { plain "int" none with kind := .primitive 'I', accessFlags := 0x411 }
/-- [I -/
def k11 : Class := { plain "[I" (some 0) with kind := .array 10 .int, interfaces := #[6, 7], accessFlags := 1041 }

def heap : Heap := #[]
def classes : Array Class := #[k0, k1, k2, k3, k4, k5, k6, k7, k8, k9, k10, k11]
def interned : List (Array UInt16 × Addr) := []
def slotsUsed : Nat := 0
def theMethod : MethodId := ⟨1, 1⟩
def args0 : Array Value := #[.int 7, .int 7, .int 7, .int 7]
def aboutOver (below : List Frame) : State where
  vm := { classes := classes, interned := interned.toArray }
  heap := heap
  slotsUsed := slotsUsed
  threads := #[{ frames := .invoking theMethod args0 :: below }]
def below0 : List Frame := [.native { method := ⟨0, 0⟩, args := #[] }]
def about1 : State := aboutOver below0
def p0 : Program := .bare "" "" ""
def e0 : Env := launch0.env 0 0 0
theorem w_frames : about1.frames = Frame.invoking theMethod args0 :: below0 := rfl
set_option maxRecDepth 65536 in
theorem w_args : argsFit about1.vm theMethod args0 = true := by decide +kernel
set_option maxRecDepth 65536 in
theorem w_heap : heapFits about1 = true := by decide +kernel
set_option maxRecDepth 65536 in
theorem w_runnable : about1.curStatus? = some .runnable := by decide +kernel
set_option maxRecDepth 65536 in
theorem w_alone : about1.alone = true := by decide +kernel
set_option maxRecDepth 65536 in
theorem w_named : about1.methodNamed? x = some theMethod := by decide +kernel
set_option maxRecDepth 65536 in
theorem w_hears : about1.hears theMethod below0 = true := by decide +kernel
set_option maxRecDepth 65536 in
theorem w_ripe : about1.ripe theMethod args0 below0 = true := by decide +kernel
theorem w_running : about1.status = .running := rfl
set_option maxRecDepth 65536 in
theorem w_room : about1.hasRoom e0.platform room_1 = true :=
  launch0.hasRoom_least _ room_1 (by decide +kernel) (by decide +kernel) (by decide +kernel) (by decide +kernel) (by decide +kernel) (by decide +kernel)
theorem allAtoms_all (ts : List Jvm.Cond) (a : Array Jvm.Value) (st : Jvm.State) : (allAtoms ts).before a st = ts.all (fun c => c.before a st) := by
  induction ts with
  | nil => rfl
  | cons c t ih =>
    show (Jvm.Cond.and c (allAtoms t)).before a st = _
    rw [Jvm.Cond.before_and, ih, List.all_cons]
def words1 : List Jvm.Cond := Jvm.Cond.code x code maxLocals ret :: tables_1
/-- a 'code' word, met by the world's own term for the bytes: nothing is compared byte by byte -/
theorem code_word {y : MethodName} {bytes : ByteArray} {mx : Nat} {rt : Option FieldType} {a : Array Value} {s : State} {m : MethodId} {meth : Method} {c : Code} (h1 : s.methodNamed? y = some m) (h2 : s.vm.method? m = some meth) (h3 : meth.code = some c) (h4 : c.code = bytes)
    (h5 : (c.maxLocals == mx && c.exceptionTable.isEmpty && decide (c.maxStack ≤ mostOperands) && decide (meth.sig.returnType = rt) && !meth.locks && decide (parseMethodDescriptor y.desc = some meth.sig)) = true) : (Jvm.Cond.code y bytes mx rt).before a s = true := by
  simp only [Bool.and_eq_true, beq_iff_eq, Bool.not_eq_true', decide_eq_true_eq] at h5
  obtain ⟨⟨⟨⟨⟨g1, g2⟩, g3⟩, g4⟩, g5⟩, g6⟩ := h5
  simp [Cond.before, Cond.holds, Cond.value, h1, h2, h3, h4, g1, g2, g3, g4, g5, g6]
def isCode : Jvm.Cond → Bool
  | .code _ _ _ _ => true
  | _ => false
theorem all_split {L : List Jvm.Cond} {P : Jvm.Cond → Bool} (h1 : L.all (fun c => isCode c || P c) = true) (h2 : ∀ c ∈ L.filter isCode, P c = true) : L.all P = true := by
  refine List.all_eq_true.mpr fun c hc => ?_
  have h := List.all_eq_true.mp h1 c hc
  rcases Bool.eq_false_or_eq_true (isCode c) with hi | hi
  · exact h2 c (List.mem_filter.mpr ⟨hc, hi⟩)
  · simpa [hi] using h
set_option maxRecDepth 65536 in
theorem w_c0 : (Jvm.Cond.code x code maxLocals ret).before args0 about1 = true := code_word (m := ⟨1, 1⟩) (meth := k1m1) (c := k1c1) (by decide +kernel) rfl rfl rfl (by decide +kernel)
set_option maxRecDepth 65536 in
theorem w_c1 : (Jvm.Cond.code ({ cls := "com/example/rows_over_order/rowsoverorder/TupleCodec", name := "rangeEnd", desc := "([B)[B" } : Jvm.MethodName) prog_14_method_4_code (2 : Nat) (Option.some (Jvm.ClassFile.FieldType.array Jvm.ClassFile.FieldType.byte))).before args0 about1 = true := code_word (m := ⟨2, 1⟩) (meth := k2m1) (c := k2c1) (by decide +kernel) rfl rfl rfl (by decide +kernel)
set_option maxRecDepth 65536 in
theorem w_c2 : (Jvm.Cond.code ({ cls := "java/util/Arrays", name := "copyOf", desc := "([BI)[B" } : Jvm.MethodName) jdk_65_method_121_code (3 : Nat) (Option.some (Jvm.ClassFile.FieldType.array Jvm.ClassFile.FieldType.byte))).before args0 about1 = true := code_word (m := ⟨3, 1⟩) (meth := k3m1) (c := k3c1) (by decide +kernel) rfl rfl rfl (by decide +kernel)
set_option maxRecDepth 65536 in
theorem w_c3 : (Jvm.Cond.code ({ cls := "java/lang/Math", name := "min", desc := "(II)I" } : Jvm.MethodName) jdk_29_method_69_code (2 : Nat) (Option.some Jvm.ClassFile.FieldType.int)).before args0 about1 = true := code_word (m := ⟨4, 1⟩) (meth := k4m1) (c := k4c1) (by decide +kernel) rfl rfl rfl (by decide +kernel)
set_option maxRecDepth 65536 in
theorem w_c4 : (Jvm.Cond.code ({ cls := "com/example/rows_over_order/rowsoverorder/TupleCodecRangeEndPinLaw", name := "matches", desc := "([BIBBB)Z" } : Jvm.MethodName) method_3_code (5 : Nat) (Option.some Jvm.ClassFile.FieldType.boolean)).before args0 about1 = true := code_word (m := ⟨1, 2⟩) (meth := k1m2) (c := k1c2) (by decide +kernel) rfl rfl rfl (by decide +kernel)
def codes1 : List Jvm.Cond := [Jvm.Cond.code x code maxLocals ret, Jvm.Cond.code ({ cls := "com/example/rows_over_order/rowsoverorder/TupleCodec", name := "rangeEnd", desc := "([B)[B" } : Jvm.MethodName) prog_14_method_4_code (2 : Nat) (Option.some (Jvm.ClassFile.FieldType.array Jvm.ClassFile.FieldType.byte)), Jvm.Cond.code ({ cls := "java/util/Arrays", name := "copyOf", desc := "([BI)[B" } : Jvm.MethodName) jdk_65_method_121_code (3 : Nat) (Option.some (Jvm.ClassFile.FieldType.array Jvm.ClassFile.FieldType.byte)), Jvm.Cond.code ({ cls := "java/lang/Math", name := "min", desc := "(II)I" } : Jvm.MethodName) jdk_29_method_69_code (2 : Nat) (Option.some Jvm.ClassFile.FieldType.int), Jvm.Cond.code ({ cls := "com/example/rows_over_order/rowsoverorder/TupleCodecRangeEndPinLaw", name := "matches", desc := "([BIBBB)Z" } : Jvm.MethodName) method_3_code (5 : Nat) (Option.some Jvm.ClassFile.FieldType.boolean)]
set_option maxRecDepth 65536 in
theorem codes_eq : words1.filter isCode = codes1 := rfl
theorem w_codes : ∀ c ∈ words1.filter isCode, c.before args0 about1 = true := by
  rw [codes_eq]
  intro c hc
  simp only [codes1, List.mem_cons, List.not_mem_nil, or_false] at hc
  rcases hc with rfl | rfl | rfl | rfl | rfl
  · exact w_c0
  · exact w_c1
  · exact w_c2
  · exact w_c3
  · exact w_c4
set_option maxRecDepth 65536 in
theorem w_t1 : words1.all (fun c => isCode c || c.before args0 about1) = true := by decide +kernel
theorem w_tables : (allAtoms (Jvm.Cond.code x code maxLocals ret :: tables_1)).before args0 about1 = true := by
  rw [allAtoms_all]
  show words1.all (fun c => c.before args0 about1) = true
  refine all_split ?_ w_codes
  rw [w_t1]
set_option maxRecDepth 65536 in
theorem w_case : (Jvm.Cond.and given_1 narrow_1).before args0 about1 = true := by decide +kernel
theorem w_applies : (headSpec (Jvm.Cond.code x code maxLocals ret :: tables_1) room_1).applies x e0.platform about1 = true :=
  (Spec.applies_iff w_frames).mpr ⟨w_running, w_runnable, w_alone, w_named, w_hears, w_ripe, w_room, w_tables⟩
theorem atStart : AtStart classFile x code maxLocals ret World_1 tables_1 room_1 Calls_1 rest_1 Pre_1 launch0 p0 e0 about1 theMethod args0 below0 :=
  ⟨lists_1, trivial, launch0.admits_env _ _ _, launch0.least_env, fairChoices_fair.cas, fairChoices_fair.clock, w_frames, w_args, w_heap, w_applies, trivial, trivial, w_case⟩
end start1
theorem witness_1 : WitnessClaimed_1 := ⟨start1.p0, start1.e0, start1.about1, start1.theMethod, start1.args0, start1.below0, start1.atStart⟩
end Jvm.Pilot.@@N@@
