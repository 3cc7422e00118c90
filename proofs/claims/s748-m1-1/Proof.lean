import JvmDerived
import JvmDerived.Pilot.@@N@@Statement
import JvmDerived.Pilot.@@N@@Code
set_option linter.unusedVariables false
set_option linter.unusedSimpArgs false
@@BLOCK:NumsL.lean.txt@@
namespace Jvm.RoadKit
open Sem ClassFile Op Lib Jvm.Stand Jvm.Free Jvm.LawKit
section Own
variable {p : Program} {l : Launch} {e : Env} {R : Room} {s : State} {m : MethodId} {args : Array Value} {below : List Frame} {meth : Method} {c : Code} {T : State} {locs : List Loc} {cells slots : Nat}
/-- from t the run ends in a return of which Q holds -/
def OGo (p : Program) (e : Env) (below : List Frame) (s : State) (Q : Option Value → Heap → List Loc → Prop) (C N : Nat) (t : State) : Prop :=
  ∃ s₂ o, Steps p.tables e below t s₂ ∧ s₂.status = .running ∧ Ended s₂ below o ∧ ∃ v L, o = .returned v ∧ Q v s₂.heap L ∧ FrameEnd s o s₂ L C N
theorem OGo.st {Q : Option Value → Heap → List Loc → Prop} {C N : Nat} {t t' : State} (k : ∀ target, Steps p.tables e below t' target → Steps p.tables e below t target) (h : OGo p e below s Q C N t') : OGo p e below s Q C N t := by
  obtain ⟨s₂, o, a, r⟩ := h; exact ⟨s₂, o, k _ a, r⟩
theorem oretW {Q : Option Value → Heap → List Loc → Prop} {C N : Nat} (X : Stand p l e R s m args below meth c T locs cells slots) (hx : p.tables.exec = Jvm.exec) (hlk : meth.locks = false) {pc : Nat} {Ls : Array Slot} {w : Value} {t : FieldType} {i : Instr} {rest : List Value} (hret : meth.sig.returnType = some t) (hn : narrow t w = w)
    (hi : (i = .ireturn ∧ (t = .int ∨ t = .boolean ∨ t = .byte ∨ t = .char ∨ t = .short) ∧ ∃ z, w = .int z) ∨ (i = .lreturn ∧ t = .long ∧ ∃ z, w = .long z) ∨ (i = .dreturn ∧ t = .double ∧ ∃ z, w = .double z) ∨ (i = .freturn ∧ t = .float ∧ ∃ z, w = .float z) ∨ (i = .areturn ∧ t.isReference = true ∧ w.isRef = true))
    (hd : decode c.code pc = .ok (i, 1)) {h : Heap} (hh : T.heap = h) (hq : Q (some w) h locs) (hC : cells ≤ C) (hN : slots ≤ N) : OGo p e below s Q C N (T.setTop (mkF m pc Ls (w :: rest))) := by
  obtain ⟨fs, hr, hrun, hended, hW, hsame⟩ := X.leave (v := some w) (fun h => by rw [hret] at h; cases h) hlk
  exact ⟨_, _, retOut X hx hret hn hi hd hr, hrun, hended, _, _, rfl, hh ▸ hq, ⟨_, rfl⟩, hW, hsame.mono hC hN⟩
theorem oretI {Q : Option Value → Heap → List Loc → Prop} {C N : Nat} (X : Stand p l e R s m args below meth c T locs cells slots) (hx : p.tables.exec = Jvm.exec) (hlk : meth.locks = false) {pc : Nat} {Ls : Array Slot} {z : Int32} {rest : List Value} (hret : meth.sig.returnType = some .int)
    (hd : decode c.code pc = .ok (.ireturn, 1)) {h : Heap} (hh : T.heap = h) (hq : Q (some (.int z)) h locs) (hC : cells ≤ C) (hN : slots ≤ N) : OGo p e below s Q C N (T.setTop (mkF m pc Ls (.int z :: rest))) :=
  oretW X hx hlk hret rfl (Or.inl ⟨rfl, Or.inl rfl, _, rfl⟩) hd hh hq hC hN
theorem oretJ {Q : Option Value → Heap → List Loc → Prop} {C N : Nat} (X : Stand p l e R s m args below meth c T locs cells slots) (hx : p.tables.exec = Jvm.exec) (hlk : meth.locks = false) {pc : Nat} {Ls : Array Slot} {z : Int64} {rest : List Value} (hret : meth.sig.returnType = some .long)
    (hd : decode c.code pc = .ok (.lreturn, 1)) {h : Heap} (hh : T.heap = h) (hq : Q (some (.long z)) h locs) (hC : cells ≤ C) (hN : slots ≤ N) : OGo p e below s Q C N (T.setTop (mkF m pc Ls (.long z :: rest))) :=
  oretW X hx hlk hret rfl (Or.inr (Or.inl ⟨rfl, rfl, _, rfl⟩)) hd hh hq hC hN
theorem onarR {t : FieldType} {w : Value} (ht : t.isReference = true) (hw : w.isRef = true) : narrow t w = w := by
  cases t <;> first | (cases ht; done) | (cases w <;> first | rfl | (cases hw; done))
theorem ofitR {t : FieldType} {w : Value} (ht : t.isReference = true) (hw : w.isRef = true) : fits t w = true := by
  cases t <;> first | (cases ht; done) | (cases w <;> first | rfl | (cases hw; done))
theorem oretA {Q : Option Value → Heap → List Loc → Prop} {C N : Nat} (X : Stand p l e R s m args below meth c T locs cells slots) (hx : p.tables.exec = Jvm.exec) (hlk : meth.locks = false) {pc : Nat} {Ls : Array Slot} {w : Value} {t : FieldType} {rest : List Value} (hret : meth.sig.returnType = some t) (ht : t.isReference = true) (hw : w.isRef = true)
    (hd : decode c.code pc = .ok (.areturn, 1)) {h : Heap} (hh : T.heap = h) (hq : Q (some w) h locs) (hC : cells ≤ C) (hN : slots ≤ N) : OGo p e below s Q C N (T.setTop (mkF m pc Ls (w :: rest))) :=
  oretW X hx hlk hret (onarR ht hw) (Or.inr (Or.inr (Or.inr (Or.inr ⟨rfl, ht, hw⟩)))) hd hh hq hC hN
theorem oretN {Q : Option Value → Heap → List Loc → Prop} {C N : Nat} (X : Stand p l e R s m args below meth c T locs cells slots) (hx : p.tables.exec = Jvm.exec) (hlk : meth.locks = false) {pc : Nat} {Ls : Array Slot} {z z' : Int32} {t : FieldType} {rest : List Value} (hret : meth.sig.returnType = some t) (ht : t = .boolean ∨ t = .byte ∨ t = .char ∨ t = .short)
    (hd : decode c.code pc = .ok (.ireturn, 1)) (hz : nar t z = z') {h : Heap} (hh : T.heap = h) (hq : Q (some (.int z')) h locs) (hC : cells ≤ C) (hN : slots ≤ N) : OGo p e below s Q C N (T.setTop (mkF m pc Ls (.int z :: rest))) := by
  subst hz
  obtain ⟨fs, hr, hrun, hended, hW, hsame⟩ := X.leave (v := some (.int (nar t z))) (fun h => by rw [hret] at h; cases h) hlk
  exact ⟨_, _, retN X hx hret ht hd hr, hrun, hended, _, _, rfl, hh ▸ hq, ⟨_, rfl⟩, hW, hsame.mono hC hN⟩
theorem oret0 {Q : Option Value → Heap → List Loc → Prop} {C N : Nat} (X : Stand p l e R s m args below meth c T locs cells slots) (hx : p.tables.exec = Jvm.exec) (hlk : meth.locks = false) {pc : Nat} {Ls : Array Slot} (hret : meth.sig.returnType = none)
    (hd : decode c.code pc = .ok (.return_, 1)) {h : Heap} (hh : T.heap = h) (hq : Q none h locs) (hC : cells ≤ C) (hN : slots ≤ N) : OGo p e below s Q C N (T.setTop (mkF m pc Ls [])) := by
  obtain ⟨fs, hr, hrun, hended, hW, hsame⟩ := X.leave (v := none) (fun _ => rfl) hlk
  exact ⟨_, _, X.returnOut hx hret hd hr, hrun, hended, _, _, rfl, hh ▸ hq, ⟨_, rfl⟩, hW, hsame.mono hC hN⟩
theorem olrem {tb : Tables} [Ours tb] {target : State} {g : JFrame} (h : At T m c below) (hx : tb.exec = Jvm.exec) (hg : g.method = m) {x y : Int64} {rest : List Value} (hd : decode c.code g.pc = .ok (.lrem, 1)) (hs : g.stack = .long y :: .long x :: rest) (hy : y ≠ 0)
    (hr : Steps tb e below (T.setTop { g with pc := g.pc + 1, stack := .long (x % y) :: rest }) target) : Steps tb e below (T.setTop g) target :=
  XS.lrem h hx hg hd hs hy (by rw [lrem_mod]; exact hr)
theorem olc_lt (x y : Int64) : lcmpW x y < 0 ↔ x < y := by rw [lcW]; exact lc_lt x y
theorem olc_gt (x y : Int64) : 0 < lcmpW x y ↔ y < x := by rw [lcW]; exact lc_gt x y
theorem olc_eq (x y : Int64) : lcmpW x y = 0 ↔ x = y := by rw [lcW]; exact lc_eq x y
theorem onilP {v : Int} : ∀ q ∈ ([] : List (Int × Int)), q.1 ≠ v := fun _ q => nomatch q
theorem oconsP {v a b : Int} {l : List (Int × Int)} (h : a ≠ v) (t : ∀ q ∈ l, q.1 ≠ v) : ∀ q ∈ (a, b) :: l, q.1 ≠ v := fun q hq => (List.mem_cons.mp hq).elim (fun u => by rw [u]; exact h) (t q)
theorem oint_ne {z k : Int32} {K : Int} (h : ¬ z = k) (hk : k.toInt = K) : K ≠ z.toInt := fun q => h (Int32.toInt_inj.mp (by rw [hk, q]))
theorem ofld_eq {Z : State} {t : Term} {C n d : String} {a : Addr} {k : Int32} (h : (Cond.eq (Term.field t C n d) (Term.int k)).value args Z none Z [] = some true) (ev : t.eval args Z none [] Z = some (.ref a)) : Fld Z Z.heap a C n d (.int k) := by
  apply Fld.start
  have q := fld_at (args := args) (first := Z) (o := none) (idx := []) (s := Z) (C := C) (n := n) (dd := d) ev
  simp only [Cond.value, q, Term.int_eval] at h
  cases hv : Z.fieldOf? a C n d with
  | none => simp [hv] at h
  | some v => cases v <;> simp [hv] at h <;> simp [h]
section Imp
variable {E a b : Int32}
theorem oLL (h : E < a) (k : a.toInt ≤ b.toInt) : E < b := by rw [Int32.lt_iff_toInt_lt] at *; omega
theorem oLnG (h : E < a) (k : a.toInt ≤ b.toInt + 1) : ¬ b < E := by rw [Int32.lt_iff_toInt_lt] at *; omega
theorem oLnE (h : E < a) (k : a.toInt ≤ b.toInt) : ¬ E = b := fun q => by subst q; rw [Int32.lt_iff_toInt_lt] at h; omega
theorem oGG (h : a < E) (k : b.toInt ≤ a.toInt) : b < E := by rw [Int32.lt_iff_toInt_lt] at *; omega
theorem oGnL (h : a < E) (k : b.toInt ≤ a.toInt + 1) : ¬ E < b := by rw [Int32.lt_iff_toInt_lt] at *; omega
theorem oGnE (h : a < E) (k : b.toInt ≤ a.toInt) : ¬ E = b := fun q => by subst q; rw [Int32.lt_iff_toInt_lt] at h; omega
theorem onLnL (h : ¬ E < a) (k : b.toInt ≤ a.toInt) : ¬ E < b := by rw [Int32.lt_iff_toInt_lt] at *; omega
theorem onLG (h : ¬ E < a) (k : b.toInt < a.toInt) : b < E := by rw [Int32.lt_iff_toInt_lt] at *; omega
theorem onLnE (h : ¬ E < a) (k : b.toInt < a.toInt) : ¬ E = b := fun q => by subst q; rw [Int32.lt_iff_toInt_lt] at h; omega
theorem onGnG (h : ¬ a < E) (k : a.toInt ≤ b.toInt) : ¬ b < E := by rw [Int32.lt_iff_toInt_lt] at *; omega
theorem onGL (h : ¬ a < E) (k : a.toInt < b.toInt) : E < b := by rw [Int32.lt_iff_toInt_lt] at *; omega
theorem onGnE (h : ¬ a < E) (k : a.toInt < b.toInt) : ¬ E = b := fun q => by subst q; rw [Int32.lt_iff_toInt_lt] at h; omega
end Imp
end Own
end Jvm.RoadKit
namespace Jvm.Pilot.@@N@@
open Jvm Jvm.ClassFile Sem Op Lib Jvm.Free Jvm.Stand Jvm.LawKit Jvm.RoadKit Bundle Jvm.Pilot.@@N@@.Jvm.D

theorem d3_0 : decode method_3_code 0 = .ok (.iload_n 0, 1) := by decide +kernel
theorem d3_1 : decode method_3_code 1 = .ok (.sipush 192, 3) := by decide +kernel
theorem d3_4 : decode method_3_code 4 = .ok (.iand, 1) := by decide +kernel
theorem d3_5 : decode method_3_code 5 = .ok (.sipush 128, 3) := by decide +kernel
theorem d3_8 : decode method_3_code 8 = .ok (.if_icmp .ne 7, 3) := by decide +kernel
theorem d3_11 : decode method_3_code 11 = .ok (.iconst 1, 1) := by decide +kernel
theorem d3_12 : decode method_3_code 12 = .ok (.goto 4, 3) := by decide +kernel
theorem d3_15 : decode method_3_code 15 = .ok (.iconst 0, 1) := by decide +kernel
theorem d3_16 : decode method_3_code 16 = .ok (.ireturn, 1) := by decide +kernel
theorem pn_3 : plainName "com/example/evbind/evbind/Utf8SequenceEndPinLaw" = true := by first | (simp [plainName, overriddenIn]; done) | decide +kernel
theorem ef_3 (m : MethodId) (p0 : Int32) : entryFrame m #[(.int p0)] 1 = mkF m 0 #[.val (.int p0)] [] := by first | (simp [entryFrame, mkF, argsToLocals, Value.category]; done) | rfl
def f3 (p0 : Int32) : Int32 := (if (p0 &&& (192 : Int32)) = (128 : Int32) then (1 : Int32) else (0 : Int32))
def Q3 (Z : State) (p0 : Int32) (h0 : Heap) (n0 : Nat) (v : Option Value) (h : Heap) (L : List Loc) : Prop := v = some (.int (f3 p0)) ∧ Fr n0 L ∧ h = h0
set_option maxRecDepth 65536 in
set_option maxHeartbeats 40000000 in
theorem rm3 (l : Launch) (Z : State) (a0 : Array Value) (hw : ∀ d ∈ tables_1, d.before a0 Z = true) (ws : List Jvm.Cond) (p0 : Int32) (h0 : Heap) (n0 : Nat) (Z0 : n0 ≤ h0.size) :
    MetFree l (⟨"com/example/evbind/evbind/Utf8SequenceEndPinLaw", "isCont", "(I)Z"⟩ : MethodName) (head1 (Jvm.Cond.code (⟨"com/example/evbind/evbind/Utf8SequenceEndPinLaw", "isCont", "(I)Z"⟩ : MethodName) method_3_code 1 (some .boolean) :: ws) ({ frames := 0, cells := 0, slots := 0, locals := 0 } : Room)) (fun a U => a = #[(.int p0)] ∧ Z.Warmed39 U.vm ∧ U.heap = h0) (fun _ _ _ _ _ => True) (fun _ U o U' => ∃ v L, o = .returned v ∧ Q3 Z p0 h0 n0 v U'.heap L ∧ FrameEnd U o U' L ({ frames := 0, cells := 0, slots := 0, locals := 0 } : Room).cells ({ frames := 0, cells := 0, slots := 0, locals := 0 } : Room).slots) := by
  refine MetFree.of_bodySF (plainFor_of_name pn_3) hisR ?_
  intro p e s m args below meth c s₁ Bd hml0 hP hK
  obtain ⟨rfl, hZ, hh⟩ := hP
  have hx := Bd.exec
  have hby := Bd.bytes
  have hml : c.maxLocals = 1 := hml0
  have hown : s.vm.findClass "com/example/evbind/evbind/Utf8SequenceEndPinLaw" = some m.cls := findClass_of_methodNamed Bd.named
  have hnm := (name_of_methodNamed Bd.named Bd.method).1
  have X0 : Stand p l e ({ frames := 0, cells := 0, slots := 0, locals := 0 } : Room) s m #[(.int p0)] below meth c s₁ [] 0 0 := Stand.of_body Bd
  have e0 : s₁.heap = h0 := by rw [← hh, Bd.state]; rfl
  have N0 := Fr.nil n0
  show OGo p e below s (Q3 Z p0 h0 n0) ({ frames := 0, cells := 0, slots := 0, locals := 0 } : Room).cells ({ frames := 0, cells := 0, slots := 0, locals := 0 } : Room).slots _
  refine OGo.st (fun _ k => castTop (ef_3 m p0) k) ?_
  show OGo p e below s _ _ _ (s₁.setTop (mkF m 0 #[.val (.int p0)] []))
  refine OGo.st (fun _ k => XS.iloadN X0.here hx rfl (hb hby d3_0) rfl k) ?_
  show OGo p e below s _ _ _ (s₁.setTop (mkF m 1 #[.val (.int p0)] [(.int p0)]))
  refine OGo.st (fun _ k => XS.sipush X0.here hx rfl (hb hby d3_1) k) ?_
  show OGo p e below s _ _ _ (s₁.setTop (mkF m 4 #[.val (.int p0)] [(.int (192 : Int32)), (.int p0)]))
  refine OGo.st (fun _ k => XS.iand X0.here hx rfl (hb hby d3_4) rfl k) ?_
  show OGo p e below s _ _ _ (s₁.setTop (mkF m 5 #[.val (.int p0)] [(.int (p0 &&& (192 : Int32)))]))
  refine OGo.st (fun _ k => XS.sipush X0.here hx rfl (hb hby d3_5) k) ?_
  show OGo p e below s _ _ _ (s₁.setTop (mkF m 8 #[.val (.int p0)] [(.int (128 : Int32)), (.int (p0 &&& (192 : Int32)))]))
  by_cases hc8 : (p0 &&& (192 : Int32)) = (128 : Int32)
  · refine OGo.st (fun _ k => XS.icmpNo X0.here hx rfl (hb hby d3_8) rfl (teq hc8).2 k) ?_
    show OGo p e below s _ _ _ (s₁.setTop (mkF m 11 #[.val (.int p0)] []))
    refine OGo.st (fun _ k => XS.iconst X0.here hx rfl (hb hby d3_11) k) ?_
    show OGo p e below s _ _ _ (s₁.setTop (mkF m 12 #[.val (.int p0)] [(.int (1 : Int32))]))
    refine OGo.st (fun _ k => XS.goto X0.here hx rfl (pc0 := 12) (pc' := 16) rfl (hb hby d3_12) (by decide) (by decide) k) ?_
    show OGo p e below s _ _ _ (s₁.setTop (mkF m 16 #[.val (.int p0)] [(.int (1 : Int32))]))
    exact oretN X0 hx Bd.notSynchronized (t := .boolean) Bd.returns (by simp) (hb hby d3_16) (z' := (1 : Int32)) (by decide) e0 ⟨(congrArg (fun z => some (Value.int z)) (show (1 : Int32) = f3 p0 from Eq.symm (by unfold f3; exact if_pos hc8))), N0, rfl⟩ (by decide) (by decide)
  · refine OGo.st (fun _ k => XS.icmpYes X0.here hx rfl (pc0 := 8) (pc' := 15) rfl (hb hby d3_8) rfl (feq hc8).2 (by decide) (by decide) k) ?_
    show OGo p e below s _ _ _ (s₁.setTop (mkF m 15 #[.val (.int p0)] []))
    refine OGo.st (fun _ k => XS.iconst X0.here hx rfl (hb hby d3_15) k) ?_
    show OGo p e below s _ _ _ (s₁.setTop (mkF m 16 #[.val (.int p0)] [(.int (0 : Int32))]))
    exact oretN X0 hx Bd.notSynchronized (t := .boolean) Bd.returns (by simp) (hb hby d3_16) (z' := (0 : Int32)) (by decide) e0 ⟨(congrArg (fun z => some (Value.int z)) (show (0 : Int32) = f3 p0 from Eq.symm (by unfold f3; exact if_neg hc8))), N0, rfl⟩ (by decide) (by decide)
theorem d2_0 : decode method_4_code 0 = .ok (.iload_n 0, 1) := by decide +kernel
theorem d2_1 : decode method_4_code 1 = .ok (.sipush 224, 3) := by decide +kernel
theorem d2_4 : decode method_4_code 4 = .ok (.iand, 1) := by decide +kernel
theorem d2_5 : decode method_4_code 5 = .ok (.sipush 192, 3) := by decide +kernel
theorem d2_8 : decode method_4_code 8 = .ok (.if_icmp .ne 15, 3) := by decide +kernel
theorem d2_11 : decode method_4_code 11 = .ok (.iconst 2, 1) := by decide +kernel
theorem d2_12 : decode method_4_code 12 = .ok (.istore 6, 2) := by decide +kernel
theorem d2_14 : decode method_4_code 14 = .ok (.iload_n 0, 1) := by decide +kernel
theorem d2_15 : decode method_4_code 15 = .ok (.bipush 31, 2) := by decide +kernel
theorem d2_17 : decode method_4_code 17 = .ok (.iand, 1) := by decide +kernel
theorem d2_18 : decode method_4_code 18 = .ok (.istore 7, 2) := by decide +kernel
theorem d2_20 : decode method_4_code 20 = .ok (.goto 51, 3) := by decide +kernel
theorem d2_23 : decode method_4_code 23 = .ok (.iload_n 0, 1) := by decide +kernel
theorem d2_24 : decode method_4_code 24 = .ok (.sipush 240, 3) := by decide +kernel
theorem d2_27 : decode method_4_code 27 = .ok (.iand, 1) := by decide +kernel
theorem d2_28 : decode method_4_code 28 = .ok (.sipush 224, 3) := by decide +kernel
theorem d2_31 : decode method_4_code 31 = .ok (.if_icmp .ne 15, 3) := by decide +kernel
theorem d2_34 : decode method_4_code 34 = .ok (.iconst 3, 1) := by decide +kernel
theorem d2_35 : decode method_4_code 35 = .ok (.istore 6, 2) := by decide +kernel
theorem d2_37 : decode method_4_code 37 = .ok (.iload_n 0, 1) := by decide +kernel
theorem d2_38 : decode method_4_code 38 = .ok (.bipush 15, 2) := by decide +kernel
theorem d2_40 : decode method_4_code 40 = .ok (.iand, 1) := by decide +kernel
theorem d2_41 : decode method_4_code 41 = .ok (.istore 7, 2) := by decide +kernel
theorem d2_43 : decode method_4_code 43 = .ok (.goto 28, 3) := by decide +kernel
theorem d2_46 : decode method_4_code 46 = .ok (.iload_n 0, 1) := by decide +kernel
theorem d2_47 : decode method_4_code 47 = .ok (.sipush 248, 3) := by decide +kernel
theorem d2_50 : decode method_4_code 50 = .ok (.iand, 1) := by decide +kernel
theorem d2_51 : decode method_4_code 51 = .ok (.sipush 240, 3) := by decide +kernel
theorem d2_54 : decode method_4_code 54 = .ok (.if_icmp .ne 15, 3) := by decide +kernel
theorem d2_57 : decode method_4_code 57 = .ok (.iconst 4, 1) := by decide +kernel
theorem d2_58 : decode method_4_code 58 = .ok (.istore 6, 2) := by decide +kernel
theorem d2_60 : decode method_4_code 60 = .ok (.iload_n 0, 1) := by decide +kernel
theorem d2_61 : decode method_4_code 61 = .ok (.bipush 7, 2) := by decide +kernel
theorem d2_63 : decode method_4_code 63 = .ok (.iand, 1) := by decide +kernel
theorem d2_64 : decode method_4_code 64 = .ok (.istore 7, 2) := by decide +kernel
theorem d2_66 : decode method_4_code 66 = .ok (.goto 5, 3) := by decide +kernel
theorem d2_69 : decode method_4_code 69 = .ok (.iconst (-1), 1) := by decide +kernel
theorem d2_70 : decode method_4_code 70 = .ok (.ireturn, 1) := by decide +kernel
theorem d2_71 : decode method_4_code 71 = .ok (.iload 4, 2) := by decide +kernel
theorem d2_73 : decode method_4_code 73 = .ok (.iload 6, 2) := by decide +kernel
theorem d2_75 : decode method_4_code 75 = .ok (.iadd, 1) := by decide +kernel
theorem d2_76 : decode method_4_code 76 = .ok (.iload 5, 2) := by decide +kernel
theorem d2_78 : decode method_4_code 78 = .ok (.if_icmp .le 5, 3) := by decide +kernel
theorem d2_81 : decode method_4_code 81 = .ok (.iconst (-1), 1) := by decide +kernel
theorem d2_82 : decode method_4_code 82 = .ok (.ireturn, 1) := by decide +kernel
theorem d2_83 : decode method_4_code 83 = .ok (.iload_n 1, 1) := by decide +kernel
theorem d2_84 : decode method_4_code 84 = .ok (.invokestatic 20, 3) := by decide +kernel
theorem d2_87 : decode method_4_code 87 = .ok (.ifCond .ne 5, 3) := by decide +kernel
theorem d2_90 : decode method_4_code 90 = .ok (.iconst (-1), 1) := by decide +kernel
theorem d2_91 : decode method_4_code 91 = .ok (.ireturn, 1) := by decide +kernel
theorem d2_92 : decode method_4_code 92 = .ok (.iload 7, 2) := by decide +kernel
theorem d2_94 : decode method_4_code 94 = .ok (.bipush 6, 2) := by decide +kernel
theorem d2_96 : decode method_4_code 96 = .ok (.ishl, 1) := by decide +kernel
theorem d2_97 : decode method_4_code 97 = .ok (.iload_n 1, 1) := by decide +kernel
theorem d2_98 : decode method_4_code 98 = .ok (.bipush 63, 2) := by decide +kernel
theorem d2_100 : decode method_4_code 100 = .ok (.iand, 1) := by decide +kernel
theorem d2_101 : decode method_4_code 101 = .ok (.ior, 1) := by decide +kernel
theorem d2_102 : decode method_4_code 102 = .ok (.istore 7, 2) := by decide +kernel
theorem d2_104 : decode method_4_code 104 = .ok (.iload 6, 2) := by decide +kernel
theorem d2_106 : decode method_4_code 106 = .ok (.iconst 3, 1) := by decide +kernel
theorem d2_107 : decode method_4_code 107 = .ok (.if_icmp .lt 24, 3) := by decide +kernel
theorem d2_110 : decode method_4_code 110 = .ok (.iload_n 2, 1) := by decide +kernel
theorem d2_111 : decode method_4_code 111 = .ok (.invokestatic 20, 3) := by decide +kernel
theorem d2_114 : decode method_4_code 114 = .ok (.ifCond .ne 5, 3) := by decide +kernel
theorem d2_117 : decode method_4_code 117 = .ok (.iconst (-1), 1) := by decide +kernel
theorem d2_118 : decode method_4_code 118 = .ok (.ireturn, 1) := by decide +kernel
theorem d2_119 : decode method_4_code 119 = .ok (.iload 7, 2) := by decide +kernel
theorem d2_121 : decode method_4_code 121 = .ok (.bipush 6, 2) := by decide +kernel
theorem d2_123 : decode method_4_code 123 = .ok (.ishl, 1) := by decide +kernel
theorem d2_124 : decode method_4_code 124 = .ok (.iload_n 2, 1) := by decide +kernel
theorem d2_125 : decode method_4_code 125 = .ok (.bipush 63, 2) := by decide +kernel
theorem d2_127 : decode method_4_code 127 = .ok (.iand, 1) := by decide +kernel
theorem d2_128 : decode method_4_code 128 = .ok (.ior, 1) := by decide +kernel
theorem d2_129 : decode method_4_code 129 = .ok (.istore 7, 2) := by decide +kernel
theorem d2_131 : decode method_4_code 131 = .ok (.iload 6, 2) := by decide +kernel
theorem d2_133 : decode method_4_code 133 = .ok (.iconst 4, 1) := by decide +kernel
theorem d2_134 : decode method_4_code 134 = .ok (.if_icmp .ne 24, 3) := by decide +kernel
theorem d2_137 : decode method_4_code 137 = .ok (.iload_n 3, 1) := by decide +kernel
theorem d2_138 : decode method_4_code 138 = .ok (.invokestatic 20, 3) := by decide +kernel
theorem d2_141 : decode method_4_code 141 = .ok (.ifCond .ne 5, 3) := by decide +kernel
theorem d2_144 : decode method_4_code 144 = .ok (.iconst (-1), 1) := by decide +kernel
theorem d2_145 : decode method_4_code 145 = .ok (.ireturn, 1) := by decide +kernel
theorem d2_146 : decode method_4_code 146 = .ok (.iload 7, 2) := by decide +kernel
theorem d2_148 : decode method_4_code 148 = .ok (.bipush 6, 2) := by decide +kernel
theorem d2_150 : decode method_4_code 150 = .ok (.ishl, 1) := by decide +kernel
theorem d2_151 : decode method_4_code 151 = .ok (.iload_n 3, 1) := by decide +kernel
theorem d2_152 : decode method_4_code 152 = .ok (.bipush 63, 2) := by decide +kernel
theorem d2_154 : decode method_4_code 154 = .ok (.iand, 1) := by decide +kernel
theorem d2_155 : decode method_4_code 155 = .ok (.ior, 1) := by decide +kernel
theorem d2_156 : decode method_4_code 156 = .ok (.istore 7, 2) := by decide +kernel
theorem d2_158 : decode method_4_code 158 = .ok (.iload 6, 2) := by decide +kernel
theorem d2_160 : decode method_4_code 160 = .ok (.iconst 2, 1) := by decide +kernel
theorem d2_161 : decode method_4_code 161 = .ok (.if_icmp .ne 21, 3) := by decide +kernel
theorem d2_164 : decode method_4_code 164 = .ok (.iload 7, 2) := by decide +kernel
theorem d2_166 : decode method_4_code 166 = .ok (.sipush 128, 3) := by decide +kernel
theorem d2_169 : decode method_4_code 169 = .ok (.if_icmp .lt 7, 3) := by decide +kernel
theorem d2_172 : decode method_4_code 172 = .ok (.iconst 1, 1) := by decide +kernel
theorem d2_173 : decode method_4_code 173 = .ok (.goto 4, 3) := by decide +kernel
theorem d2_176 : decode method_4_code 176 = .ok (.iconst 0, 1) := by decide +kernel
theorem d2_177 : decode method_4_code 177 = .ok (.istore 8, 2) := by decide +kernel
theorem d2_179 : decode method_4_code 179 = .ok (.goto 62, 3) := by decide +kernel
theorem d2_182 : decode method_4_code 182 = .ok (.iload 6, 2) := by decide +kernel
theorem d2_184 : decode method_4_code 184 = .ok (.iconst 3, 1) := by decide +kernel
theorem d2_185 : decode method_4_code 185 = .ok (.if_icmp .ne 35, 3) := by decide +kernel
theorem d2_188 : decode method_4_code 188 = .ok (.iload 7, 2) := by decide +kernel
theorem d2_190 : decode method_4_code 190 = .ok (.sipush 2048, 3) := by decide +kernel
theorem d2_193 : decode method_4_code 193 = .ok (.if_icmp .lt 21, 3) := by decide +kernel
theorem d2_196 : decode method_4_code 196 = .ok (.iload 7, 2) := by decide +kernel
theorem d2_198 : decode method_4_code 198 = .ok (.ldc 24, 2) := by decide +kernel
theorem d2_200 : decode method_4_code 200 = .ok (.if_icmp .lt 10, 3) := by decide +kernel
theorem d2_203 : decode method_4_code 203 = .ok (.iload 7, 2) := by decide +kernel
theorem d2_205 : decode method_4_code 205 = .ok (.ldc 25, 2) := by decide +kernel
theorem d2_207 : decode method_4_code 207 = .ok (.if_icmp .le 7, 3) := by decide +kernel
theorem d2_210 : decode method_4_code 210 = .ok (.iconst 1, 1) := by decide +kernel
theorem d2_211 : decode method_4_code 211 = .ok (.goto 4, 3) := by decide +kernel
theorem d2_214 : decode method_4_code 214 = .ok (.iconst 0, 1) := by decide +kernel
theorem d2_215 : decode method_4_code 215 = .ok (.istore 8, 2) := by decide +kernel
theorem d2_217 : decode method_4_code 217 = .ok (.goto 24, 3) := by decide +kernel
theorem d2_220 : decode method_4_code 220 = .ok (.iload 7, 2) := by decide +kernel
theorem d2_222 : decode method_4_code 222 = .ok (.ldc 26, 2) := by decide +kernel
theorem d2_224 : decode method_4_code 224 = .ok (.if_icmp .lt 14, 3) := by decide +kernel
theorem d2_227 : decode method_4_code 227 = .ok (.iload 7, 2) := by decide +kernel
theorem d2_229 : decode method_4_code 229 = .ok (.ldc 27, 2) := by decide +kernel
theorem d2_231 : decode method_4_code 231 = .ok (.if_icmp .gt 7, 3) := by decide +kernel
theorem d2_234 : decode method_4_code 234 = .ok (.iconst 1, 1) := by decide +kernel
theorem d2_235 : decode method_4_code 235 = .ok (.goto 4, 3) := by decide +kernel
theorem d2_238 : decode method_4_code 238 = .ok (.iconst 0, 1) := by decide +kernel
theorem d2_239 : decode method_4_code 239 = .ok (.istore 8, 2) := by decide +kernel
theorem d2_241 : decode method_4_code 241 = .ok (.iload 8, 2) := by decide +kernel
theorem d2_243 : decode method_4_code 243 = .ok (.ifCond .eq 11, 3) := by decide +kernel
theorem d2_246 : decode method_4_code 246 = .ok (.iload 4, 2) := by decide +kernel
theorem d2_248 : decode method_4_code 248 = .ok (.iload 6, 2) := by decide +kernel
theorem d2_250 : decode method_4_code 250 = .ok (.iadd, 1) := by decide +kernel
theorem d2_251 : decode method_4_code 251 = .ok (.goto 4, 3) := by decide +kernel
theorem d2_254 : decode method_4_code 254 = .ok (.iconst (-1), 1) := by decide +kernel
theorem d2_255 : decode method_4_code 255 = .ok (.ireturn, 1) := by decide +kernel
theorem pn_2 : plainName "com/example/evbind/evbind/Utf8SequenceEndPinLaw" = true := by first | (simp [plainName, overriddenIn]; done) | decide +kernel
theorem pd_2_0 : parseMethodDescriptor "(I)Z" = some ⟨[.int], some .boolean⟩ := by decide +kernel
theorem ef_2 (m : MethodId) (p0 : Int32) (p1 : Int32) (p2 : Int32) (p3 : Int32) (p4 : Int32) (p5 : Int32) : entryFrame m #[(.int p0), (.int p1), (.int p2), (.int p3), (.int p4), (.int p5)] 9 = mkF m 0 #[.val (.int p0), .val (.int p1), .val (.int p2), .val (.int p3), .val (.int p4), .val (.int p5), .unset, .unset, .unset] [] := by first | (simp [entryFrame, mkF, argsToLocals, Value.category]; done) | rfl
def v2_0 (p0 : Int32) (p1 : Int32) (p2 : Int32) (p3 : Int32) (p4 : Int32) (p5 : Int32) : Int32 := (((p0 &&& (31 : Int32)) <<< ((6 : Int32) &&& 31)) ||| (p1 &&& (63 : Int32)))
def v2_1 (p0 : Int32) (p1 : Int32) (p2 : Int32) (p3 : Int32) (p4 : Int32) (p5 : Int32) : Int32 := (((p0 &&& (15 : Int32)) <<< ((6 : Int32) &&& 31)) ||| (p1 &&& (63 : Int32)))
def v2_2 (p0 : Int32) (p1 : Int32) (p2 : Int32) (p3 : Int32) (p4 : Int32) (p5 : Int32) : Int32 := (((v2_1 p0 p1 p2 p3 p4 p5) <<< ((6 : Int32) &&& 31)) ||| (p2 &&& (63 : Int32)))
def v2_3 (p0 : Int32) (p1 : Int32) (p2 : Int32) (p3 : Int32) (p4 : Int32) (p5 : Int32) : Int32 := (((p0 &&& (7 : Int32)) <<< ((6 : Int32) &&& 31)) ||| (p1 &&& (63 : Int32)))
def v2_4 (p0 : Int32) (p1 : Int32) (p2 : Int32) (p3 : Int32) (p4 : Int32) (p5 : Int32) : Int32 := (((v2_3 p0 p1 p2 p3 p4 p5) <<< ((6 : Int32) &&& 31)) ||| (p2 &&& (63 : Int32)))
def v2_5 (p0 : Int32) (p1 : Int32) (p2 : Int32) (p3 : Int32) (p4 : Int32) (p5 : Int32) : Int32 := (((v2_4 p0 p1 p2 p3 p4 p5) <<< ((6 : Int32) &&& 31)) ||| (p3 &&& (63 : Int32)))
def f2_177 (p0 : Int32) (p1 : Int32) (p2 : Int32) (p3 : Int32) (p4 : Int32) (p5 : Int32) (j177_0 : Int32) : Int32 := (if j177_0 = (0 : Int32) then (-1 : Int32) else (p4 + (2 : Int32)))
def f2_215 (p0 : Int32) (p1 : Int32) (p2 : Int32) (p3 : Int32) (p4 : Int32) (p5 : Int32) (j215_0 : Int32) : Int32 := (if j215_0 = (0 : Int32) then (-1 : Int32) else (p4 + (3 : Int32)))
def f2_239 (p0 : Int32) (p1 : Int32) (p2 : Int32) (p3 : Int32) (p4 : Int32) (p5 : Int32) (j239_0 : Int32) : Int32 := (if j239_0 = (0 : Int32) then (-1 : Int32) else (p4 + (4 : Int32)))
def f2 (p0 : Int32) (p1 : Int32) (p2 : Int32) (p3 : Int32) (p4 : Int32) (p5 : Int32) : Int32 := (if (p0 &&& (224 : Int32)) = (192 : Int32) then (if p5 < (p4 + (2 : Int32)) then (-1 : Int32) else (if (f3 p1) = (0 : Int32) then (-1 : Int32) else (if (v2_0 p0 p1 p2 p3 p4 p5) < (128 : Int32) then (f2_177 p0 p1 p2 p3 p4 p5 (0 : Int32)) else (f2_177 p0 p1 p2 p3 p4 p5 (1 : Int32))))) else (if (p0 &&& (240 : Int32)) = (224 : Int32) then (if p5 < (p4 + (3 : Int32)) then (-1 : Int32) else (if (f3 p1) = (0 : Int32) then (-1 : Int32) else (if (f3 p2) = (0 : Int32) then (-1 : Int32) else (if (v2_2 p0 p1 p2 p3 p4 p5) < (2048 : Int32) then (f2_215 p0 p1 p2 p3 p4 p5 (0 : Int32)) else (if (v2_2 p0 p1 p2 p3 p4 p5) < (55296 : Int32) then (f2_215 p0 p1 p2 p3 p4 p5 (1 : Int32)) else (if (57343 : Int32) < (v2_2 p0 p1 p2 p3 p4 p5) then (f2_215 p0 p1 p2 p3 p4 p5 (1 : Int32)) else (f2_215 p0 p1 p2 p3 p4 p5 (0 : Int32)))))))) else (if (p0 &&& (248 : Int32)) = (240 : Int32) then (if p5 < (p4 + (4 : Int32)) then (-1 : Int32) else (if (f3 p1) = (0 : Int32) then (-1 : Int32) else (if (f3 p2) = (0 : Int32) then (-1 : Int32) else (if (f3 p3) = (0 : Int32) then (-1 : Int32) else (if (v2_5 p0 p1 p2 p3 p4 p5) < (65536 : Int32) then (f2_239 p0 p1 p2 p3 p4 p5 (0 : Int32)) else (if (1114111 : Int32) < (v2_5 p0 p1 p2 p3 p4 p5) then (f2_239 p0 p1 p2 p3 p4 p5 (0 : Int32)) else (f2_239 p0 p1 p2 p3 p4 p5 (1 : Int32)))))))) else (-1 : Int32))))
def Q2 (Z : State) (p0 : Int32) (p1 : Int32) (p2 : Int32) (p3 : Int32) (p4 : Int32) (p5 : Int32) (h0 : Heap) (n0 : Nat) (v : Option Value) (h : Heap) (L : List Loc) : Prop := v = some (.int (f2 p0 p1 p2 p3 p4 p5)) ∧ Fr n0 L ∧ h = h0
set_option maxRecDepth 65536 in
set_option maxHeartbeats 40000000 in
theorem rm2 (l : Launch) (Z : State) (a0 : Array Value) (hw : ∀ d ∈ tables_1, d.before a0 Z = true) (ws : List Jvm.Cond) (p0 : Int32) (p1 : Int32) (p2 : Int32) (p3 : Int32) (p4 : Int32) (p5 : Int32) (h0 : Heap) (n0 : Nat) (Z0 : n0 ≤ h0.size) :
    MetFree l (⟨"com/example/evbind/evbind/Utf8SequenceEndPinLaw", "expected", "(IIIIII)I"⟩ : MethodName) (head1 (Jvm.Cond.code (⟨"com/example/evbind/evbind/Utf8SequenceEndPinLaw", "expected", "(IIIIII)I"⟩ : MethodName) method_4_code 9 (some .int) :: ws) ({ frames := 1, cells := 0, slots := 0, locals := 12 } : Room)) (fun a U => a = #[(.int p0), (.int p1), (.int p2), (.int p3), (.int p4), (.int p5)] ∧ Z.Warmed39 U.vm ∧ U.heap = h0) (fun _ _ _ _ _ => True) (fun _ U o U' => ∃ v L, o = .returned v ∧ Q2 Z p0 p1 p2 p3 p4 p5 h0 n0 v U'.heap L ∧ FrameEnd U o U' L ({ frames := 1, cells := 0, slots := 0, locals := 12 } : Room).cells ({ frames := 1, cells := 0, slots := 0, locals := 12 } : Room).slots) := by
  refine MetFree.of_bodySF (plainFor_of_name pn_2) hisR ?_
  intro p e s m args below meth c s₁ Bd hml0 hP hK
  obtain ⟨rfl, hZ, hh⟩ := hP
  have hx := Bd.exec
  have hby := Bd.bytes
  have hml : c.maxLocals = 9 := hml0
  have hown : s.vm.findClass "com/example/evbind/evbind/Utf8SequenceEndPinLaw" = some m.cls := findClass_of_methodNamed Bd.named
  have hnm := (name_of_methodNamed Bd.named Bd.method).1
  have X0 : Stand p l e ({ frames := 1, cells := 0, slots := 0, locals := 12 } : Room) s m #[(.int p0), (.int p1), (.int p2), (.int p3), (.int p4), (.int p5)] below meth c s₁ [] 0 0 := Stand.of_body Bd
  have e0 : s₁.heap = h0 := by rw [← hh, Bd.state]; rfl
  have N0 := Fr.nil n0
  show OGo p e below s (Q2 Z p0 p1 p2 p3 p4 p5 h0 n0) ({ frames := 1, cells := 0, slots := 0, locals := 12 } : Room).cells ({ frames := 1, cells := 0, slots := 0, locals := 12 } : Room).slots _
  refine OGo.st (fun _ k => castTop (ef_2 m p0 p1 p2 p3 p4 p5) k) ?_
  show OGo p e below s _ _ _ (s₁.setTop (mkF m 0 #[.val (.int p0), .val (.int p1), .val (.int p2), .val (.int p3), .val (.int p4), .val (.int p5), .unset, .unset, .unset] []))
  refine OGo.st (fun _ k => XS.iloadN X0.here hx rfl (hb hby d2_0) rfl k) ?_
  show OGo p e below s _ _ _ (s₁.setTop (mkF m 1 #[.val (.int p0), .val (.int p1), .val (.int p2), .val (.int p3), .val (.int p4), .val (.int p5), .unset, .unset, .unset] [(.int p0)]))
  refine OGo.st (fun _ k => XS.sipush X0.here hx rfl (hb hby d2_1) k) ?_
  show OGo p e below s _ _ _ (s₁.setTop (mkF m 4 #[.val (.int p0), .val (.int p1), .val (.int p2), .val (.int p3), .val (.int p4), .val (.int p5), .unset, .unset, .unset] [(.int (224 : Int32)), (.int p0)]))
  refine OGo.st (fun _ k => XS.iand X0.here hx rfl (hb hby d2_4) rfl k) ?_
  show OGo p e below s _ _ _ (s₁.setTop (mkF m 5 #[.val (.int p0), .val (.int p1), .val (.int p2), .val (.int p3), .val (.int p4), .val (.int p5), .unset, .unset, .unset] [(.int (p0 &&& (224 : Int32)))]))
  refine OGo.st (fun _ k => XS.sipush X0.here hx rfl (hb hby d2_5) k) ?_
  show OGo p e below s _ _ _ (s₁.setTop (mkF m 8 #[.val (.int p0), .val (.int p1), .val (.int p2), .val (.int p3), .val (.int p4), .val (.int p5), .unset, .unset, .unset] [(.int (192 : Int32)), (.int (p0 &&& (224 : Int32)))]))
  by_cases hc8 : (p0 &&& (224 : Int32)) = (192 : Int32)
  · refine OGo.st (fun _ k => XS.icmpNo X0.here hx rfl (hb hby d2_8) rfl (teq hc8).2 k) ?_
    show OGo p e below s _ _ _ (s₁.setTop (mkF m 11 #[.val (.int p0), .val (.int p1), .val (.int p2), .val (.int p3), .val (.int p4), .val (.int p5), .unset, .unset, .unset] []))
    refine OGo.st (fun _ k => XS.iconst X0.here hx rfl (hb hby d2_11) k) ?_
    show OGo p e below s _ _ _ (s₁.setTop (mkF m 12 #[.val (.int p0), .val (.int p1), .val (.int p2), .val (.int p3), .val (.int p4), .val (.int p5), .unset, .unset, .unset] [(.int (2 : Int32))]))
    refine OGo.st (fun _ k => XS.istore X0.here hx rfl (hb hby d2_12) rfl (l' := #[.val (.int p0), .val (.int p1), .val (.int p2), .val (.int p3), .val (.int p4), .val (.int p5), .val (.int (2 : Int32)), .unset, .unset]) rfl k) ?_
    show OGo p e below s _ _ _ (s₁.setTop (mkF m 14 #[.val (.int p0), .val (.int p1), .val (.int p2), .val (.int p3), .val (.int p4), .val (.int p5), .val (.int (2 : Int32)), .unset, .unset] []))
    refine OGo.st (fun _ k => XS.iloadN X0.here hx rfl (hb hby d2_14) rfl k) ?_
    show OGo p e below s _ _ _ (s₁.setTop (mkF m 15 #[.val (.int p0), .val (.int p1), .val (.int p2), .val (.int p3), .val (.int p4), .val (.int p5), .val (.int (2 : Int32)), .unset, .unset] [(.int p0)]))
    refine OGo.st (fun _ k => XS.bipush X0.here hx rfl (hb hby d2_15) k) ?_
    show OGo p e below s _ _ _ (s₁.setTop (mkF m 17 #[.val (.int p0), .val (.int p1), .val (.int p2), .val (.int p3), .val (.int p4), .val (.int p5), .val (.int (2 : Int32)), .unset, .unset] [(.int (31 : Int32)), (.int p0)]))
    refine OGo.st (fun _ k => XS.iand X0.here hx rfl (hb hby d2_17) rfl k) ?_
    show OGo p e below s _ _ _ (s₁.setTop (mkF m 18 #[.val (.int p0), .val (.int p1), .val (.int p2), .val (.int p3), .val (.int p4), .val (.int p5), .val (.int (2 : Int32)), .unset, .unset] [(.int (p0 &&& (31 : Int32)))]))
    refine OGo.st (fun _ k => XS.istore X0.here hx rfl (hb hby d2_18) rfl (l' := #[.val (.int p0), .val (.int p1), .val (.int p2), .val (.int p3), .val (.int p4), .val (.int p5), .val (.int (2 : Int32)), .val (.int (p0 &&& (31 : Int32))), .unset]) rfl k) ?_
    show OGo p e below s _ _ _ (s₁.setTop (mkF m 20 #[.val (.int p0), .val (.int p1), .val (.int p2), .val (.int p3), .val (.int p4), .val (.int p5), .val (.int (2 : Int32)), .val (.int (p0 &&& (31 : Int32))), .unset] []))
    refine OGo.st (fun _ k => XS.goto X0.here hx rfl (pc0 := 20) (pc' := 71) rfl (hb hby d2_20) (by decide) (by decide) k) ?_
    show OGo p e below s _ _ _ (s₁.setTop (mkF m 71 #[.val (.int p0), .val (.int p1), .val (.int p2), .val (.int p3), .val (.int p4), .val (.int p5), .val (.int (2 : Int32)), .val (.int (p0 &&& (31 : Int32))), .unset] []))
    refine OGo.st (fun _ k => XS.iload X0.here hx rfl (hb hby d2_71) rfl k) ?_
    show OGo p e below s _ _ _ (s₁.setTop (mkF m 73 #[.val (.int p0), .val (.int p1), .val (.int p2), .val (.int p3), .val (.int p4), .val (.int p5), .val (.int (2 : Int32)), .val (.int (p0 &&& (31 : Int32))), .unset] [(.int p4)]))
    refine OGo.st (fun _ k => XS.iload X0.here hx rfl (hb hby d2_73) rfl k) ?_
    show OGo p e below s _ _ _ (s₁.setTop (mkF m 75 #[.val (.int p0), .val (.int p1), .val (.int p2), .val (.int p3), .val (.int p4), .val (.int p5), .val (.int (2 : Int32)), .val (.int (p0 &&& (31 : Int32))), .unset] [(.int (2 : Int32)), (.int p4)]))
    refine OGo.st (fun _ k => XS.iadd X0.here hx rfl (hb hby d2_75) rfl k) ?_
    show OGo p e below s _ _ _ (s₁.setTop (mkF m 76 #[.val (.int p0), .val (.int p1), .val (.int p2), .val (.int p3), .val (.int p4), .val (.int p5), .val (.int (2 : Int32)), .val (.int (p0 &&& (31 : Int32))), .unset] [(.int (p4 + (2 : Int32)))]))
    refine OGo.st (fun _ k => XS.iload X0.here hx rfl (hb hby d2_76) rfl k) ?_
    show OGo p e below s _ _ _ (s₁.setTop (mkF m 78 #[.val (.int p0), .val (.int p1), .val (.int p2), .val (.int p3), .val (.int p4), .val (.int p5), .val (.int (2 : Int32)), .val (.int (p0 &&& (31 : Int32))), .unset] [(.int p5), (.int (p4 + (2 : Int32)))]))
    by_cases hc78 : p5 < (p4 + (2 : Int32))
    · refine OGo.st (fun _ k => XS.icmpNo X0.here hx rfl (hb hby d2_78) rfl (tlt hc78).2.2.2 k) ?_
      show OGo p e below s _ _ _ (s₁.setTop (mkF m 81 #[.val (.int p0), .val (.int p1), .val (.int p2), .val (.int p3), .val (.int p4), .val (.int p5), .val (.int (2 : Int32)), .val (.int (p0 &&& (31 : Int32))), .unset] []))
      refine OGo.st (fun _ k => XS.iconst X0.here hx rfl (hb hby d2_81) k) ?_
      show OGo p e below s _ _ _ (s₁.setTop (mkF m 82 #[.val (.int p0), .val (.int p1), .val (.int p2), .val (.int p3), .val (.int p4), .val (.int p5), .val (.int (2 : Int32)), .val (.int (p0 &&& (31 : Int32))), .unset] [(.int (-1 : Int32))]))
      exact oretI X0 hx Bd.notSynchronized Bd.returns (hb hby d2_82) e0 ⟨(congrArg (fun z => some (Value.int z)) (show (-1 : Int32) = f2 p0 p1 p2 p3 p4 p5 from Eq.symm (by unfold f2; exact (if_pos hc8).trans (if_pos hc78)))), N0, rfl⟩ (by decide) (by decide)
    · refine OGo.st (fun _ k => XS.icmpYes X0.here hx rfl (pc0 := 78) (pc' := 83) rfl (hb hby d2_78) rfl (flt hc78).2.2.2 (by decide) (by decide) k) ?_
      show OGo p e below s _ _ _ (s₁.setTop (mkF m 83 #[.val (.int p0), .val (.int p1), .val (.int p2), .val (.int p3), .val (.int p4), .val (.int p5), .val (.int (2 : Int32)), .val (.int (p0 &&& (31 : Int32))), .unset] []))
      refine OGo.st (fun _ k => XS.iloadN X0.here hx rfl (hb hby d2_83) rfl k) ?_
      show OGo p e below s _ _ _ (s₁.setTop (mkF m 84 #[.val (.int p0), .val (.int p1), .val (.int p2), .val (.int p3), .val (.int p4), .val (.int p5), .val (.int (2 : Int32)), .val (.int (p0 &&& (31 : Int32))), .unset] [(.int p1)]))
      obtain ⟨_, _, ⟨T1, L1, k1, n1⟩, -, X1, ⟨Lc1, hQ1, l1, y1, z1⟩, st1⟩ := Jvm.LawKit.callS X0 hx (y := (⟨"com/example/evbind/evbind/Utf8SequenceEndPinLaw", "isCont", "(I)Z"⟩ : MethodName)) hown (mvT hZ (hw _ (List.mem_of_getElem? (i := 10) rfl))) (mvT hZ (hw _ (List.mem_of_getElem? (i := 11) rfl))) (mvT hZ (hw _ (List.mem_of_getElem? (i := 8) rfl))) (mvT hZ (hw _ (List.mem_of_getElem? (i := 12) rfl))) (by decide) (backOf (W := 0) (rm3 l Z a0 hw [] p1 h0 n0 Z0) hZ (hw _ (List.mem_of_getElem? (i := 12) rfl)) (hw _ (List.mem_of_getElem? (i := 8) rfl)) (by decide) (by decide)) (g := (mkF m 84 #[.val (.int p0), .val (.int p1), .val (.int p2), .val (.int p3), .val (.int p4), .val (.int p5), .val (.int (2 : Int32)), .val (.int (p0 &&& (31 : Int32))), .unset] [(.int p1)])) rfl (by rw [hml]; rfl) (argsL := [(.int p1)]) (rest := []) (lenOf pd_2_0 rfl) rfl (by show 2 * 0 + _ ≤ _; exact Nat.le_of_eq rfl) (hb hby d2_84) (fun _ _ => ⟨rfl, e0, (by decide : 0 + 0 ≤ _), (by decide : 0 + 0 ≤ _)⟩)
      dsimp only [Pt.U, Pt.locs, Pt.cells, Pt.slots] at X1 l1 y1 z1 st1 hQ1
      subst l1 y1 z1
      obtain ⟨rfl, N1q, e1⟩ := hQ1
      have N1 := Fr.app N0 N1q
      refine OGo.st st1 ?_
      show OGo p e below s _ _ _ (T1.setTop (mkF m 87 #[.val (.int p0), .val (.int p1), .val (.int p2), .val (.int p3), .val (.int p4), .val (.int p5), .val (.int (2 : Int32)), .val (.int (p0 &&& (31 : Int32))), .unset] [(.int (f3 p1))]))
      by_cases hc87 : (f3 p1) = (0 : Int32)
      · refine OGo.st (fun _ k => XS.ifNo X1.here hx rfl (hb hby d2_87) rfl ((if0 _ _).trans (teq hc87).2) k) ?_
        show OGo p e below s _ _ _ (T1.setTop (mkF m 90 #[.val (.int p0), .val (.int p1), .val (.int p2), .val (.int p3), .val (.int p4), .val (.int p5), .val (.int (2 : Int32)), .val (.int (p0 &&& (31 : Int32))), .unset] []))
        refine OGo.st (fun _ k => XS.iconst X1.here hx rfl (hb hby d2_90) k) ?_
        show OGo p e below s _ _ _ (T1.setTop (mkF m 91 #[.val (.int p0), .val (.int p1), .val (.int p2), .val (.int p3), .val (.int p4), .val (.int p5), .val (.int (2 : Int32)), .val (.int (p0 &&& (31 : Int32))), .unset] [(.int (-1 : Int32))]))
        exact oretI X1 hx Bd.notSynchronized Bd.returns (hb hby d2_91) e1 ⟨(congrArg (fun z => some (Value.int z)) (show (-1 : Int32) = f2 p0 p1 p2 p3 p4 p5 from Eq.symm (by unfold f2; exact (if_pos hc8).trans ((if_neg hc78).trans (if_pos hc87))))), N1, rfl⟩ (by decide) (by decide)
      · refine OGo.st (fun _ k => XS.ifYes X1.here hx rfl (pc0 := 87) (pc' := 92) rfl (hb hby d2_87) rfl ((if0 _ _).trans (feq hc87).2) (by decide) (by decide) k) ?_
        show OGo p e below s _ _ _ (T1.setTop (mkF m 92 #[.val (.int p0), .val (.int p1), .val (.int p2), .val (.int p3), .val (.int p4), .val (.int p5), .val (.int (2 : Int32)), .val (.int (p0 &&& (31 : Int32))), .unset] []))
        refine OGo.st (fun _ k => XS.iload X1.here hx rfl (hb hby d2_92) rfl k) ?_
        show OGo p e below s _ _ _ (T1.setTop (mkF m 94 #[.val (.int p0), .val (.int p1), .val (.int p2), .val (.int p3), .val (.int p4), .val (.int p5), .val (.int (2 : Int32)), .val (.int (p0 &&& (31 : Int32))), .unset] [(.int (p0 &&& (31 : Int32)))]))
        refine OGo.st (fun _ k => XS.bipush X1.here hx rfl (hb hby d2_94) k) ?_
        show OGo p e below s _ _ _ (T1.setTop (mkF m 96 #[.val (.int p0), .val (.int p1), .val (.int p2), .val (.int p3), .val (.int p4), .val (.int p5), .val (.int (2 : Int32)), .val (.int (p0 &&& (31 : Int32))), .unset] [(.int (6 : Int32)), (.int (p0 &&& (31 : Int32)))]))
        refine OGo.st (fun _ k => XS.ishl X1.here hx rfl (hb hby d2_96) rfl k) ?_
        show OGo p e below s _ _ _ (T1.setTop (mkF m 97 #[.val (.int p0), .val (.int p1), .val (.int p2), .val (.int p3), .val (.int p4), .val (.int p5), .val (.int (2 : Int32)), .val (.int (p0 &&& (31 : Int32))), .unset] [(.int ((p0 &&& (31 : Int32)) <<< ((6 : Int32) &&& 31)))]))
        refine OGo.st (fun _ k => XS.iloadN X1.here hx rfl (hb hby d2_97) rfl k) ?_
        show OGo p e below s _ _ _ (T1.setTop (mkF m 98 #[.val (.int p0), .val (.int p1), .val (.int p2), .val (.int p3), .val (.int p4), .val (.int p5), .val (.int (2 : Int32)), .val (.int (p0 &&& (31 : Int32))), .unset] [(.int p1), (.int ((p0 &&& (31 : Int32)) <<< ((6 : Int32) &&& 31)))]))
        refine OGo.st (fun _ k => XS.bipush X1.here hx rfl (hb hby d2_98) k) ?_
        show OGo p e below s _ _ _ (T1.setTop (mkF m 100 #[.val (.int p0), .val (.int p1), .val (.int p2), .val (.int p3), .val (.int p4), .val (.int p5), .val (.int (2 : Int32)), .val (.int (p0 &&& (31 : Int32))), .unset] [(.int (63 : Int32)), (.int p1), (.int ((p0 &&& (31 : Int32)) <<< ((6 : Int32) &&& 31)))]))
        refine OGo.st (fun _ k => XS.iand X1.here hx rfl (hb hby d2_100) rfl k) ?_
        show OGo p e below s _ _ _ (T1.setTop (mkF m 101 #[.val (.int p0), .val (.int p1), .val (.int p2), .val (.int p3), .val (.int p4), .val (.int p5), .val (.int (2 : Int32)), .val (.int (p0 &&& (31 : Int32))), .unset] [(.int (p1 &&& (63 : Int32))), (.int ((p0 &&& (31 : Int32)) <<< ((6 : Int32) &&& 31)))]))
        refine OGo.st (fun _ k => XS.ior X1.here hx rfl (hb hby d2_101) rfl k) ?_
        show OGo p e below s _ _ _ (T1.setTop (mkF m 102 #[.val (.int p0), .val (.int p1), .val (.int p2), .val (.int p3), .val (.int p4), .val (.int p5), .val (.int (2 : Int32)), .val (.int (p0 &&& (31 : Int32))), .unset] [(.int (((p0 &&& (31 : Int32)) <<< ((6 : Int32) &&& 31)) ||| (p1 &&& (63 : Int32))))]))
        refine OGo.st (fun _ k => XS.istore X1.here hx rfl (hb hby d2_102) rfl (l' := #[.val (.int p0), .val (.int p1), .val (.int p2), .val (.int p3), .val (.int p4), .val (.int p5), .val (.int (2 : Int32)), .val (.int (v2_0 p0 p1 p2 p3 p4 p5)), .unset]) rfl k) ?_
        show OGo p e below s _ _ _ (T1.setTop (mkF m 104 #[.val (.int p0), .val (.int p1), .val (.int p2), .val (.int p3), .val (.int p4), .val (.int p5), .val (.int (2 : Int32)), .val (.int (v2_0 p0 p1 p2 p3 p4 p5)), .unset] []))
        refine OGo.st (fun _ k => XS.iload X1.here hx rfl (hb hby d2_104) rfl k) ?_
        show OGo p e below s _ _ _ (T1.setTop (mkF m 106 #[.val (.int p0), .val (.int p1), .val (.int p2), .val (.int p3), .val (.int p4), .val (.int p5), .val (.int (2 : Int32)), .val (.int (v2_0 p0 p1 p2 p3 p4 p5)), .unset] [(.int (2 : Int32))]))
        refine OGo.st (fun _ k => XS.iconst X1.here hx rfl (hb hby d2_106) k) ?_
        show OGo p e below s _ _ _ (T1.setTop (mkF m 107 #[.val (.int p0), .val (.int p1), .val (.int p2), .val (.int p3), .val (.int p4), .val (.int p5), .val (.int (2 : Int32)), .val (.int (v2_0 p0 p1 p2 p3 p4 p5)), .unset] [(.int (3 : Int32)), (.int (2 : Int32))]))
        refine OGo.st (fun _ k => XS.icmpYes X1.here hx rfl (pc0 := 107) (pc' := 131) rfl (hb hby d2_107) rfl (tlt (by decide : (2 : Int32) < (3 : Int32))).1 (by decide) (by decide) k) ?_
        show OGo p e below s _ _ _ (T1.setTop (mkF m 131 #[.val (.int p0), .val (.int p1), .val (.int p2), .val (.int p3), .val (.int p4), .val (.int p5), .val (.int (2 : Int32)), .val (.int (v2_0 p0 p1 p2 p3 p4 p5)), .unset] []))
        refine OGo.st (fun _ k => XS.iload X1.here hx rfl (hb hby d2_131) rfl k) ?_
        show OGo p e below s _ _ _ (T1.setTop (mkF m 133 #[.val (.int p0), .val (.int p1), .val (.int p2), .val (.int p3), .val (.int p4), .val (.int p5), .val (.int (2 : Int32)), .val (.int (v2_0 p0 p1 p2 p3 p4 p5)), .unset] [(.int (2 : Int32))]))
        refine OGo.st (fun _ k => XS.iconst X1.here hx rfl (hb hby d2_133) k) ?_
        show OGo p e below s _ _ _ (T1.setTop (mkF m 134 #[.val (.int p0), .val (.int p1), .val (.int p2), .val (.int p3), .val (.int p4), .val (.int p5), .val (.int (2 : Int32)), .val (.int (v2_0 p0 p1 p2 p3 p4 p5)), .unset] [(.int (4 : Int32)), (.int (2 : Int32))]))
        refine OGo.st (fun _ k => XS.icmpYes X1.here hx rfl (pc0 := 134) (pc' := 158) rfl (hb hby d2_134) rfl (feq (by decide : ¬ ((2 : Int32) = (4 : Int32)))).2 (by decide) (by decide) k) ?_
        show OGo p e below s _ _ _ (T1.setTop (mkF m 158 #[.val (.int p0), .val (.int p1), .val (.int p2), .val (.int p3), .val (.int p4), .val (.int p5), .val (.int (2 : Int32)), .val (.int (v2_0 p0 p1 p2 p3 p4 p5)), .unset] []))
        refine OGo.st (fun _ k => XS.iload X1.here hx rfl (hb hby d2_158) rfl k) ?_
        show OGo p e below s _ _ _ (T1.setTop (mkF m 160 #[.val (.int p0), .val (.int p1), .val (.int p2), .val (.int p3), .val (.int p4), .val (.int p5), .val (.int (2 : Int32)), .val (.int (v2_0 p0 p1 p2 p3 p4 p5)), .unset] [(.int (2 : Int32))]))
        refine OGo.st (fun _ k => XS.iconst X1.here hx rfl (hb hby d2_160) k) ?_
        show OGo p e below s _ _ _ (T1.setTop (mkF m 161 #[.val (.int p0), .val (.int p1), .val (.int p2), .val (.int p3), .val (.int p4), .val (.int p5), .val (.int (2 : Int32)), .val (.int (v2_0 p0 p1 p2 p3 p4 p5)), .unset] [(.int (2 : Int32)), (.int (2 : Int32))]))
        refine OGo.st (fun _ k => XS.icmpNo X1.here hx rfl (hb hby d2_161) rfl (teq (by decide : (2 : Int32) = (2 : Int32))).2 k) ?_
        show OGo p e below s _ _ _ (T1.setTop (mkF m 164 #[.val (.int p0), .val (.int p1), .val (.int p2), .val (.int p3), .val (.int p4), .val (.int p5), .val (.int (2 : Int32)), .val (.int (v2_0 p0 p1 p2 p3 p4 p5)), .unset] []))
        refine OGo.st (fun _ k => XS.iload X1.here hx rfl (hb hby d2_164) rfl k) ?_
        show OGo p e below s _ _ _ (T1.setTop (mkF m 166 #[.val (.int p0), .val (.int p1), .val (.int p2), .val (.int p3), .val (.int p4), .val (.int p5), .val (.int (2 : Int32)), .val (.int (v2_0 p0 p1 p2 p3 p4 p5)), .unset] [(.int (v2_0 p0 p1 p2 p3 p4 p5))]))
        refine OGo.st (fun _ k => XS.sipush X1.here hx rfl (hb hby d2_166) k) ?_
        show OGo p e below s _ _ _ (T1.setTop (mkF m 169 #[.val (.int p0), .val (.int p1), .val (.int p2), .val (.int p3), .val (.int p4), .val (.int p5), .val (.int (2 : Int32)), .val (.int (v2_0 p0 p1 p2 p3 p4 p5)), .unset] [(.int (128 : Int32)), (.int (v2_0 p0 p1 p2 p3 p4 p5))]))
        have hj177 : ∀ (j177_0 : Int32) (hf177_0 : f2 p0 p1 p2 p3 p4 p5 = f2_177 p0 p1 p2 p3 p4 p5 j177_0), OGo p e below s (Q2 Z p0 p1 p2 p3 p4 p5 h0 n0) ({ frames := 1, cells := 0, slots := 0, locals := 12 } : Room).cells ({ frames := 1, cells := 0, slots := 0, locals := 12 } : Room).slots (T1.setTop (mkF m 177 #[.val (.int p0), .val (.int p1), .val (.int p2), .val (.int p3), .val (.int p4), .val (.int p5), .val (.int (2 : Int32)), .val (.int (v2_0 p0 p1 p2 p3 p4 p5)), .unset] [(.int j177_0)])) := by
          intro j177_0 hf177_0
          refine OGo.st (fun _ k => XS.istore X1.here hx rfl (hb hby d2_177) rfl (l' := #[.val (.int p0), .val (.int p1), .val (.int p2), .val (.int p3), .val (.int p4), .val (.int p5), .val (.int (2 : Int32)), .val (.int (v2_0 p0 p1 p2 p3 p4 p5)), .val (.int j177_0)]) rfl k) ?_
          show OGo p e below s _ _ _ (T1.setTop (mkF m 179 #[.val (.int p0), .val (.int p1), .val (.int p2), .val (.int p3), .val (.int p4), .val (.int p5), .val (.int (2 : Int32)), .val (.int (v2_0 p0 p1 p2 p3 p4 p5)), .val (.int j177_0)] []))
          refine OGo.st (fun _ k => XS.goto X1.here hx rfl (pc0 := 179) (pc' := 241) rfl (hb hby d2_179) (by decide) (by decide) k) ?_
          show OGo p e below s _ _ _ (T1.setTop (mkF m 241 #[.val (.int p0), .val (.int p1), .val (.int p2), .val (.int p3), .val (.int p4), .val (.int p5), .val (.int (2 : Int32)), .val (.int (v2_0 p0 p1 p2 p3 p4 p5)), .val (.int j177_0)] []))
          refine OGo.st (fun _ k => XS.iload X1.here hx rfl (hb hby d2_241) rfl k) ?_
          show OGo p e below s _ _ _ (T1.setTop (mkF m 243 #[.val (.int p0), .val (.int p1), .val (.int p2), .val (.int p3), .val (.int p4), .val (.int p5), .val (.int (2 : Int32)), .val (.int (v2_0 p0 p1 p2 p3 p4 p5)), .val (.int j177_0)] [(.int j177_0)]))
          by_cases hc243 : j177_0 = (0 : Int32)
          · refine OGo.st (fun _ k => XS.ifYes X1.here hx rfl (pc0 := 243) (pc' := 254) rfl (hb hby d2_243) rfl ((if0 _ _).trans (teq hc243).1) (by decide) (by decide) k) ?_
            show OGo p e below s _ _ _ (T1.setTop (mkF m 254 #[.val (.int p0), .val (.int p1), .val (.int p2), .val (.int p3), .val (.int p4), .val (.int p5), .val (.int (2 : Int32)), .val (.int (v2_0 p0 p1 p2 p3 p4 p5)), .val (.int j177_0)] []))
            refine OGo.st (fun _ k => XS.iconst X1.here hx rfl (hb hby d2_254) k) ?_
            show OGo p e below s _ _ _ (T1.setTop (mkF m 255 #[.val (.int p0), .val (.int p1), .val (.int p2), .val (.int p3), .val (.int p4), .val (.int p5), .val (.int (2 : Int32)), .val (.int (v2_0 p0 p1 p2 p3 p4 p5)), .val (.int j177_0)] [(.int (-1 : Int32))]))
            exact oretI X1 hx Bd.notSynchronized Bd.returns (hb hby d2_255) e1 ⟨(congrArg (fun z => some (Value.int z)) (show (-1 : Int32) = f2 p0 p1 p2 p3 p4 p5 from Eq.symm (hf177_0.trans (by unfold f2_177; exact if_pos hc243)))), N1, rfl⟩ (by decide) (by decide)
          · refine OGo.st (fun _ k => XS.ifNo X1.here hx rfl (hb hby d2_243) rfl ((if0 _ _).trans (feq hc243).1) k) ?_
            show OGo p e below s _ _ _ (T1.setTop (mkF m 246 #[.val (.int p0), .val (.int p1), .val (.int p2), .val (.int p3), .val (.int p4), .val (.int p5), .val (.int (2 : Int32)), .val (.int (v2_0 p0 p1 p2 p3 p4 p5)), .val (.int j177_0)] []))
            refine OGo.st (fun _ k => XS.iload X1.here hx rfl (hb hby d2_246) rfl k) ?_
            show OGo p e below s _ _ _ (T1.setTop (mkF m 248 #[.val (.int p0), .val (.int p1), .val (.int p2), .val (.int p3), .val (.int p4), .val (.int p5), .val (.int (2 : Int32)), .val (.int (v2_0 p0 p1 p2 p3 p4 p5)), .val (.int j177_0)] [(.int p4)]))
            refine OGo.st (fun _ k => XS.iload X1.here hx rfl (hb hby d2_248) rfl k) ?_
            show OGo p e below s _ _ _ (T1.setTop (mkF m 250 #[.val (.int p0), .val (.int p1), .val (.int p2), .val (.int p3), .val (.int p4), .val (.int p5), .val (.int (2 : Int32)), .val (.int (v2_0 p0 p1 p2 p3 p4 p5)), .val (.int j177_0)] [(.int (2 : Int32)), (.int p4)]))
            refine OGo.st (fun _ k => XS.iadd X1.here hx rfl (hb hby d2_250) rfl k) ?_
            show OGo p e below s _ _ _ (T1.setTop (mkF m 251 #[.val (.int p0), .val (.int p1), .val (.int p2), .val (.int p3), .val (.int p4), .val (.int p5), .val (.int (2 : Int32)), .val (.int (v2_0 p0 p1 p2 p3 p4 p5)), .val (.int j177_0)] [(.int (p4 + (2 : Int32)))]))
            refine OGo.st (fun _ k => XS.goto X1.here hx rfl (pc0 := 251) (pc' := 255) rfl (hb hby d2_251) (by decide) (by decide) k) ?_
            show OGo p e below s _ _ _ (T1.setTop (mkF m 255 #[.val (.int p0), .val (.int p1), .val (.int p2), .val (.int p3), .val (.int p4), .val (.int p5), .val (.int (2 : Int32)), .val (.int (v2_0 p0 p1 p2 p3 p4 p5)), .val (.int j177_0)] [(.int (p4 + (2 : Int32)))]))
            exact oretI X1 hx Bd.notSynchronized Bd.returns (hb hby d2_255) e1 ⟨(congrArg (fun z => some (Value.int z)) (show (p4 + (2 : Int32)) = f2 p0 p1 p2 p3 p4 p5 from Eq.symm (hf177_0.trans (by unfold f2_177; exact if_neg hc243)))), N1, rfl⟩ (by decide) (by decide)
        by_cases hc169 : (v2_0 p0 p1 p2 p3 p4 p5) < (128 : Int32)
        · refine OGo.st (fun _ k => XS.icmpYes X1.here hx rfl (pc0 := 169) (pc' := 176) rfl (hb hby d2_169) rfl (tlt hc169).1 (by decide) (by decide) k) ?_
          show OGo p e below s _ _ _ (T1.setTop (mkF m 176 #[.val (.int p0), .val (.int p1), .val (.int p2), .val (.int p3), .val (.int p4), .val (.int p5), .val (.int (2 : Int32)), .val (.int (v2_0 p0 p1 p2 p3 p4 p5)), .unset] []))
          refine OGo.st (fun _ k => XS.iconst X1.here hx rfl (hb hby d2_176) k) ?_
          show OGo p e below s _ _ _ (T1.setTop (mkF m 177 #[.val (.int p0), .val (.int p1), .val (.int p2), .val (.int p3), .val (.int p4), .val (.int p5), .val (.int (2 : Int32)), .val (.int (v2_0 p0 p1 p2 p3 p4 p5)), .unset] [(.int (0 : Int32))]))
          exact hj177 (0 : Int32) (by unfold f2; exact (if_pos hc8).trans ((if_neg hc78).trans ((if_neg hc87).trans (if_pos hc169))))
        · refine OGo.st (fun _ k => XS.icmpNo X1.here hx rfl (hb hby d2_169) rfl (flt hc169).1 k) ?_
          show OGo p e below s _ _ _ (T1.setTop (mkF m 172 #[.val (.int p0), .val (.int p1), .val (.int p2), .val (.int p3), .val (.int p4), .val (.int p5), .val (.int (2 : Int32)), .val (.int (v2_0 p0 p1 p2 p3 p4 p5)), .unset] []))
          refine OGo.st (fun _ k => XS.iconst X1.here hx rfl (hb hby d2_172) k) ?_
          show OGo p e below s _ _ _ (T1.setTop (mkF m 173 #[.val (.int p0), .val (.int p1), .val (.int p2), .val (.int p3), .val (.int p4), .val (.int p5), .val (.int (2 : Int32)), .val (.int (v2_0 p0 p1 p2 p3 p4 p5)), .unset] [(.int (1 : Int32))]))
          refine OGo.st (fun _ k => XS.goto X1.here hx rfl (pc0 := 173) (pc' := 177) rfl (hb hby d2_173) (by decide) (by decide) k) ?_
          show OGo p e below s _ _ _ (T1.setTop (mkF m 177 #[.val (.int p0), .val (.int p1), .val (.int p2), .val (.int p3), .val (.int p4), .val (.int p5), .val (.int (2 : Int32)), .val (.int (v2_0 p0 p1 p2 p3 p4 p5)), .unset] [(.int (1 : Int32))]))
          exact hj177 (1 : Int32) (by unfold f2; exact (if_pos hc8).trans ((if_neg hc78).trans ((if_neg hc87).trans (if_neg hc169))))
  · refine OGo.st (fun _ k => XS.icmpYes X0.here hx rfl (pc0 := 8) (pc' := 23) rfl (hb hby d2_8) rfl (feq hc8).2 (by decide) (by decide) k) ?_
    show OGo p e below s _ _ _ (s₁.setTop (mkF m 23 #[.val (.int p0), .val (.int p1), .val (.int p2), .val (.int p3), .val (.int p4), .val (.int p5), .unset, .unset, .unset] []))
    refine OGo.st (fun _ k => XS.iloadN X0.here hx rfl (hb hby d2_23) rfl k) ?_
    show OGo p e below s _ _ _ (s₁.setTop (mkF m 24 #[.val (.int p0), .val (.int p1), .val (.int p2), .val (.int p3), .val (.int p4), .val (.int p5), .unset, .unset, .unset] [(.int p0)]))
    refine OGo.st (fun _ k => XS.sipush X0.here hx rfl (hb hby d2_24) k) ?_
    show OGo p e below s _ _ _ (s₁.setTop (mkF m 27 #[.val (.int p0), .val (.int p1), .val (.int p2), .val (.int p3), .val (.int p4), .val (.int p5), .unset, .unset, .unset] [(.int (240 : Int32)), (.int p0)]))
    refine OGo.st (fun _ k => XS.iand X0.here hx rfl (hb hby d2_27) rfl k) ?_
    show OGo p e below s _ _ _ (s₁.setTop (mkF m 28 #[.val (.int p0), .val (.int p1), .val (.int p2), .val (.int p3), .val (.int p4), .val (.int p5), .unset, .unset, .unset] [(.int (p0 &&& (240 : Int32)))]))
    refine OGo.st (fun _ k => XS.sipush X0.here hx rfl (hb hby d2_28) k) ?_
    show OGo p e below s _ _ _ (s₁.setTop (mkF m 31 #[.val (.int p0), .val (.int p1), .val (.int p2), .val (.int p3), .val (.int p4), .val (.int p5), .unset, .unset, .unset] [(.int (224 : Int32)), (.int (p0 &&& (240 : Int32)))]))
    by_cases hc31 : (p0 &&& (240 : Int32)) = (224 : Int32)
    · refine OGo.st (fun _ k => XS.icmpNo X0.here hx rfl (hb hby d2_31) rfl (teq hc31).2 k) ?_
      show OGo p e below s _ _ _ (s₁.setTop (mkF m 34 #[.val (.int p0), .val (.int p1), .val (.int p2), .val (.int p3), .val (.int p4), .val (.int p5), .unset, .unset, .unset] []))
      refine OGo.st (fun _ k => XS.iconst X0.here hx rfl (hb hby d2_34) k) ?_
      show OGo p e below s _ _ _ (s₁.setTop (mkF m 35 #[.val (.int p0), .val (.int p1), .val (.int p2), .val (.int p3), .val (.int p4), .val (.int p5), .unset, .unset, .unset] [(.int (3 : Int32))]))
      refine OGo.st (fun _ k => XS.istore X0.here hx rfl (hb hby d2_35) rfl (l' := #[.val (.int p0), .val (.int p1), .val (.int p2), .val (.int p3), .val (.int p4), .val (.int p5), .val (.int (3 : Int32)), .unset, .unset]) rfl k) ?_
      show OGo p e below s _ _ _ (s₁.setTop (mkF m 37 #[.val (.int p0), .val (.int p1), .val (.int p2), .val (.int p3), .val (.int p4), .val (.int p5), .val (.int (3 : Int32)), .unset, .unset] []))
      refine OGo.st (fun _ k => XS.iloadN X0.here hx rfl (hb hby d2_37) rfl k) ?_
      show OGo p e below s _ _ _ (s₁.setTop (mkF m 38 #[.val (.int p0), .val (.int p1), .val (.int p2), .val (.int p3), .val (.int p4), .val (.int p5), .val (.int (3 : Int32)), .unset, .unset] [(.int p0)]))
      refine OGo.st (fun _ k => XS.bipush X0.here hx rfl (hb hby d2_38) k) ?_
      show OGo p e below s _ _ _ (s₁.setTop (mkF m 40 #[.val (.int p0), .val (.int p1), .val (.int p2), .val (.int p3), .val (.int p4), .val (.int p5), .val (.int (3 : Int32)), .unset, .unset] [(.int (15 : Int32)), (.int p0)]))
      refine OGo.st (fun _ k => XS.iand X0.here hx rfl (hb hby d2_40) rfl k) ?_
      show OGo p e below s _ _ _ (s₁.setTop (mkF m 41 #[.val (.int p0), .val (.int p1), .val (.int p2), .val (.int p3), .val (.int p4), .val (.int p5), .val (.int (3 : Int32)), .unset, .unset] [(.int (p0 &&& (15 : Int32)))]))
      refine OGo.st (fun _ k => XS.istore X0.here hx rfl (hb hby d2_41) rfl (l' := #[.val (.int p0), .val (.int p1), .val (.int p2), .val (.int p3), .val (.int p4), .val (.int p5), .val (.int (3 : Int32)), .val (.int (p0 &&& (15 : Int32))), .unset]) rfl k) ?_
      show OGo p e below s _ _ _ (s₁.setTop (mkF m 43 #[.val (.int p0), .val (.int p1), .val (.int p2), .val (.int p3), .val (.int p4), .val (.int p5), .val (.int (3 : Int32)), .val (.int (p0 &&& (15 : Int32))), .unset] []))
      refine OGo.st (fun _ k => XS.goto X0.here hx rfl (pc0 := 43) (pc' := 71) rfl (hb hby d2_43) (by decide) (by decide) k) ?_
      show OGo p e below s _ _ _ (s₁.setTop (mkF m 71 #[.val (.int p0), .val (.int p1), .val (.int p2), .val (.int p3), .val (.int p4), .val (.int p5), .val (.int (3 : Int32)), .val (.int (p0 &&& (15 : Int32))), .unset] []))
      refine OGo.st (fun _ k => XS.iload X0.here hx rfl (hb hby d2_71) rfl k) ?_
      show OGo p e below s _ _ _ (s₁.setTop (mkF m 73 #[.val (.int p0), .val (.int p1), .val (.int p2), .val (.int p3), .val (.int p4), .val (.int p5), .val (.int (3 : Int32)), .val (.int (p0 &&& (15 : Int32))), .unset] [(.int p4)]))
      refine OGo.st (fun _ k => XS.iload X0.here hx rfl (hb hby d2_73) rfl k) ?_
      show OGo p e below s _ _ _ (s₁.setTop (mkF m 75 #[.val (.int p0), .val (.int p1), .val (.int p2), .val (.int p3), .val (.int p4), .val (.int p5), .val (.int (3 : Int32)), .val (.int (p0 &&& (15 : Int32))), .unset] [(.int (3 : Int32)), (.int p4)]))
      refine OGo.st (fun _ k => XS.iadd X0.here hx rfl (hb hby d2_75) rfl k) ?_
      show OGo p e below s _ _ _ (s₁.setTop (mkF m 76 #[.val (.int p0), .val (.int p1), .val (.int p2), .val (.int p3), .val (.int p4), .val (.int p5), .val (.int (3 : Int32)), .val (.int (p0 &&& (15 : Int32))), .unset] [(.int (p4 + (3 : Int32)))]))
      refine OGo.st (fun _ k => XS.iload X0.here hx rfl (hb hby d2_76) rfl k) ?_
      show OGo p e below s _ _ _ (s₁.setTop (mkF m 78 #[.val (.int p0), .val (.int p1), .val (.int p2), .val (.int p3), .val (.int p4), .val (.int p5), .val (.int (3 : Int32)), .val (.int (p0 &&& (15 : Int32))), .unset] [(.int p5), (.int (p4 + (3 : Int32)))]))
      by_cases hc78 : p5 < (p4 + (3 : Int32))
      · refine OGo.st (fun _ k => XS.icmpNo X0.here hx rfl (hb hby d2_78) rfl (tlt hc78).2.2.2 k) ?_
        show OGo p e below s _ _ _ (s₁.setTop (mkF m 81 #[.val (.int p0), .val (.int p1), .val (.int p2), .val (.int p3), .val (.int p4), .val (.int p5), .val (.int (3 : Int32)), .val (.int (p0 &&& (15 : Int32))), .unset] []))
        refine OGo.st (fun _ k => XS.iconst X0.here hx rfl (hb hby d2_81) k) ?_
        show OGo p e below s _ _ _ (s₁.setTop (mkF m 82 #[.val (.int p0), .val (.int p1), .val (.int p2), .val (.int p3), .val (.int p4), .val (.int p5), .val (.int (3 : Int32)), .val (.int (p0 &&& (15 : Int32))), .unset] [(.int (-1 : Int32))]))
        exact oretI X0 hx Bd.notSynchronized Bd.returns (hb hby d2_82) e0 ⟨(congrArg (fun z => some (Value.int z)) (show (-1 : Int32) = f2 p0 p1 p2 p3 p4 p5 from Eq.symm (by unfold f2; exact (if_neg hc8).trans ((if_pos hc31).trans (if_pos hc78))))), N0, rfl⟩ (by decide) (by decide)
      · refine OGo.st (fun _ k => XS.icmpYes X0.here hx rfl (pc0 := 78) (pc' := 83) rfl (hb hby d2_78) rfl (flt hc78).2.2.2 (by decide) (by decide) k) ?_
        show OGo p e below s _ _ _ (s₁.setTop (mkF m 83 #[.val (.int p0), .val (.int p1), .val (.int p2), .val (.int p3), .val (.int p4), .val (.int p5), .val (.int (3 : Int32)), .val (.int (p0 &&& (15 : Int32))), .unset] []))
        refine OGo.st (fun _ k => XS.iloadN X0.here hx rfl (hb hby d2_83) rfl k) ?_
        show OGo p e below s _ _ _ (s₁.setTop (mkF m 84 #[.val (.int p0), .val (.int p1), .val (.int p2), .val (.int p3), .val (.int p4), .val (.int p5), .val (.int (3 : Int32)), .val (.int (p0 &&& (15 : Int32))), .unset] [(.int p1)]))
        obtain ⟨_, _, ⟨T3, L3, k3, n3⟩, -, X3, ⟨Lc3, hQ3, l3, y3, z3⟩, st3⟩ := Jvm.LawKit.callS X0 hx (y := (⟨"com/example/evbind/evbind/Utf8SequenceEndPinLaw", "isCont", "(I)Z"⟩ : MethodName)) hown (mvT hZ (hw _ (List.mem_of_getElem? (i := 10) rfl))) (mvT hZ (hw _ (List.mem_of_getElem? (i := 11) rfl))) (mvT hZ (hw _ (List.mem_of_getElem? (i := 8) rfl))) (mvT hZ (hw _ (List.mem_of_getElem? (i := 12) rfl))) (by decide) (backOf (W := 0) (rm3 l Z a0 hw [] p1 h0 n0 Z0) hZ (hw _ (List.mem_of_getElem? (i := 12) rfl)) (hw _ (List.mem_of_getElem? (i := 8) rfl)) (by decide) (by decide)) (g := (mkF m 84 #[.val (.int p0), .val (.int p1), .val (.int p2), .val (.int p3), .val (.int p4), .val (.int p5), .val (.int (3 : Int32)), .val (.int (p0 &&& (15 : Int32))), .unset] [(.int p1)])) rfl (by rw [hml]; rfl) (argsL := [(.int p1)]) (rest := []) (lenOf pd_2_0 rfl) rfl (by show 2 * 0 + _ ≤ _; exact Nat.le_of_eq rfl) (hb hby d2_84) (fun _ _ => ⟨rfl, e0, (by decide : 0 + 0 ≤ _), (by decide : 0 + 0 ≤ _)⟩)
        dsimp only [Pt.U, Pt.locs, Pt.cells, Pt.slots] at X3 l3 y3 z3 st3 hQ3
        subst l3 y3 z3
        obtain ⟨rfl, N3q, e3⟩ := hQ3
        have N3 := Fr.app N0 N3q
        refine OGo.st st3 ?_
        show OGo p e below s _ _ _ (T3.setTop (mkF m 87 #[.val (.int p0), .val (.int p1), .val (.int p2), .val (.int p3), .val (.int p4), .val (.int p5), .val (.int (3 : Int32)), .val (.int (p0 &&& (15 : Int32))), .unset] [(.int (f3 p1))]))
        by_cases hc87 : (f3 p1) = (0 : Int32)
        · refine OGo.st (fun _ k => XS.ifNo X3.here hx rfl (hb hby d2_87) rfl ((if0 _ _).trans (teq hc87).2) k) ?_
          show OGo p e below s _ _ _ (T3.setTop (mkF m 90 #[.val (.int p0), .val (.int p1), .val (.int p2), .val (.int p3), .val (.int p4), .val (.int p5), .val (.int (3 : Int32)), .val (.int (p0 &&& (15 : Int32))), .unset] []))
          refine OGo.st (fun _ k => XS.iconst X3.here hx rfl (hb hby d2_90) k) ?_
          show OGo p e below s _ _ _ (T3.setTop (mkF m 91 #[.val (.int p0), .val (.int p1), .val (.int p2), .val (.int p3), .val (.int p4), .val (.int p5), .val (.int (3 : Int32)), .val (.int (p0 &&& (15 : Int32))), .unset] [(.int (-1 : Int32))]))
          exact oretI X3 hx Bd.notSynchronized Bd.returns (hb hby d2_91) e3 ⟨(congrArg (fun z => some (Value.int z)) (show (-1 : Int32) = f2 p0 p1 p2 p3 p4 p5 from Eq.symm (by unfold f2; exact (if_neg hc8).trans ((if_pos hc31).trans ((if_neg hc78).trans (if_pos hc87)))))), N3, rfl⟩ (by decide) (by decide)
        · refine OGo.st (fun _ k => XS.ifYes X3.here hx rfl (pc0 := 87) (pc' := 92) rfl (hb hby d2_87) rfl ((if0 _ _).trans (feq hc87).2) (by decide) (by decide) k) ?_
          show OGo p e below s _ _ _ (T3.setTop (mkF m 92 #[.val (.int p0), .val (.int p1), .val (.int p2), .val (.int p3), .val (.int p4), .val (.int p5), .val (.int (3 : Int32)), .val (.int (p0 &&& (15 : Int32))), .unset] []))
          refine OGo.st (fun _ k => XS.iload X3.here hx rfl (hb hby d2_92) rfl k) ?_
          show OGo p e below s _ _ _ (T3.setTop (mkF m 94 #[.val (.int p0), .val (.int p1), .val (.int p2), .val (.int p3), .val (.int p4), .val (.int p5), .val (.int (3 : Int32)), .val (.int (p0 &&& (15 : Int32))), .unset] [(.int (p0 &&& (15 : Int32)))]))
          refine OGo.st (fun _ k => XS.bipush X3.here hx rfl (hb hby d2_94) k) ?_
          show OGo p e below s _ _ _ (T3.setTop (mkF m 96 #[.val (.int p0), .val (.int p1), .val (.int p2), .val (.int p3), .val (.int p4), .val (.int p5), .val (.int (3 : Int32)), .val (.int (p0 &&& (15 : Int32))), .unset] [(.int (6 : Int32)), (.int (p0 &&& (15 : Int32)))]))
          refine OGo.st (fun _ k => XS.ishl X3.here hx rfl (hb hby d2_96) rfl k) ?_
          show OGo p e below s _ _ _ (T3.setTop (mkF m 97 #[.val (.int p0), .val (.int p1), .val (.int p2), .val (.int p3), .val (.int p4), .val (.int p5), .val (.int (3 : Int32)), .val (.int (p0 &&& (15 : Int32))), .unset] [(.int ((p0 &&& (15 : Int32)) <<< ((6 : Int32) &&& 31)))]))
          refine OGo.st (fun _ k => XS.iloadN X3.here hx rfl (hb hby d2_97) rfl k) ?_
          show OGo p e below s _ _ _ (T3.setTop (mkF m 98 #[.val (.int p0), .val (.int p1), .val (.int p2), .val (.int p3), .val (.int p4), .val (.int p5), .val (.int (3 : Int32)), .val (.int (p0 &&& (15 : Int32))), .unset] [(.int p1), (.int ((p0 &&& (15 : Int32)) <<< ((6 : Int32) &&& 31)))]))
          refine OGo.st (fun _ k => XS.bipush X3.here hx rfl (hb hby d2_98) k) ?_
          show OGo p e below s _ _ _ (T3.setTop (mkF m 100 #[.val (.int p0), .val (.int p1), .val (.int p2), .val (.int p3), .val (.int p4), .val (.int p5), .val (.int (3 : Int32)), .val (.int (p0 &&& (15 : Int32))), .unset] [(.int (63 : Int32)), (.int p1), (.int ((p0 &&& (15 : Int32)) <<< ((6 : Int32) &&& 31)))]))
          refine OGo.st (fun _ k => XS.iand X3.here hx rfl (hb hby d2_100) rfl k) ?_
          show OGo p e below s _ _ _ (T3.setTop (mkF m 101 #[.val (.int p0), .val (.int p1), .val (.int p2), .val (.int p3), .val (.int p4), .val (.int p5), .val (.int (3 : Int32)), .val (.int (p0 &&& (15 : Int32))), .unset] [(.int (p1 &&& (63 : Int32))), (.int ((p0 &&& (15 : Int32)) <<< ((6 : Int32) &&& 31)))]))
          refine OGo.st (fun _ k => XS.ior X3.here hx rfl (hb hby d2_101) rfl k) ?_
          show OGo p e below s _ _ _ (T3.setTop (mkF m 102 #[.val (.int p0), .val (.int p1), .val (.int p2), .val (.int p3), .val (.int p4), .val (.int p5), .val (.int (3 : Int32)), .val (.int (p0 &&& (15 : Int32))), .unset] [(.int (((p0 &&& (15 : Int32)) <<< ((6 : Int32) &&& 31)) ||| (p1 &&& (63 : Int32))))]))
          refine OGo.st (fun _ k => XS.istore X3.here hx rfl (hb hby d2_102) rfl (l' := #[.val (.int p0), .val (.int p1), .val (.int p2), .val (.int p3), .val (.int p4), .val (.int p5), .val (.int (3 : Int32)), .val (.int (v2_1 p0 p1 p2 p3 p4 p5)), .unset]) rfl k) ?_
          show OGo p e below s _ _ _ (T3.setTop (mkF m 104 #[.val (.int p0), .val (.int p1), .val (.int p2), .val (.int p3), .val (.int p4), .val (.int p5), .val (.int (3 : Int32)), .val (.int (v2_1 p0 p1 p2 p3 p4 p5)), .unset] []))
          refine OGo.st (fun _ k => XS.iload X3.here hx rfl (hb hby d2_104) rfl k) ?_
          show OGo p e below s _ _ _ (T3.setTop (mkF m 106 #[.val (.int p0), .val (.int p1), .val (.int p2), .val (.int p3), .val (.int p4), .val (.int p5), .val (.int (3 : Int32)), .val (.int (v2_1 p0 p1 p2 p3 p4 p5)), .unset] [(.int (3 : Int32))]))
          refine OGo.st (fun _ k => XS.iconst X3.here hx rfl (hb hby d2_106) k) ?_
          show OGo p e below s _ _ _ (T3.setTop (mkF m 107 #[.val (.int p0), .val (.int p1), .val (.int p2), .val (.int p3), .val (.int p4), .val (.int p5), .val (.int (3 : Int32)), .val (.int (v2_1 p0 p1 p2 p3 p4 p5)), .unset] [(.int (3 : Int32)), (.int (3 : Int32))]))
          refine OGo.st (fun _ k => XS.icmpNo X3.here hx rfl (hb hby d2_107) rfl (flt (by decide : ¬ ((3 : Int32) < (3 : Int32)))).1 k) ?_
          show OGo p e below s _ _ _ (T3.setTop (mkF m 110 #[.val (.int p0), .val (.int p1), .val (.int p2), .val (.int p3), .val (.int p4), .val (.int p5), .val (.int (3 : Int32)), .val (.int (v2_1 p0 p1 p2 p3 p4 p5)), .unset] []))
          refine OGo.st (fun _ k => XS.iloadN X3.here hx rfl (hb hby d2_110) rfl k) ?_
          show OGo p e below s _ _ _ (T3.setTop (mkF m 111 #[.val (.int p0), .val (.int p1), .val (.int p2), .val (.int p3), .val (.int p4), .val (.int p5), .val (.int (3 : Int32)), .val (.int (v2_1 p0 p1 p2 p3 p4 p5)), .unset] [(.int p2)]))
          obtain ⟨_, _, ⟨T4, L4, k4, n4⟩, -, X4, ⟨Lc4, hQ4, l4, y4, z4⟩, st4⟩ := Jvm.LawKit.callS X3 hx (y := (⟨"com/example/evbind/evbind/Utf8SequenceEndPinLaw", "isCont", "(I)Z"⟩ : MethodName)) hown (mvT hZ (hw _ (List.mem_of_getElem? (i := 10) rfl))) (mvT hZ (hw _ (List.mem_of_getElem? (i := 11) rfl))) (mvT hZ (hw _ (List.mem_of_getElem? (i := 8) rfl))) (mvT hZ (hw _ (List.mem_of_getElem? (i := 12) rfl))) (by decide) (backOf (W := 0) (rm3 l Z a0 hw [] p2 h0 n0 Z0) hZ (hw _ (List.mem_of_getElem? (i := 12) rfl)) (hw _ (List.mem_of_getElem? (i := 8) rfl)) (by decide) (by decide)) (g := (mkF m 111 #[.val (.int p0), .val (.int p1), .val (.int p2), .val (.int p3), .val (.int p4), .val (.int p5), .val (.int (3 : Int32)), .val (.int (v2_1 p0 p1 p2 p3 p4 p5)), .unset] [(.int p2)])) rfl (by rw [hml]; rfl) (argsL := [(.int p2)]) (rest := []) (lenOf pd_2_0 rfl) rfl (by show 2 * 0 + _ ≤ _; exact Nat.le_of_eq rfl) (hb hby d2_111) (fun _ _ => ⟨rfl, e3, (by decide : 0 + 0 ≤ _), (by decide : 0 + 0 ≤ _)⟩)
          dsimp only [Pt.U, Pt.locs, Pt.cells, Pt.slots] at X4 l4 y4 z4 st4 hQ4
          subst l4 y4 z4
          obtain ⟨rfl, N4q, e4⟩ := hQ4
          have N4 := Fr.app N3 N4q
          refine OGo.st st4 ?_
          show OGo p e below s _ _ _ (T4.setTop (mkF m 114 #[.val (.int p0), .val (.int p1), .val (.int p2), .val (.int p3), .val (.int p4), .val (.int p5), .val (.int (3 : Int32)), .val (.int (v2_1 p0 p1 p2 p3 p4 p5)), .unset] [(.int (f3 p2))]))
          by_cases hc114 : (f3 p2) = (0 : Int32)
          · refine OGo.st (fun _ k => XS.ifNo X4.here hx rfl (hb hby d2_114) rfl ((if0 _ _).trans (teq hc114).2) k) ?_
            show OGo p e below s _ _ _ (T4.setTop (mkF m 117 #[.val (.int p0), .val (.int p1), .val (.int p2), .val (.int p3), .val (.int p4), .val (.int p5), .val (.int (3 : Int32)), .val (.int (v2_1 p0 p1 p2 p3 p4 p5)), .unset] []))
            refine OGo.st (fun _ k => XS.iconst X4.here hx rfl (hb hby d2_117) k) ?_
            show OGo p e below s _ _ _ (T4.setTop (mkF m 118 #[.val (.int p0), .val (.int p1), .val (.int p2), .val (.int p3), .val (.int p4), .val (.int p5), .val (.int (3 : Int32)), .val (.int (v2_1 p0 p1 p2 p3 p4 p5)), .unset] [(.int (-1 : Int32))]))
            exact oretI X4 hx Bd.notSynchronized Bd.returns (hb hby d2_118) e4 ⟨(congrArg (fun z => some (Value.int z)) (show (-1 : Int32) = f2 p0 p1 p2 p3 p4 p5 from Eq.symm (by unfold f2; exact (if_neg hc8).trans ((if_pos hc31).trans ((if_neg hc78).trans ((if_neg hc87).trans (if_pos hc114))))))), N4, rfl⟩ (by decide) (by decide)
          · refine OGo.st (fun _ k => XS.ifYes X4.here hx rfl (pc0 := 114) (pc' := 119) rfl (hb hby d2_114) rfl ((if0 _ _).trans (feq hc114).2) (by decide) (by decide) k) ?_
            show OGo p e below s _ _ _ (T4.setTop (mkF m 119 #[.val (.int p0), .val (.int p1), .val (.int p2), .val (.int p3), .val (.int p4), .val (.int p5), .val (.int (3 : Int32)), .val (.int (v2_1 p0 p1 p2 p3 p4 p5)), .unset] []))
            refine OGo.st (fun _ k => XS.iload X4.here hx rfl (hb hby d2_119) rfl k) ?_
            show OGo p e below s _ _ _ (T4.setTop (mkF m 121 #[.val (.int p0), .val (.int p1), .val (.int p2), .val (.int p3), .val (.int p4), .val (.int p5), .val (.int (3 : Int32)), .val (.int (v2_1 p0 p1 p2 p3 p4 p5)), .unset] [(.int (v2_1 p0 p1 p2 p3 p4 p5))]))
            refine OGo.st (fun _ k => XS.bipush X4.here hx rfl (hb hby d2_121) k) ?_
            show OGo p e below s _ _ _ (T4.setTop (mkF m 123 #[.val (.int p0), .val (.int p1), .val (.int p2), .val (.int p3), .val (.int p4), .val (.int p5), .val (.int (3 : Int32)), .val (.int (v2_1 p0 p1 p2 p3 p4 p5)), .unset] [(.int (6 : Int32)), (.int (v2_1 p0 p1 p2 p3 p4 p5))]))
            refine OGo.st (fun _ k => XS.ishl X4.here hx rfl (hb hby d2_123) rfl k) ?_
            show OGo p e below s _ _ _ (T4.setTop (mkF m 124 #[.val (.int p0), .val (.int p1), .val (.int p2), .val (.int p3), .val (.int p4), .val (.int p5), .val (.int (3 : Int32)), .val (.int (v2_1 p0 p1 p2 p3 p4 p5)), .unset] [(.int ((v2_1 p0 p1 p2 p3 p4 p5) <<< ((6 : Int32) &&& 31)))]))
            refine OGo.st (fun _ k => XS.iloadN X4.here hx rfl (hb hby d2_124) rfl k) ?_
            show OGo p e below s _ _ _ (T4.setTop (mkF m 125 #[.val (.int p0), .val (.int p1), .val (.int p2), .val (.int p3), .val (.int p4), .val (.int p5), .val (.int (3 : Int32)), .val (.int (v2_1 p0 p1 p2 p3 p4 p5)), .unset] [(.int p2), (.int ((v2_1 p0 p1 p2 p3 p4 p5) <<< ((6 : Int32) &&& 31)))]))
            refine OGo.st (fun _ k => XS.bipush X4.here hx rfl (hb hby d2_125) k) ?_
            show OGo p e below s _ _ _ (T4.setTop (mkF m 127 #[.val (.int p0), .val (.int p1), .val (.int p2), .val (.int p3), .val (.int p4), .val (.int p5), .val (.int (3 : Int32)), .val (.int (v2_1 p0 p1 p2 p3 p4 p5)), .unset] [(.int (63 : Int32)), (.int p2), (.int ((v2_1 p0 p1 p2 p3 p4 p5) <<< ((6 : Int32) &&& 31)))]))
            refine OGo.st (fun _ k => XS.iand X4.here hx rfl (hb hby d2_127) rfl k) ?_
            show OGo p e below s _ _ _ (T4.setTop (mkF m 128 #[.val (.int p0), .val (.int p1), .val (.int p2), .val (.int p3), .val (.int p4), .val (.int p5), .val (.int (3 : Int32)), .val (.int (v2_1 p0 p1 p2 p3 p4 p5)), .unset] [(.int (p2 &&& (63 : Int32))), (.int ((v2_1 p0 p1 p2 p3 p4 p5) <<< ((6 : Int32) &&& 31)))]))
            refine OGo.st (fun _ k => XS.ior X4.here hx rfl (hb hby d2_128) rfl k) ?_
            show OGo p e below s _ _ _ (T4.setTop (mkF m 129 #[.val (.int p0), .val (.int p1), .val (.int p2), .val (.int p3), .val (.int p4), .val (.int p5), .val (.int (3 : Int32)), .val (.int (v2_1 p0 p1 p2 p3 p4 p5)), .unset] [(.int (((v2_1 p0 p1 p2 p3 p4 p5) <<< ((6 : Int32) &&& 31)) ||| (p2 &&& (63 : Int32))))]))
            refine OGo.st (fun _ k => XS.istore X4.here hx rfl (hb hby d2_129) rfl (l' := #[.val (.int p0), .val (.int p1), .val (.int p2), .val (.int p3), .val (.int p4), .val (.int p5), .val (.int (3 : Int32)), .val (.int (v2_2 p0 p1 p2 p3 p4 p5)), .unset]) rfl k) ?_
            show OGo p e below s _ _ _ (T4.setTop (mkF m 131 #[.val (.int p0), .val (.int p1), .val (.int p2), .val (.int p3), .val (.int p4), .val (.int p5), .val (.int (3 : Int32)), .val (.int (v2_2 p0 p1 p2 p3 p4 p5)), .unset] []))
            refine OGo.st (fun _ k => XS.iload X4.here hx rfl (hb hby d2_131) rfl k) ?_
            show OGo p e below s _ _ _ (T4.setTop (mkF m 133 #[.val (.int p0), .val (.int p1), .val (.int p2), .val (.int p3), .val (.int p4), .val (.int p5), .val (.int (3 : Int32)), .val (.int (v2_2 p0 p1 p2 p3 p4 p5)), .unset] [(.int (3 : Int32))]))
            refine OGo.st (fun _ k => XS.iconst X4.here hx rfl (hb hby d2_133) k) ?_
            show OGo p e below s _ _ _ (T4.setTop (mkF m 134 #[.val (.int p0), .val (.int p1), .val (.int p2), .val (.int p3), .val (.int p4), .val (.int p5), .val (.int (3 : Int32)), .val (.int (v2_2 p0 p1 p2 p3 p4 p5)), .unset] [(.int (4 : Int32)), (.int (3 : Int32))]))
            refine OGo.st (fun _ k => XS.icmpYes X4.here hx rfl (pc0 := 134) (pc' := 158) rfl (hb hby d2_134) rfl (feq (by decide : ¬ ((3 : Int32) = (4 : Int32)))).2 (by decide) (by decide) k) ?_
            show OGo p e below s _ _ _ (T4.setTop (mkF m 158 #[.val (.int p0), .val (.int p1), .val (.int p2), .val (.int p3), .val (.int p4), .val (.int p5), .val (.int (3 : Int32)), .val (.int (v2_2 p0 p1 p2 p3 p4 p5)), .unset] []))
            refine OGo.st (fun _ k => XS.iload X4.here hx rfl (hb hby d2_158) rfl k) ?_
            show OGo p e below s _ _ _ (T4.setTop (mkF m 160 #[.val (.int p0), .val (.int p1), .val (.int p2), .val (.int p3), .val (.int p4), .val (.int p5), .val (.int (3 : Int32)), .val (.int (v2_2 p0 p1 p2 p3 p4 p5)), .unset] [(.int (3 : Int32))]))
            refine OGo.st (fun _ k => XS.iconst X4.here hx rfl (hb hby d2_160) k) ?_
            show OGo p e below s _ _ _ (T4.setTop (mkF m 161 #[.val (.int p0), .val (.int p1), .val (.int p2), .val (.int p3), .val (.int p4), .val (.int p5), .val (.int (3 : Int32)), .val (.int (v2_2 p0 p1 p2 p3 p4 p5)), .unset] [(.int (2 : Int32)), (.int (3 : Int32))]))
            refine OGo.st (fun _ k => XS.icmpYes X4.here hx rfl (pc0 := 161) (pc' := 182) rfl (hb hby d2_161) rfl (feq (by decide : ¬ ((3 : Int32) = (2 : Int32)))).2 (by decide) (by decide) k) ?_
            show OGo p e below s _ _ _ (T4.setTop (mkF m 182 #[.val (.int p0), .val (.int p1), .val (.int p2), .val (.int p3), .val (.int p4), .val (.int p5), .val (.int (3 : Int32)), .val (.int (v2_2 p0 p1 p2 p3 p4 p5)), .unset] []))
            refine OGo.st (fun _ k => XS.iload X4.here hx rfl (hb hby d2_182) rfl k) ?_
            show OGo p e below s _ _ _ (T4.setTop (mkF m 184 #[.val (.int p0), .val (.int p1), .val (.int p2), .val (.int p3), .val (.int p4), .val (.int p5), .val (.int (3 : Int32)), .val (.int (v2_2 p0 p1 p2 p3 p4 p5)), .unset] [(.int (3 : Int32))]))
            refine OGo.st (fun _ k => XS.iconst X4.here hx rfl (hb hby d2_184) k) ?_
            show OGo p e below s _ _ _ (T4.setTop (mkF m 185 #[.val (.int p0), .val (.int p1), .val (.int p2), .val (.int p3), .val (.int p4), .val (.int p5), .val (.int (3 : Int32)), .val (.int (v2_2 p0 p1 p2 p3 p4 p5)), .unset] [(.int (3 : Int32)), (.int (3 : Int32))]))
            refine OGo.st (fun _ k => XS.icmpNo X4.here hx rfl (hb hby d2_185) rfl (teq (by decide : (3 : Int32) = (3 : Int32))).2 k) ?_
            show OGo p e below s _ _ _ (T4.setTop (mkF m 188 #[.val (.int p0), .val (.int p1), .val (.int p2), .val (.int p3), .val (.int p4), .val (.int p5), .val (.int (3 : Int32)), .val (.int (v2_2 p0 p1 p2 p3 p4 p5)), .unset] []))
            refine OGo.st (fun _ k => XS.iload X4.here hx rfl (hb hby d2_188) rfl k) ?_
            show OGo p e below s _ _ _ (T4.setTop (mkF m 190 #[.val (.int p0), .val (.int p1), .val (.int p2), .val (.int p3), .val (.int p4), .val (.int p5), .val (.int (3 : Int32)), .val (.int (v2_2 p0 p1 p2 p3 p4 p5)), .unset] [(.int (v2_2 p0 p1 p2 p3 p4 p5))]))
            refine OGo.st (fun _ k => XS.sipush X4.here hx rfl (hb hby d2_190) k) ?_
            show OGo p e below s _ _ _ (T4.setTop (mkF m 193 #[.val (.int p0), .val (.int p1), .val (.int p2), .val (.int p3), .val (.int p4), .val (.int p5), .val (.int (3 : Int32)), .val (.int (v2_2 p0 p1 p2 p3 p4 p5)), .unset] [(.int (2048 : Int32)), (.int (v2_2 p0 p1 p2 p3 p4 p5))]))
            have hj215 : ∀ (j215_0 : Int32) (hf215_0 : f2 p0 p1 p2 p3 p4 p5 = f2_215 p0 p1 p2 p3 p4 p5 j215_0), OGo p e below s (Q2 Z p0 p1 p2 p3 p4 p5 h0 n0) ({ frames := 1, cells := 0, slots := 0, locals := 12 } : Room).cells ({ frames := 1, cells := 0, slots := 0, locals := 12 } : Room).slots (T4.setTop (mkF m 215 #[.val (.int p0), .val (.int p1), .val (.int p2), .val (.int p3), .val (.int p4), .val (.int p5), .val (.int (3 : Int32)), .val (.int (v2_2 p0 p1 p2 p3 p4 p5)), .unset] [(.int j215_0)])) := by
              intro j215_0 hf215_0
              refine OGo.st (fun _ k => XS.istore X4.here hx rfl (hb hby d2_215) rfl (l' := #[.val (.int p0), .val (.int p1), .val (.int p2), .val (.int p3), .val (.int p4), .val (.int p5), .val (.int (3 : Int32)), .val (.int (v2_2 p0 p1 p2 p3 p4 p5)), .val (.int j215_0)]) rfl k) ?_
              show OGo p e below s _ _ _ (T4.setTop (mkF m 217 #[.val (.int p0), .val (.int p1), .val (.int p2), .val (.int p3), .val (.int p4), .val (.int p5), .val (.int (3 : Int32)), .val (.int (v2_2 p0 p1 p2 p3 p4 p5)), .val (.int j215_0)] []))
              refine OGo.st (fun _ k => XS.goto X4.here hx rfl (pc0 := 217) (pc' := 241) rfl (hb hby d2_217) (by decide) (by decide) k) ?_
              show OGo p e below s _ _ _ (T4.setTop (mkF m 241 #[.val (.int p0), .val (.int p1), .val (.int p2), .val (.int p3), .val (.int p4), .val (.int p5), .val (.int (3 : Int32)), .val (.int (v2_2 p0 p1 p2 p3 p4 p5)), .val (.int j215_0)] []))
              refine OGo.st (fun _ k => XS.iload X4.here hx rfl (hb hby d2_241) rfl k) ?_
              show OGo p e below s _ _ _ (T4.setTop (mkF m 243 #[.val (.int p0), .val (.int p1), .val (.int p2), .val (.int p3), .val (.int p4), .val (.int p5), .val (.int (3 : Int32)), .val (.int (v2_2 p0 p1 p2 p3 p4 p5)), .val (.int j215_0)] [(.int j215_0)]))
              by_cases hc243 : j215_0 = (0 : Int32)
              · refine OGo.st (fun _ k => XS.ifYes X4.here hx rfl (pc0 := 243) (pc' := 254) rfl (hb hby d2_243) rfl ((if0 _ _).trans (teq hc243).1) (by decide) (by decide) k) ?_
                show OGo p e below s _ _ _ (T4.setTop (mkF m 254 #[.val (.int p0), .val (.int p1), .val (.int p2), .val (.int p3), .val (.int p4), .val (.int p5), .val (.int (3 : Int32)), .val (.int (v2_2 p0 p1 p2 p3 p4 p5)), .val (.int j215_0)] []))
                refine OGo.st (fun _ k => XS.iconst X4.here hx rfl (hb hby d2_254) k) ?_
                show OGo p e below s _ _ _ (T4.setTop (mkF m 255 #[.val (.int p0), .val (.int p1), .val (.int p2), .val (.int p3), .val (.int p4), .val (.int p5), .val (.int (3 : Int32)), .val (.int (v2_2 p0 p1 p2 p3 p4 p5)), .val (.int j215_0)] [(.int (-1 : Int32))]))
                exact oretI X4 hx Bd.notSynchronized Bd.returns (hb hby d2_255) e4 ⟨(congrArg (fun z => some (Value.int z)) (show (-1 : Int32) = f2 p0 p1 p2 p3 p4 p5 from Eq.symm (hf215_0.trans (by unfold f2_215; exact if_pos hc243)))), N4, rfl⟩ (by decide) (by decide)
              · refine OGo.st (fun _ k => XS.ifNo X4.here hx rfl (hb hby d2_243) rfl ((if0 _ _).trans (feq hc243).1) k) ?_
                show OGo p e below s _ _ _ (T4.setTop (mkF m 246 #[.val (.int p0), .val (.int p1), .val (.int p2), .val (.int p3), .val (.int p4), .val (.int p5), .val (.int (3 : Int32)), .val (.int (v2_2 p0 p1 p2 p3 p4 p5)), .val (.int j215_0)] []))
                refine OGo.st (fun _ k => XS.iload X4.here hx rfl (hb hby d2_246) rfl k) ?_
                show OGo p e below s _ _ _ (T4.setTop (mkF m 248 #[.val (.int p0), .val (.int p1), .val (.int p2), .val (.int p3), .val (.int p4), .val (.int p5), .val (.int (3 : Int32)), .val (.int (v2_2 p0 p1 p2 p3 p4 p5)), .val (.int j215_0)] [(.int p4)]))
                refine OGo.st (fun _ k => XS.iload X4.here hx rfl (hb hby d2_248) rfl k) ?_
                show OGo p e below s _ _ _ (T4.setTop (mkF m 250 #[.val (.int p0), .val (.int p1), .val (.int p2), .val (.int p3), .val (.int p4), .val (.int p5), .val (.int (3 : Int32)), .val (.int (v2_2 p0 p1 p2 p3 p4 p5)), .val (.int j215_0)] [(.int (3 : Int32)), (.int p4)]))
                refine OGo.st (fun _ k => XS.iadd X4.here hx rfl (hb hby d2_250) rfl k) ?_
                show OGo p e below s _ _ _ (T4.setTop (mkF m 251 #[.val (.int p0), .val (.int p1), .val (.int p2), .val (.int p3), .val (.int p4), .val (.int p5), .val (.int (3 : Int32)), .val (.int (v2_2 p0 p1 p2 p3 p4 p5)), .val (.int j215_0)] [(.int (p4 + (3 : Int32)))]))
                refine OGo.st (fun _ k => XS.goto X4.here hx rfl (pc0 := 251) (pc' := 255) rfl (hb hby d2_251) (by decide) (by decide) k) ?_
                show OGo p e below s _ _ _ (T4.setTop (mkF m 255 #[.val (.int p0), .val (.int p1), .val (.int p2), .val (.int p3), .val (.int p4), .val (.int p5), .val (.int (3 : Int32)), .val (.int (v2_2 p0 p1 p2 p3 p4 p5)), .val (.int j215_0)] [(.int (p4 + (3 : Int32)))]))
                exact oretI X4 hx Bd.notSynchronized Bd.returns (hb hby d2_255) e4 ⟨(congrArg (fun z => some (Value.int z)) (show (p4 + (3 : Int32)) = f2 p0 p1 p2 p3 p4 p5 from Eq.symm (hf215_0.trans (by unfold f2_215; exact if_neg hc243)))), N4, rfl⟩ (by decide) (by decide)
            by_cases hc193 : (v2_2 p0 p1 p2 p3 p4 p5) < (2048 : Int32)
            · refine OGo.st (fun _ k => XS.icmpYes X4.here hx rfl (pc0 := 193) (pc' := 214) rfl (hb hby d2_193) rfl (tlt hc193).1 (by decide) (by decide) k) ?_
              show OGo p e below s _ _ _ (T4.setTop (mkF m 214 #[.val (.int p0), .val (.int p1), .val (.int p2), .val (.int p3), .val (.int p4), .val (.int p5), .val (.int (3 : Int32)), .val (.int (v2_2 p0 p1 p2 p3 p4 p5)), .unset] []))
              refine OGo.st (fun _ k => XS.iconst X4.here hx rfl (hb hby d2_214) k) ?_
              show OGo p e below s _ _ _ (T4.setTop (mkF m 215 #[.val (.int p0), .val (.int p1), .val (.int p2), .val (.int p3), .val (.int p4), .val (.int p5), .val (.int (3 : Int32)), .val (.int (v2_2 p0 p1 p2 p3 p4 p5)), .unset] [(.int (0 : Int32))]))
              exact hj215 (0 : Int32) (by unfold f2; exact (if_neg hc8).trans ((if_pos hc31).trans ((if_neg hc78).trans ((if_neg hc87).trans ((if_neg hc114).trans (if_pos hc193))))))
            · refine OGo.st (fun _ k => XS.icmpNo X4.here hx rfl (hb hby d2_193) rfl (flt hc193).1 k) ?_
              show OGo p e below s _ _ _ (T4.setTop (mkF m 196 #[.val (.int p0), .val (.int p1), .val (.int p2), .val (.int p3), .val (.int p4), .val (.int p5), .val (.int (3 : Int32)), .val (.int (v2_2 p0 p1 p2 p3 p4 p5)), .unset] []))
              refine OGo.st (fun _ k => XS.iload X4.here hx rfl (hb hby d2_196) rfl k) ?_
              show OGo p e below s _ _ _ (T4.setTop (mkF m 198 #[.val (.int p0), .val (.int p1), .val (.int p2), .val (.int p3), .val (.int p4), .val (.int p5), .val (.int (3 : Int32)), .val (.int (v2_2 p0 p1 p2 p3 p4 p5)), .unset] [(.int (v2_2 p0 p1 p2 p3 p4 p5))]))
              refine OGo.st (fun _ k => X4.ldcInt hx hown (mvT hZ (hw _ (List.mem_of_getElem? (i := 13) rfl))) (g := (mkF m 198 #[.val (.int p0), .val (.int p1), .val (.int p2), .val (.int p3), .val (.int p4), .val (.int p5), .val (.int (3 : Int32)), .val (.int (v2_2 p0 p1 p2 p3 p4 p5)), .unset] [(.int (v2_2 p0 p1 p2 p3 p4 p5))])) rfl (hb hby d2_198) _ k) ?_
              show OGo p e below s _ _ _ (T4.setTop (mkF m 200 #[.val (.int p0), .val (.int p1), .val (.int p2), .val (.int p3), .val (.int p4), .val (.int p5), .val (.int (3 : Int32)), .val (.int (v2_2 p0 p1 p2 p3 p4 p5)), .unset] [(.int (55296 : Int32)), (.int (v2_2 p0 p1 p2 p3 p4 p5))]))
              by_cases hc200 : (v2_2 p0 p1 p2 p3 p4 p5) < (55296 : Int32)
              · refine OGo.st (fun _ k => XS.icmpYes X4.here hx rfl (pc0 := 200) (pc' := 210) rfl (hb hby d2_200) rfl (tlt hc200).1 (by decide) (by decide) k) ?_
                show OGo p e below s _ _ _ (T4.setTop (mkF m 210 #[.val (.int p0), .val (.int p1), .val (.int p2), .val (.int p3), .val (.int p4), .val (.int p5), .val (.int (3 : Int32)), .val (.int (v2_2 p0 p1 p2 p3 p4 p5)), .unset] []))
                refine OGo.st (fun _ k => XS.iconst X4.here hx rfl (hb hby d2_210) k) ?_
                show OGo p e below s _ _ _ (T4.setTop (mkF m 211 #[.val (.int p0), .val (.int p1), .val (.int p2), .val (.int p3), .val (.int p4), .val (.int p5), .val (.int (3 : Int32)), .val (.int (v2_2 p0 p1 p2 p3 p4 p5)), .unset] [(.int (1 : Int32))]))
                refine OGo.st (fun _ k => XS.goto X4.here hx rfl (pc0 := 211) (pc' := 215) rfl (hb hby d2_211) (by decide) (by decide) k) ?_
                show OGo p e below s _ _ _ (T4.setTop (mkF m 215 #[.val (.int p0), .val (.int p1), .val (.int p2), .val (.int p3), .val (.int p4), .val (.int p5), .val (.int (3 : Int32)), .val (.int (v2_2 p0 p1 p2 p3 p4 p5)), .unset] [(.int (1 : Int32))]))
                exact hj215 (1 : Int32) (by unfold f2; exact (if_neg hc8).trans ((if_pos hc31).trans ((if_neg hc78).trans ((if_neg hc87).trans ((if_neg hc114).trans ((if_neg hc193).trans (if_pos hc200)))))))
              · refine OGo.st (fun _ k => XS.icmpNo X4.here hx rfl (hb hby d2_200) rfl (flt hc200).1 k) ?_
                show OGo p e below s _ _ _ (T4.setTop (mkF m 203 #[.val (.int p0), .val (.int p1), .val (.int p2), .val (.int p3), .val (.int p4), .val (.int p5), .val (.int (3 : Int32)), .val (.int (v2_2 p0 p1 p2 p3 p4 p5)), .unset] []))
                refine OGo.st (fun _ k => XS.iload X4.here hx rfl (hb hby d2_203) rfl k) ?_
                show OGo p e below s _ _ _ (T4.setTop (mkF m 205 #[.val (.int p0), .val (.int p1), .val (.int p2), .val (.int p3), .val (.int p4), .val (.int p5), .val (.int (3 : Int32)), .val (.int (v2_2 p0 p1 p2 p3 p4 p5)), .unset] [(.int (v2_2 p0 p1 p2 p3 p4 p5))]))
                refine OGo.st (fun _ k => X4.ldcInt hx hown (mvT hZ (hw _ (List.mem_of_getElem? (i := 14) rfl))) (g := (mkF m 205 #[.val (.int p0), .val (.int p1), .val (.int p2), .val (.int p3), .val (.int p4), .val (.int p5), .val (.int (3 : Int32)), .val (.int (v2_2 p0 p1 p2 p3 p4 p5)), .unset] [(.int (v2_2 p0 p1 p2 p3 p4 p5))])) rfl (hb hby d2_205) _ k) ?_
                show OGo p e below s _ _ _ (T4.setTop (mkF m 207 #[.val (.int p0), .val (.int p1), .val (.int p2), .val (.int p3), .val (.int p4), .val (.int p5), .val (.int (3 : Int32)), .val (.int (v2_2 p0 p1 p2 p3 p4 p5)), .unset] [(.int (57343 : Int32)), (.int (v2_2 p0 p1 p2 p3 p4 p5))]))
                by_cases hc207 : (57343 : Int32) < (v2_2 p0 p1 p2 p3 p4 p5)
                · refine OGo.st (fun _ k => XS.icmpNo X4.here hx rfl (hb hby d2_207) rfl (tlt hc207).2.2.2 k) ?_
                  show OGo p e below s _ _ _ (T4.setTop (mkF m 210 #[.val (.int p0), .val (.int p1), .val (.int p2), .val (.int p3), .val (.int p4), .val (.int p5), .val (.int (3 : Int32)), .val (.int (v2_2 p0 p1 p2 p3 p4 p5)), .unset] []))
                  refine OGo.st (fun _ k => XS.iconst X4.here hx rfl (hb hby d2_210) k) ?_
                  show OGo p e below s _ _ _ (T4.setTop (mkF m 211 #[.val (.int p0), .val (.int p1), .val (.int p2), .val (.int p3), .val (.int p4), .val (.int p5), .val (.int (3 : Int32)), .val (.int (v2_2 p0 p1 p2 p3 p4 p5)), .unset] [(.int (1 : Int32))]))
                  refine OGo.st (fun _ k => XS.goto X4.here hx rfl (pc0 := 211) (pc' := 215) rfl (hb hby d2_211) (by decide) (by decide) k) ?_
                  show OGo p e below s _ _ _ (T4.setTop (mkF m 215 #[.val (.int p0), .val (.int p1), .val (.int p2), .val (.int p3), .val (.int p4), .val (.int p5), .val (.int (3 : Int32)), .val (.int (v2_2 p0 p1 p2 p3 p4 p5)), .unset] [(.int (1 : Int32))]))
                  exact hj215 (1 : Int32) (by unfold f2; exact (if_neg hc8).trans ((if_pos hc31).trans ((if_neg hc78).trans ((if_neg hc87).trans ((if_neg hc114).trans ((if_neg hc193).trans ((if_neg hc200).trans (if_pos hc207))))))))
                · refine OGo.st (fun _ k => XS.icmpYes X4.here hx rfl (pc0 := 207) (pc' := 214) rfl (hb hby d2_207) rfl (flt hc207).2.2.2 (by decide) (by decide) k) ?_
                  show OGo p e below s _ _ _ (T4.setTop (mkF m 214 #[.val (.int p0), .val (.int p1), .val (.int p2), .val (.int p3), .val (.int p4), .val (.int p5), .val (.int (3 : Int32)), .val (.int (v2_2 p0 p1 p2 p3 p4 p5)), .unset] []))
                  refine OGo.st (fun _ k => XS.iconst X4.here hx rfl (hb hby d2_214) k) ?_
                  show OGo p e below s _ _ _ (T4.setTop (mkF m 215 #[.val (.int p0), .val (.int p1), .val (.int p2), .val (.int p3), .val (.int p4), .val (.int p5), .val (.int (3 : Int32)), .val (.int (v2_2 p0 p1 p2 p3 p4 p5)), .unset] [(.int (0 : Int32))]))
                  exact hj215 (0 : Int32) (by unfold f2; exact (if_neg hc8).trans ((if_pos hc31).trans ((if_neg hc78).trans ((if_neg hc87).trans ((if_neg hc114).trans ((if_neg hc193).trans ((if_neg hc200).trans (if_neg hc207))))))))
    · refine OGo.st (fun _ k => XS.icmpYes X0.here hx rfl (pc0 := 31) (pc' := 46) rfl (hb hby d2_31) rfl (feq hc31).2 (by decide) (by decide) k) ?_
      show OGo p e below s _ _ _ (s₁.setTop (mkF m 46 #[.val (.int p0), .val (.int p1), .val (.int p2), .val (.int p3), .val (.int p4), .val (.int p5), .unset, .unset, .unset] []))
      refine OGo.st (fun _ k => XS.iloadN X0.here hx rfl (hb hby d2_46) rfl k) ?_
      show OGo p e below s _ _ _ (s₁.setTop (mkF m 47 #[.val (.int p0), .val (.int p1), .val (.int p2), .val (.int p3), .val (.int p4), .val (.int p5), .unset, .unset, .unset] [(.int p0)]))
      refine OGo.st (fun _ k => XS.sipush X0.here hx rfl (hb hby d2_47) k) ?_
      show OGo p e below s _ _ _ (s₁.setTop (mkF m 50 #[.val (.int p0), .val (.int p1), .val (.int p2), .val (.int p3), .val (.int p4), .val (.int p5), .unset, .unset, .unset] [(.int (248 : Int32)), (.int p0)]))
      refine OGo.st (fun _ k => XS.iand X0.here hx rfl (hb hby d2_50) rfl k) ?_
      show OGo p e below s _ _ _ (s₁.setTop (mkF m 51 #[.val (.int p0), .val (.int p1), .val (.int p2), .val (.int p3), .val (.int p4), .val (.int p5), .unset, .unset, .unset] [(.int (p0 &&& (248 : Int32)))]))
      refine OGo.st (fun _ k => XS.sipush X0.here hx rfl (hb hby d2_51) k) ?_
      show OGo p e below s _ _ _ (s₁.setTop (mkF m 54 #[.val (.int p0), .val (.int p1), .val (.int p2), .val (.int p3), .val (.int p4), .val (.int p5), .unset, .unset, .unset] [(.int (240 : Int32)), (.int (p0 &&& (248 : Int32)))]))
      by_cases hc54 : (p0 &&& (248 : Int32)) = (240 : Int32)
      · refine OGo.st (fun _ k => XS.icmpNo X0.here hx rfl (hb hby d2_54) rfl (teq hc54).2 k) ?_
        show OGo p e below s _ _ _ (s₁.setTop (mkF m 57 #[.val (.int p0), .val (.int p1), .val (.int p2), .val (.int p3), .val (.int p4), .val (.int p5), .unset, .unset, .unset] []))
        refine OGo.st (fun _ k => XS.iconst X0.here hx rfl (hb hby d2_57) k) ?_
        show OGo p e below s _ _ _ (s₁.setTop (mkF m 58 #[.val (.int p0), .val (.int p1), .val (.int p2), .val (.int p3), .val (.int p4), .val (.int p5), .unset, .unset, .unset] [(.int (4 : Int32))]))
        refine OGo.st (fun _ k => XS.istore X0.here hx rfl (hb hby d2_58) rfl (l' := #[.val (.int p0), .val (.int p1), .val (.int p2), .val (.int p3), .val (.int p4), .val (.int p5), .val (.int (4 : Int32)), .unset, .unset]) rfl k) ?_
        show OGo p e below s _ _ _ (s₁.setTop (mkF m 60 #[.val (.int p0), .val (.int p1), .val (.int p2), .val (.int p3), .val (.int p4), .val (.int p5), .val (.int (4 : Int32)), .unset, .unset] []))
        refine OGo.st (fun _ k => XS.iloadN X0.here hx rfl (hb hby d2_60) rfl k) ?_
        show OGo p e below s _ _ _ (s₁.setTop (mkF m 61 #[.val (.int p0), .val (.int p1), .val (.int p2), .val (.int p3), .val (.int p4), .val (.int p5), .val (.int (4 : Int32)), .unset, .unset] [(.int p0)]))
        refine OGo.st (fun _ k => XS.bipush X0.here hx rfl (hb hby d2_61) k) ?_
        show OGo p e below s _ _ _ (s₁.setTop (mkF m 63 #[.val (.int p0), .val (.int p1), .val (.int p2), .val (.int p3), .val (.int p4), .val (.int p5), .val (.int (4 : Int32)), .unset, .unset] [(.int (7 : Int32)), (.int p0)]))
        refine OGo.st (fun _ k => XS.iand X0.here hx rfl (hb hby d2_63) rfl k) ?_
        show OGo p e below s _ _ _ (s₁.setTop (mkF m 64 #[.val (.int p0), .val (.int p1), .val (.int p2), .val (.int p3), .val (.int p4), .val (.int p5), .val (.int (4 : Int32)), .unset, .unset] [(.int (p0 &&& (7 : Int32)))]))
        refine OGo.st (fun _ k => XS.istore X0.here hx rfl (hb hby d2_64) rfl (l' := #[.val (.int p0), .val (.int p1), .val (.int p2), .val (.int p3), .val (.int p4), .val (.int p5), .val (.int (4 : Int32)), .val (.int (p0 &&& (7 : Int32))), .unset]) rfl k) ?_
        show OGo p e below s _ _ _ (s₁.setTop (mkF m 66 #[.val (.int p0), .val (.int p1), .val (.int p2), .val (.int p3), .val (.int p4), .val (.int p5), .val (.int (4 : Int32)), .val (.int (p0 &&& (7 : Int32))), .unset] []))
        refine OGo.st (fun _ k => XS.goto X0.here hx rfl (pc0 := 66) (pc' := 71) rfl (hb hby d2_66) (by decide) (by decide) k) ?_
        show OGo p e below s _ _ _ (s₁.setTop (mkF m 71 #[.val (.int p0), .val (.int p1), .val (.int p2), .val (.int p3), .val (.int p4), .val (.int p5), .val (.int (4 : Int32)), .val (.int (p0 &&& (7 : Int32))), .unset] []))
        refine OGo.st (fun _ k => XS.iload X0.here hx rfl (hb hby d2_71) rfl k) ?_
        show OGo p e below s _ _ _ (s₁.setTop (mkF m 73 #[.val (.int p0), .val (.int p1), .val (.int p2), .val (.int p3), .val (.int p4), .val (.int p5), .val (.int (4 : Int32)), .val (.int (p0 &&& (7 : Int32))), .unset] [(.int p4)]))
        refine OGo.st (fun _ k => XS.iload X0.here hx rfl (hb hby d2_73) rfl k) ?_
        show OGo p e below s _ _ _ (s₁.setTop (mkF m 75 #[.val (.int p0), .val (.int p1), .val (.int p2), .val (.int p3), .val (.int p4), .val (.int p5), .val (.int (4 : Int32)), .val (.int (p0 &&& (7 : Int32))), .unset] [(.int (4 : Int32)), (.int p4)]))
        refine OGo.st (fun _ k => XS.iadd X0.here hx rfl (hb hby d2_75) rfl k) ?_
        show OGo p e below s _ _ _ (s₁.setTop (mkF m 76 #[.val (.int p0), .val (.int p1), .val (.int p2), .val (.int p3), .val (.int p4), .val (.int p5), .val (.int (4 : Int32)), .val (.int (p0 &&& (7 : Int32))), .unset] [(.int (p4 + (4 : Int32)))]))
        refine OGo.st (fun _ k => XS.iload X0.here hx rfl (hb hby d2_76) rfl k) ?_
        show OGo p e below s _ _ _ (s₁.setTop (mkF m 78 #[.val (.int p0), .val (.int p1), .val (.int p2), .val (.int p3), .val (.int p4), .val (.int p5), .val (.int (4 : Int32)), .val (.int (p0 &&& (7 : Int32))), .unset] [(.int p5), (.int (p4 + (4 : Int32)))]))
        by_cases hc78 : p5 < (p4 + (4 : Int32))
        · refine OGo.st (fun _ k => XS.icmpNo X0.here hx rfl (hb hby d2_78) rfl (tlt hc78).2.2.2 k) ?_
          show OGo p e below s _ _ _ (s₁.setTop (mkF m 81 #[.val (.int p0), .val (.int p1), .val (.int p2), .val (.int p3), .val (.int p4), .val (.int p5), .val (.int (4 : Int32)), .val (.int (p0 &&& (7 : Int32))), .unset] []))
          refine OGo.st (fun _ k => XS.iconst X0.here hx rfl (hb hby d2_81) k) ?_
          show OGo p e below s _ _ _ (s₁.setTop (mkF m 82 #[.val (.int p0), .val (.int p1), .val (.int p2), .val (.int p3), .val (.int p4), .val (.int p5), .val (.int (4 : Int32)), .val (.int (p0 &&& (7 : Int32))), .unset] [(.int (-1 : Int32))]))
          exact oretI X0 hx Bd.notSynchronized Bd.returns (hb hby d2_82) e0 ⟨(congrArg (fun z => some (Value.int z)) (show (-1 : Int32) = f2 p0 p1 p2 p3 p4 p5 from Eq.symm (by unfold f2; exact (if_neg hc8).trans ((if_neg hc31).trans ((if_pos hc54).trans (if_pos hc78)))))), N0, rfl⟩ (by decide) (by decide)
        · refine OGo.st (fun _ k => XS.icmpYes X0.here hx rfl (pc0 := 78) (pc' := 83) rfl (hb hby d2_78) rfl (flt hc78).2.2.2 (by decide) (by decide) k) ?_
          show OGo p e below s _ _ _ (s₁.setTop (mkF m 83 #[.val (.int p0), .val (.int p1), .val (.int p2), .val (.int p3), .val (.int p4), .val (.int p5), .val (.int (4 : Int32)), .val (.int (p0 &&& (7 : Int32))), .unset] []))
          refine OGo.st (fun _ k => XS.iloadN X0.here hx rfl (hb hby d2_83) rfl k) ?_
          show OGo p e below s _ _ _ (s₁.setTop (mkF m 84 #[.val (.int p0), .val (.int p1), .val (.int p2), .val (.int p3), .val (.int p4), .val (.int p5), .val (.int (4 : Int32)), .val (.int (p0 &&& (7 : Int32))), .unset] [(.int p1)]))
          obtain ⟨_, _, ⟨T6, L6, k6, n6⟩, -, X6, ⟨Lc6, hQ6, l6, y6, z6⟩, st6⟩ := Jvm.LawKit.callS X0 hx (y := (⟨"com/example/evbind/evbind/Utf8SequenceEndPinLaw", "isCont", "(I)Z"⟩ : MethodName)) hown (mvT hZ (hw _ (List.mem_of_getElem? (i := 10) rfl))) (mvT hZ (hw _ (List.mem_of_getElem? (i := 11) rfl))) (mvT hZ (hw _ (List.mem_of_getElem? (i := 8) rfl))) (mvT hZ (hw _ (List.mem_of_getElem? (i := 12) rfl))) (by decide) (backOf (W := 0) (rm3 l Z a0 hw [] p1 h0 n0 Z0) hZ (hw _ (List.mem_of_getElem? (i := 12) rfl)) (hw _ (List.mem_of_getElem? (i := 8) rfl)) (by decide) (by decide)) (g := (mkF m 84 #[.val (.int p0), .val (.int p1), .val (.int p2), .val (.int p3), .val (.int p4), .val (.int p5), .val (.int (4 : Int32)), .val (.int (p0 &&& (7 : Int32))), .unset] [(.int p1)])) rfl (by rw [hml]; rfl) (argsL := [(.int p1)]) (rest := []) (lenOf pd_2_0 rfl) rfl (by show 2 * 0 + _ ≤ _; exact Nat.le_of_eq rfl) (hb hby d2_84) (fun _ _ => ⟨rfl, e0, (by decide : 0 + 0 ≤ _), (by decide : 0 + 0 ≤ _)⟩)
          dsimp only [Pt.U, Pt.locs, Pt.cells, Pt.slots] at X6 l6 y6 z6 st6 hQ6
          subst l6 y6 z6
          obtain ⟨rfl, N6q, e6⟩ := hQ6
          have N6 := Fr.app N0 N6q
          refine OGo.st st6 ?_
          show OGo p e below s _ _ _ (T6.setTop (mkF m 87 #[.val (.int p0), .val (.int p1), .val (.int p2), .val (.int p3), .val (.int p4), .val (.int p5), .val (.int (4 : Int32)), .val (.int (p0 &&& (7 : Int32))), .unset] [(.int (f3 p1))]))
          by_cases hc87 : (f3 p1) = (0 : Int32)
          · refine OGo.st (fun _ k => XS.ifNo X6.here hx rfl (hb hby d2_87) rfl ((if0 _ _).trans (teq hc87).2) k) ?_
            show OGo p e below s _ _ _ (T6.setTop (mkF m 90 #[.val (.int p0), .val (.int p1), .val (.int p2), .val (.int p3), .val (.int p4), .val (.int p5), .val (.int (4 : Int32)), .val (.int (p0 &&& (7 : Int32))), .unset] []))
            refine OGo.st (fun _ k => XS.iconst X6.here hx rfl (hb hby d2_90) k) ?_
            show OGo p e below s _ _ _ (T6.setTop (mkF m 91 #[.val (.int p0), .val (.int p1), .val (.int p2), .val (.int p3), .val (.int p4), .val (.int p5), .val (.int (4 : Int32)), .val (.int (p0 &&& (7 : Int32))), .unset] [(.int (-1 : Int32))]))
            exact oretI X6 hx Bd.notSynchronized Bd.returns (hb hby d2_91) e6 ⟨(congrArg (fun z => some (Value.int z)) (show (-1 : Int32) = f2 p0 p1 p2 p3 p4 p5 from Eq.symm (by unfold f2; exact (if_neg hc8).trans ((if_neg hc31).trans ((if_pos hc54).trans ((if_neg hc78).trans (if_pos hc87))))))), N6, rfl⟩ (by decide) (by decide)
          · refine OGo.st (fun _ k => XS.ifYes X6.here hx rfl (pc0 := 87) (pc' := 92) rfl (hb hby d2_87) rfl ((if0 _ _).trans (feq hc87).2) (by decide) (by decide) k) ?_
            show OGo p e below s _ _ _ (T6.setTop (mkF m 92 #[.val (.int p0), .val (.int p1), .val (.int p2), .val (.int p3), .val (.int p4), .val (.int p5), .val (.int (4 : Int32)), .val (.int (p0 &&& (7 : Int32))), .unset] []))
            refine OGo.st (fun _ k => XS.iload X6.here hx rfl (hb hby d2_92) rfl k) ?_
            show OGo p e below s _ _ _ (T6.setTop (mkF m 94 #[.val (.int p0), .val (.int p1), .val (.int p2), .val (.int p3), .val (.int p4), .val (.int p5), .val (.int (4 : Int32)), .val (.int (p0 &&& (7 : Int32))), .unset] [(.int (p0 &&& (7 : Int32)))]))
            refine OGo.st (fun _ k => XS.bipush X6.here hx rfl (hb hby d2_94) k) ?_
            show OGo p e below s _ _ _ (T6.setTop (mkF m 96 #[.val (.int p0), .val (.int p1), .val (.int p2), .val (.int p3), .val (.int p4), .val (.int p5), .val (.int (4 : Int32)), .val (.int (p0 &&& (7 : Int32))), .unset] [(.int (6 : Int32)), (.int (p0 &&& (7 : Int32)))]))
            refine OGo.st (fun _ k => XS.ishl X6.here hx rfl (hb hby d2_96) rfl k) ?_
            show OGo p e below s _ _ _ (T6.setTop (mkF m 97 #[.val (.int p0), .val (.int p1), .val (.int p2), .val (.int p3), .val (.int p4), .val (.int p5), .val (.int (4 : Int32)), .val (.int (p0 &&& (7 : Int32))), .unset] [(.int ((p0 &&& (7 : Int32)) <<< ((6 : Int32) &&& 31)))]))
            refine OGo.st (fun _ k => XS.iloadN X6.here hx rfl (hb hby d2_97) rfl k) ?_
            show OGo p e below s _ _ _ (T6.setTop (mkF m 98 #[.val (.int p0), .val (.int p1), .val (.int p2), .val (.int p3), .val (.int p4), .val (.int p5), .val (.int (4 : Int32)), .val (.int (p0 &&& (7 : Int32))), .unset] [(.int p1), (.int ((p0 &&& (7 : Int32)) <<< ((6 : Int32) &&& 31)))]))
            refine OGo.st (fun _ k => XS.bipush X6.here hx rfl (hb hby d2_98) k) ?_
            show OGo p e below s _ _ _ (T6.setTop (mkF m 100 #[.val (.int p0), .val (.int p1), .val (.int p2), .val (.int p3), .val (.int p4), .val (.int p5), .val (.int (4 : Int32)), .val (.int (p0 &&& (7 : Int32))), .unset] [(.int (63 : Int32)), (.int p1), (.int ((p0 &&& (7 : Int32)) <<< ((6 : Int32) &&& 31)))]))
            refine OGo.st (fun _ k => XS.iand X6.here hx rfl (hb hby d2_100) rfl k) ?_
            show OGo p e below s _ _ _ (T6.setTop (mkF m 101 #[.val (.int p0), .val (.int p1), .val (.int p2), .val (.int p3), .val (.int p4), .val (.int p5), .val (.int (4 : Int32)), .val (.int (p0 &&& (7 : Int32))), .unset] [(.int (p1 &&& (63 : Int32))), (.int ((p0 &&& (7 : Int32)) <<< ((6 : Int32) &&& 31)))]))
            refine OGo.st (fun _ k => XS.ior X6.here hx rfl (hb hby d2_101) rfl k) ?_
            show OGo p e below s _ _ _ (T6.setTop (mkF m 102 #[.val (.int p0), .val (.int p1), .val (.int p2), .val (.int p3), .val (.int p4), .val (.int p5), .val (.int (4 : Int32)), .val (.int (p0 &&& (7 : Int32))), .unset] [(.int (((p0 &&& (7 : Int32)) <<< ((6 : Int32) &&& 31)) ||| (p1 &&& (63 : Int32))))]))
            refine OGo.st (fun _ k => XS.istore X6.here hx rfl (hb hby d2_102) rfl (l' := #[.val (.int p0), .val (.int p1), .val (.int p2), .val (.int p3), .val (.int p4), .val (.int p5), .val (.int (4 : Int32)), .val (.int (v2_3 p0 p1 p2 p3 p4 p5)), .unset]) rfl k) ?_
            show OGo p e below s _ _ _ (T6.setTop (mkF m 104 #[.val (.int p0), .val (.int p1), .val (.int p2), .val (.int p3), .val (.int p4), .val (.int p5), .val (.int (4 : Int32)), .val (.int (v2_3 p0 p1 p2 p3 p4 p5)), .unset] []))
            refine OGo.st (fun _ k => XS.iload X6.here hx rfl (hb hby d2_104) rfl k) ?_
            show OGo p e below s _ _ _ (T6.setTop (mkF m 106 #[.val (.int p0), .val (.int p1), .val (.int p2), .val (.int p3), .val (.int p4), .val (.int p5), .val (.int (4 : Int32)), .val (.int (v2_3 p0 p1 p2 p3 p4 p5)), .unset] [(.int (4 : Int32))]))
            refine OGo.st (fun _ k => XS.iconst X6.here hx rfl (hb hby d2_106) k) ?_
            show OGo p e below s _ _ _ (T6.setTop (mkF m 107 #[.val (.int p0), .val (.int p1), .val (.int p2), .val (.int p3), .val (.int p4), .val (.int p5), .val (.int (4 : Int32)), .val (.int (v2_3 p0 p1 p2 p3 p4 p5)), .unset] [(.int (3 : Int32)), (.int (4 : Int32))]))
            refine OGo.st (fun _ k => XS.icmpNo X6.here hx rfl (hb hby d2_107) rfl (flt (by decide : ¬ ((4 : Int32) < (3 : Int32)))).1 k) ?_
            show OGo p e below s _ _ _ (T6.setTop (mkF m 110 #[.val (.int p0), .val (.int p1), .val (.int p2), .val (.int p3), .val (.int p4), .val (.int p5), .val (.int (4 : Int32)), .val (.int (v2_3 p0 p1 p2 p3 p4 p5)), .unset] []))
            refine OGo.st (fun _ k => XS.iloadN X6.here hx rfl (hb hby d2_110) rfl k) ?_
            show OGo p e below s _ _ _ (T6.setTop (mkF m 111 #[.val (.int p0), .val (.int p1), .val (.int p2), .val (.int p3), .val (.int p4), .val (.int p5), .val (.int (4 : Int32)), .val (.int (v2_3 p0 p1 p2 p3 p4 p5)), .unset] [(.int p2)]))
            obtain ⟨_, _, ⟨T7, L7, k7, n7⟩, -, X7, ⟨Lc7, hQ7, l7, y7, z7⟩, st7⟩ := Jvm.LawKit.callS X6 hx (y := (⟨"com/example/evbind/evbind/Utf8SequenceEndPinLaw", "isCont", "(I)Z"⟩ : MethodName)) hown (mvT hZ (hw _ (List.mem_of_getElem? (i := 10) rfl))) (mvT hZ (hw _ (List.mem_of_getElem? (i := 11) rfl))) (mvT hZ (hw _ (List.mem_of_getElem? (i := 8) rfl))) (mvT hZ (hw _ (List.mem_of_getElem? (i := 12) rfl))) (by decide) (backOf (W := 0) (rm3 l Z a0 hw [] p2 h0 n0 Z0) hZ (hw _ (List.mem_of_getElem? (i := 12) rfl)) (hw _ (List.mem_of_getElem? (i := 8) rfl)) (by decide) (by decide)) (g := (mkF m 111 #[.val (.int p0), .val (.int p1), .val (.int p2), .val (.int p3), .val (.int p4), .val (.int p5), .val (.int (4 : Int32)), .val (.int (v2_3 p0 p1 p2 p3 p4 p5)), .unset] [(.int p2)])) rfl (by rw [hml]; rfl) (argsL := [(.int p2)]) (rest := []) (lenOf pd_2_0 rfl) rfl (by show 2 * 0 + _ ≤ _; exact Nat.le_of_eq rfl) (hb hby d2_111) (fun _ _ => ⟨rfl, e6, (by decide : 0 + 0 ≤ _), (by decide : 0 + 0 ≤ _)⟩)
            dsimp only [Pt.U, Pt.locs, Pt.cells, Pt.slots] at X7 l7 y7 z7 st7 hQ7
            subst l7 y7 z7
            obtain ⟨rfl, N7q, e7⟩ := hQ7
            have N7 := Fr.app N6 N7q
            refine OGo.st st7 ?_
            show OGo p e below s _ _ _ (T7.setTop (mkF m 114 #[.val (.int p0), .val (.int p1), .val (.int p2), .val (.int p3), .val (.int p4), .val (.int p5), .val (.int (4 : Int32)), .val (.int (v2_3 p0 p1 p2 p3 p4 p5)), .unset] [(.int (f3 p2))]))
            by_cases hc114 : (f3 p2) = (0 : Int32)
            · refine OGo.st (fun _ k => XS.ifNo X7.here hx rfl (hb hby d2_114) rfl ((if0 _ _).trans (teq hc114).2) k) ?_
              show OGo p e below s _ _ _ (T7.setTop (mkF m 117 #[.val (.int p0), .val (.int p1), .val (.int p2), .val (.int p3), .val (.int p4), .val (.int p5), .val (.int (4 : Int32)), .val (.int (v2_3 p0 p1 p2 p3 p4 p5)), .unset] []))
              refine OGo.st (fun _ k => XS.iconst X7.here hx rfl (hb hby d2_117) k) ?_
              show OGo p e below s _ _ _ (T7.setTop (mkF m 118 #[.val (.int p0), .val (.int p1), .val (.int p2), .val (.int p3), .val (.int p4), .val (.int p5), .val (.int (4 : Int32)), .val (.int (v2_3 p0 p1 p2 p3 p4 p5)), .unset] [(.int (-1 : Int32))]))
              exact oretI X7 hx Bd.notSynchronized Bd.returns (hb hby d2_118) e7 ⟨(congrArg (fun z => some (Value.int z)) (show (-1 : Int32) = f2 p0 p1 p2 p3 p4 p5 from Eq.symm (by unfold f2; exact (if_neg hc8).trans ((if_neg hc31).trans ((if_pos hc54).trans ((if_neg hc78).trans ((if_neg hc87).trans (if_pos hc114)))))))), N7, rfl⟩ (by decide) (by decide)
            · refine OGo.st (fun _ k => XS.ifYes X7.here hx rfl (pc0 := 114) (pc' := 119) rfl (hb hby d2_114) rfl ((if0 _ _).trans (feq hc114).2) (by decide) (by decide) k) ?_
              show OGo p e below s _ _ _ (T7.setTop (mkF m 119 #[.val (.int p0), .val (.int p1), .val (.int p2), .val (.int p3), .val (.int p4), .val (.int p5), .val (.int (4 : Int32)), .val (.int (v2_3 p0 p1 p2 p3 p4 p5)), .unset] []))
              refine OGo.st (fun _ k => XS.iload X7.here hx rfl (hb hby d2_119) rfl k) ?_
              show OGo p e below s _ _ _ (T7.setTop (mkF m 121 #[.val (.int p0), .val (.int p1), .val (.int p2), .val (.int p3), .val (.int p4), .val (.int p5), .val (.int (4 : Int32)), .val (.int (v2_3 p0 p1 p2 p3 p4 p5)), .unset] [(.int (v2_3 p0 p1 p2 p3 p4 p5))]))
              refine OGo.st (fun _ k => XS.bipush X7.here hx rfl (hb hby d2_121) k) ?_
              show OGo p e below s _ _ _ (T7.setTop (mkF m 123 #[.val (.int p0), .val (.int p1), .val (.int p2), .val (.int p3), .val (.int p4), .val (.int p5), .val (.int (4 : Int32)), .val (.int (v2_3 p0 p1 p2 p3 p4 p5)), .unset] [(.int (6 : Int32)), (.int (v2_3 p0 p1 p2 p3 p4 p5))]))
              refine OGo.st (fun _ k => XS.ishl X7.here hx rfl (hb hby d2_123) rfl k) ?_
              show OGo p e below s _ _ _ (T7.setTop (mkF m 124 #[.val (.int p0), .val (.int p1), .val (.int p2), .val (.int p3), .val (.int p4), .val (.int p5), .val (.int (4 : Int32)), .val (.int (v2_3 p0 p1 p2 p3 p4 p5)), .unset] [(.int ((v2_3 p0 p1 p2 p3 p4 p5) <<< ((6 : Int32) &&& 31)))]))
              refine OGo.st (fun _ k => XS.iloadN X7.here hx rfl (hb hby d2_124) rfl k) ?_
              show OGo p e below s _ _ _ (T7.setTop (mkF m 125 #[.val (.int p0), .val (.int p1), .val (.int p2), .val (.int p3), .val (.int p4), .val (.int p5), .val (.int (4 : Int32)), .val (.int (v2_3 p0 p1 p2 p3 p4 p5)), .unset] [(.int p2), (.int ((v2_3 p0 p1 p2 p3 p4 p5) <<< ((6 : Int32) &&& 31)))]))
              refine OGo.st (fun _ k => XS.bipush X7.here hx rfl (hb hby d2_125) k) ?_
              show OGo p e below s _ _ _ (T7.setTop (mkF m 127 #[.val (.int p0), .val (.int p1), .val (.int p2), .val (.int p3), .val (.int p4), .val (.int p5), .val (.int (4 : Int32)), .val (.int (v2_3 p0 p1 p2 p3 p4 p5)), .unset] [(.int (63 : Int32)), (.int p2), (.int ((v2_3 p0 p1 p2 p3 p4 p5) <<< ((6 : Int32) &&& 31)))]))
              refine OGo.st (fun _ k => XS.iand X7.here hx rfl (hb hby d2_127) rfl k) ?_
              show OGo p e below s _ _ _ (T7.setTop (mkF m 128 #[.val (.int p0), .val (.int p1), .val (.int p2), .val (.int p3), .val (.int p4), .val (.int p5), .val (.int (4 : Int32)), .val (.int (v2_3 p0 p1 p2 p3 p4 p5)), .unset] [(.int (p2 &&& (63 : Int32))), (.int ((v2_3 p0 p1 p2 p3 p4 p5) <<< ((6 : Int32) &&& 31)))]))
              refine OGo.st (fun _ k => XS.ior X7.here hx rfl (hb hby d2_128) rfl k) ?_
              show OGo p e below s _ _ _ (T7.setTop (mkF m 129 #[.val (.int p0), .val (.int p1), .val (.int p2), .val (.int p3), .val (.int p4), .val (.int p5), .val (.int (4 : Int32)), .val (.int (v2_3 p0 p1 p2 p3 p4 p5)), .unset] [(.int (((v2_3 p0 p1 p2 p3 p4 p5) <<< ((6 : Int32) &&& 31)) ||| (p2 &&& (63 : Int32))))]))
              refine OGo.st (fun _ k => XS.istore X7.here hx rfl (hb hby d2_129) rfl (l' := #[.val (.int p0), .val (.int p1), .val (.int p2), .val (.int p3), .val (.int p4), .val (.int p5), .val (.int (4 : Int32)), .val (.int (v2_4 p0 p1 p2 p3 p4 p5)), .unset]) rfl k) ?_
              show OGo p e below s _ _ _ (T7.setTop (mkF m 131 #[.val (.int p0), .val (.int p1), .val (.int p2), .val (.int p3), .val (.int p4), .val (.int p5), .val (.int (4 : Int32)), .val (.int (v2_4 p0 p1 p2 p3 p4 p5)), .unset] []))
              refine OGo.st (fun _ k => XS.iload X7.here hx rfl (hb hby d2_131) rfl k) ?_
              show OGo p e below s _ _ _ (T7.setTop (mkF m 133 #[.val (.int p0), .val (.int p1), .val (.int p2), .val (.int p3), .val (.int p4), .val (.int p5), .val (.int (4 : Int32)), .val (.int (v2_4 p0 p1 p2 p3 p4 p5)), .unset] [(.int (4 : Int32))]))
              refine OGo.st (fun _ k => XS.iconst X7.here hx rfl (hb hby d2_133) k) ?_
              show OGo p e below s _ _ _ (T7.setTop (mkF m 134 #[.val (.int p0), .val (.int p1), .val (.int p2), .val (.int p3), .val (.int p4), .val (.int p5), .val (.int (4 : Int32)), .val (.int (v2_4 p0 p1 p2 p3 p4 p5)), .unset] [(.int (4 : Int32)), (.int (4 : Int32))]))
              refine OGo.st (fun _ k => XS.icmpNo X7.here hx rfl (hb hby d2_134) rfl (teq (by decide : (4 : Int32) = (4 : Int32))).2 k) ?_
              show OGo p e below s _ _ _ (T7.setTop (mkF m 137 #[.val (.int p0), .val (.int p1), .val (.int p2), .val (.int p3), .val (.int p4), .val (.int p5), .val (.int (4 : Int32)), .val (.int (v2_4 p0 p1 p2 p3 p4 p5)), .unset] []))
              refine OGo.st (fun _ k => XS.iloadN X7.here hx rfl (hb hby d2_137) rfl k) ?_
              show OGo p e below s _ _ _ (T7.setTop (mkF m 138 #[.val (.int p0), .val (.int p1), .val (.int p2), .val (.int p3), .val (.int p4), .val (.int p5), .val (.int (4 : Int32)), .val (.int (v2_4 p0 p1 p2 p3 p4 p5)), .unset] [(.int p3)]))
              obtain ⟨_, _, ⟨T8, L8, k8, n8⟩, -, X8, ⟨Lc8, hQ8, l8, y8, z8⟩, st8⟩ := Jvm.LawKit.callS X7 hx (y := (⟨"com/example/evbind/evbind/Utf8SequenceEndPinLaw", "isCont", "(I)Z"⟩ : MethodName)) hown (mvT hZ (hw _ (List.mem_of_getElem? (i := 10) rfl))) (mvT hZ (hw _ (List.mem_of_getElem? (i := 11) rfl))) (mvT hZ (hw _ (List.mem_of_getElem? (i := 8) rfl))) (mvT hZ (hw _ (List.mem_of_getElem? (i := 12) rfl))) (by decide) (backOf (W := 0) (rm3 l Z a0 hw [] p3 h0 n0 Z0) hZ (hw _ (List.mem_of_getElem? (i := 12) rfl)) (hw _ (List.mem_of_getElem? (i := 8) rfl)) (by decide) (by decide)) (g := (mkF m 138 #[.val (.int p0), .val (.int p1), .val (.int p2), .val (.int p3), .val (.int p4), .val (.int p5), .val (.int (4 : Int32)), .val (.int (v2_4 p0 p1 p2 p3 p4 p5)), .unset] [(.int p3)])) rfl (by rw [hml]; rfl) (argsL := [(.int p3)]) (rest := []) (lenOf pd_2_0 rfl) rfl (by show 2 * 0 + _ ≤ _; exact Nat.le_of_eq rfl) (hb hby d2_138) (fun _ _ => ⟨rfl, e7, (by decide : 0 + 0 ≤ _), (by decide : 0 + 0 ≤ _)⟩)
              dsimp only [Pt.U, Pt.locs, Pt.cells, Pt.slots] at X8 l8 y8 z8 st8 hQ8
              subst l8 y8 z8
              obtain ⟨rfl, N8q, e8⟩ := hQ8
              have N8 := Fr.app N7 N8q
              refine OGo.st st8 ?_
              show OGo p e below s _ _ _ (T8.setTop (mkF m 141 #[.val (.int p0), .val (.int p1), .val (.int p2), .val (.int p3), .val (.int p4), .val (.int p5), .val (.int (4 : Int32)), .val (.int (v2_4 p0 p1 p2 p3 p4 p5)), .unset] [(.int (f3 p3))]))
              by_cases hc141 : (f3 p3) = (0 : Int32)
              · refine OGo.st (fun _ k => XS.ifNo X8.here hx rfl (hb hby d2_141) rfl ((if0 _ _).trans (teq hc141).2) k) ?_
                show OGo p e below s _ _ _ (T8.setTop (mkF m 144 #[.val (.int p0), .val (.int p1), .val (.int p2), .val (.int p3), .val (.int p4), .val (.int p5), .val (.int (4 : Int32)), .val (.int (v2_4 p0 p1 p2 p3 p4 p5)), .unset] []))
                refine OGo.st (fun _ k => XS.iconst X8.here hx rfl (hb hby d2_144) k) ?_
                show OGo p e below s _ _ _ (T8.setTop (mkF m 145 #[.val (.int p0), .val (.int p1), .val (.int p2), .val (.int p3), .val (.int p4), .val (.int p5), .val (.int (4 : Int32)), .val (.int (v2_4 p0 p1 p2 p3 p4 p5)), .unset] [(.int (-1 : Int32))]))
                exact oretI X8 hx Bd.notSynchronized Bd.returns (hb hby d2_145) e8 ⟨(congrArg (fun z => some (Value.int z)) (show (-1 : Int32) = f2 p0 p1 p2 p3 p4 p5 from Eq.symm (by unfold f2; exact (if_neg hc8).trans ((if_neg hc31).trans ((if_pos hc54).trans ((if_neg hc78).trans ((if_neg hc87).trans ((if_neg hc114).trans (if_pos hc141))))))))), N8, rfl⟩ (by decide) (by decide)
              · refine OGo.st (fun _ k => XS.ifYes X8.here hx rfl (pc0 := 141) (pc' := 146) rfl (hb hby d2_141) rfl ((if0 _ _).trans (feq hc141).2) (by decide) (by decide) k) ?_
                show OGo p e below s _ _ _ (T8.setTop (mkF m 146 #[.val (.int p0), .val (.int p1), .val (.int p2), .val (.int p3), .val (.int p4), .val (.int p5), .val (.int (4 : Int32)), .val (.int (v2_4 p0 p1 p2 p3 p4 p5)), .unset] []))
                refine OGo.st (fun _ k => XS.iload X8.here hx rfl (hb hby d2_146) rfl k) ?_
                show OGo p e below s _ _ _ (T8.setTop (mkF m 148 #[.val (.int p0), .val (.int p1), .val (.int p2), .val (.int p3), .val (.int p4), .val (.int p5), .val (.int (4 : Int32)), .val (.int (v2_4 p0 p1 p2 p3 p4 p5)), .unset] [(.int (v2_4 p0 p1 p2 p3 p4 p5))]))
                refine OGo.st (fun _ k => XS.bipush X8.here hx rfl (hb hby d2_148) k) ?_
                show OGo p e below s _ _ _ (T8.setTop (mkF m 150 #[.val (.int p0), .val (.int p1), .val (.int p2), .val (.int p3), .val (.int p4), .val (.int p5), .val (.int (4 : Int32)), .val (.int (v2_4 p0 p1 p2 p3 p4 p5)), .unset] [(.int (6 : Int32)), (.int (v2_4 p0 p1 p2 p3 p4 p5))]))
                refine OGo.st (fun _ k => XS.ishl X8.here hx rfl (hb hby d2_150) rfl k) ?_
                show OGo p e below s _ _ _ (T8.setTop (mkF m 151 #[.val (.int p0), .val (.int p1), .val (.int p2), .val (.int p3), .val (.int p4), .val (.int p5), .val (.int (4 : Int32)), .val (.int (v2_4 p0 p1 p2 p3 p4 p5)), .unset] [(.int ((v2_4 p0 p1 p2 p3 p4 p5) <<< ((6 : Int32) &&& 31)))]))
                refine OGo.st (fun _ k => XS.iloadN X8.here hx rfl (hb hby d2_151) rfl k) ?_
                show OGo p e below s _ _ _ (T8.setTop (mkF m 152 #[.val (.int p0), .val (.int p1), .val (.int p2), .val (.int p3), .val (.int p4), .val (.int p5), .val (.int (4 : Int32)), .val (.int (v2_4 p0 p1 p2 p3 p4 p5)), .unset] [(.int p3), (.int ((v2_4 p0 p1 p2 p3 p4 p5) <<< ((6 : Int32) &&& 31)))]))
                refine OGo.st (fun _ k => XS.bipush X8.here hx rfl (hb hby d2_152) k) ?_
                show OGo p e below s _ _ _ (T8.setTop (mkF m 154 #[.val (.int p0), .val (.int p1), .val (.int p2), .val (.int p3), .val (.int p4), .val (.int p5), .val (.int (4 : Int32)), .val (.int (v2_4 p0 p1 p2 p3 p4 p5)), .unset] [(.int (63 : Int32)), (.int p3), (.int ((v2_4 p0 p1 p2 p3 p4 p5) <<< ((6 : Int32) &&& 31)))]))
                refine OGo.st (fun _ k => XS.iand X8.here hx rfl (hb hby d2_154) rfl k) ?_
                show OGo p e below s _ _ _ (T8.setTop (mkF m 155 #[.val (.int p0), .val (.int p1), .val (.int p2), .val (.int p3), .val (.int p4), .val (.int p5), .val (.int (4 : Int32)), .val (.int (v2_4 p0 p1 p2 p3 p4 p5)), .unset] [(.int (p3 &&& (63 : Int32))), (.int ((v2_4 p0 p1 p2 p3 p4 p5) <<< ((6 : Int32) &&& 31)))]))
                refine OGo.st (fun _ k => XS.ior X8.here hx rfl (hb hby d2_155) rfl k) ?_
                show OGo p e below s _ _ _ (T8.setTop (mkF m 156 #[.val (.int p0), .val (.int p1), .val (.int p2), .val (.int p3), .val (.int p4), .val (.int p5), .val (.int (4 : Int32)), .val (.int (v2_4 p0 p1 p2 p3 p4 p5)), .unset] [(.int (((v2_4 p0 p1 p2 p3 p4 p5) <<< ((6 : Int32) &&& 31)) ||| (p3 &&& (63 : Int32))))]))
                refine OGo.st (fun _ k => XS.istore X8.here hx rfl (hb hby d2_156) rfl (l' := #[.val (.int p0), .val (.int p1), .val (.int p2), .val (.int p3), .val (.int p4), .val (.int p5), .val (.int (4 : Int32)), .val (.int (v2_5 p0 p1 p2 p3 p4 p5)), .unset]) rfl k) ?_
                show OGo p e below s _ _ _ (T8.setTop (mkF m 158 #[.val (.int p0), .val (.int p1), .val (.int p2), .val (.int p3), .val (.int p4), .val (.int p5), .val (.int (4 : Int32)), .val (.int (v2_5 p0 p1 p2 p3 p4 p5)), .unset] []))
                refine OGo.st (fun _ k => XS.iload X8.here hx rfl (hb hby d2_158) rfl k) ?_
                show OGo p e below s _ _ _ (T8.setTop (mkF m 160 #[.val (.int p0), .val (.int p1), .val (.int p2), .val (.int p3), .val (.int p4), .val (.int p5), .val (.int (4 : Int32)), .val (.int (v2_5 p0 p1 p2 p3 p4 p5)), .unset] [(.int (4 : Int32))]))
                refine OGo.st (fun _ k => XS.iconst X8.here hx rfl (hb hby d2_160) k) ?_
                show OGo p e below s _ _ _ (T8.setTop (mkF m 161 #[.val (.int p0), .val (.int p1), .val (.int p2), .val (.int p3), .val (.int p4), .val (.int p5), .val (.int (4 : Int32)), .val (.int (v2_5 p0 p1 p2 p3 p4 p5)), .unset] [(.int (2 : Int32)), (.int (4 : Int32))]))
                refine OGo.st (fun _ k => XS.icmpYes X8.here hx rfl (pc0 := 161) (pc' := 182) rfl (hb hby d2_161) rfl (feq (by decide : ¬ ((4 : Int32) = (2 : Int32)))).2 (by decide) (by decide) k) ?_
                show OGo p e below s _ _ _ (T8.setTop (mkF m 182 #[.val (.int p0), .val (.int p1), .val (.int p2), .val (.int p3), .val (.int p4), .val (.int p5), .val (.int (4 : Int32)), .val (.int (v2_5 p0 p1 p2 p3 p4 p5)), .unset] []))
                refine OGo.st (fun _ k => XS.iload X8.here hx rfl (hb hby d2_182) rfl k) ?_
                show OGo p e below s _ _ _ (T8.setTop (mkF m 184 #[.val (.int p0), .val (.int p1), .val (.int p2), .val (.int p3), .val (.int p4), .val (.int p5), .val (.int (4 : Int32)), .val (.int (v2_5 p0 p1 p2 p3 p4 p5)), .unset] [(.int (4 : Int32))]))
                refine OGo.st (fun _ k => XS.iconst X8.here hx rfl (hb hby d2_184) k) ?_
                show OGo p e below s _ _ _ (T8.setTop (mkF m 185 #[.val (.int p0), .val (.int p1), .val (.int p2), .val (.int p3), .val (.int p4), .val (.int p5), .val (.int (4 : Int32)), .val (.int (v2_5 p0 p1 p2 p3 p4 p5)), .unset] [(.int (3 : Int32)), (.int (4 : Int32))]))
                refine OGo.st (fun _ k => XS.icmpYes X8.here hx rfl (pc0 := 185) (pc' := 220) rfl (hb hby d2_185) rfl (feq (by decide : ¬ ((4 : Int32) = (3 : Int32)))).2 (by decide) (by decide) k) ?_
                show OGo p e below s _ _ _ (T8.setTop (mkF m 220 #[.val (.int p0), .val (.int p1), .val (.int p2), .val (.int p3), .val (.int p4), .val (.int p5), .val (.int (4 : Int32)), .val (.int (v2_5 p0 p1 p2 p3 p4 p5)), .unset] []))
                refine OGo.st (fun _ k => XS.iload X8.here hx rfl (hb hby d2_220) rfl k) ?_
                show OGo p e below s _ _ _ (T8.setTop (mkF m 222 #[.val (.int p0), .val (.int p1), .val (.int p2), .val (.int p3), .val (.int p4), .val (.int p5), .val (.int (4 : Int32)), .val (.int (v2_5 p0 p1 p2 p3 p4 p5)), .unset] [(.int (v2_5 p0 p1 p2 p3 p4 p5))]))
                refine OGo.st (fun _ k => X8.ldcInt hx hown (mvT hZ (hw _ (List.mem_of_getElem? (i := 15) rfl))) (g := (mkF m 222 #[.val (.int p0), .val (.int p1), .val (.int p2), .val (.int p3), .val (.int p4), .val (.int p5), .val (.int (4 : Int32)), .val (.int (v2_5 p0 p1 p2 p3 p4 p5)), .unset] [(.int (v2_5 p0 p1 p2 p3 p4 p5))])) rfl (hb hby d2_222) _ k) ?_
                show OGo p e below s _ _ _ (T8.setTop (mkF m 224 #[.val (.int p0), .val (.int p1), .val (.int p2), .val (.int p3), .val (.int p4), .val (.int p5), .val (.int (4 : Int32)), .val (.int (v2_5 p0 p1 p2 p3 p4 p5)), .unset] [(.int (65536 : Int32)), (.int (v2_5 p0 p1 p2 p3 p4 p5))]))
                have hj239 : ∀ (j239_0 : Int32) (hf239_0 : f2 p0 p1 p2 p3 p4 p5 = f2_239 p0 p1 p2 p3 p4 p5 j239_0), OGo p e below s (Q2 Z p0 p1 p2 p3 p4 p5 h0 n0) ({ frames := 1, cells := 0, slots := 0, locals := 12 } : Room).cells ({ frames := 1, cells := 0, slots := 0, locals := 12 } : Room).slots (T8.setTop (mkF m 239 #[.val (.int p0), .val (.int p1), .val (.int p2), .val (.int p3), .val (.int p4), .val (.int p5), .val (.int (4 : Int32)), .val (.int (v2_5 p0 p1 p2 p3 p4 p5)), .unset] [(.int j239_0)])) := by
                  intro j239_0 hf239_0
                  refine OGo.st (fun _ k => XS.istore X8.here hx rfl (hb hby d2_239) rfl (l' := #[.val (.int p0), .val (.int p1), .val (.int p2), .val (.int p3), .val (.int p4), .val (.int p5), .val (.int (4 : Int32)), .val (.int (v2_5 p0 p1 p2 p3 p4 p5)), .val (.int j239_0)]) rfl k) ?_
                  show OGo p e below s _ _ _ (T8.setTop (mkF m 241 #[.val (.int p0), .val (.int p1), .val (.int p2), .val (.int p3), .val (.int p4), .val (.int p5), .val (.int (4 : Int32)), .val (.int (v2_5 p0 p1 p2 p3 p4 p5)), .val (.int j239_0)] []))
                  refine OGo.st (fun _ k => XS.iload X8.here hx rfl (hb hby d2_241) rfl k) ?_
                  show OGo p e below s _ _ _ (T8.setTop (mkF m 243 #[.val (.int p0), .val (.int p1), .val (.int p2), .val (.int p3), .val (.int p4), .val (.int p5), .val (.int (4 : Int32)), .val (.int (v2_5 p0 p1 p2 p3 p4 p5)), .val (.int j239_0)] [(.int j239_0)]))
                  by_cases hc243 : j239_0 = (0 : Int32)
                  · refine OGo.st (fun _ k => XS.ifYes X8.here hx rfl (pc0 := 243) (pc' := 254) rfl (hb hby d2_243) rfl ((if0 _ _).trans (teq hc243).1) (by decide) (by decide) k) ?_
                    show OGo p e below s _ _ _ (T8.setTop (mkF m 254 #[.val (.int p0), .val (.int p1), .val (.int p2), .val (.int p3), .val (.int p4), .val (.int p5), .val (.int (4 : Int32)), .val (.int (v2_5 p0 p1 p2 p3 p4 p5)), .val (.int j239_0)] []))
                    refine OGo.st (fun _ k => XS.iconst X8.here hx rfl (hb hby d2_254) k) ?_
                    show OGo p e below s _ _ _ (T8.setTop (mkF m 255 #[.val (.int p0), .val (.int p1), .val (.int p2), .val (.int p3), .val (.int p4), .val (.int p5), .val (.int (4 : Int32)), .val (.int (v2_5 p0 p1 p2 p3 p4 p5)), .val (.int j239_0)] [(.int (-1 : Int32))]))
                    exact oretI X8 hx Bd.notSynchronized Bd.returns (hb hby d2_255) e8 ⟨(congrArg (fun z => some (Value.int z)) (show (-1 : Int32) = f2 p0 p1 p2 p3 p4 p5 from Eq.symm (hf239_0.trans (by unfold f2_239; exact if_pos hc243)))), N8, rfl⟩ (by decide) (by decide)
                  · refine OGo.st (fun _ k => XS.ifNo X8.here hx rfl (hb hby d2_243) rfl ((if0 _ _).trans (feq hc243).1) k) ?_
                    show OGo p e below s _ _ _ (T8.setTop (mkF m 246 #[.val (.int p0), .val (.int p1), .val (.int p2), .val (.int p3), .val (.int p4), .val (.int p5), .val (.int (4 : Int32)), .val (.int (v2_5 p0 p1 p2 p3 p4 p5)), .val (.int j239_0)] []))
                    refine OGo.st (fun _ k => XS.iload X8.here hx rfl (hb hby d2_246) rfl k) ?_
                    show OGo p e below s _ _ _ (T8.setTop (mkF m 248 #[.val (.int p0), .val (.int p1), .val (.int p2), .val (.int p3), .val (.int p4), .val (.int p5), .val (.int (4 : Int32)), .val (.int (v2_5 p0 p1 p2 p3 p4 p5)), .val (.int j239_0)] [(.int p4)]))
                    refine OGo.st (fun _ k => XS.iload X8.here hx rfl (hb hby d2_248) rfl k) ?_
                    show OGo p e below s _ _ _ (T8.setTop (mkF m 250 #[.val (.int p0), .val (.int p1), .val (.int p2), .val (.int p3), .val (.int p4), .val (.int p5), .val (.int (4 : Int32)), .val (.int (v2_5 p0 p1 p2 p3 p4 p5)), .val (.int j239_0)] [(.int (4 : Int32)), (.int p4)]))
                    refine OGo.st (fun _ k => XS.iadd X8.here hx rfl (hb hby d2_250) rfl k) ?_
                    show OGo p e below s _ _ _ (T8.setTop (mkF m 251 #[.val (.int p0), .val (.int p1), .val (.int p2), .val (.int p3), .val (.int p4), .val (.int p5), .val (.int (4 : Int32)), .val (.int (v2_5 p0 p1 p2 p3 p4 p5)), .val (.int j239_0)] [(.int (p4 + (4 : Int32)))]))
                    refine OGo.st (fun _ k => XS.goto X8.here hx rfl (pc0 := 251) (pc' := 255) rfl (hb hby d2_251) (by decide) (by decide) k) ?_
                    show OGo p e below s _ _ _ (T8.setTop (mkF m 255 #[.val (.int p0), .val (.int p1), .val (.int p2), .val (.int p3), .val (.int p4), .val (.int p5), .val (.int (4 : Int32)), .val (.int (v2_5 p0 p1 p2 p3 p4 p5)), .val (.int j239_0)] [(.int (p4 + (4 : Int32)))]))
                    exact oretI X8 hx Bd.notSynchronized Bd.returns (hb hby d2_255) e8 ⟨(congrArg (fun z => some (Value.int z)) (show (p4 + (4 : Int32)) = f2 p0 p1 p2 p3 p4 p5 from Eq.symm (hf239_0.trans (by unfold f2_239; exact if_neg hc243)))), N8, rfl⟩ (by decide) (by decide)
                by_cases hc224 : (v2_5 p0 p1 p2 p3 p4 p5) < (65536 : Int32)
                · refine OGo.st (fun _ k => XS.icmpYes X8.here hx rfl (pc0 := 224) (pc' := 238) rfl (hb hby d2_224) rfl (tlt hc224).1 (by decide) (by decide) k) ?_
                  show OGo p e below s _ _ _ (T8.setTop (mkF m 238 #[.val (.int p0), .val (.int p1), .val (.int p2), .val (.int p3), .val (.int p4), .val (.int p5), .val (.int (4 : Int32)), .val (.int (v2_5 p0 p1 p2 p3 p4 p5)), .unset] []))
                  refine OGo.st (fun _ k => XS.iconst X8.here hx rfl (hb hby d2_238) k) ?_
                  show OGo p e below s _ _ _ (T8.setTop (mkF m 239 #[.val (.int p0), .val (.int p1), .val (.int p2), .val (.int p3), .val (.int p4), .val (.int p5), .val (.int (4 : Int32)), .val (.int (v2_5 p0 p1 p2 p3 p4 p5)), .unset] [(.int (0 : Int32))]))
                  exact hj239 (0 : Int32) (by unfold f2; exact (if_neg hc8).trans ((if_neg hc31).trans ((if_pos hc54).trans ((if_neg hc78).trans ((if_neg hc87).trans ((if_neg hc114).trans ((if_neg hc141).trans (if_pos hc224))))))))
                · refine OGo.st (fun _ k => XS.icmpNo X8.here hx rfl (hb hby d2_224) rfl (flt hc224).1 k) ?_
                  show OGo p e below s _ _ _ (T8.setTop (mkF m 227 #[.val (.int p0), .val (.int p1), .val (.int p2), .val (.int p3), .val (.int p4), .val (.int p5), .val (.int (4 : Int32)), .val (.int (v2_5 p0 p1 p2 p3 p4 p5)), .unset] []))
                  refine OGo.st (fun _ k => XS.iload X8.here hx rfl (hb hby d2_227) rfl k) ?_
                  show OGo p e below s _ _ _ (T8.setTop (mkF m 229 #[.val (.int p0), .val (.int p1), .val (.int p2), .val (.int p3), .val (.int p4), .val (.int p5), .val (.int (4 : Int32)), .val (.int (v2_5 p0 p1 p2 p3 p4 p5)), .unset] [(.int (v2_5 p0 p1 p2 p3 p4 p5))]))
                  refine OGo.st (fun _ k => X8.ldcInt hx hown (mvT hZ (hw _ (List.mem_of_getElem? (i := 16) rfl))) (g := (mkF m 229 #[.val (.int p0), .val (.int p1), .val (.int p2), .val (.int p3), .val (.int p4), .val (.int p5), .val (.int (4 : Int32)), .val (.int (v2_5 p0 p1 p2 p3 p4 p5)), .unset] [(.int (v2_5 p0 p1 p2 p3 p4 p5))])) rfl (hb hby d2_229) _ k) ?_
                  show OGo p e below s _ _ _ (T8.setTop (mkF m 231 #[.val (.int p0), .val (.int p1), .val (.int p2), .val (.int p3), .val (.int p4), .val (.int p5), .val (.int (4 : Int32)), .val (.int (v2_5 p0 p1 p2 p3 p4 p5)), .unset] [(.int (1114111 : Int32)), (.int (v2_5 p0 p1 p2 p3 p4 p5))]))
                  by_cases hc231 : (1114111 : Int32) < (v2_5 p0 p1 p2 p3 p4 p5)
                  · refine OGo.st (fun _ k => XS.icmpYes X8.here hx rfl (pc0 := 231) (pc' := 238) rfl (hb hby d2_231) rfl (tlt hc231).2.2.1 (by decide) (by decide) k) ?_
                    show OGo p e below s _ _ _ (T8.setTop (mkF m 238 #[.val (.int p0), .val (.int p1), .val (.int p2), .val (.int p3), .val (.int p4), .val (.int p5), .val (.int (4 : Int32)), .val (.int (v2_5 p0 p1 p2 p3 p4 p5)), .unset] []))
                    refine OGo.st (fun _ k => XS.iconst X8.here hx rfl (hb hby d2_238) k) ?_
                    show OGo p e below s _ _ _ (T8.setTop (mkF m 239 #[.val (.int p0), .val (.int p1), .val (.int p2), .val (.int p3), .val (.int p4), .val (.int p5), .val (.int (4 : Int32)), .val (.int (v2_5 p0 p1 p2 p3 p4 p5)), .unset] [(.int (0 : Int32))]))
                    exact hj239 (0 : Int32) (by unfold f2; exact (if_neg hc8).trans ((if_neg hc31).trans ((if_pos hc54).trans ((if_neg hc78).trans ((if_neg hc87).trans ((if_neg hc114).trans ((if_neg hc141).trans ((if_neg hc224).trans (if_pos hc231)))))))))
                  · refine OGo.st (fun _ k => XS.icmpNo X8.here hx rfl (hb hby d2_231) rfl (flt hc231).2.2.1 k) ?_
                    show OGo p e below s _ _ _ (T8.setTop (mkF m 234 #[.val (.int p0), .val (.int p1), .val (.int p2), .val (.int p3), .val (.int p4), .val (.int p5), .val (.int (4 : Int32)), .val (.int (v2_5 p0 p1 p2 p3 p4 p5)), .unset] []))
                    refine OGo.st (fun _ k => XS.iconst X8.here hx rfl (hb hby d2_234) k) ?_
                    show OGo p e below s _ _ _ (T8.setTop (mkF m 235 #[.val (.int p0), .val (.int p1), .val (.int p2), .val (.int p3), .val (.int p4), .val (.int p5), .val (.int (4 : Int32)), .val (.int (v2_5 p0 p1 p2 p3 p4 p5)), .unset] [(.int (1 : Int32))]))
                    refine OGo.st (fun _ k => XS.goto X8.here hx rfl (pc0 := 235) (pc' := 239) rfl (hb hby d2_235) (by decide) (by decide) k) ?_
                    show OGo p e below s _ _ _ (T8.setTop (mkF m 239 #[.val (.int p0), .val (.int p1), .val (.int p2), .val (.int p3), .val (.int p4), .val (.int p5), .val (.int (4 : Int32)), .val (.int (v2_5 p0 p1 p2 p3 p4 p5)), .unset] [(.int (1 : Int32))]))
                    exact hj239 (1 : Int32) (by unfold f2; exact (if_neg hc8).trans ((if_neg hc31).trans ((if_pos hc54).trans ((if_neg hc78).trans ((if_neg hc87).trans ((if_neg hc114).trans ((if_neg hc141).trans ((if_neg hc224).trans (if_neg hc231)))))))))
      · refine OGo.st (fun _ k => XS.icmpYes X0.here hx rfl (pc0 := 54) (pc' := 69) rfl (hb hby d2_54) rfl (feq hc54).2 (by decide) (by decide) k) ?_
        show OGo p e below s _ _ _ (s₁.setTop (mkF m 69 #[.val (.int p0), .val (.int p1), .val (.int p2), .val (.int p3), .val (.int p4), .val (.int p5), .unset, .unset, .unset] []))
        refine OGo.st (fun _ k => XS.iconst X0.here hx rfl (hb hby d2_69) k) ?_
        show OGo p e below s _ _ _ (s₁.setTop (mkF m 70 #[.val (.int p0), .val (.int p1), .val (.int p2), .val (.int p3), .val (.int p4), .val (.int p5), .unset, .unset, .unset] [(.int (-1 : Int32))]))
        exact oretI X0 hx Bd.notSynchronized Bd.returns (hb hby d2_70) e0 ⟨(congrArg (fun z => some (Value.int z)) (show (-1 : Int32) = f2 p0 p1 p2 p3 p4 p5 from Eq.symm (by unfold f2; exact (if_neg hc8).trans ((if_neg hc31).trans (if_neg hc54))))), N0, rfl⟩ (by decide) (by decide)
theorem d1_0 : decode prog_44_method_6_code 0 = .ok (.aload_n 0, 1) := by decide +kernel
theorem d1_1 : decode prog_44_method_6_code 1 = .ok (.iload_n 1, 1) := by decide +kernel
theorem d1_2 : decode prog_44_method_6_code 2 = .ok (.baload, 1) := by decide +kernel
theorem d1_3 : decode prog_44_method_6_code 3 = .ok (.sipush 255, 3) := by decide +kernel
theorem d1_6 : decode prog_44_method_6_code 6 = .ok (.iand, 1) := by decide +kernel
theorem d1_7 : decode prog_44_method_6_code 7 = .ok (.istore_n 3, 1) := by decide +kernel
theorem d1_8 : decode prog_44_method_6_code 8 = .ok (.sipush 128, 3) := by decide +kernel
theorem d1_11 : decode prog_44_method_6_code 11 = .ok (.istore 4, 2) := by decide +kernel
theorem d1_13 : decode prog_44_method_6_code 13 = .ok (.sipush 191, 3) := by decide +kernel
theorem d1_16 : decode prog_44_method_6_code 16 = .ok (.istore 5, 2) := by decide +kernel
theorem d1_18 : decode prog_44_method_6_code 18 = .ok (.iload_n 3, 1) := by decide +kernel
theorem d1_19 : decode prog_44_method_6_code 19 = .ok (.sipush 194, 3) := by decide +kernel
theorem d1_22 : decode prog_44_method_6_code 22 = .ok (.if_icmp .lt 16, 3) := by decide +kernel
theorem d1_25 : decode prog_44_method_6_code 25 = .ok (.iload_n 3, 1) := by decide +kernel
theorem d1_26 : decode prog_44_method_6_code 26 = .ok (.sipush 223, 3) := by decide +kernel
theorem d1_29 : decode prog_44_method_6_code 29 = .ok (.if_icmp .gt 9, 3) := by decide +kernel
theorem d1_32 : decode prog_44_method_6_code 32 = .ok (.iconst 2, 1) := by decide +kernel
theorem d1_33 : decode prog_44_method_6_code 33 = .ok (.istore 6, 2) := by decide +kernel
theorem d1_35 : decode prog_44_method_6_code 35 = .ok (.goto 113, 3) := by decide +kernel
theorem d1_38 : decode prog_44_method_6_code 38 = .ok (.iload_n 3, 1) := by decide +kernel
theorem d1_39 : decode prog_44_method_6_code 39 = .ok (.sipush 224, 3) := by decide +kernel
theorem d1_42 : decode prog_44_method_6_code 42 = .ok (.if_icmp .lt 50, 3) := by decide +kernel
theorem d1_45 : decode prog_44_method_6_code 45 = .ok (.iload_n 3, 1) := by decide +kernel
theorem d1_46 : decode prog_44_method_6_code 46 = .ok (.sipush 239, 3) := by decide +kernel
theorem d1_49 : decode prog_44_method_6_code 49 = .ok (.if_icmp .gt 43, 3) := by decide +kernel
theorem d1_52 : decode prog_44_method_6_code 52 = .ok (.iconst 3, 1) := by decide +kernel
theorem d1_53 : decode prog_44_method_6_code 53 = .ok (.istore 6, 2) := by decide +kernel
theorem d1_55 : decode prog_44_method_6_code 55 = .ok (.iload_n 3, 1) := by decide +kernel
theorem d1_56 : decode prog_44_method_6_code 56 = .ok (.sipush 224, 3) := by decide +kernel
theorem d1_59 : decode prog_44_method_6_code 59 = .ok (.if_icmp .ne 9, 3) := by decide +kernel
theorem d1_62 : decode prog_44_method_6_code 62 = .ok (.sipush 160, 3) := by decide +kernel
theorem d1_65 : decode prog_44_method_6_code 65 = .ok (.goto 5, 3) := by decide +kernel
theorem d1_68 : decode prog_44_method_6_code 68 = .ok (.iload 4, 2) := by decide +kernel
theorem d1_70 : decode prog_44_method_6_code 70 = .ok (.istore 4, 2) := by decide +kernel
theorem d1_72 : decode prog_44_method_6_code 72 = .ok (.iload_n 3, 1) := by decide +kernel
theorem d1_73 : decode prog_44_method_6_code 73 = .ok (.sipush 237, 3) := by decide +kernel
theorem d1_76 : decode prog_44_method_6_code 76 = .ok (.if_icmp .ne 9, 3) := by decide +kernel
theorem d1_79 : decode prog_44_method_6_code 79 = .ok (.sipush 159, 3) := by decide +kernel
theorem d1_82 : decode prog_44_method_6_code 82 = .ok (.goto 5, 3) := by decide +kernel
theorem d1_85 : decode prog_44_method_6_code 85 = .ok (.iload 5, 2) := by decide +kernel
theorem d1_87 : decode prog_44_method_6_code 87 = .ok (.istore 5, 2) := by decide +kernel
theorem d1_89 : decode prog_44_method_6_code 89 = .ok (.goto 59, 3) := by decide +kernel
theorem d1_92 : decode prog_44_method_6_code 92 = .ok (.iload_n 3, 1) := by decide +kernel
theorem d1_93 : decode prog_44_method_6_code 93 = .ok (.sipush 240, 3) := by decide +kernel
theorem d1_96 : decode prog_44_method_6_code 96 = .ok (.if_icmp .lt 50, 3) := by decide +kernel
theorem d1_99 : decode prog_44_method_6_code 99 = .ok (.iload_n 3, 1) := by decide +kernel
theorem d1_100 : decode prog_44_method_6_code 100 = .ok (.sipush 244, 3) := by decide +kernel
theorem d1_103 : decode prog_44_method_6_code 103 = .ok (.if_icmp .gt 43, 3) := by decide +kernel
theorem d1_106 : decode prog_44_method_6_code 106 = .ok (.iconst 4, 1) := by decide +kernel
theorem d1_107 : decode prog_44_method_6_code 107 = .ok (.istore 6, 2) := by decide +kernel
theorem d1_109 : decode prog_44_method_6_code 109 = .ok (.iload_n 3, 1) := by decide +kernel
theorem d1_110 : decode prog_44_method_6_code 110 = .ok (.sipush 240, 3) := by decide +kernel
theorem d1_113 : decode prog_44_method_6_code 113 = .ok (.if_icmp .ne 9, 3) := by decide +kernel
theorem d1_116 : decode prog_44_method_6_code 116 = .ok (.sipush 144, 3) := by decide +kernel
theorem d1_119 : decode prog_44_method_6_code 119 = .ok (.goto 5, 3) := by decide +kernel
theorem d1_122 : decode prog_44_method_6_code 122 = .ok (.iload 4, 2) := by decide +kernel
theorem d1_124 : decode prog_44_method_6_code 124 = .ok (.istore 4, 2) := by decide +kernel
theorem d1_126 : decode prog_44_method_6_code 126 = .ok (.iload_n 3, 1) := by decide +kernel
theorem d1_127 : decode prog_44_method_6_code 127 = .ok (.sipush 244, 3) := by decide +kernel
theorem d1_130 : decode prog_44_method_6_code 130 = .ok (.if_icmp .ne 9, 3) := by decide +kernel
theorem d1_133 : decode prog_44_method_6_code 133 = .ok (.sipush 143, 3) := by decide +kernel
theorem d1_136 : decode prog_44_method_6_code 136 = .ok (.goto 5, 3) := by decide +kernel
theorem d1_139 : decode prog_44_method_6_code 139 = .ok (.iload 5, 2) := by decide +kernel
theorem d1_141 : decode prog_44_method_6_code 141 = .ok (.istore 5, 2) := by decide +kernel
theorem d1_143 : decode prog_44_method_6_code 143 = .ok (.goto 5, 3) := by decide +kernel
theorem d1_146 : decode prog_44_method_6_code 146 = .ok (.iconst (-1), 1) := by decide +kernel
theorem d1_147 : decode prog_44_method_6_code 147 = .ok (.ireturn, 1) := by decide +kernel
theorem d1_148 : decode prog_44_method_6_code 148 = .ok (.iload_n 1, 1) := by decide +kernel
theorem d1_149 : decode prog_44_method_6_code 149 = .ok (.iload 6, 2) := by decide +kernel
theorem d1_151 : decode prog_44_method_6_code 151 = .ok (.iadd, 1) := by decide +kernel
theorem d1_152 : decode prog_44_method_6_code 152 = .ok (.istore 7, 2) := by decide +kernel
theorem d1_154 : decode prog_44_method_6_code 154 = .ok (.iload 7, 2) := by decide +kernel
theorem d1_156 : decode prog_44_method_6_code 156 = .ok (.iload_n 2, 1) := by decide +kernel
theorem d1_157 : decode prog_44_method_6_code 157 = .ok (.if_icmp .le 5, 3) := by decide +kernel
theorem d1_160 : decode prog_44_method_6_code 160 = .ok (.iconst (-1), 1) := by decide +kernel
theorem d1_161 : decode prog_44_method_6_code 161 = .ok (.ireturn, 1) := by decide +kernel
theorem d1_162 : decode prog_44_method_6_code 162 = .ok (.aload_n 0, 1) := by decide +kernel
theorem d1_163 : decode prog_44_method_6_code 163 = .ok (.iload_n 1, 1) := by decide +kernel
theorem d1_164 : decode prog_44_method_6_code 164 = .ok (.iconst 1, 1) := by decide +kernel
theorem d1_165 : decode prog_44_method_6_code 165 = .ok (.iadd, 1) := by decide +kernel
theorem d1_166 : decode prog_44_method_6_code 166 = .ok (.baload, 1) := by decide +kernel
theorem d1_167 : decode prog_44_method_6_code 167 = .ok (.sipush 255, 3) := by decide +kernel
theorem d1_170 : decode prog_44_method_6_code 170 = .ok (.iand, 1) := by decide +kernel
theorem d1_171 : decode prog_44_method_6_code 171 = .ok (.istore 8, 2) := by decide +kernel
theorem d1_173 : decode prog_44_method_6_code 173 = .ok (.iload 8, 2) := by decide +kernel
theorem d1_175 : decode prog_44_method_6_code 175 = .ok (.iload 4, 2) := by decide +kernel
theorem d1_177 : decode prog_44_method_6_code 177 = .ok (.if_icmp .lt 10, 3) := by decide +kernel
theorem d1_180 : decode prog_44_method_6_code 180 = .ok (.iload 8, 2) := by decide +kernel
theorem d1_182 : decode prog_44_method_6_code 182 = .ok (.iload 5, 2) := by decide +kernel
theorem d1_184 : decode prog_44_method_6_code 184 = .ok (.if_icmp .le 5, 3) := by decide +kernel
theorem d1_187 : decode prog_44_method_6_code 187 = .ok (.iconst (-1), 1) := by decide +kernel
theorem d1_188 : decode prog_44_method_6_code 188 = .ok (.ireturn, 1) := by decide +kernel
theorem d1_189 : decode prog_44_method_6_code 189 = .ok (.iload_n 1, 1) := by decide +kernel
theorem d1_190 : decode prog_44_method_6_code 190 = .ok (.iconst 2, 1) := by decide +kernel
theorem d1_191 : decode prog_44_method_6_code 191 = .ok (.iadd, 1) := by decide +kernel
theorem d1_192 : decode prog_44_method_6_code 192 = .ok (.istore 9, 2) := by decide +kernel
theorem d1_194 : decode prog_44_method_6_code 194 = .ok (.iload 9, 2) := by decide +kernel
theorem d1_196 : decode prog_44_method_6_code 196 = .ok (.iload 7, 2) := by decide +kernel
theorem d1_198 : decode prog_44_method_6_code 198 = .ok (.if_icmp .ge 25, 3) := by decide +kernel
theorem d1_201 : decode prog_44_method_6_code 201 = .ok (.aload_n 0, 1) := by decide +kernel
theorem d1_202 : decode prog_44_method_6_code 202 = .ok (.iload 9, 2) := by decide +kernel
theorem d1_204 : decode prog_44_method_6_code 204 = .ok (.baload, 1) := by decide +kernel
theorem d1_205 : decode prog_44_method_6_code 205 = .ok (.sipush 192, 3) := by decide +kernel
theorem d1_208 : decode prog_44_method_6_code 208 = .ok (.iand, 1) := by decide +kernel
theorem d1_209 : decode prog_44_method_6_code 209 = .ok (.sipush 128, 3) := by decide +kernel
theorem d1_212 : decode prog_44_method_6_code 212 = .ok (.if_icmp .eq 5, 3) := by decide +kernel
theorem d1_215 : decode prog_44_method_6_code 215 = .ok (.iconst (-1), 1) := by decide +kernel
theorem d1_216 : decode prog_44_method_6_code 216 = .ok (.ireturn, 1) := by decide +kernel
theorem d1_217 : decode prog_44_method_6_code 217 = .ok (.iinc 9 1, 3) := by decide +kernel
theorem d1_220 : decode prog_44_method_6_code 220 = .ok (.goto (-26), 3) := by decide +kernel
theorem d1_223 : decode prog_44_method_6_code 223 = .ok (.iload 7, 2) := by decide +kernel
theorem d1_225 : decode prog_44_method_6_code 225 = .ok (.ireturn, 1) := by decide +kernel
theorem pn_1 : plainName "com/example/evbind/evbind/Utf8" = true := by first | (simp [plainName, overriddenIn]; done) | decide +kernel
theorem ef_1L0 (m : MethodId) (o0 : Addr) (p2 : Int32) : entryFrame m #[(.ref o0), (.int (0 : Int32)), (.int p2)] 10 = mkF m 0 #[.val (.ref o0), .val (.int (0 : Int32)), .val (.int p2), .unset, .unset, .unset, .unset, .unset, .unset, .unset] [] := by first | (simp [entryFrame, mkF, argsToLocals, Value.category]; done) | rfl
def f1L0_141 (p2 : Int32) (x0 : Int32) (x1 : Int32) (x2 : Int32) (x3 : Int32) (j124_0 : Int32) (j141_0 : Int32) : Int32 := (if p2 < (4 : Int32) then (-1 : Int32) else (if (x1 &&& (255 : Int32)) < j124_0 then (-1 : Int32) else (if j141_0 < (x1 &&& (255 : Int32)) then (-1 : Int32) else (if (x2 &&& (192 : Int32)) = (128 : Int32) then (if (x3 &&& (192 : Int32)) = (128 : Int32) then (4 : Int32) else (-1 : Int32)) else (-1 : Int32)))))
def f1L0_124 (p2 : Int32) (x0 : Int32) (x1 : Int32) (x2 : Int32) (x3 : Int32) (j124_0 : Int32) : Int32 := (if (x0 &&& (255 : Int32)) = (244 : Int32) then (f1L0_141 p2 x0 x1 x2 x3 j124_0 (143 : Int32)) else (f1L0_141 p2 x0 x1 x2 x3 j124_0 (191 : Int32)))
def f1L0_87 (p2 : Int32) (x0 : Int32) (x1 : Int32) (x2 : Int32) (x3 : Int32) (j70_0 : Int32) (j87_0 : Int32) : Int32 := (if p2 < (3 : Int32) then (-1 : Int32) else (if (x1 &&& (255 : Int32)) < j70_0 then (-1 : Int32) else (if j87_0 < (x1 &&& (255 : Int32)) then (-1 : Int32) else (if (x2 &&& (192 : Int32)) = (128 : Int32) then (3 : Int32) else (-1 : Int32)))))
def f1L0_70 (p2 : Int32) (x0 : Int32) (x1 : Int32) (x2 : Int32) (x3 : Int32) (j70_0 : Int32) : Int32 := (if (x0 &&& (255 : Int32)) = (237 : Int32) then (f1L0_87 p2 x0 x1 x2 x3 j70_0 (159 : Int32)) else (f1L0_87 p2 x0 x1 x2 x3 j70_0 (191 : Int32)))
def f1L0 (p2 : Int32) (x0 : Int32) (x1 : Int32) (x2 : Int32) (x3 : Int32) : Int32 := (if (x0 &&& (255 : Int32)) < (194 : Int32) then (-1 : Int32) else (if (223 : Int32) < (x0 &&& (255 : Int32)) then (if (239 : Int32) < (x0 &&& (255 : Int32)) then (if (244 : Int32) < (x0 &&& (255 : Int32)) then (-1 : Int32) else (if (x0 &&& (255 : Int32)) = (240 : Int32) then (f1L0_124 p2 x0 x1 x2 x3 (144 : Int32)) else (f1L0_124 p2 x0 x1 x2 x3 (128 : Int32)))) else (if (x0 &&& (255 : Int32)) = (224 : Int32) then (f1L0_70 p2 x0 x1 x2 x3 (160 : Int32)) else (f1L0_70 p2 x0 x1 x2 x3 (128 : Int32)))) else (if p2 < (2 : Int32) then (-1 : Int32) else (if (x1 &&& (255 : Int32)) < (128 : Int32) then (-1 : Int32) else (if (191 : Int32) < (x1 &&& (255 : Int32)) then (-1 : Int32) else (2 : Int32))))))
def Q1L0 (Z : State) (o0 : Addr) (p2 : Int32) (k_o0 : ClassId) (x0 : Int32) (x1 : Int32) (x2 : Int32) (x3 : Int32) (x4 : Int32) (x5 : Int32) (h0 : Heap) (n0 : Nat) (v : Option Value) (h : Heap) (L : List Loc) : Prop := v = some (.int (f1L0 p2 x0 x1 x2 x3)) ∧ Fr n0 L ∧ h = h0
set_option maxRecDepth 65536 in
set_option maxHeartbeats 40000000 in
theorem rm1L0 (l : Launch) (Z : State) (a0 : Array Value) (hw : ∀ d ∈ tables_1, d.before a0 Z = true) (ws : List Jvm.Cond) (o0 : Addr) (p2 : Int32) (k_o0 : ClassId) (x0 : Int32) (x1 : Int32) (x2 : Int32) (x3 : Int32) (x4 : Int32) (x5 : Int32) (h0 : Heap) (n0 : Nat) (Z0 : n0 ≤ h0.size) (V_o0 : Arv Z h0 o0 k_o0 .byte (6 : Int32) [(.int x0), (.int x1), (.int x2), (.int x3), (.int x4), (.int x5)] (.int (0 : Int32))) :
    MetFree l (⟨"com/example/evbind/evbind/Utf8", "sequenceEnd", "([BII)I"⟩ : MethodName) (head1 (Jvm.Cond.code (⟨"com/example/evbind/evbind/Utf8", "sequenceEnd", "([BII)I"⟩ : MethodName) prog_44_method_6_code 10 (some .int) :: ws) ({ frames := 0, cells := 0, slots := 0, locals := 0 } : Room)) (fun a U => a = #[(.ref o0), (.int (0 : Int32)), (.int p2)] ∧ Z.Warmed39 U.vm ∧ U.heap = h0) (fun _ _ _ _ _ => True) (fun _ U o U' => ∃ v L, o = .returned v ∧ Q1L0 Z o0 p2 k_o0 x0 x1 x2 x3 x4 x5 h0 n0 v U'.heap L ∧ FrameEnd U o U' L ({ frames := 0, cells := 0, slots := 0, locals := 0 } : Room).cells ({ frames := 0, cells := 0, slots := 0, locals := 0 } : Room).slots) := by
  refine MetFree.of_bodySF (plainFor_of_name pn_1) hisR ?_
  intro p e s m args below meth c s₁ Bd hml0 hP hK
  obtain ⟨rfl, hZ, hh⟩ := hP
  have hx := Bd.exec
  have hby := Bd.bytes
  have hml : c.maxLocals = 10 := hml0
  have hown : s.vm.findClass "com/example/evbind/evbind/Utf8" = some m.cls := findClass_of_methodNamed Bd.named
  have hnm := (name_of_methodNamed Bd.named Bd.method).1
  have X0 : Stand p l e ({ frames := 0, cells := 0, slots := 0, locals := 0 } : Room) s m #[(.ref o0), (.int (0 : Int32)), (.int p2)] below meth c s₁ [] 0 0 := Stand.of_body Bd
  have e0 : s₁.heap = h0 := by rw [← hh, Bd.state]; rfl
  have N0 := Fr.nil n0
  show OGo p e below s (Q1L0 Z o0 p2 k_o0 x0 x1 x2 x3 x4 x5 h0 n0) ({ frames := 0, cells := 0, slots := 0, locals := 0 } : Room).cells ({ frames := 0, cells := 0, slots := 0, locals := 0 } : Room).slots _
  refine OGo.st (fun _ k => castTop (ef_1L0 m o0 p2) k) ?_
  show OGo p e below s _ _ _ (s₁.setTop (mkF m 0 #[.val (.ref o0), .val (.int (0 : Int32)), .val (.int p2), .unset, .unset, .unset, .unset, .unset, .unset, .unset] []))
  refine OGo.st (fun _ k => XS.aloadN X0.here hx rfl (hb hby d1_0) rfl rfl k) ?_
  show OGo p e below s _ _ _ (s₁.setTop (mkF m 1 #[.val (.ref o0), .val (.int (0 : Int32)), .val (.int p2), .unset, .unset, .unset, .unset, .unset, .unset, .unset] [(.ref o0)]))
  refine OGo.st (fun _ k => XS.iloadN X0.here hx rfl (hb hby d1_1) rfl k) ?_
  show OGo p e below s _ _ _ (s₁.setTop (mkF m 2 #[.val (.ref o0), .val (.int (0 : Int32)), .val (.int p2), .unset, .unset, .unset, .unset, .unset, .unset, .unset] [(.int (0 : Int32)), (.ref o0)]))
  obtain ⟨cl1, Ar1, q1, Sz1, Nn1, Hs1, Gs1⟩ := id V_o0
  have hin1 : ¬ ((0 : Int32) < 0 ∨ cl1.slots.size ≤ ((0 : Int32)).toNatClampNeg) := inb_of Sz1 ⟨by decide, by decide⟩
  have hat1 : cl1.slots[((0 : Int32)).toNatClampNeg]? = some (.int x0) := Hs1.at hin1 rfl
  refine OGo.st (fun _ k => X0.baloadBytes hx (j := (0 : Int32)) (v := (.int x0)) (by rw [e0]; exact Ar1.1) (State.isArrayOf_alike hZ.alike Ar1.2.1) Ar1.2.2 hin1 hat1 (g := (mkF m 2 #[.val (.ref o0), .val (.int (0 : Int32)), .val (.int p2), .unset, .unset, .unset, .unset, .unset, .unset, .unset] [(.int (0 : Int32)), (.ref o0)])) rfl rfl (hb hby d1_2) _ k) ?_
  show OGo p e below s _ _ _ (s₁.setTop (mkF m 3 #[.val (.ref o0), .val (.int (0 : Int32)), .val (.int p2), .unset, .unset, .unset, .unset, .unset, .unset, .unset] [(.int x0)]))
  refine OGo.st (fun _ k => XS.sipush X0.here hx rfl (hb hby d1_3) k) ?_
  show OGo p e below s _ _ _ (s₁.setTop (mkF m 6 #[.val (.ref o0), .val (.int (0 : Int32)), .val (.int p2), .unset, .unset, .unset, .unset, .unset, .unset, .unset] [(.int (255 : Int32)), (.int x0)]))
  refine OGo.st (fun _ k => XS.iand X0.here hx rfl (hb hby d1_6) rfl k) ?_
  show OGo p e below s _ _ _ (s₁.setTop (mkF m 7 #[.val (.ref o0), .val (.int (0 : Int32)), .val (.int p2), .unset, .unset, .unset, .unset, .unset, .unset, .unset] [(.int (x0 &&& (255 : Int32)))]))
  refine OGo.st (fun _ k => XS.istoreN X0.here hx rfl (hb hby d1_7) rfl (l' := #[.val (.ref o0), .val (.int (0 : Int32)), .val (.int p2), .val (.int (x0 &&& (255 : Int32))), .unset, .unset, .unset, .unset, .unset, .unset]) rfl k) ?_
  show OGo p e below s _ _ _ (s₁.setTop (mkF m 8 #[.val (.ref o0), .val (.int (0 : Int32)), .val (.int p2), .val (.int (x0 &&& (255 : Int32))), .unset, .unset, .unset, .unset, .unset, .unset] []))
  refine OGo.st (fun _ k => XS.sipush X0.here hx rfl (hb hby d1_8) k) ?_
  show OGo p e below s _ _ _ (s₁.setTop (mkF m 11 #[.val (.ref o0), .val (.int (0 : Int32)), .val (.int p2), .val (.int (x0 &&& (255 : Int32))), .unset, .unset, .unset, .unset, .unset, .unset] [(.int (128 : Int32))]))
  refine OGo.st (fun _ k => XS.istore X0.here hx rfl (hb hby d1_11) rfl (l' := #[.val (.ref o0), .val (.int (0 : Int32)), .val (.int p2), .val (.int (x0 &&& (255 : Int32))), .val (.int (128 : Int32)), .unset, .unset, .unset, .unset, .unset]) rfl k) ?_
  show OGo p e below s _ _ _ (s₁.setTop (mkF m 13 #[.val (.ref o0), .val (.int (0 : Int32)), .val (.int p2), .val (.int (x0 &&& (255 : Int32))), .val (.int (128 : Int32)), .unset, .unset, .unset, .unset, .unset] []))
  refine OGo.st (fun _ k => XS.sipush X0.here hx rfl (hb hby d1_13) k) ?_
  show OGo p e below s _ _ _ (s₁.setTop (mkF m 16 #[.val (.ref o0), .val (.int (0 : Int32)), .val (.int p2), .val (.int (x0 &&& (255 : Int32))), .val (.int (128 : Int32)), .unset, .unset, .unset, .unset, .unset] [(.int (191 : Int32))]))
  refine OGo.st (fun _ k => XS.istore X0.here hx rfl (hb hby d1_16) rfl (l' := #[.val (.ref o0), .val (.int (0 : Int32)), .val (.int p2), .val (.int (x0 &&& (255 : Int32))), .val (.int (128 : Int32)), .val (.int (191 : Int32)), .unset, .unset, .unset, .unset]) rfl k) ?_
  show OGo p e below s _ _ _ (s₁.setTop (mkF m 18 #[.val (.ref o0), .val (.int (0 : Int32)), .val (.int p2), .val (.int (x0 &&& (255 : Int32))), .val (.int (128 : Int32)), .val (.int (191 : Int32)), .unset, .unset, .unset, .unset] []))
  refine OGo.st (fun _ k => XS.iloadN X0.here hx rfl (hb hby d1_18) rfl k) ?_
  show OGo p e below s _ _ _ (s₁.setTop (mkF m 19 #[.val (.ref o0), .val (.int (0 : Int32)), .val (.int p2), .val (.int (x0 &&& (255 : Int32))), .val (.int (128 : Int32)), .val (.int (191 : Int32)), .unset, .unset, .unset, .unset] [(.int (x0 &&& (255 : Int32)))]))
  refine OGo.st (fun _ k => XS.sipush X0.here hx rfl (hb hby d1_19) k) ?_
  show OGo p e below s _ _ _ (s₁.setTop (mkF m 22 #[.val (.ref o0), .val (.int (0 : Int32)), .val (.int p2), .val (.int (x0 &&& (255 : Int32))), .val (.int (128 : Int32)), .val (.int (191 : Int32)), .unset, .unset, .unset, .unset] [(.int (194 : Int32)), (.int (x0 &&& (255 : Int32)))]))
  by_cases hc22 : (x0 &&& (255 : Int32)) < (194 : Int32)
  · refine OGo.st (fun _ k => XS.icmpYes X0.here hx rfl (pc0 := 22) (pc' := 38) rfl (hb hby d1_22) rfl (tlt hc22).1 (by decide) (by decide) k) ?_
    show OGo p e below s _ _ _ (s₁.setTop (mkF m 38 #[.val (.ref o0), .val (.int (0 : Int32)), .val (.int p2), .val (.int (x0 &&& (255 : Int32))), .val (.int (128 : Int32)), .val (.int (191 : Int32)), .unset, .unset, .unset, .unset] []))
    refine OGo.st (fun _ k => XS.iloadN X0.here hx rfl (hb hby d1_38) rfl k) ?_
    show OGo p e below s _ _ _ (s₁.setTop (mkF m 39 #[.val (.ref o0), .val (.int (0 : Int32)), .val (.int p2), .val (.int (x0 &&& (255 : Int32))), .val (.int (128 : Int32)), .val (.int (191 : Int32)), .unset, .unset, .unset, .unset] [(.int (x0 &&& (255 : Int32)))]))
    refine OGo.st (fun _ k => XS.sipush X0.here hx rfl (hb hby d1_39) k) ?_
    show OGo p e below s _ _ _ (s₁.setTop (mkF m 42 #[.val (.ref o0), .val (.int (0 : Int32)), .val (.int p2), .val (.int (x0 &&& (255 : Int32))), .val (.int (128 : Int32)), .val (.int (191 : Int32)), .unset, .unset, .unset, .unset] [(.int (224 : Int32)), (.int (x0 &&& (255 : Int32)))]))
    refine OGo.st (fun _ k => XS.icmpYes X0.here hx rfl (pc0 := 42) (pc' := 92) rfl (hb hby d1_42) rfl (tlt (oLL hc22 (by decide))).1 (by decide) (by decide) k) ?_
    show OGo p e below s _ _ _ (s₁.setTop (mkF m 92 #[.val (.ref o0), .val (.int (0 : Int32)), .val (.int p2), .val (.int (x0 &&& (255 : Int32))), .val (.int (128 : Int32)), .val (.int (191 : Int32)), .unset, .unset, .unset, .unset] []))
    refine OGo.st (fun _ k => XS.iloadN X0.here hx rfl (hb hby d1_92) rfl k) ?_
    show OGo p e below s _ _ _ (s₁.setTop (mkF m 93 #[.val (.ref o0), .val (.int (0 : Int32)), .val (.int p2), .val (.int (x0 &&& (255 : Int32))), .val (.int (128 : Int32)), .val (.int (191 : Int32)), .unset, .unset, .unset, .unset] [(.int (x0 &&& (255 : Int32)))]))
    refine OGo.st (fun _ k => XS.sipush X0.here hx rfl (hb hby d1_93) k) ?_
    show OGo p e below s _ _ _ (s₁.setTop (mkF m 96 #[.val (.ref o0), .val (.int (0 : Int32)), .val (.int p2), .val (.int (x0 &&& (255 : Int32))), .val (.int (128 : Int32)), .val (.int (191 : Int32)), .unset, .unset, .unset, .unset] [(.int (240 : Int32)), (.int (x0 &&& (255 : Int32)))]))
    refine OGo.st (fun _ k => XS.icmpYes X0.here hx rfl (pc0 := 96) (pc' := 146) rfl (hb hby d1_96) rfl (tlt (oLL hc22 (by decide))).1 (by decide) (by decide) k) ?_
    show OGo p e below s _ _ _ (s₁.setTop (mkF m 146 #[.val (.ref o0), .val (.int (0 : Int32)), .val (.int p2), .val (.int (x0 &&& (255 : Int32))), .val (.int (128 : Int32)), .val (.int (191 : Int32)), .unset, .unset, .unset, .unset] []))
    refine OGo.st (fun _ k => XS.iconst X0.here hx rfl (hb hby d1_146) k) ?_
    show OGo p e below s _ _ _ (s₁.setTop (mkF m 147 #[.val (.ref o0), .val (.int (0 : Int32)), .val (.int p2), .val (.int (x0 &&& (255 : Int32))), .val (.int (128 : Int32)), .val (.int (191 : Int32)), .unset, .unset, .unset, .unset] [(.int (-1 : Int32))]))
    exact oretI X0 hx Bd.notSynchronized Bd.returns (hb hby d1_147) e0 ⟨(congrArg (fun z => some (Value.int z)) (show (-1 : Int32) = f1L0 p2 x0 x1 x2 x3 from Eq.symm (by unfold f1L0; exact if_pos hc22))), N0, rfl⟩ (by decide) (by decide)
  · refine OGo.st (fun _ k => XS.icmpNo X0.here hx rfl (hb hby d1_22) rfl (flt hc22).1 k) ?_
    show OGo p e below s _ _ _ (s₁.setTop (mkF m 25 #[.val (.ref o0), .val (.int (0 : Int32)), .val (.int p2), .val (.int (x0 &&& (255 : Int32))), .val (.int (128 : Int32)), .val (.int (191 : Int32)), .unset, .unset, .unset, .unset] []))
    refine OGo.st (fun _ k => XS.iloadN X0.here hx rfl (hb hby d1_25) rfl k) ?_
    show OGo p e below s _ _ _ (s₁.setTop (mkF m 26 #[.val (.ref o0), .val (.int (0 : Int32)), .val (.int p2), .val (.int (x0 &&& (255 : Int32))), .val (.int (128 : Int32)), .val (.int (191 : Int32)), .unset, .unset, .unset, .unset] [(.int (x0 &&& (255 : Int32)))]))
    refine OGo.st (fun _ k => XS.sipush X0.here hx rfl (hb hby d1_26) k) ?_
    show OGo p e below s _ _ _ (s₁.setTop (mkF m 29 #[.val (.ref o0), .val (.int (0 : Int32)), .val (.int p2), .val (.int (x0 &&& (255 : Int32))), .val (.int (128 : Int32)), .val (.int (191 : Int32)), .unset, .unset, .unset, .unset] [(.int (223 : Int32)), (.int (x0 &&& (255 : Int32)))]))
    by_cases hc29 : (223 : Int32) < (x0 &&& (255 : Int32))
    · refine OGo.st (fun _ k => XS.icmpYes X0.here hx rfl (pc0 := 29) (pc' := 38) rfl (hb hby d1_29) rfl (tlt hc29).2.2.1 (by decide) (by decide) k) ?_
      show OGo p e below s _ _ _ (s₁.setTop (mkF m 38 #[.val (.ref o0), .val (.int (0 : Int32)), .val (.int p2), .val (.int (x0 &&& (255 : Int32))), .val (.int (128 : Int32)), .val (.int (191 : Int32)), .unset, .unset, .unset, .unset] []))
      refine OGo.st (fun _ k => XS.iloadN X0.here hx rfl (hb hby d1_38) rfl k) ?_
      show OGo p e below s _ _ _ (s₁.setTop (mkF m 39 #[.val (.ref o0), .val (.int (0 : Int32)), .val (.int p2), .val (.int (x0 &&& (255 : Int32))), .val (.int (128 : Int32)), .val (.int (191 : Int32)), .unset, .unset, .unset, .unset] [(.int (x0 &&& (255 : Int32)))]))
      refine OGo.st (fun _ k => XS.sipush X0.here hx rfl (hb hby d1_39) k) ?_
      show OGo p e below s _ _ _ (s₁.setTop (mkF m 42 #[.val (.ref o0), .val (.int (0 : Int32)), .val (.int p2), .val (.int (x0 &&& (255 : Int32))), .val (.int (128 : Int32)), .val (.int (191 : Int32)), .unset, .unset, .unset, .unset] [(.int (224 : Int32)), (.int (x0 &&& (255 : Int32)))]))
      refine OGo.st (fun _ k => XS.icmpNo X0.here hx rfl (hb hby d1_42) rfl (flt (oGnL hc29 (by decide))).1 k) ?_
      show OGo p e below s _ _ _ (s₁.setTop (mkF m 45 #[.val (.ref o0), .val (.int (0 : Int32)), .val (.int p2), .val (.int (x0 &&& (255 : Int32))), .val (.int (128 : Int32)), .val (.int (191 : Int32)), .unset, .unset, .unset, .unset] []))
      refine OGo.st (fun _ k => XS.iloadN X0.here hx rfl (hb hby d1_45) rfl k) ?_
      show OGo p e below s _ _ _ (s₁.setTop (mkF m 46 #[.val (.ref o0), .val (.int (0 : Int32)), .val (.int p2), .val (.int (x0 &&& (255 : Int32))), .val (.int (128 : Int32)), .val (.int (191 : Int32)), .unset, .unset, .unset, .unset] [(.int (x0 &&& (255 : Int32)))]))
      refine OGo.st (fun _ k => XS.sipush X0.here hx rfl (hb hby d1_46) k) ?_
      show OGo p e below s _ _ _ (s₁.setTop (mkF m 49 #[.val (.ref o0), .val (.int (0 : Int32)), .val (.int p2), .val (.int (x0 &&& (255 : Int32))), .val (.int (128 : Int32)), .val (.int (191 : Int32)), .unset, .unset, .unset, .unset] [(.int (239 : Int32)), (.int (x0 &&& (255 : Int32)))]))
      by_cases hc49 : (239 : Int32) < (x0 &&& (255 : Int32))
      · refine OGo.st (fun _ k => XS.icmpYes X0.here hx rfl (pc0 := 49) (pc' := 92) rfl (hb hby d1_49) rfl (tlt hc49).2.2.1 (by decide) (by decide) k) ?_
        show OGo p e below s _ _ _ (s₁.setTop (mkF m 92 #[.val (.ref o0), .val (.int (0 : Int32)), .val (.int p2), .val (.int (x0 &&& (255 : Int32))), .val (.int (128 : Int32)), .val (.int (191 : Int32)), .unset, .unset, .unset, .unset] []))
        refine OGo.st (fun _ k => XS.iloadN X0.here hx rfl (hb hby d1_92) rfl k) ?_
        show OGo p e below s _ _ _ (s₁.setTop (mkF m 93 #[.val (.ref o0), .val (.int (0 : Int32)), .val (.int p2), .val (.int (x0 &&& (255 : Int32))), .val (.int (128 : Int32)), .val (.int (191 : Int32)), .unset, .unset, .unset, .unset] [(.int (x0 &&& (255 : Int32)))]))
        refine OGo.st (fun _ k => XS.sipush X0.here hx rfl (hb hby d1_93) k) ?_
        show OGo p e below s _ _ _ (s₁.setTop (mkF m 96 #[.val (.ref o0), .val (.int (0 : Int32)), .val (.int p2), .val (.int (x0 &&& (255 : Int32))), .val (.int (128 : Int32)), .val (.int (191 : Int32)), .unset, .unset, .unset, .unset] [(.int (240 : Int32)), (.int (x0 &&& (255 : Int32)))]))
        refine OGo.st (fun _ k => XS.icmpNo X0.here hx rfl (hb hby d1_96) rfl (flt (oGnL hc49 (by decide))).1 k) ?_
        show OGo p e below s _ _ _ (s₁.setTop (mkF m 99 #[.val (.ref o0), .val (.int (0 : Int32)), .val (.int p2), .val (.int (x0 &&& (255 : Int32))), .val (.int (128 : Int32)), .val (.int (191 : Int32)), .unset, .unset, .unset, .unset] []))
        refine OGo.st (fun _ k => XS.iloadN X0.here hx rfl (hb hby d1_99) rfl k) ?_
        show OGo p e below s _ _ _ (s₁.setTop (mkF m 100 #[.val (.ref o0), .val (.int (0 : Int32)), .val (.int p2), .val (.int (x0 &&& (255 : Int32))), .val (.int (128 : Int32)), .val (.int (191 : Int32)), .unset, .unset, .unset, .unset] [(.int (x0 &&& (255 : Int32)))]))
        refine OGo.st (fun _ k => XS.sipush X0.here hx rfl (hb hby d1_100) k) ?_
        show OGo p e below s _ _ _ (s₁.setTop (mkF m 103 #[.val (.ref o0), .val (.int (0 : Int32)), .val (.int p2), .val (.int (x0 &&& (255 : Int32))), .val (.int (128 : Int32)), .val (.int (191 : Int32)), .unset, .unset, .unset, .unset] [(.int (244 : Int32)), (.int (x0 &&& (255 : Int32)))]))
        by_cases hc103 : (244 : Int32) < (x0 &&& (255 : Int32))
        · refine OGo.st (fun _ k => XS.icmpYes X0.here hx rfl (pc0 := 103) (pc' := 146) rfl (hb hby d1_103) rfl (tlt hc103).2.2.1 (by decide) (by decide) k) ?_
          show OGo p e below s _ _ _ (s₁.setTop (mkF m 146 #[.val (.ref o0), .val (.int (0 : Int32)), .val (.int p2), .val (.int (x0 &&& (255 : Int32))), .val (.int (128 : Int32)), .val (.int (191 : Int32)), .unset, .unset, .unset, .unset] []))
          refine OGo.st (fun _ k => XS.iconst X0.here hx rfl (hb hby d1_146) k) ?_
          show OGo p e below s _ _ _ (s₁.setTop (mkF m 147 #[.val (.ref o0), .val (.int (0 : Int32)), .val (.int p2), .val (.int (x0 &&& (255 : Int32))), .val (.int (128 : Int32)), .val (.int (191 : Int32)), .unset, .unset, .unset, .unset] [(.int (-1 : Int32))]))
          exact oretI X0 hx Bd.notSynchronized Bd.returns (hb hby d1_147) e0 ⟨(congrArg (fun z => some (Value.int z)) (show (-1 : Int32) = f1L0 p2 x0 x1 x2 x3 from Eq.symm (by unfold f1L0; exact (if_neg hc22).trans ((if_pos hc29).trans ((if_pos hc49).trans (if_pos hc103)))))), N0, rfl⟩ (by decide) (by decide)
        · refine OGo.st (fun _ k => XS.icmpNo X0.here hx rfl (hb hby d1_103) rfl (flt hc103).2.2.1 k) ?_
          show OGo p e below s _ _ _ (s₁.setTop (mkF m 106 #[.val (.ref o0), .val (.int (0 : Int32)), .val (.int p2), .val (.int (x0 &&& (255 : Int32))), .val (.int (128 : Int32)), .val (.int (191 : Int32)), .unset, .unset, .unset, .unset] []))
          refine OGo.st (fun _ k => XS.iconst X0.here hx rfl (hb hby d1_106) k) ?_
          show OGo p e below s _ _ _ (s₁.setTop (mkF m 107 #[.val (.ref o0), .val (.int (0 : Int32)), .val (.int p2), .val (.int (x0 &&& (255 : Int32))), .val (.int (128 : Int32)), .val (.int (191 : Int32)), .unset, .unset, .unset, .unset] [(.int (4 : Int32))]))
          refine OGo.st (fun _ k => XS.istore X0.here hx rfl (hb hby d1_107) rfl (l' := #[.val (.ref o0), .val (.int (0 : Int32)), .val (.int p2), .val (.int (x0 &&& (255 : Int32))), .val (.int (128 : Int32)), .val (.int (191 : Int32)), .val (.int (4 : Int32)), .unset, .unset, .unset]) rfl k) ?_
          show OGo p e below s _ _ _ (s₁.setTop (mkF m 109 #[.val (.ref o0), .val (.int (0 : Int32)), .val (.int p2), .val (.int (x0 &&& (255 : Int32))), .val (.int (128 : Int32)), .val (.int (191 : Int32)), .val (.int (4 : Int32)), .unset, .unset, .unset] []))
          refine OGo.st (fun _ k => XS.iloadN X0.here hx rfl (hb hby d1_109) rfl k) ?_
          show OGo p e below s _ _ _ (s₁.setTop (mkF m 110 #[.val (.ref o0), .val (.int (0 : Int32)), .val (.int p2), .val (.int (x0 &&& (255 : Int32))), .val (.int (128 : Int32)), .val (.int (191 : Int32)), .val (.int (4 : Int32)), .unset, .unset, .unset] [(.int (x0 &&& (255 : Int32)))]))
          refine OGo.st (fun _ k => XS.sipush X0.here hx rfl (hb hby d1_110) k) ?_
          show OGo p e below s _ _ _ (s₁.setTop (mkF m 113 #[.val (.ref o0), .val (.int (0 : Int32)), .val (.int p2), .val (.int (x0 &&& (255 : Int32))), .val (.int (128 : Int32)), .val (.int (191 : Int32)), .val (.int (4 : Int32)), .unset, .unset, .unset] [(.int (240 : Int32)), (.int (x0 &&& (255 : Int32)))]))
          have hj124 : ∀ (j124_0 : Int32) (hf124_0 : f1L0 p2 x0 x1 x2 x3 = f1L0_124 p2 x0 x1 x2 x3 j124_0), OGo p e below s (Q1L0 Z o0 p2 k_o0 x0 x1 x2 x3 x4 x5 h0 n0) ({ frames := 0, cells := 0, slots := 0, locals := 0 } : Room).cells ({ frames := 0, cells := 0, slots := 0, locals := 0 } : Room).slots (s₁.setTop (mkF m 124 #[.val (.ref o0), .val (.int (0 : Int32)), .val (.int p2), .val (.int (x0 &&& (255 : Int32))), .val (.int (128 : Int32)), .val (.int (191 : Int32)), .val (.int (4 : Int32)), .unset, .unset, .unset] [(.int j124_0)])) := by
            intro j124_0 hf124_0
            refine OGo.st (fun _ k => XS.istore X0.here hx rfl (hb hby d1_124) rfl (l' := #[.val (.ref o0), .val (.int (0 : Int32)), .val (.int p2), .val (.int (x0 &&& (255 : Int32))), .val (.int j124_0), .val (.int (191 : Int32)), .val (.int (4 : Int32)), .unset, .unset, .unset]) rfl k) ?_
            show OGo p e below s _ _ _ (s₁.setTop (mkF m 126 #[.val (.ref o0), .val (.int (0 : Int32)), .val (.int p2), .val (.int (x0 &&& (255 : Int32))), .val (.int j124_0), .val (.int (191 : Int32)), .val (.int (4 : Int32)), .unset, .unset, .unset] []))
            refine OGo.st (fun _ k => XS.iloadN X0.here hx rfl (hb hby d1_126) rfl k) ?_
            show OGo p e below s _ _ _ (s₁.setTop (mkF m 127 #[.val (.ref o0), .val (.int (0 : Int32)), .val (.int p2), .val (.int (x0 &&& (255 : Int32))), .val (.int j124_0), .val (.int (191 : Int32)), .val (.int (4 : Int32)), .unset, .unset, .unset] [(.int (x0 &&& (255 : Int32)))]))
            refine OGo.st (fun _ k => XS.sipush X0.here hx rfl (hb hby d1_127) k) ?_
            show OGo p e below s _ _ _ (s₁.setTop (mkF m 130 #[.val (.ref o0), .val (.int (0 : Int32)), .val (.int p2), .val (.int (x0 &&& (255 : Int32))), .val (.int j124_0), .val (.int (191 : Int32)), .val (.int (4 : Int32)), .unset, .unset, .unset] [(.int (244 : Int32)), (.int (x0 &&& (255 : Int32)))]))
            have hj141 : ∀ (j141_0 : Int32) (hf141_0 : f1L0 p2 x0 x1 x2 x3 = f1L0_141 p2 x0 x1 x2 x3 j124_0 j141_0), OGo p e below s (Q1L0 Z o0 p2 k_o0 x0 x1 x2 x3 x4 x5 h0 n0) ({ frames := 0, cells := 0, slots := 0, locals := 0 } : Room).cells ({ frames := 0, cells := 0, slots := 0, locals := 0 } : Room).slots (s₁.setTop (mkF m 141 #[.val (.ref o0), .val (.int (0 : Int32)), .val (.int p2), .val (.int (x0 &&& (255 : Int32))), .val (.int j124_0), .val (.int (191 : Int32)), .val (.int (4 : Int32)), .unset, .unset, .unset] [(.int j141_0)])) := by
              intro j141_0 hf141_0
              refine OGo.st (fun _ k => XS.istore X0.here hx rfl (hb hby d1_141) rfl (l' := #[.val (.ref o0), .val (.int (0 : Int32)), .val (.int p2), .val (.int (x0 &&& (255 : Int32))), .val (.int j124_0), .val (.int j141_0), .val (.int (4 : Int32)), .unset, .unset, .unset]) rfl k) ?_
              show OGo p e below s _ _ _ (s₁.setTop (mkF m 143 #[.val (.ref o0), .val (.int (0 : Int32)), .val (.int p2), .val (.int (x0 &&& (255 : Int32))), .val (.int j124_0), .val (.int j141_0), .val (.int (4 : Int32)), .unset, .unset, .unset] []))
              refine OGo.st (fun _ k => XS.goto X0.here hx rfl (pc0 := 143) (pc' := 148) rfl (hb hby d1_143) (by decide) (by decide) k) ?_
              show OGo p e below s _ _ _ (s₁.setTop (mkF m 148 #[.val (.ref o0), .val (.int (0 : Int32)), .val (.int p2), .val (.int (x0 &&& (255 : Int32))), .val (.int j124_0), .val (.int j141_0), .val (.int (4 : Int32)), .unset, .unset, .unset] []))
              refine OGo.st (fun _ k => XS.iloadN X0.here hx rfl (hb hby d1_148) rfl k) ?_
              show OGo p e below s _ _ _ (s₁.setTop (mkF m 149 #[.val (.ref o0), .val (.int (0 : Int32)), .val (.int p2), .val (.int (x0 &&& (255 : Int32))), .val (.int j124_0), .val (.int j141_0), .val (.int (4 : Int32)), .unset, .unset, .unset] [(.int (0 : Int32))]))
              refine OGo.st (fun _ k => XS.iload X0.here hx rfl (hb hby d1_149) rfl k) ?_
              show OGo p e below s _ _ _ (s₁.setTop (mkF m 151 #[.val (.ref o0), .val (.int (0 : Int32)), .val (.int p2), .val (.int (x0 &&& (255 : Int32))), .val (.int j124_0), .val (.int j141_0), .val (.int (4 : Int32)), .unset, .unset, .unset] [(.int (4 : Int32)), (.int (0 : Int32))]))
              refine OGo.st (fun _ k => XS.iadd X0.here hx rfl (hb hby d1_151) rfl k) ?_
              rw [show ((0 : Int32) + (4 : Int32)) = (4 : Int32) from by decide]
              show OGo p e below s _ _ _ (s₁.setTop (mkF m 152 #[.val (.ref o0), .val (.int (0 : Int32)), .val (.int p2), .val (.int (x0 &&& (255 : Int32))), .val (.int j124_0), .val (.int j141_0), .val (.int (4 : Int32)), .unset, .unset, .unset] [(.int (4 : Int32))]))
              refine OGo.st (fun _ k => XS.istore X0.here hx rfl (hb hby d1_152) rfl (l' := #[.val (.ref o0), .val (.int (0 : Int32)), .val (.int p2), .val (.int (x0 &&& (255 : Int32))), .val (.int j124_0), .val (.int j141_0), .val (.int (4 : Int32)), .val (.int (4 : Int32)), .unset, .unset]) rfl k) ?_
              show OGo p e below s _ _ _ (s₁.setTop (mkF m 154 #[.val (.ref o0), .val (.int (0 : Int32)), .val (.int p2), .val (.int (x0 &&& (255 : Int32))), .val (.int j124_0), .val (.int j141_0), .val (.int (4 : Int32)), .val (.int (4 : Int32)), .unset, .unset] []))
              refine OGo.st (fun _ k => XS.iload X0.here hx rfl (hb hby d1_154) rfl k) ?_
              show OGo p e below s _ _ _ (s₁.setTop (mkF m 156 #[.val (.ref o0), .val (.int (0 : Int32)), .val (.int p2), .val (.int (x0 &&& (255 : Int32))), .val (.int j124_0), .val (.int j141_0), .val (.int (4 : Int32)), .val (.int (4 : Int32)), .unset, .unset] [(.int (4 : Int32))]))
              refine OGo.st (fun _ k => XS.iloadN X0.here hx rfl (hb hby d1_156) rfl k) ?_
              show OGo p e below s _ _ _ (s₁.setTop (mkF m 157 #[.val (.ref o0), .val (.int (0 : Int32)), .val (.int p2), .val (.int (x0 &&& (255 : Int32))), .val (.int j124_0), .val (.int j141_0), .val (.int (4 : Int32)), .val (.int (4 : Int32)), .unset, .unset] [(.int p2), (.int (4 : Int32))]))
              by_cases hc157 : p2 < (4 : Int32)
              · refine OGo.st (fun _ k => XS.icmpNo X0.here hx rfl (hb hby d1_157) rfl (tlt hc157).2.2.2 k) ?_
                show OGo p e below s _ _ _ (s₁.setTop (mkF m 160 #[.val (.ref o0), .val (.int (0 : Int32)), .val (.int p2), .val (.int (x0 &&& (255 : Int32))), .val (.int j124_0), .val (.int j141_0), .val (.int (4 : Int32)), .val (.int (4 : Int32)), .unset, .unset] []))
                refine OGo.st (fun _ k => XS.iconst X0.here hx rfl (hb hby d1_160) k) ?_
                show OGo p e below s _ _ _ (s₁.setTop (mkF m 161 #[.val (.ref o0), .val (.int (0 : Int32)), .val (.int p2), .val (.int (x0 &&& (255 : Int32))), .val (.int j124_0), .val (.int j141_0), .val (.int (4 : Int32)), .val (.int (4 : Int32)), .unset, .unset] [(.int (-1 : Int32))]))
                exact oretI X0 hx Bd.notSynchronized Bd.returns (hb hby d1_161) e0 ⟨(congrArg (fun z => some (Value.int z)) (show (-1 : Int32) = f1L0 p2 x0 x1 x2 x3 from Eq.symm (hf141_0.trans (by unfold f1L0_141; exact if_pos hc157)))), N0, rfl⟩ (by decide) (by decide)
              · refine OGo.st (fun _ k => XS.icmpYes X0.here hx rfl (pc0 := 157) (pc' := 162) rfl (hb hby d1_157) rfl (flt hc157).2.2.2 (by decide) (by decide) k) ?_
                show OGo p e below s _ _ _ (s₁.setTop (mkF m 162 #[.val (.ref o0), .val (.int (0 : Int32)), .val (.int p2), .val (.int (x0 &&& (255 : Int32))), .val (.int j124_0), .val (.int j141_0), .val (.int (4 : Int32)), .val (.int (4 : Int32)), .unset, .unset] []))
                refine OGo.st (fun _ k => XS.aloadN X0.here hx rfl (hb hby d1_162) rfl rfl k) ?_
                show OGo p e below s _ _ _ (s₁.setTop (mkF m 163 #[.val (.ref o0), .val (.int (0 : Int32)), .val (.int p2), .val (.int (x0 &&& (255 : Int32))), .val (.int j124_0), .val (.int j141_0), .val (.int (4 : Int32)), .val (.int (4 : Int32)), .unset, .unset] [(.ref o0)]))
                refine OGo.st (fun _ k => XS.iloadN X0.here hx rfl (hb hby d1_163) rfl k) ?_
                show OGo p e below s _ _ _ (s₁.setTop (mkF m 164 #[.val (.ref o0), .val (.int (0 : Int32)), .val (.int p2), .val (.int (x0 &&& (255 : Int32))), .val (.int j124_0), .val (.int j141_0), .val (.int (4 : Int32)), .val (.int (4 : Int32)), .unset, .unset] [(.int (0 : Int32)), (.ref o0)]))
                refine OGo.st (fun _ k => XS.iconst X0.here hx rfl (hb hby d1_164) k) ?_
                show OGo p e below s _ _ _ (s₁.setTop (mkF m 165 #[.val (.ref o0), .val (.int (0 : Int32)), .val (.int p2), .val (.int (x0 &&& (255 : Int32))), .val (.int j124_0), .val (.int j141_0), .val (.int (4 : Int32)), .val (.int (4 : Int32)), .unset, .unset] [(.int (1 : Int32)), (.int (0 : Int32)), (.ref o0)]))
                refine OGo.st (fun _ k => XS.iadd X0.here hx rfl (hb hby d1_165) rfl k) ?_
                rw [show ((0 : Int32) + (1 : Int32)) = (1 : Int32) from by decide]
                show OGo p e below s _ _ _ (s₁.setTop (mkF m 166 #[.val (.ref o0), .val (.int (0 : Int32)), .val (.int p2), .val (.int (x0 &&& (255 : Int32))), .val (.int j124_0), .val (.int j141_0), .val (.int (4 : Int32)), .val (.int (4 : Int32)), .unset, .unset] [(.int (1 : Int32)), (.ref o0)]))
                obtain ⟨cl4, Ar4, q4, Sz4, Nn4, Hs4, Gs4⟩ := id V_o0
                have hin4 : ¬ ((1 : Int32) < 0 ∨ cl4.slots.size ≤ ((1 : Int32)).toNatClampNeg) := inb_of Sz4 ⟨by decide, by decide⟩
                have hat4 : cl4.slots[((1 : Int32)).toNatClampNeg]? = some (.int x1) := Hs4.at hin4 rfl
                refine OGo.st (fun _ k => X0.baloadBytes hx (j := (1 : Int32)) (v := (.int x1)) (by rw [e0]; exact Ar4.1) (State.isArrayOf_alike hZ.alike Ar4.2.1) Ar4.2.2 hin4 hat4 (g := (mkF m 166 #[.val (.ref o0), .val (.int (0 : Int32)), .val (.int p2), .val (.int (x0 &&& (255 : Int32))), .val (.int j124_0), .val (.int j141_0), .val (.int (4 : Int32)), .val (.int (4 : Int32)), .unset, .unset] [(.int (1 : Int32)), (.ref o0)])) rfl rfl (hb hby d1_166) _ k) ?_
                show OGo p e below s _ _ _ (s₁.setTop (mkF m 167 #[.val (.ref o0), .val (.int (0 : Int32)), .val (.int p2), .val (.int (x0 &&& (255 : Int32))), .val (.int j124_0), .val (.int j141_0), .val (.int (4 : Int32)), .val (.int (4 : Int32)), .unset, .unset] [(.int x1)]))
                refine OGo.st (fun _ k => XS.sipush X0.here hx rfl (hb hby d1_167) k) ?_
                show OGo p e below s _ _ _ (s₁.setTop (mkF m 170 #[.val (.ref o0), .val (.int (0 : Int32)), .val (.int p2), .val (.int (x0 &&& (255 : Int32))), .val (.int j124_0), .val (.int j141_0), .val (.int (4 : Int32)), .val (.int (4 : Int32)), .unset, .unset] [(.int (255 : Int32)), (.int x1)]))
                refine OGo.st (fun _ k => XS.iand X0.here hx rfl (hb hby d1_170) rfl k) ?_
                show OGo p e below s _ _ _ (s₁.setTop (mkF m 171 #[.val (.ref o0), .val (.int (0 : Int32)), .val (.int p2), .val (.int (x0 &&& (255 : Int32))), .val (.int j124_0), .val (.int j141_0), .val (.int (4 : Int32)), .val (.int (4 : Int32)), .unset, .unset] [(.int (x1 &&& (255 : Int32)))]))
                refine OGo.st (fun _ k => XS.istore X0.here hx rfl (hb hby d1_171) rfl (l' := #[.val (.ref o0), .val (.int (0 : Int32)), .val (.int p2), .val (.int (x0 &&& (255 : Int32))), .val (.int j124_0), .val (.int j141_0), .val (.int (4 : Int32)), .val (.int (4 : Int32)), .val (.int (x1 &&& (255 : Int32))), .unset]) rfl k) ?_
                show OGo p e below s _ _ _ (s₁.setTop (mkF m 173 #[.val (.ref o0), .val (.int (0 : Int32)), .val (.int p2), .val (.int (x0 &&& (255 : Int32))), .val (.int j124_0), .val (.int j141_0), .val (.int (4 : Int32)), .val (.int (4 : Int32)), .val (.int (x1 &&& (255 : Int32))), .unset] []))
                refine OGo.st (fun _ k => XS.iload X0.here hx rfl (hb hby d1_173) rfl k) ?_
                show OGo p e below s _ _ _ (s₁.setTop (mkF m 175 #[.val (.ref o0), .val (.int (0 : Int32)), .val (.int p2), .val (.int (x0 &&& (255 : Int32))), .val (.int j124_0), .val (.int j141_0), .val (.int (4 : Int32)), .val (.int (4 : Int32)), .val (.int (x1 &&& (255 : Int32))), .unset] [(.int (x1 &&& (255 : Int32)))]))
                refine OGo.st (fun _ k => XS.iload X0.here hx rfl (hb hby d1_175) rfl k) ?_
                show OGo p e below s _ _ _ (s₁.setTop (mkF m 177 #[.val (.ref o0), .val (.int (0 : Int32)), .val (.int p2), .val (.int (x0 &&& (255 : Int32))), .val (.int j124_0), .val (.int j141_0), .val (.int (4 : Int32)), .val (.int (4 : Int32)), .val (.int (x1 &&& (255 : Int32))), .unset] [(.int j124_0), (.int (x1 &&& (255 : Int32)))]))
                by_cases hc177 : (x1 &&& (255 : Int32)) < j124_0
                · refine OGo.st (fun _ k => XS.icmpYes X0.here hx rfl (pc0 := 177) (pc' := 187) rfl (hb hby d1_177) rfl (tlt hc177).1 (by decide) (by decide) k) ?_
                  show OGo p e below s _ _ _ (s₁.setTop (mkF m 187 #[.val (.ref o0), .val (.int (0 : Int32)), .val (.int p2), .val (.int (x0 &&& (255 : Int32))), .val (.int j124_0), .val (.int j141_0), .val (.int (4 : Int32)), .val (.int (4 : Int32)), .val (.int (x1 &&& (255 : Int32))), .unset] []))
                  refine OGo.st (fun _ k => XS.iconst X0.here hx rfl (hb hby d1_187) k) ?_
                  show OGo p e below s _ _ _ (s₁.setTop (mkF m 188 #[.val (.ref o0), .val (.int (0 : Int32)), .val (.int p2), .val (.int (x0 &&& (255 : Int32))), .val (.int j124_0), .val (.int j141_0), .val (.int (4 : Int32)), .val (.int (4 : Int32)), .val (.int (x1 &&& (255 : Int32))), .unset] [(.int (-1 : Int32))]))
                  exact oretI X0 hx Bd.notSynchronized Bd.returns (hb hby d1_188) e0 ⟨(congrArg (fun z => some (Value.int z)) (show (-1 : Int32) = f1L0 p2 x0 x1 x2 x3 from Eq.symm (hf141_0.trans (by unfold f1L0_141; exact (if_neg hc157).trans (if_pos hc177))))), N0, rfl⟩ (by decide) (by decide)
                · refine OGo.st (fun _ k => XS.icmpNo X0.here hx rfl (hb hby d1_177) rfl (flt hc177).1 k) ?_
                  show OGo p e below s _ _ _ (s₁.setTop (mkF m 180 #[.val (.ref o0), .val (.int (0 : Int32)), .val (.int p2), .val (.int (x0 &&& (255 : Int32))), .val (.int j124_0), .val (.int j141_0), .val (.int (4 : Int32)), .val (.int (4 : Int32)), .val (.int (x1 &&& (255 : Int32))), .unset] []))
                  refine OGo.st (fun _ k => XS.iload X0.here hx rfl (hb hby d1_180) rfl k) ?_
                  show OGo p e below s _ _ _ (s₁.setTop (mkF m 182 #[.val (.ref o0), .val (.int (0 : Int32)), .val (.int p2), .val (.int (x0 &&& (255 : Int32))), .val (.int j124_0), .val (.int j141_0), .val (.int (4 : Int32)), .val (.int (4 : Int32)), .val (.int (x1 &&& (255 : Int32))), .unset] [(.int (x1 &&& (255 : Int32)))]))
                  refine OGo.st (fun _ k => XS.iload X0.here hx rfl (hb hby d1_182) rfl k) ?_
                  show OGo p e below s _ _ _ (s₁.setTop (mkF m 184 #[.val (.ref o0), .val (.int (0 : Int32)), .val (.int p2), .val (.int (x0 &&& (255 : Int32))), .val (.int j124_0), .val (.int j141_0), .val (.int (4 : Int32)), .val (.int (4 : Int32)), .val (.int (x1 &&& (255 : Int32))), .unset] [(.int j141_0), (.int (x1 &&& (255 : Int32)))]))
                  by_cases hc184 : j141_0 < (x1 &&& (255 : Int32))
                  · refine OGo.st (fun _ k => XS.icmpNo X0.here hx rfl (hb hby d1_184) rfl (tlt hc184).2.2.2 k) ?_
                    show OGo p e below s _ _ _ (s₁.setTop (mkF m 187 #[.val (.ref o0), .val (.int (0 : Int32)), .val (.int p2), .val (.int (x0 &&& (255 : Int32))), .val (.int j124_0), .val (.int j141_0), .val (.int (4 : Int32)), .val (.int (4 : Int32)), .val (.int (x1 &&& (255 : Int32))), .unset] []))
                    refine OGo.st (fun _ k => XS.iconst X0.here hx rfl (hb hby d1_187) k) ?_
                    show OGo p e below s _ _ _ (s₁.setTop (mkF m 188 #[.val (.ref o0), .val (.int (0 : Int32)), .val (.int p2), .val (.int (x0 &&& (255 : Int32))), .val (.int j124_0), .val (.int j141_0), .val (.int (4 : Int32)), .val (.int (4 : Int32)), .val (.int (x1 &&& (255 : Int32))), .unset] [(.int (-1 : Int32))]))
                    exact oretI X0 hx Bd.notSynchronized Bd.returns (hb hby d1_188) e0 ⟨(congrArg (fun z => some (Value.int z)) (show (-1 : Int32) = f1L0 p2 x0 x1 x2 x3 from Eq.symm (hf141_0.trans (by unfold f1L0_141; exact (if_neg hc157).trans ((if_neg hc177).trans (if_pos hc184)))))), N0, rfl⟩ (by decide) (by decide)
                  · refine OGo.st (fun _ k => XS.icmpYes X0.here hx rfl (pc0 := 184) (pc' := 189) rfl (hb hby d1_184) rfl (flt hc184).2.2.2 (by decide) (by decide) k) ?_
                    show OGo p e below s _ _ _ (s₁.setTop (mkF m 189 #[.val (.ref o0), .val (.int (0 : Int32)), .val (.int p2), .val (.int (x0 &&& (255 : Int32))), .val (.int j124_0), .val (.int j141_0), .val (.int (4 : Int32)), .val (.int (4 : Int32)), .val (.int (x1 &&& (255 : Int32))), .unset] []))
                    refine OGo.st (fun _ k => XS.iloadN X0.here hx rfl (hb hby d1_189) rfl k) ?_
                    show OGo p e below s _ _ _ (s₁.setTop (mkF m 190 #[.val (.ref o0), .val (.int (0 : Int32)), .val (.int p2), .val (.int (x0 &&& (255 : Int32))), .val (.int j124_0), .val (.int j141_0), .val (.int (4 : Int32)), .val (.int (4 : Int32)), .val (.int (x1 &&& (255 : Int32))), .unset] [(.int (0 : Int32))]))
                    refine OGo.st (fun _ k => XS.iconst X0.here hx rfl (hb hby d1_190) k) ?_
                    show OGo p e below s _ _ _ (s₁.setTop (mkF m 191 #[.val (.ref o0), .val (.int (0 : Int32)), .val (.int p2), .val (.int (x0 &&& (255 : Int32))), .val (.int j124_0), .val (.int j141_0), .val (.int (4 : Int32)), .val (.int (4 : Int32)), .val (.int (x1 &&& (255 : Int32))), .unset] [(.int (2 : Int32)), (.int (0 : Int32))]))
                    refine OGo.st (fun _ k => XS.iadd X0.here hx rfl (hb hby d1_191) rfl k) ?_
                    rw [show ((0 : Int32) + (2 : Int32)) = (2 : Int32) from by decide]
                    show OGo p e below s _ _ _ (s₁.setTop (mkF m 192 #[.val (.ref o0), .val (.int (0 : Int32)), .val (.int p2), .val (.int (x0 &&& (255 : Int32))), .val (.int j124_0), .val (.int j141_0), .val (.int (4 : Int32)), .val (.int (4 : Int32)), .val (.int (x1 &&& (255 : Int32))), .unset] [(.int (2 : Int32))]))
                    refine OGo.st (fun _ k => XS.istore X0.here hx rfl (hb hby d1_192) rfl (l' := #[.val (.ref o0), .val (.int (0 : Int32)), .val (.int p2), .val (.int (x0 &&& (255 : Int32))), .val (.int j124_0), .val (.int j141_0), .val (.int (4 : Int32)), .val (.int (4 : Int32)), .val (.int (x1 &&& (255 : Int32))), .val (.int (2 : Int32))]) rfl k) ?_
                    show OGo p e below s _ _ _ (s₁.setTop (mkF m 194 #[.val (.ref o0), .val (.int (0 : Int32)), .val (.int p2), .val (.int (x0 &&& (255 : Int32))), .val (.int j124_0), .val (.int j141_0), .val (.int (4 : Int32)), .val (.int (4 : Int32)), .val (.int (x1 &&& (255 : Int32))), .val (.int (2 : Int32))] []))
                    refine OGo.st (fun _ k => XS.iload X0.here hx rfl (hb hby d1_194) rfl k) ?_
                    show OGo p e below s _ _ _ (s₁.setTop (mkF m 196 #[.val (.ref o0), .val (.int (0 : Int32)), .val (.int p2), .val (.int (x0 &&& (255 : Int32))), .val (.int j124_0), .val (.int j141_0), .val (.int (4 : Int32)), .val (.int (4 : Int32)), .val (.int (x1 &&& (255 : Int32))), .val (.int (2 : Int32))] [(.int (2 : Int32))]))
                    refine OGo.st (fun _ k => XS.iload X0.here hx rfl (hb hby d1_196) rfl k) ?_
                    show OGo p e below s _ _ _ (s₁.setTop (mkF m 198 #[.val (.ref o0), .val (.int (0 : Int32)), .val (.int p2), .val (.int (x0 &&& (255 : Int32))), .val (.int j124_0), .val (.int j141_0), .val (.int (4 : Int32)), .val (.int (4 : Int32)), .val (.int (x1 &&& (255 : Int32))), .val (.int (2 : Int32))] [(.int (4 : Int32)), (.int (2 : Int32))]))
                    refine OGo.st (fun _ k => XS.icmpNo X0.here hx rfl (hb hby d1_198) rfl (tlt (by decide : (2 : Int32) < (4 : Int32))).2.1 k) ?_
                    show OGo p e below s _ _ _ (s₁.setTop (mkF m 201 #[.val (.ref o0), .val (.int (0 : Int32)), .val (.int p2), .val (.int (x0 &&& (255 : Int32))), .val (.int j124_0), .val (.int j141_0), .val (.int (4 : Int32)), .val (.int (4 : Int32)), .val (.int (x1 &&& (255 : Int32))), .val (.int (2 : Int32))] []))
                    refine OGo.st (fun _ k => XS.aloadN X0.here hx rfl (hb hby d1_201) rfl rfl k) ?_
                    show OGo p e below s _ _ _ (s₁.setTop (mkF m 202 #[.val (.ref o0), .val (.int (0 : Int32)), .val (.int p2), .val (.int (x0 &&& (255 : Int32))), .val (.int j124_0), .val (.int j141_0), .val (.int (4 : Int32)), .val (.int (4 : Int32)), .val (.int (x1 &&& (255 : Int32))), .val (.int (2 : Int32))] [(.ref o0)]))
                    refine OGo.st (fun _ k => XS.iload X0.here hx rfl (hb hby d1_202) rfl k) ?_
                    show OGo p e below s _ _ _ (s₁.setTop (mkF m 204 #[.val (.ref o0), .val (.int (0 : Int32)), .val (.int p2), .val (.int (x0 &&& (255 : Int32))), .val (.int j124_0), .val (.int j141_0), .val (.int (4 : Int32)), .val (.int (4 : Int32)), .val (.int (x1 &&& (255 : Int32))), .val (.int (2 : Int32))] [(.int (2 : Int32)), (.ref o0)]))
                    obtain ⟨cl5, Ar5, q5, Sz5, Nn5, Hs5, Gs5⟩ := id V_o0
                    have hin5 : ¬ ((2 : Int32) < 0 ∨ cl5.slots.size ≤ ((2 : Int32)).toNatClampNeg) := inb_of Sz5 ⟨by decide, by decide⟩
                    have hat5 : cl5.slots[((2 : Int32)).toNatClampNeg]? = some (.int x2) := Hs5.at hin5 rfl
                    refine OGo.st (fun _ k => X0.baloadBytes hx (j := (2 : Int32)) (v := (.int x2)) (by rw [e0]; exact Ar5.1) (State.isArrayOf_alike hZ.alike Ar5.2.1) Ar5.2.2 hin5 hat5 (g := (mkF m 204 #[.val (.ref o0), .val (.int (0 : Int32)), .val (.int p2), .val (.int (x0 &&& (255 : Int32))), .val (.int j124_0), .val (.int j141_0), .val (.int (4 : Int32)), .val (.int (4 : Int32)), .val (.int (x1 &&& (255 : Int32))), .val (.int (2 : Int32))] [(.int (2 : Int32)), (.ref o0)])) rfl rfl (hb hby d1_204) _ k) ?_
                    show OGo p e below s _ _ _ (s₁.setTop (mkF m 205 #[.val (.ref o0), .val (.int (0 : Int32)), .val (.int p2), .val (.int (x0 &&& (255 : Int32))), .val (.int j124_0), .val (.int j141_0), .val (.int (4 : Int32)), .val (.int (4 : Int32)), .val (.int (x1 &&& (255 : Int32))), .val (.int (2 : Int32))] [(.int x2)]))
                    refine OGo.st (fun _ k => XS.sipush X0.here hx rfl (hb hby d1_205) k) ?_
                    show OGo p e below s _ _ _ (s₁.setTop (mkF m 208 #[.val (.ref o0), .val (.int (0 : Int32)), .val (.int p2), .val (.int (x0 &&& (255 : Int32))), .val (.int j124_0), .val (.int j141_0), .val (.int (4 : Int32)), .val (.int (4 : Int32)), .val (.int (x1 &&& (255 : Int32))), .val (.int (2 : Int32))] [(.int (192 : Int32)), (.int x2)]))
                    refine OGo.st (fun _ k => XS.iand X0.here hx rfl (hb hby d1_208) rfl k) ?_
                    show OGo p e below s _ _ _ (s₁.setTop (mkF m 209 #[.val (.ref o0), .val (.int (0 : Int32)), .val (.int p2), .val (.int (x0 &&& (255 : Int32))), .val (.int j124_0), .val (.int j141_0), .val (.int (4 : Int32)), .val (.int (4 : Int32)), .val (.int (x1 &&& (255 : Int32))), .val (.int (2 : Int32))] [(.int (x2 &&& (192 : Int32)))]))
                    refine OGo.st (fun _ k => XS.sipush X0.here hx rfl (hb hby d1_209) k) ?_
                    show OGo p e below s _ _ _ (s₁.setTop (mkF m 212 #[.val (.ref o0), .val (.int (0 : Int32)), .val (.int p2), .val (.int (x0 &&& (255 : Int32))), .val (.int j124_0), .val (.int j141_0), .val (.int (4 : Int32)), .val (.int (4 : Int32)), .val (.int (x1 &&& (255 : Int32))), .val (.int (2 : Int32))] [(.int (128 : Int32)), (.int (x2 &&& (192 : Int32)))]))
                    by_cases hc212 : (x2 &&& (192 : Int32)) = (128 : Int32)
                    · refine OGo.st (fun _ k => XS.icmpYes X0.here hx rfl (pc0 := 212) (pc' := 217) rfl (hb hby d1_212) rfl (teq hc212).1 (by decide) (by decide) k) ?_
                      show OGo p e below s _ _ _ (s₁.setTop (mkF m 217 #[.val (.ref o0), .val (.int (0 : Int32)), .val (.int p2), .val (.int (x0 &&& (255 : Int32))), .val (.int j124_0), .val (.int j141_0), .val (.int (4 : Int32)), .val (.int (4 : Int32)), .val (.int (x1 &&& (255 : Int32))), .val (.int (2 : Int32))] []))
                      refine OGo.st (fun _ k => XS.iinc X0.here hx rfl (hb hby d1_217) rfl (l' := #[.val (.ref o0), .val (.int (0 : Int32)), .val (.int p2), .val (.int (x0 &&& (255 : Int32))), .val (.int j124_0), .val (.int j141_0), .val (.int (4 : Int32)), .val (.int (4 : Int32)), .val (.int (x1 &&& (255 : Int32))), .val (.int (3 : Int32))]) rfl k) ?_
                      show OGo p e below s _ _ _ (s₁.setTop (mkF m 220 #[.val (.ref o0), .val (.int (0 : Int32)), .val (.int p2), .val (.int (x0 &&& (255 : Int32))), .val (.int j124_0), .val (.int j141_0), .val (.int (4 : Int32)), .val (.int (4 : Int32)), .val (.int (x1 &&& (255 : Int32))), .val (.int (3 : Int32))] []))
                      refine OGo.st (fun _ k => XS.goto X0.here hx rfl (pc0 := 220) (pc' := 194) rfl (hb hby d1_220) (by decide) (by decide) k) ?_
                      show OGo p e below s _ _ _ (s₁.setTop (mkF m 194 #[.val (.ref o0), .val (.int (0 : Int32)), .val (.int p2), .val (.int (x0 &&& (255 : Int32))), .val (.int j124_0), .val (.int j141_0), .val (.int (4 : Int32)), .val (.int (4 : Int32)), .val (.int (x1 &&& (255 : Int32))), .val (.int (3 : Int32))] []))
                      refine OGo.st (fun _ k => XS.iload X0.here hx rfl (hb hby d1_194) rfl k) ?_
                      show OGo p e below s _ _ _ (s₁.setTop (mkF m 196 #[.val (.ref o0), .val (.int (0 : Int32)), .val (.int p2), .val (.int (x0 &&& (255 : Int32))), .val (.int j124_0), .val (.int j141_0), .val (.int (4 : Int32)), .val (.int (4 : Int32)), .val (.int (x1 &&& (255 : Int32))), .val (.int (3 : Int32))] [(.int (3 : Int32))]))
                      refine OGo.st (fun _ k => XS.iload X0.here hx rfl (hb hby d1_196) rfl k) ?_
                      show OGo p e below s _ _ _ (s₁.setTop (mkF m 198 #[.val (.ref o0), .val (.int (0 : Int32)), .val (.int p2), .val (.int (x0 &&& (255 : Int32))), .val (.int j124_0), .val (.int j141_0), .val (.int (4 : Int32)), .val (.int (4 : Int32)), .val (.int (x1 &&& (255 : Int32))), .val (.int (3 : Int32))] [(.int (4 : Int32)), (.int (3 : Int32))]))
                      refine OGo.st (fun _ k => XS.icmpNo X0.here hx rfl (hb hby d1_198) rfl (tlt (by decide : (3 : Int32) < (4 : Int32))).2.1 k) ?_
                      show OGo p e below s _ _ _ (s₁.setTop (mkF m 201 #[.val (.ref o0), .val (.int (0 : Int32)), .val (.int p2), .val (.int (x0 &&& (255 : Int32))), .val (.int j124_0), .val (.int j141_0), .val (.int (4 : Int32)), .val (.int (4 : Int32)), .val (.int (x1 &&& (255 : Int32))), .val (.int (3 : Int32))] []))
                      refine OGo.st (fun _ k => XS.aloadN X0.here hx rfl (hb hby d1_201) rfl rfl k) ?_
                      show OGo p e below s _ _ _ (s₁.setTop (mkF m 202 #[.val (.ref o0), .val (.int (0 : Int32)), .val (.int p2), .val (.int (x0 &&& (255 : Int32))), .val (.int j124_0), .val (.int j141_0), .val (.int (4 : Int32)), .val (.int (4 : Int32)), .val (.int (x1 &&& (255 : Int32))), .val (.int (3 : Int32))] [(.ref o0)]))
                      refine OGo.st (fun _ k => XS.iload X0.here hx rfl (hb hby d1_202) rfl k) ?_
                      show OGo p e below s _ _ _ (s₁.setTop (mkF m 204 #[.val (.ref o0), .val (.int (0 : Int32)), .val (.int p2), .val (.int (x0 &&& (255 : Int32))), .val (.int j124_0), .val (.int j141_0), .val (.int (4 : Int32)), .val (.int (4 : Int32)), .val (.int (x1 &&& (255 : Int32))), .val (.int (3 : Int32))] [(.int (3 : Int32)), (.ref o0)]))
                      obtain ⟨cl6, Ar6, q6, Sz6, Nn6, Hs6, Gs6⟩ := id V_o0
                      have hin6 : ¬ ((3 : Int32) < 0 ∨ cl6.slots.size ≤ ((3 : Int32)).toNatClampNeg) := inb_of Sz6 ⟨by decide, by decide⟩
                      have hat6 : cl6.slots[((3 : Int32)).toNatClampNeg]? = some (.int x3) := Hs6.at hin6 rfl
                      refine OGo.st (fun _ k => X0.baloadBytes hx (j := (3 : Int32)) (v := (.int x3)) (by rw [e0]; exact Ar6.1) (State.isArrayOf_alike hZ.alike Ar6.2.1) Ar6.2.2 hin6 hat6 (g := (mkF m 204 #[.val (.ref o0), .val (.int (0 : Int32)), .val (.int p2), .val (.int (x0 &&& (255 : Int32))), .val (.int j124_0), .val (.int j141_0), .val (.int (4 : Int32)), .val (.int (4 : Int32)), .val (.int (x1 &&& (255 : Int32))), .val (.int (3 : Int32))] [(.int (3 : Int32)), (.ref o0)])) rfl rfl (hb hby d1_204) _ k) ?_
                      show OGo p e below s _ _ _ (s₁.setTop (mkF m 205 #[.val (.ref o0), .val (.int (0 : Int32)), .val (.int p2), .val (.int (x0 &&& (255 : Int32))), .val (.int j124_0), .val (.int j141_0), .val (.int (4 : Int32)), .val (.int (4 : Int32)), .val (.int (x1 &&& (255 : Int32))), .val (.int (3 : Int32))] [(.int x3)]))
                      refine OGo.st (fun _ k => XS.sipush X0.here hx rfl (hb hby d1_205) k) ?_
                      show OGo p e below s _ _ _ (s₁.setTop (mkF m 208 #[.val (.ref o0), .val (.int (0 : Int32)), .val (.int p2), .val (.int (x0 &&& (255 : Int32))), .val (.int j124_0), .val (.int j141_0), .val (.int (4 : Int32)), .val (.int (4 : Int32)), .val (.int (x1 &&& (255 : Int32))), .val (.int (3 : Int32))] [(.int (192 : Int32)), (.int x3)]))
                      refine OGo.st (fun _ k => XS.iand X0.here hx rfl (hb hby d1_208) rfl k) ?_
                      show OGo p e below s _ _ _ (s₁.setTop (mkF m 209 #[.val (.ref o0), .val (.int (0 : Int32)), .val (.int p2), .val (.int (x0 &&& (255 : Int32))), .val (.int j124_0), .val (.int j141_0), .val (.int (4 : Int32)), .val (.int (4 : Int32)), .val (.int (x1 &&& (255 : Int32))), .val (.int (3 : Int32))] [(.int (x3 &&& (192 : Int32)))]))
                      refine OGo.st (fun _ k => XS.sipush X0.here hx rfl (hb hby d1_209) k) ?_
                      show OGo p e below s _ _ _ (s₁.setTop (mkF m 212 #[.val (.ref o0), .val (.int (0 : Int32)), .val (.int p2), .val (.int (x0 &&& (255 : Int32))), .val (.int j124_0), .val (.int j141_0), .val (.int (4 : Int32)), .val (.int (4 : Int32)), .val (.int (x1 &&& (255 : Int32))), .val (.int (3 : Int32))] [(.int (128 : Int32)), (.int (x3 &&& (192 : Int32)))]))
                      by_cases hc212_2 : (x3 &&& (192 : Int32)) = (128 : Int32)
                      · refine OGo.st (fun _ k => XS.icmpYes X0.here hx rfl (pc0 := 212) (pc' := 217) rfl (hb hby d1_212) rfl (teq hc212_2).1 (by decide) (by decide) k) ?_
                        show OGo p e below s _ _ _ (s₁.setTop (mkF m 217 #[.val (.ref o0), .val (.int (0 : Int32)), .val (.int p2), .val (.int (x0 &&& (255 : Int32))), .val (.int j124_0), .val (.int j141_0), .val (.int (4 : Int32)), .val (.int (4 : Int32)), .val (.int (x1 &&& (255 : Int32))), .val (.int (3 : Int32))] []))
                        refine OGo.st (fun _ k => XS.iinc X0.here hx rfl (hb hby d1_217) rfl (l' := #[.val (.ref o0), .val (.int (0 : Int32)), .val (.int p2), .val (.int (x0 &&& (255 : Int32))), .val (.int j124_0), .val (.int j141_0), .val (.int (4 : Int32)), .val (.int (4 : Int32)), .val (.int (x1 &&& (255 : Int32))), .val (.int (4 : Int32))]) rfl k) ?_
                        show OGo p e below s _ _ _ (s₁.setTop (mkF m 220 #[.val (.ref o0), .val (.int (0 : Int32)), .val (.int p2), .val (.int (x0 &&& (255 : Int32))), .val (.int j124_0), .val (.int j141_0), .val (.int (4 : Int32)), .val (.int (4 : Int32)), .val (.int (x1 &&& (255 : Int32))), .val (.int (4 : Int32))] []))
                        refine OGo.st (fun _ k => XS.goto X0.here hx rfl (pc0 := 220) (pc' := 194) rfl (hb hby d1_220) (by decide) (by decide) k) ?_
                        show OGo p e below s _ _ _ (s₁.setTop (mkF m 194 #[.val (.ref o0), .val (.int (0 : Int32)), .val (.int p2), .val (.int (x0 &&& (255 : Int32))), .val (.int j124_0), .val (.int j141_0), .val (.int (4 : Int32)), .val (.int (4 : Int32)), .val (.int (x1 &&& (255 : Int32))), .val (.int (4 : Int32))] []))
                        refine OGo.st (fun _ k => XS.iload X0.here hx rfl (hb hby d1_194) rfl k) ?_
                        show OGo p e below s _ _ _ (s₁.setTop (mkF m 196 #[.val (.ref o0), .val (.int (0 : Int32)), .val (.int p2), .val (.int (x0 &&& (255 : Int32))), .val (.int j124_0), .val (.int j141_0), .val (.int (4 : Int32)), .val (.int (4 : Int32)), .val (.int (x1 &&& (255 : Int32))), .val (.int (4 : Int32))] [(.int (4 : Int32))]))
                        refine OGo.st (fun _ k => XS.iload X0.here hx rfl (hb hby d1_196) rfl k) ?_
                        show OGo p e below s _ _ _ (s₁.setTop (mkF m 198 #[.val (.ref o0), .val (.int (0 : Int32)), .val (.int p2), .val (.int (x0 &&& (255 : Int32))), .val (.int j124_0), .val (.int j141_0), .val (.int (4 : Int32)), .val (.int (4 : Int32)), .val (.int (x1 &&& (255 : Int32))), .val (.int (4 : Int32))] [(.int (4 : Int32)), (.int (4 : Int32))]))
                        refine OGo.st (fun _ k => XS.icmpYes X0.here hx rfl (pc0 := 198) (pc' := 223) rfl (hb hby d1_198) rfl (flt (by decide : ¬ ((4 : Int32) < (4 : Int32)))).2.1 (by decide) (by decide) k) ?_
                        show OGo p e below s _ _ _ (s₁.setTop (mkF m 223 #[.val (.ref o0), .val (.int (0 : Int32)), .val (.int p2), .val (.int (x0 &&& (255 : Int32))), .val (.int j124_0), .val (.int j141_0), .val (.int (4 : Int32)), .val (.int (4 : Int32)), .val (.int (x1 &&& (255 : Int32))), .val (.int (4 : Int32))] []))
                        refine OGo.st (fun _ k => XS.iload X0.here hx rfl (hb hby d1_223) rfl k) ?_
                        show OGo p e below s _ _ _ (s₁.setTop (mkF m 225 #[.val (.ref o0), .val (.int (0 : Int32)), .val (.int p2), .val (.int (x0 &&& (255 : Int32))), .val (.int j124_0), .val (.int j141_0), .val (.int (4 : Int32)), .val (.int (4 : Int32)), .val (.int (x1 &&& (255 : Int32))), .val (.int (4 : Int32))] [(.int (4 : Int32))]))
                        exact oretI X0 hx Bd.notSynchronized Bd.returns (hb hby d1_225) e0 ⟨(congrArg (fun z => some (Value.int z)) (show (4 : Int32) = f1L0 p2 x0 x1 x2 x3 from Eq.symm (hf141_0.trans (by unfold f1L0_141; exact (if_neg hc157).trans ((if_neg hc177).trans ((if_neg hc184).trans ((if_pos hc212).trans (if_pos hc212_2)))))))), N0, rfl⟩ (by decide) (by decide)
                      · refine OGo.st (fun _ k => XS.icmpNo X0.here hx rfl (hb hby d1_212) rfl (feq hc212_2).1 k) ?_
                        show OGo p e below s _ _ _ (s₁.setTop (mkF m 215 #[.val (.ref o0), .val (.int (0 : Int32)), .val (.int p2), .val (.int (x0 &&& (255 : Int32))), .val (.int j124_0), .val (.int j141_0), .val (.int (4 : Int32)), .val (.int (4 : Int32)), .val (.int (x1 &&& (255 : Int32))), .val (.int (3 : Int32))] []))
                        refine OGo.st (fun _ k => XS.iconst X0.here hx rfl (hb hby d1_215) k) ?_
                        show OGo p e below s _ _ _ (s₁.setTop (mkF m 216 #[.val (.ref o0), .val (.int (0 : Int32)), .val (.int p2), .val (.int (x0 &&& (255 : Int32))), .val (.int j124_0), .val (.int j141_0), .val (.int (4 : Int32)), .val (.int (4 : Int32)), .val (.int (x1 &&& (255 : Int32))), .val (.int (3 : Int32))] [(.int (-1 : Int32))]))
                        exact oretI X0 hx Bd.notSynchronized Bd.returns (hb hby d1_216) e0 ⟨(congrArg (fun z => some (Value.int z)) (show (-1 : Int32) = f1L0 p2 x0 x1 x2 x3 from Eq.symm (hf141_0.trans (by unfold f1L0_141; exact (if_neg hc157).trans ((if_neg hc177).trans ((if_neg hc184).trans ((if_pos hc212).trans (if_neg hc212_2)))))))), N0, rfl⟩ (by decide) (by decide)
                    · refine OGo.st (fun _ k => XS.icmpNo X0.here hx rfl (hb hby d1_212) rfl (feq hc212).1 k) ?_
                      show OGo p e below s _ _ _ (s₁.setTop (mkF m 215 #[.val (.ref o0), .val (.int (0 : Int32)), .val (.int p2), .val (.int (x0 &&& (255 : Int32))), .val (.int j124_0), .val (.int j141_0), .val (.int (4 : Int32)), .val (.int (4 : Int32)), .val (.int (x1 &&& (255 : Int32))), .val (.int (2 : Int32))] []))
                      refine OGo.st (fun _ k => XS.iconst X0.here hx rfl (hb hby d1_215) k) ?_
                      show OGo p e below s _ _ _ (s₁.setTop (mkF m 216 #[.val (.ref o0), .val (.int (0 : Int32)), .val (.int p2), .val (.int (x0 &&& (255 : Int32))), .val (.int j124_0), .val (.int j141_0), .val (.int (4 : Int32)), .val (.int (4 : Int32)), .val (.int (x1 &&& (255 : Int32))), .val (.int (2 : Int32))] [(.int (-1 : Int32))]))
                      exact oretI X0 hx Bd.notSynchronized Bd.returns (hb hby d1_216) e0 ⟨(congrArg (fun z => some (Value.int z)) (show (-1 : Int32) = f1L0 p2 x0 x1 x2 x3 from Eq.symm (hf141_0.trans (by unfold f1L0_141; exact (if_neg hc157).trans ((if_neg hc177).trans ((if_neg hc184).trans (if_neg hc212))))))), N0, rfl⟩ (by decide) (by decide)
            by_cases hc130 : (x0 &&& (255 : Int32)) = (244 : Int32)
            · refine OGo.st (fun _ k => XS.icmpNo X0.here hx rfl (hb hby d1_130) rfl (teq hc130).2 k) ?_
              show OGo p e below s _ _ _ (s₁.setTop (mkF m 133 #[.val (.ref o0), .val (.int (0 : Int32)), .val (.int p2), .val (.int (x0 &&& (255 : Int32))), .val (.int j124_0), .val (.int (191 : Int32)), .val (.int (4 : Int32)), .unset, .unset, .unset] []))
              refine OGo.st (fun _ k => XS.sipush X0.here hx rfl (hb hby d1_133) k) ?_
              show OGo p e below s _ _ _ (s₁.setTop (mkF m 136 #[.val (.ref o0), .val (.int (0 : Int32)), .val (.int p2), .val (.int (x0 &&& (255 : Int32))), .val (.int j124_0), .val (.int (191 : Int32)), .val (.int (4 : Int32)), .unset, .unset, .unset] [(.int (143 : Int32))]))
              refine OGo.st (fun _ k => XS.goto X0.here hx rfl (pc0 := 136) (pc' := 141) rfl (hb hby d1_136) (by decide) (by decide) k) ?_
              show OGo p e below s _ _ _ (s₁.setTop (mkF m 141 #[.val (.ref o0), .val (.int (0 : Int32)), .val (.int p2), .val (.int (x0 &&& (255 : Int32))), .val (.int j124_0), .val (.int (191 : Int32)), .val (.int (4 : Int32)), .unset, .unset, .unset] [(.int (143 : Int32))]))
              exact hj141 (143 : Int32) (hf124_0.trans (by unfold f1L0_124; exact if_pos hc130))
            · refine OGo.st (fun _ k => XS.icmpYes X0.here hx rfl (pc0 := 130) (pc' := 139) rfl (hb hby d1_130) rfl (feq hc130).2 (by decide) (by decide) k) ?_
              show OGo p e below s _ _ _ (s₁.setTop (mkF m 139 #[.val (.ref o0), .val (.int (0 : Int32)), .val (.int p2), .val (.int (x0 &&& (255 : Int32))), .val (.int j124_0), .val (.int (191 : Int32)), .val (.int (4 : Int32)), .unset, .unset, .unset] []))
              refine OGo.st (fun _ k => XS.iload X0.here hx rfl (hb hby d1_139) rfl k) ?_
              show OGo p e below s _ _ _ (s₁.setTop (mkF m 141 #[.val (.ref o0), .val (.int (0 : Int32)), .val (.int p2), .val (.int (x0 &&& (255 : Int32))), .val (.int j124_0), .val (.int (191 : Int32)), .val (.int (4 : Int32)), .unset, .unset, .unset] [(.int (191 : Int32))]))
              exact hj141 (191 : Int32) (hf124_0.trans (by unfold f1L0_124; exact if_neg hc130))
          by_cases hc113 : (x0 &&& (255 : Int32)) = (240 : Int32)
          · refine OGo.st (fun _ k => XS.icmpNo X0.here hx rfl (hb hby d1_113) rfl (teq hc113).2 k) ?_
            show OGo p e below s _ _ _ (s₁.setTop (mkF m 116 #[.val (.ref o0), .val (.int (0 : Int32)), .val (.int p2), .val (.int (x0 &&& (255 : Int32))), .val (.int (128 : Int32)), .val (.int (191 : Int32)), .val (.int (4 : Int32)), .unset, .unset, .unset] []))
            refine OGo.st (fun _ k => XS.sipush X0.here hx rfl (hb hby d1_116) k) ?_
            show OGo p e below s _ _ _ (s₁.setTop (mkF m 119 #[.val (.ref o0), .val (.int (0 : Int32)), .val (.int p2), .val (.int (x0 &&& (255 : Int32))), .val (.int (128 : Int32)), .val (.int (191 : Int32)), .val (.int (4 : Int32)), .unset, .unset, .unset] [(.int (144 : Int32))]))
            refine OGo.st (fun _ k => XS.goto X0.here hx rfl (pc0 := 119) (pc' := 124) rfl (hb hby d1_119) (by decide) (by decide) k) ?_
            show OGo p e below s _ _ _ (s₁.setTop (mkF m 124 #[.val (.ref o0), .val (.int (0 : Int32)), .val (.int p2), .val (.int (x0 &&& (255 : Int32))), .val (.int (128 : Int32)), .val (.int (191 : Int32)), .val (.int (4 : Int32)), .unset, .unset, .unset] [(.int (144 : Int32))]))
            exact hj124 (144 : Int32) (by unfold f1L0; exact (if_neg hc22).trans ((if_pos hc29).trans ((if_pos hc49).trans ((if_neg hc103).trans (if_pos hc113)))))
          · refine OGo.st (fun _ k => XS.icmpYes X0.here hx rfl (pc0 := 113) (pc' := 122) rfl (hb hby d1_113) rfl (feq hc113).2 (by decide) (by decide) k) ?_
            show OGo p e below s _ _ _ (s₁.setTop (mkF m 122 #[.val (.ref o0), .val (.int (0 : Int32)), .val (.int p2), .val (.int (x0 &&& (255 : Int32))), .val (.int (128 : Int32)), .val (.int (191 : Int32)), .val (.int (4 : Int32)), .unset, .unset, .unset] []))
            refine OGo.st (fun _ k => XS.iload X0.here hx rfl (hb hby d1_122) rfl k) ?_
            show OGo p e below s _ _ _ (s₁.setTop (mkF m 124 #[.val (.ref o0), .val (.int (0 : Int32)), .val (.int p2), .val (.int (x0 &&& (255 : Int32))), .val (.int (128 : Int32)), .val (.int (191 : Int32)), .val (.int (4 : Int32)), .unset, .unset, .unset] [(.int (128 : Int32))]))
            exact hj124 (128 : Int32) (by unfold f1L0; exact (if_neg hc22).trans ((if_pos hc29).trans ((if_pos hc49).trans ((if_neg hc103).trans (if_neg hc113)))))
      · refine OGo.st (fun _ k => XS.icmpNo X0.here hx rfl (hb hby d1_49) rfl (flt hc49).2.2.1 k) ?_
        show OGo p e below s _ _ _ (s₁.setTop (mkF m 52 #[.val (.ref o0), .val (.int (0 : Int32)), .val (.int p2), .val (.int (x0 &&& (255 : Int32))), .val (.int (128 : Int32)), .val (.int (191 : Int32)), .unset, .unset, .unset, .unset] []))
        refine OGo.st (fun _ k => XS.iconst X0.here hx rfl (hb hby d1_52) k) ?_
        show OGo p e below s _ _ _ (s₁.setTop (mkF m 53 #[.val (.ref o0), .val (.int (0 : Int32)), .val (.int p2), .val (.int (x0 &&& (255 : Int32))), .val (.int (128 : Int32)), .val (.int (191 : Int32)), .unset, .unset, .unset, .unset] [(.int (3 : Int32))]))
        refine OGo.st (fun _ k => XS.istore X0.here hx rfl (hb hby d1_53) rfl (l' := #[.val (.ref o0), .val (.int (0 : Int32)), .val (.int p2), .val (.int (x0 &&& (255 : Int32))), .val (.int (128 : Int32)), .val (.int (191 : Int32)), .val (.int (3 : Int32)), .unset, .unset, .unset]) rfl k) ?_
        show OGo p e below s _ _ _ (s₁.setTop (mkF m 55 #[.val (.ref o0), .val (.int (0 : Int32)), .val (.int p2), .val (.int (x0 &&& (255 : Int32))), .val (.int (128 : Int32)), .val (.int (191 : Int32)), .val (.int (3 : Int32)), .unset, .unset, .unset] []))
        refine OGo.st (fun _ k => XS.iloadN X0.here hx rfl (hb hby d1_55) rfl k) ?_
        show OGo p e below s _ _ _ (s₁.setTop (mkF m 56 #[.val (.ref o0), .val (.int (0 : Int32)), .val (.int p2), .val (.int (x0 &&& (255 : Int32))), .val (.int (128 : Int32)), .val (.int (191 : Int32)), .val (.int (3 : Int32)), .unset, .unset, .unset] [(.int (x0 &&& (255 : Int32)))]))
        refine OGo.st (fun _ k => XS.sipush X0.here hx rfl (hb hby d1_56) k) ?_
        show OGo p e below s _ _ _ (s₁.setTop (mkF m 59 #[.val (.ref o0), .val (.int (0 : Int32)), .val (.int p2), .val (.int (x0 &&& (255 : Int32))), .val (.int (128 : Int32)), .val (.int (191 : Int32)), .val (.int (3 : Int32)), .unset, .unset, .unset] [(.int (224 : Int32)), (.int (x0 &&& (255 : Int32)))]))
        have hj70 : ∀ (j70_0 : Int32) (hf70_0 : f1L0 p2 x0 x1 x2 x3 = f1L0_70 p2 x0 x1 x2 x3 j70_0), OGo p e below s (Q1L0 Z o0 p2 k_o0 x0 x1 x2 x3 x4 x5 h0 n0) ({ frames := 0, cells := 0, slots := 0, locals := 0 } : Room).cells ({ frames := 0, cells := 0, slots := 0, locals := 0 } : Room).slots (s₁.setTop (mkF m 70 #[.val (.ref o0), .val (.int (0 : Int32)), .val (.int p2), .val (.int (x0 &&& (255 : Int32))), .val (.int (128 : Int32)), .val (.int (191 : Int32)), .val (.int (3 : Int32)), .unset, .unset, .unset] [(.int j70_0)])) := by
          intro j70_0 hf70_0
          refine OGo.st (fun _ k => XS.istore X0.here hx rfl (hb hby d1_70) rfl (l' := #[.val (.ref o0), .val (.int (0 : Int32)), .val (.int p2), .val (.int (x0 &&& (255 : Int32))), .val (.int j70_0), .val (.int (191 : Int32)), .val (.int (3 : Int32)), .unset, .unset, .unset]) rfl k) ?_
          show OGo p e below s _ _ _ (s₁.setTop (mkF m 72 #[.val (.ref o0), .val (.int (0 : Int32)), .val (.int p2), .val (.int (x0 &&& (255 : Int32))), .val (.int j70_0), .val (.int (191 : Int32)), .val (.int (3 : Int32)), .unset, .unset, .unset] []))
          refine OGo.st (fun _ k => XS.iloadN X0.here hx rfl (hb hby d1_72) rfl k) ?_
          show OGo p e below s _ _ _ (s₁.setTop (mkF m 73 #[.val (.ref o0), .val (.int (0 : Int32)), .val (.int p2), .val (.int (x0 &&& (255 : Int32))), .val (.int j70_0), .val (.int (191 : Int32)), .val (.int (3 : Int32)), .unset, .unset, .unset] [(.int (x0 &&& (255 : Int32)))]))
          refine OGo.st (fun _ k => XS.sipush X0.here hx rfl (hb hby d1_73) k) ?_
          show OGo p e below s _ _ _ (s₁.setTop (mkF m 76 #[.val (.ref o0), .val (.int (0 : Int32)), .val (.int p2), .val (.int (x0 &&& (255 : Int32))), .val (.int j70_0), .val (.int (191 : Int32)), .val (.int (3 : Int32)), .unset, .unset, .unset] [(.int (237 : Int32)), (.int (x0 &&& (255 : Int32)))]))
          have hj87 : ∀ (j87_0 : Int32) (hf87_0 : f1L0 p2 x0 x1 x2 x3 = f1L0_87 p2 x0 x1 x2 x3 j70_0 j87_0), OGo p e below s (Q1L0 Z o0 p2 k_o0 x0 x1 x2 x3 x4 x5 h0 n0) ({ frames := 0, cells := 0, slots := 0, locals := 0 } : Room).cells ({ frames := 0, cells := 0, slots := 0, locals := 0 } : Room).slots (s₁.setTop (mkF m 87 #[.val (.ref o0), .val (.int (0 : Int32)), .val (.int p2), .val (.int (x0 &&& (255 : Int32))), .val (.int j70_0), .val (.int (191 : Int32)), .val (.int (3 : Int32)), .unset, .unset, .unset] [(.int j87_0)])) := by
            intro j87_0 hf87_0
            refine OGo.st (fun _ k => XS.istore X0.here hx rfl (hb hby d1_87) rfl (l' := #[.val (.ref o0), .val (.int (0 : Int32)), .val (.int p2), .val (.int (x0 &&& (255 : Int32))), .val (.int j70_0), .val (.int j87_0), .val (.int (3 : Int32)), .unset, .unset, .unset]) rfl k) ?_
            show OGo p e below s _ _ _ (s₁.setTop (mkF m 89 #[.val (.ref o0), .val (.int (0 : Int32)), .val (.int p2), .val (.int (x0 &&& (255 : Int32))), .val (.int j70_0), .val (.int j87_0), .val (.int (3 : Int32)), .unset, .unset, .unset] []))
            refine OGo.st (fun _ k => XS.goto X0.here hx rfl (pc0 := 89) (pc' := 148) rfl (hb hby d1_89) (by decide) (by decide) k) ?_
            show OGo p e below s _ _ _ (s₁.setTop (mkF m 148 #[.val (.ref o0), .val (.int (0 : Int32)), .val (.int p2), .val (.int (x0 &&& (255 : Int32))), .val (.int j70_0), .val (.int j87_0), .val (.int (3 : Int32)), .unset, .unset, .unset] []))
            refine OGo.st (fun _ k => XS.iloadN X0.here hx rfl (hb hby d1_148) rfl k) ?_
            show OGo p e below s _ _ _ (s₁.setTop (mkF m 149 #[.val (.ref o0), .val (.int (0 : Int32)), .val (.int p2), .val (.int (x0 &&& (255 : Int32))), .val (.int j70_0), .val (.int j87_0), .val (.int (3 : Int32)), .unset, .unset, .unset] [(.int (0 : Int32))]))
            refine OGo.st (fun _ k => XS.iload X0.here hx rfl (hb hby d1_149) rfl k) ?_
            show OGo p e below s _ _ _ (s₁.setTop (mkF m 151 #[.val (.ref o0), .val (.int (0 : Int32)), .val (.int p2), .val (.int (x0 &&& (255 : Int32))), .val (.int j70_0), .val (.int j87_0), .val (.int (3 : Int32)), .unset, .unset, .unset] [(.int (3 : Int32)), (.int (0 : Int32))]))
            refine OGo.st (fun _ k => XS.iadd X0.here hx rfl (hb hby d1_151) rfl k) ?_
            rw [show ((0 : Int32) + (3 : Int32)) = (3 : Int32) from by decide]
            show OGo p e below s _ _ _ (s₁.setTop (mkF m 152 #[.val (.ref o0), .val (.int (0 : Int32)), .val (.int p2), .val (.int (x0 &&& (255 : Int32))), .val (.int j70_0), .val (.int j87_0), .val (.int (3 : Int32)), .unset, .unset, .unset] [(.int (3 : Int32))]))
            refine OGo.st (fun _ k => XS.istore X0.here hx rfl (hb hby d1_152) rfl (l' := #[.val (.ref o0), .val (.int (0 : Int32)), .val (.int p2), .val (.int (x0 &&& (255 : Int32))), .val (.int j70_0), .val (.int j87_0), .val (.int (3 : Int32)), .val (.int (3 : Int32)), .unset, .unset]) rfl k) ?_
            show OGo p e below s _ _ _ (s₁.setTop (mkF m 154 #[.val (.ref o0), .val (.int (0 : Int32)), .val (.int p2), .val (.int (x0 &&& (255 : Int32))), .val (.int j70_0), .val (.int j87_0), .val (.int (3 : Int32)), .val (.int (3 : Int32)), .unset, .unset] []))
            refine OGo.st (fun _ k => XS.iload X0.here hx rfl (hb hby d1_154) rfl k) ?_
            show OGo p e below s _ _ _ (s₁.setTop (mkF m 156 #[.val (.ref o0), .val (.int (0 : Int32)), .val (.int p2), .val (.int (x0 &&& (255 : Int32))), .val (.int j70_0), .val (.int j87_0), .val (.int (3 : Int32)), .val (.int (3 : Int32)), .unset, .unset] [(.int (3 : Int32))]))
            refine OGo.st (fun _ k => XS.iloadN X0.here hx rfl (hb hby d1_156) rfl k) ?_
            show OGo p e below s _ _ _ (s₁.setTop (mkF m 157 #[.val (.ref o0), .val (.int (0 : Int32)), .val (.int p2), .val (.int (x0 &&& (255 : Int32))), .val (.int j70_0), .val (.int j87_0), .val (.int (3 : Int32)), .val (.int (3 : Int32)), .unset, .unset] [(.int p2), (.int (3 : Int32))]))
            by_cases hc157 : p2 < (3 : Int32)
            · refine OGo.st (fun _ k => XS.icmpNo X0.here hx rfl (hb hby d1_157) rfl (tlt hc157).2.2.2 k) ?_
              show OGo p e below s _ _ _ (s₁.setTop (mkF m 160 #[.val (.ref o0), .val (.int (0 : Int32)), .val (.int p2), .val (.int (x0 &&& (255 : Int32))), .val (.int j70_0), .val (.int j87_0), .val (.int (3 : Int32)), .val (.int (3 : Int32)), .unset, .unset] []))
              refine OGo.st (fun _ k => XS.iconst X0.here hx rfl (hb hby d1_160) k) ?_
              show OGo p e below s _ _ _ (s₁.setTop (mkF m 161 #[.val (.ref o0), .val (.int (0 : Int32)), .val (.int p2), .val (.int (x0 &&& (255 : Int32))), .val (.int j70_0), .val (.int j87_0), .val (.int (3 : Int32)), .val (.int (3 : Int32)), .unset, .unset] [(.int (-1 : Int32))]))
              exact oretI X0 hx Bd.notSynchronized Bd.returns (hb hby d1_161) e0 ⟨(congrArg (fun z => some (Value.int z)) (show (-1 : Int32) = f1L0 p2 x0 x1 x2 x3 from Eq.symm (hf87_0.trans (by unfold f1L0_87; exact if_pos hc157)))), N0, rfl⟩ (by decide) (by decide)
            · refine OGo.st (fun _ k => XS.icmpYes X0.here hx rfl (pc0 := 157) (pc' := 162) rfl (hb hby d1_157) rfl (flt hc157).2.2.2 (by decide) (by decide) k) ?_
              show OGo p e below s _ _ _ (s₁.setTop (mkF m 162 #[.val (.ref o0), .val (.int (0 : Int32)), .val (.int p2), .val (.int (x0 &&& (255 : Int32))), .val (.int j70_0), .val (.int j87_0), .val (.int (3 : Int32)), .val (.int (3 : Int32)), .unset, .unset] []))
              refine OGo.st (fun _ k => XS.aloadN X0.here hx rfl (hb hby d1_162) rfl rfl k) ?_
              show OGo p e below s _ _ _ (s₁.setTop (mkF m 163 #[.val (.ref o0), .val (.int (0 : Int32)), .val (.int p2), .val (.int (x0 &&& (255 : Int32))), .val (.int j70_0), .val (.int j87_0), .val (.int (3 : Int32)), .val (.int (3 : Int32)), .unset, .unset] [(.ref o0)]))
              refine OGo.st (fun _ k => XS.iloadN X0.here hx rfl (hb hby d1_163) rfl k) ?_
              show OGo p e below s _ _ _ (s₁.setTop (mkF m 164 #[.val (.ref o0), .val (.int (0 : Int32)), .val (.int p2), .val (.int (x0 &&& (255 : Int32))), .val (.int j70_0), .val (.int j87_0), .val (.int (3 : Int32)), .val (.int (3 : Int32)), .unset, .unset] [(.int (0 : Int32)), (.ref o0)]))
              refine OGo.st (fun _ k => XS.iconst X0.here hx rfl (hb hby d1_164) k) ?_
              show OGo p e below s _ _ _ (s₁.setTop (mkF m 165 #[.val (.ref o0), .val (.int (0 : Int32)), .val (.int p2), .val (.int (x0 &&& (255 : Int32))), .val (.int j70_0), .val (.int j87_0), .val (.int (3 : Int32)), .val (.int (3 : Int32)), .unset, .unset] [(.int (1 : Int32)), (.int (0 : Int32)), (.ref o0)]))
              refine OGo.st (fun _ k => XS.iadd X0.here hx rfl (hb hby d1_165) rfl k) ?_
              rw [show ((0 : Int32) + (1 : Int32)) = (1 : Int32) from by decide]
              show OGo p e below s _ _ _ (s₁.setTop (mkF m 166 #[.val (.ref o0), .val (.int (0 : Int32)), .val (.int p2), .val (.int (x0 &&& (255 : Int32))), .val (.int j70_0), .val (.int j87_0), .val (.int (3 : Int32)), .val (.int (3 : Int32)), .unset, .unset] [(.int (1 : Int32)), (.ref o0)]))
              obtain ⟨cl9, Ar9, q9, Sz9, Nn9, Hs9, Gs9⟩ := id V_o0
              have hin9 : ¬ ((1 : Int32) < 0 ∨ cl9.slots.size ≤ ((1 : Int32)).toNatClampNeg) := inb_of Sz9 ⟨by decide, by decide⟩
              have hat9 : cl9.slots[((1 : Int32)).toNatClampNeg]? = some (.int x1) := Hs9.at hin9 rfl
              refine OGo.st (fun _ k => X0.baloadBytes hx (j := (1 : Int32)) (v := (.int x1)) (by rw [e0]; exact Ar9.1) (State.isArrayOf_alike hZ.alike Ar9.2.1) Ar9.2.2 hin9 hat9 (g := (mkF m 166 #[.val (.ref o0), .val (.int (0 : Int32)), .val (.int p2), .val (.int (x0 &&& (255 : Int32))), .val (.int j70_0), .val (.int j87_0), .val (.int (3 : Int32)), .val (.int (3 : Int32)), .unset, .unset] [(.int (1 : Int32)), (.ref o0)])) rfl rfl (hb hby d1_166) _ k) ?_
              show OGo p e below s _ _ _ (s₁.setTop (mkF m 167 #[.val (.ref o0), .val (.int (0 : Int32)), .val (.int p2), .val (.int (x0 &&& (255 : Int32))), .val (.int j70_0), .val (.int j87_0), .val (.int (3 : Int32)), .val (.int (3 : Int32)), .unset, .unset] [(.int x1)]))
              refine OGo.st (fun _ k => XS.sipush X0.here hx rfl (hb hby d1_167) k) ?_
              show OGo p e below s _ _ _ (s₁.setTop (mkF m 170 #[.val (.ref o0), .val (.int (0 : Int32)), .val (.int p2), .val (.int (x0 &&& (255 : Int32))), .val (.int j70_0), .val (.int j87_0), .val (.int (3 : Int32)), .val (.int (3 : Int32)), .unset, .unset] [(.int (255 : Int32)), (.int x1)]))
              refine OGo.st (fun _ k => XS.iand X0.here hx rfl (hb hby d1_170) rfl k) ?_
              show OGo p e below s _ _ _ (s₁.setTop (mkF m 171 #[.val (.ref o0), .val (.int (0 : Int32)), .val (.int p2), .val (.int (x0 &&& (255 : Int32))), .val (.int j70_0), .val (.int j87_0), .val (.int (3 : Int32)), .val (.int (3 : Int32)), .unset, .unset] [(.int (x1 &&& (255 : Int32)))]))
              refine OGo.st (fun _ k => XS.istore X0.here hx rfl (hb hby d1_171) rfl (l' := #[.val (.ref o0), .val (.int (0 : Int32)), .val (.int p2), .val (.int (x0 &&& (255 : Int32))), .val (.int j70_0), .val (.int j87_0), .val (.int (3 : Int32)), .val (.int (3 : Int32)), .val (.int (x1 &&& (255 : Int32))), .unset]) rfl k) ?_
              show OGo p e below s _ _ _ (s₁.setTop (mkF m 173 #[.val (.ref o0), .val (.int (0 : Int32)), .val (.int p2), .val (.int (x0 &&& (255 : Int32))), .val (.int j70_0), .val (.int j87_0), .val (.int (3 : Int32)), .val (.int (3 : Int32)), .val (.int (x1 &&& (255 : Int32))), .unset] []))
              refine OGo.st (fun _ k => XS.iload X0.here hx rfl (hb hby d1_173) rfl k) ?_
              show OGo p e below s _ _ _ (s₁.setTop (mkF m 175 #[.val (.ref o0), .val (.int (0 : Int32)), .val (.int p2), .val (.int (x0 &&& (255 : Int32))), .val (.int j70_0), .val (.int j87_0), .val (.int (3 : Int32)), .val (.int (3 : Int32)), .val (.int (x1 &&& (255 : Int32))), .unset] [(.int (x1 &&& (255 : Int32)))]))
              refine OGo.st (fun _ k => XS.iload X0.here hx rfl (hb hby d1_175) rfl k) ?_
              show OGo p e below s _ _ _ (s₁.setTop (mkF m 177 #[.val (.ref o0), .val (.int (0 : Int32)), .val (.int p2), .val (.int (x0 &&& (255 : Int32))), .val (.int j70_0), .val (.int j87_0), .val (.int (3 : Int32)), .val (.int (3 : Int32)), .val (.int (x1 &&& (255 : Int32))), .unset] [(.int j70_0), (.int (x1 &&& (255 : Int32)))]))
              by_cases hc177 : (x1 &&& (255 : Int32)) < j70_0
              · refine OGo.st (fun _ k => XS.icmpYes X0.here hx rfl (pc0 := 177) (pc' := 187) rfl (hb hby d1_177) rfl (tlt hc177).1 (by decide) (by decide) k) ?_
                show OGo p e below s _ _ _ (s₁.setTop (mkF m 187 #[.val (.ref o0), .val (.int (0 : Int32)), .val (.int p2), .val (.int (x0 &&& (255 : Int32))), .val (.int j70_0), .val (.int j87_0), .val (.int (3 : Int32)), .val (.int (3 : Int32)), .val (.int (x1 &&& (255 : Int32))), .unset] []))
                refine OGo.st (fun _ k => XS.iconst X0.here hx rfl (hb hby d1_187) k) ?_
                show OGo p e below s _ _ _ (s₁.setTop (mkF m 188 #[.val (.ref o0), .val (.int (0 : Int32)), .val (.int p2), .val (.int (x0 &&& (255 : Int32))), .val (.int j70_0), .val (.int j87_0), .val (.int (3 : Int32)), .val (.int (3 : Int32)), .val (.int (x1 &&& (255 : Int32))), .unset] [(.int (-1 : Int32))]))
                exact oretI X0 hx Bd.notSynchronized Bd.returns (hb hby d1_188) e0 ⟨(congrArg (fun z => some (Value.int z)) (show (-1 : Int32) = f1L0 p2 x0 x1 x2 x3 from Eq.symm (hf87_0.trans (by unfold f1L0_87; exact (if_neg hc157).trans (if_pos hc177))))), N0, rfl⟩ (by decide) (by decide)
              · refine OGo.st (fun _ k => XS.icmpNo X0.here hx rfl (hb hby d1_177) rfl (flt hc177).1 k) ?_
                show OGo p e below s _ _ _ (s₁.setTop (mkF m 180 #[.val (.ref o0), .val (.int (0 : Int32)), .val (.int p2), .val (.int (x0 &&& (255 : Int32))), .val (.int j70_0), .val (.int j87_0), .val (.int (3 : Int32)), .val (.int (3 : Int32)), .val (.int (x1 &&& (255 : Int32))), .unset] []))
                refine OGo.st (fun _ k => XS.iload X0.here hx rfl (hb hby d1_180) rfl k) ?_
                show OGo p e below s _ _ _ (s₁.setTop (mkF m 182 #[.val (.ref o0), .val (.int (0 : Int32)), .val (.int p2), .val (.int (x0 &&& (255 : Int32))), .val (.int j70_0), .val (.int j87_0), .val (.int (3 : Int32)), .val (.int (3 : Int32)), .val (.int (x1 &&& (255 : Int32))), .unset] [(.int (x1 &&& (255 : Int32)))]))
                refine OGo.st (fun _ k => XS.iload X0.here hx rfl (hb hby d1_182) rfl k) ?_
                show OGo p e below s _ _ _ (s₁.setTop (mkF m 184 #[.val (.ref o0), .val (.int (0 : Int32)), .val (.int p2), .val (.int (x0 &&& (255 : Int32))), .val (.int j70_0), .val (.int j87_0), .val (.int (3 : Int32)), .val (.int (3 : Int32)), .val (.int (x1 &&& (255 : Int32))), .unset] [(.int j87_0), (.int (x1 &&& (255 : Int32)))]))
                by_cases hc184 : j87_0 < (x1 &&& (255 : Int32))
                · refine OGo.st (fun _ k => XS.icmpNo X0.here hx rfl (hb hby d1_184) rfl (tlt hc184).2.2.2 k) ?_
                  show OGo p e below s _ _ _ (s₁.setTop (mkF m 187 #[.val (.ref o0), .val (.int (0 : Int32)), .val (.int p2), .val (.int (x0 &&& (255 : Int32))), .val (.int j70_0), .val (.int j87_0), .val (.int (3 : Int32)), .val (.int (3 : Int32)), .val (.int (x1 &&& (255 : Int32))), .unset] []))
                  refine OGo.st (fun _ k => XS.iconst X0.here hx rfl (hb hby d1_187) k) ?_
                  show OGo p e below s _ _ _ (s₁.setTop (mkF m 188 #[.val (.ref o0), .val (.int (0 : Int32)), .val (.int p2), .val (.int (x0 &&& (255 : Int32))), .val (.int j70_0), .val (.int j87_0), .val (.int (3 : Int32)), .val (.int (3 : Int32)), .val (.int (x1 &&& (255 : Int32))), .unset] [(.int (-1 : Int32))]))
                  exact oretI X0 hx Bd.notSynchronized Bd.returns (hb hby d1_188) e0 ⟨(congrArg (fun z => some (Value.int z)) (show (-1 : Int32) = f1L0 p2 x0 x1 x2 x3 from Eq.symm (hf87_0.trans (by unfold f1L0_87; exact (if_neg hc157).trans ((if_neg hc177).trans (if_pos hc184)))))), N0, rfl⟩ (by decide) (by decide)
                · refine OGo.st (fun _ k => XS.icmpYes X0.here hx rfl (pc0 := 184) (pc' := 189) rfl (hb hby d1_184) rfl (flt hc184).2.2.2 (by decide) (by decide) k) ?_
                  show OGo p e below s _ _ _ (s₁.setTop (mkF m 189 #[.val (.ref o0), .val (.int (0 : Int32)), .val (.int p2), .val (.int (x0 &&& (255 : Int32))), .val (.int j70_0), .val (.int j87_0), .val (.int (3 : Int32)), .val (.int (3 : Int32)), .val (.int (x1 &&& (255 : Int32))), .unset] []))
                  refine OGo.st (fun _ k => XS.iloadN X0.here hx rfl (hb hby d1_189) rfl k) ?_
                  show OGo p e below s _ _ _ (s₁.setTop (mkF m 190 #[.val (.ref o0), .val (.int (0 : Int32)), .val (.int p2), .val (.int (x0 &&& (255 : Int32))), .val (.int j70_0), .val (.int j87_0), .val (.int (3 : Int32)), .val (.int (3 : Int32)), .val (.int (x1 &&& (255 : Int32))), .unset] [(.int (0 : Int32))]))
                  refine OGo.st (fun _ k => XS.iconst X0.here hx rfl (hb hby d1_190) k) ?_
                  show OGo p e below s _ _ _ (s₁.setTop (mkF m 191 #[.val (.ref o0), .val (.int (0 : Int32)), .val (.int p2), .val (.int (x0 &&& (255 : Int32))), .val (.int j70_0), .val (.int j87_0), .val (.int (3 : Int32)), .val (.int (3 : Int32)), .val (.int (x1 &&& (255 : Int32))), .unset] [(.int (2 : Int32)), (.int (0 : Int32))]))
                  refine OGo.st (fun _ k => XS.iadd X0.here hx rfl (hb hby d1_191) rfl k) ?_
                  rw [show ((0 : Int32) + (2 : Int32)) = (2 : Int32) from by decide]
                  show OGo p e below s _ _ _ (s₁.setTop (mkF m 192 #[.val (.ref o0), .val (.int (0 : Int32)), .val (.int p2), .val (.int (x0 &&& (255 : Int32))), .val (.int j70_0), .val (.int j87_0), .val (.int (3 : Int32)), .val (.int (3 : Int32)), .val (.int (x1 &&& (255 : Int32))), .unset] [(.int (2 : Int32))]))
                  refine OGo.st (fun _ k => XS.istore X0.here hx rfl (hb hby d1_192) rfl (l' := #[.val (.ref o0), .val (.int (0 : Int32)), .val (.int p2), .val (.int (x0 &&& (255 : Int32))), .val (.int j70_0), .val (.int j87_0), .val (.int (3 : Int32)), .val (.int (3 : Int32)), .val (.int (x1 &&& (255 : Int32))), .val (.int (2 : Int32))]) rfl k) ?_
                  show OGo p e below s _ _ _ (s₁.setTop (mkF m 194 #[.val (.ref o0), .val (.int (0 : Int32)), .val (.int p2), .val (.int (x0 &&& (255 : Int32))), .val (.int j70_0), .val (.int j87_0), .val (.int (3 : Int32)), .val (.int (3 : Int32)), .val (.int (x1 &&& (255 : Int32))), .val (.int (2 : Int32))] []))
                  refine OGo.st (fun _ k => XS.iload X0.here hx rfl (hb hby d1_194) rfl k) ?_
                  show OGo p e below s _ _ _ (s₁.setTop (mkF m 196 #[.val (.ref o0), .val (.int (0 : Int32)), .val (.int p2), .val (.int (x0 &&& (255 : Int32))), .val (.int j70_0), .val (.int j87_0), .val (.int (3 : Int32)), .val (.int (3 : Int32)), .val (.int (x1 &&& (255 : Int32))), .val (.int (2 : Int32))] [(.int (2 : Int32))]))
                  refine OGo.st (fun _ k => XS.iload X0.here hx rfl (hb hby d1_196) rfl k) ?_
                  show OGo p e below s _ _ _ (s₁.setTop (mkF m 198 #[.val (.ref o0), .val (.int (0 : Int32)), .val (.int p2), .val (.int (x0 &&& (255 : Int32))), .val (.int j70_0), .val (.int j87_0), .val (.int (3 : Int32)), .val (.int (3 : Int32)), .val (.int (x1 &&& (255 : Int32))), .val (.int (2 : Int32))] [(.int (3 : Int32)), (.int (2 : Int32))]))
                  refine OGo.st (fun _ k => XS.icmpNo X0.here hx rfl (hb hby d1_198) rfl (tlt (by decide : (2 : Int32) < (3 : Int32))).2.1 k) ?_
                  show OGo p e below s _ _ _ (s₁.setTop (mkF m 201 #[.val (.ref o0), .val (.int (0 : Int32)), .val (.int p2), .val (.int (x0 &&& (255 : Int32))), .val (.int j70_0), .val (.int j87_0), .val (.int (3 : Int32)), .val (.int (3 : Int32)), .val (.int (x1 &&& (255 : Int32))), .val (.int (2 : Int32))] []))
                  refine OGo.st (fun _ k => XS.aloadN X0.here hx rfl (hb hby d1_201) rfl rfl k) ?_
                  show OGo p e below s _ _ _ (s₁.setTop (mkF m 202 #[.val (.ref o0), .val (.int (0 : Int32)), .val (.int p2), .val (.int (x0 &&& (255 : Int32))), .val (.int j70_0), .val (.int j87_0), .val (.int (3 : Int32)), .val (.int (3 : Int32)), .val (.int (x1 &&& (255 : Int32))), .val (.int (2 : Int32))] [(.ref o0)]))
                  refine OGo.st (fun _ k => XS.iload X0.here hx rfl (hb hby d1_202) rfl k) ?_
                  show OGo p e below s _ _ _ (s₁.setTop (mkF m 204 #[.val (.ref o0), .val (.int (0 : Int32)), .val (.int p2), .val (.int (x0 &&& (255 : Int32))), .val (.int j70_0), .val (.int j87_0), .val (.int (3 : Int32)), .val (.int (3 : Int32)), .val (.int (x1 &&& (255 : Int32))), .val (.int (2 : Int32))] [(.int (2 : Int32)), (.ref o0)]))
                  obtain ⟨cl10, Ar10, q10, Sz10, Nn10, Hs10, Gs10⟩ := id V_o0
                  have hin10 : ¬ ((2 : Int32) < 0 ∨ cl10.slots.size ≤ ((2 : Int32)).toNatClampNeg) := inb_of Sz10 ⟨by decide, by decide⟩
                  have hat10 : cl10.slots[((2 : Int32)).toNatClampNeg]? = some (.int x2) := Hs10.at hin10 rfl
                  refine OGo.st (fun _ k => X0.baloadBytes hx (j := (2 : Int32)) (v := (.int x2)) (by rw [e0]; exact Ar10.1) (State.isArrayOf_alike hZ.alike Ar10.2.1) Ar10.2.2 hin10 hat10 (g := (mkF m 204 #[.val (.ref o0), .val (.int (0 : Int32)), .val (.int p2), .val (.int (x0 &&& (255 : Int32))), .val (.int j70_0), .val (.int j87_0), .val (.int (3 : Int32)), .val (.int (3 : Int32)), .val (.int (x1 &&& (255 : Int32))), .val (.int (2 : Int32))] [(.int (2 : Int32)), (.ref o0)])) rfl rfl (hb hby d1_204) _ k) ?_
                  show OGo p e below s _ _ _ (s₁.setTop (mkF m 205 #[.val (.ref o0), .val (.int (0 : Int32)), .val (.int p2), .val (.int (x0 &&& (255 : Int32))), .val (.int j70_0), .val (.int j87_0), .val (.int (3 : Int32)), .val (.int (3 : Int32)), .val (.int (x1 &&& (255 : Int32))), .val (.int (2 : Int32))] [(.int x2)]))
                  refine OGo.st (fun _ k => XS.sipush X0.here hx rfl (hb hby d1_205) k) ?_
                  show OGo p e below s _ _ _ (s₁.setTop (mkF m 208 #[.val (.ref o0), .val (.int (0 : Int32)), .val (.int p2), .val (.int (x0 &&& (255 : Int32))), .val (.int j70_0), .val (.int j87_0), .val (.int (3 : Int32)), .val (.int (3 : Int32)), .val (.int (x1 &&& (255 : Int32))), .val (.int (2 : Int32))] [(.int (192 : Int32)), (.int x2)]))
                  refine OGo.st (fun _ k => XS.iand X0.here hx rfl (hb hby d1_208) rfl k) ?_
                  show OGo p e below s _ _ _ (s₁.setTop (mkF m 209 #[.val (.ref o0), .val (.int (0 : Int32)), .val (.int p2), .val (.int (x0 &&& (255 : Int32))), .val (.int j70_0), .val (.int j87_0), .val (.int (3 : Int32)), .val (.int (3 : Int32)), .val (.int (x1 &&& (255 : Int32))), .val (.int (2 : Int32))] [(.int (x2 &&& (192 : Int32)))]))
                  refine OGo.st (fun _ k => XS.sipush X0.here hx rfl (hb hby d1_209) k) ?_
                  show OGo p e below s _ _ _ (s₁.setTop (mkF m 212 #[.val (.ref o0), .val (.int (0 : Int32)), .val (.int p2), .val (.int (x0 &&& (255 : Int32))), .val (.int j70_0), .val (.int j87_0), .val (.int (3 : Int32)), .val (.int (3 : Int32)), .val (.int (x1 &&& (255 : Int32))), .val (.int (2 : Int32))] [(.int (128 : Int32)), (.int (x2 &&& (192 : Int32)))]))
                  by_cases hc212 : (x2 &&& (192 : Int32)) = (128 : Int32)
                  · refine OGo.st (fun _ k => XS.icmpYes X0.here hx rfl (pc0 := 212) (pc' := 217) rfl (hb hby d1_212) rfl (teq hc212).1 (by decide) (by decide) k) ?_
                    show OGo p e below s _ _ _ (s₁.setTop (mkF m 217 #[.val (.ref o0), .val (.int (0 : Int32)), .val (.int p2), .val (.int (x0 &&& (255 : Int32))), .val (.int j70_0), .val (.int j87_0), .val (.int (3 : Int32)), .val (.int (3 : Int32)), .val (.int (x1 &&& (255 : Int32))), .val (.int (2 : Int32))] []))
                    refine OGo.st (fun _ k => XS.iinc X0.here hx rfl (hb hby d1_217) rfl (l' := #[.val (.ref o0), .val (.int (0 : Int32)), .val (.int p2), .val (.int (x0 &&& (255 : Int32))), .val (.int j70_0), .val (.int j87_0), .val (.int (3 : Int32)), .val (.int (3 : Int32)), .val (.int (x1 &&& (255 : Int32))), .val (.int (3 : Int32))]) rfl k) ?_
                    show OGo p e below s _ _ _ (s₁.setTop (mkF m 220 #[.val (.ref o0), .val (.int (0 : Int32)), .val (.int p2), .val (.int (x0 &&& (255 : Int32))), .val (.int j70_0), .val (.int j87_0), .val (.int (3 : Int32)), .val (.int (3 : Int32)), .val (.int (x1 &&& (255 : Int32))), .val (.int (3 : Int32))] []))
                    refine OGo.st (fun _ k => XS.goto X0.here hx rfl (pc0 := 220) (pc' := 194) rfl (hb hby d1_220) (by decide) (by decide) k) ?_
                    show OGo p e below s _ _ _ (s₁.setTop (mkF m 194 #[.val (.ref o0), .val (.int (0 : Int32)), .val (.int p2), .val (.int (x0 &&& (255 : Int32))), .val (.int j70_0), .val (.int j87_0), .val (.int (3 : Int32)), .val (.int (3 : Int32)), .val (.int (x1 &&& (255 : Int32))), .val (.int (3 : Int32))] []))
                    refine OGo.st (fun _ k => XS.iload X0.here hx rfl (hb hby d1_194) rfl k) ?_
                    show OGo p e below s _ _ _ (s₁.setTop (mkF m 196 #[.val (.ref o0), .val (.int (0 : Int32)), .val (.int p2), .val (.int (x0 &&& (255 : Int32))), .val (.int j70_0), .val (.int j87_0), .val (.int (3 : Int32)), .val (.int (3 : Int32)), .val (.int (x1 &&& (255 : Int32))), .val (.int (3 : Int32))] [(.int (3 : Int32))]))
                    refine OGo.st (fun _ k => XS.iload X0.here hx rfl (hb hby d1_196) rfl k) ?_
                    show OGo p e below s _ _ _ (s₁.setTop (mkF m 198 #[.val (.ref o0), .val (.int (0 : Int32)), .val (.int p2), .val (.int (x0 &&& (255 : Int32))), .val (.int j70_0), .val (.int j87_0), .val (.int (3 : Int32)), .val (.int (3 : Int32)), .val (.int (x1 &&& (255 : Int32))), .val (.int (3 : Int32))] [(.int (3 : Int32)), (.int (3 : Int32))]))
                    refine OGo.st (fun _ k => XS.icmpYes X0.here hx rfl (pc0 := 198) (pc' := 223) rfl (hb hby d1_198) rfl (flt (by decide : ¬ ((3 : Int32) < (3 : Int32)))).2.1 (by decide) (by decide) k) ?_
                    show OGo p e below s _ _ _ (s₁.setTop (mkF m 223 #[.val (.ref o0), .val (.int (0 : Int32)), .val (.int p2), .val (.int (x0 &&& (255 : Int32))), .val (.int j70_0), .val (.int j87_0), .val (.int (3 : Int32)), .val (.int (3 : Int32)), .val (.int (x1 &&& (255 : Int32))), .val (.int (3 : Int32))] []))
                    refine OGo.st (fun _ k => XS.iload X0.here hx rfl (hb hby d1_223) rfl k) ?_
                    show OGo p e below s _ _ _ (s₁.setTop (mkF m 225 #[.val (.ref o0), .val (.int (0 : Int32)), .val (.int p2), .val (.int (x0 &&& (255 : Int32))), .val (.int j70_0), .val (.int j87_0), .val (.int (3 : Int32)), .val (.int (3 : Int32)), .val (.int (x1 &&& (255 : Int32))), .val (.int (3 : Int32))] [(.int (3 : Int32))]))
                    exact oretI X0 hx Bd.notSynchronized Bd.returns (hb hby d1_225) e0 ⟨(congrArg (fun z => some (Value.int z)) (show (3 : Int32) = f1L0 p2 x0 x1 x2 x3 from Eq.symm (hf87_0.trans (by unfold f1L0_87; exact (if_neg hc157).trans ((if_neg hc177).trans ((if_neg hc184).trans (if_pos hc212))))))), N0, rfl⟩ (by decide) (by decide)
                  · refine OGo.st (fun _ k => XS.icmpNo X0.here hx rfl (hb hby d1_212) rfl (feq hc212).1 k) ?_
                    show OGo p e below s _ _ _ (s₁.setTop (mkF m 215 #[.val (.ref o0), .val (.int (0 : Int32)), .val (.int p2), .val (.int (x0 &&& (255 : Int32))), .val (.int j70_0), .val (.int j87_0), .val (.int (3 : Int32)), .val (.int (3 : Int32)), .val (.int (x1 &&& (255 : Int32))), .val (.int (2 : Int32))] []))
                    refine OGo.st (fun _ k => XS.iconst X0.here hx rfl (hb hby d1_215) k) ?_
                    show OGo p e below s _ _ _ (s₁.setTop (mkF m 216 #[.val (.ref o0), .val (.int (0 : Int32)), .val (.int p2), .val (.int (x0 &&& (255 : Int32))), .val (.int j70_0), .val (.int j87_0), .val (.int (3 : Int32)), .val (.int (3 : Int32)), .val (.int (x1 &&& (255 : Int32))), .val (.int (2 : Int32))] [(.int (-1 : Int32))]))
                    exact oretI X0 hx Bd.notSynchronized Bd.returns (hb hby d1_216) e0 ⟨(congrArg (fun z => some (Value.int z)) (show (-1 : Int32) = f1L0 p2 x0 x1 x2 x3 from Eq.symm (hf87_0.trans (by unfold f1L0_87; exact (if_neg hc157).trans ((if_neg hc177).trans ((if_neg hc184).trans (if_neg hc212))))))), N0, rfl⟩ (by decide) (by decide)
          by_cases hc76 : (x0 &&& (255 : Int32)) = (237 : Int32)
          · refine OGo.st (fun _ k => XS.icmpNo X0.here hx rfl (hb hby d1_76) rfl (teq hc76).2 k) ?_
            show OGo p e below s _ _ _ (s₁.setTop (mkF m 79 #[.val (.ref o0), .val (.int (0 : Int32)), .val (.int p2), .val (.int (x0 &&& (255 : Int32))), .val (.int j70_0), .val (.int (191 : Int32)), .val (.int (3 : Int32)), .unset, .unset, .unset] []))
            refine OGo.st (fun _ k => XS.sipush X0.here hx rfl (hb hby d1_79) k) ?_
            show OGo p e below s _ _ _ (s₁.setTop (mkF m 82 #[.val (.ref o0), .val (.int (0 : Int32)), .val (.int p2), .val (.int (x0 &&& (255 : Int32))), .val (.int j70_0), .val (.int (191 : Int32)), .val (.int (3 : Int32)), .unset, .unset, .unset] [(.int (159 : Int32))]))
            refine OGo.st (fun _ k => XS.goto X0.here hx rfl (pc0 := 82) (pc' := 87) rfl (hb hby d1_82) (by decide) (by decide) k) ?_
            show OGo p e below s _ _ _ (s₁.setTop (mkF m 87 #[.val (.ref o0), .val (.int (0 : Int32)), .val (.int p2), .val (.int (x0 &&& (255 : Int32))), .val (.int j70_0), .val (.int (191 : Int32)), .val (.int (3 : Int32)), .unset, .unset, .unset] [(.int (159 : Int32))]))
            exact hj87 (159 : Int32) (hf70_0.trans (by unfold f1L0_70; exact if_pos hc76))
          · refine OGo.st (fun _ k => XS.icmpYes X0.here hx rfl (pc0 := 76) (pc' := 85) rfl (hb hby d1_76) rfl (feq hc76).2 (by decide) (by decide) k) ?_
            show OGo p e below s _ _ _ (s₁.setTop (mkF m 85 #[.val (.ref o0), .val (.int (0 : Int32)), .val (.int p2), .val (.int (x0 &&& (255 : Int32))), .val (.int j70_0), .val (.int (191 : Int32)), .val (.int (3 : Int32)), .unset, .unset, .unset] []))
            refine OGo.st (fun _ k => XS.iload X0.here hx rfl (hb hby d1_85) rfl k) ?_
            show OGo p e below s _ _ _ (s₁.setTop (mkF m 87 #[.val (.ref o0), .val (.int (0 : Int32)), .val (.int p2), .val (.int (x0 &&& (255 : Int32))), .val (.int j70_0), .val (.int (191 : Int32)), .val (.int (3 : Int32)), .unset, .unset, .unset] [(.int (191 : Int32))]))
            exact hj87 (191 : Int32) (hf70_0.trans (by unfold f1L0_70; exact if_neg hc76))
        by_cases hc59 : (x0 &&& (255 : Int32)) = (224 : Int32)
        · refine OGo.st (fun _ k => XS.icmpNo X0.here hx rfl (hb hby d1_59) rfl (teq hc59).2 k) ?_
          show OGo p e below s _ _ _ (s₁.setTop (mkF m 62 #[.val (.ref o0), .val (.int (0 : Int32)), .val (.int p2), .val (.int (x0 &&& (255 : Int32))), .val (.int (128 : Int32)), .val (.int (191 : Int32)), .val (.int (3 : Int32)), .unset, .unset, .unset] []))
          refine OGo.st (fun _ k => XS.sipush X0.here hx rfl (hb hby d1_62) k) ?_
          show OGo p e below s _ _ _ (s₁.setTop (mkF m 65 #[.val (.ref o0), .val (.int (0 : Int32)), .val (.int p2), .val (.int (x0 &&& (255 : Int32))), .val (.int (128 : Int32)), .val (.int (191 : Int32)), .val (.int (3 : Int32)), .unset, .unset, .unset] [(.int (160 : Int32))]))
          refine OGo.st (fun _ k => XS.goto X0.here hx rfl (pc0 := 65) (pc' := 70) rfl (hb hby d1_65) (by decide) (by decide) k) ?_
          show OGo p e below s _ _ _ (s₁.setTop (mkF m 70 #[.val (.ref o0), .val (.int (0 : Int32)), .val (.int p2), .val (.int (x0 &&& (255 : Int32))), .val (.int (128 : Int32)), .val (.int (191 : Int32)), .val (.int (3 : Int32)), .unset, .unset, .unset] [(.int (160 : Int32))]))
          exact hj70 (160 : Int32) (by unfold f1L0; exact (if_neg hc22).trans ((if_pos hc29).trans ((if_neg hc49).trans (if_pos hc59))))
        · refine OGo.st (fun _ k => XS.icmpYes X0.here hx rfl (pc0 := 59) (pc' := 68) rfl (hb hby d1_59) rfl (feq hc59).2 (by decide) (by decide) k) ?_
          show OGo p e below s _ _ _ (s₁.setTop (mkF m 68 #[.val (.ref o0), .val (.int (0 : Int32)), .val (.int p2), .val (.int (x0 &&& (255 : Int32))), .val (.int (128 : Int32)), .val (.int (191 : Int32)), .val (.int (3 : Int32)), .unset, .unset, .unset] []))
          refine OGo.st (fun _ k => XS.iload X0.here hx rfl (hb hby d1_68) rfl k) ?_
          show OGo p e below s _ _ _ (s₁.setTop (mkF m 70 #[.val (.ref o0), .val (.int (0 : Int32)), .val (.int p2), .val (.int (x0 &&& (255 : Int32))), .val (.int (128 : Int32)), .val (.int (191 : Int32)), .val (.int (3 : Int32)), .unset, .unset, .unset] [(.int (128 : Int32))]))
          exact hj70 (128 : Int32) (by unfold f1L0; exact (if_neg hc22).trans ((if_pos hc29).trans ((if_neg hc49).trans (if_neg hc59))))
    · refine OGo.st (fun _ k => XS.icmpNo X0.here hx rfl (hb hby d1_29) rfl (flt hc29).2.2.1 k) ?_
      show OGo p e below s _ _ _ (s₁.setTop (mkF m 32 #[.val (.ref o0), .val (.int (0 : Int32)), .val (.int p2), .val (.int (x0 &&& (255 : Int32))), .val (.int (128 : Int32)), .val (.int (191 : Int32)), .unset, .unset, .unset, .unset] []))
      refine OGo.st (fun _ k => XS.iconst X0.here hx rfl (hb hby d1_32) k) ?_
      show OGo p e below s _ _ _ (s₁.setTop (mkF m 33 #[.val (.ref o0), .val (.int (0 : Int32)), .val (.int p2), .val (.int (x0 &&& (255 : Int32))), .val (.int (128 : Int32)), .val (.int (191 : Int32)), .unset, .unset, .unset, .unset] [(.int (2 : Int32))]))
      refine OGo.st (fun _ k => XS.istore X0.here hx rfl (hb hby d1_33) rfl (l' := #[.val (.ref o0), .val (.int (0 : Int32)), .val (.int p2), .val (.int (x0 &&& (255 : Int32))), .val (.int (128 : Int32)), .val (.int (191 : Int32)), .val (.int (2 : Int32)), .unset, .unset, .unset]) rfl k) ?_
      show OGo p e below s _ _ _ (s₁.setTop (mkF m 35 #[.val (.ref o0), .val (.int (0 : Int32)), .val (.int p2), .val (.int (x0 &&& (255 : Int32))), .val (.int (128 : Int32)), .val (.int (191 : Int32)), .val (.int (2 : Int32)), .unset, .unset, .unset] []))
      refine OGo.st (fun _ k => XS.goto X0.here hx rfl (pc0 := 35) (pc' := 148) rfl (hb hby d1_35) (by decide) (by decide) k) ?_
      show OGo p e below s _ _ _ (s₁.setTop (mkF m 148 #[.val (.ref o0), .val (.int (0 : Int32)), .val (.int p2), .val (.int (x0 &&& (255 : Int32))), .val (.int (128 : Int32)), .val (.int (191 : Int32)), .val (.int (2 : Int32)), .unset, .unset, .unset] []))
      refine OGo.st (fun _ k => XS.iloadN X0.here hx rfl (hb hby d1_148) rfl k) ?_
      show OGo p e below s _ _ _ (s₁.setTop (mkF m 149 #[.val (.ref o0), .val (.int (0 : Int32)), .val (.int p2), .val (.int (x0 &&& (255 : Int32))), .val (.int (128 : Int32)), .val (.int (191 : Int32)), .val (.int (2 : Int32)), .unset, .unset, .unset] [(.int (0 : Int32))]))
      refine OGo.st (fun _ k => XS.iload X0.here hx rfl (hb hby d1_149) rfl k) ?_
      show OGo p e below s _ _ _ (s₁.setTop (mkF m 151 #[.val (.ref o0), .val (.int (0 : Int32)), .val (.int p2), .val (.int (x0 &&& (255 : Int32))), .val (.int (128 : Int32)), .val (.int (191 : Int32)), .val (.int (2 : Int32)), .unset, .unset, .unset] [(.int (2 : Int32)), (.int (0 : Int32))]))
      refine OGo.st (fun _ k => XS.iadd X0.here hx rfl (hb hby d1_151) rfl k) ?_
      rw [show ((0 : Int32) + (2 : Int32)) = (2 : Int32) from by decide]
      show OGo p e below s _ _ _ (s₁.setTop (mkF m 152 #[.val (.ref o0), .val (.int (0 : Int32)), .val (.int p2), .val (.int (x0 &&& (255 : Int32))), .val (.int (128 : Int32)), .val (.int (191 : Int32)), .val (.int (2 : Int32)), .unset, .unset, .unset] [(.int (2 : Int32))]))
      refine OGo.st (fun _ k => XS.istore X0.here hx rfl (hb hby d1_152) rfl (l' := #[.val (.ref o0), .val (.int (0 : Int32)), .val (.int p2), .val (.int (x0 &&& (255 : Int32))), .val (.int (128 : Int32)), .val (.int (191 : Int32)), .val (.int (2 : Int32)), .val (.int (2 : Int32)), .unset, .unset]) rfl k) ?_
      show OGo p e below s _ _ _ (s₁.setTop (mkF m 154 #[.val (.ref o0), .val (.int (0 : Int32)), .val (.int p2), .val (.int (x0 &&& (255 : Int32))), .val (.int (128 : Int32)), .val (.int (191 : Int32)), .val (.int (2 : Int32)), .val (.int (2 : Int32)), .unset, .unset] []))
      refine OGo.st (fun _ k => XS.iload X0.here hx rfl (hb hby d1_154) rfl k) ?_
      show OGo p e below s _ _ _ (s₁.setTop (mkF m 156 #[.val (.ref o0), .val (.int (0 : Int32)), .val (.int p2), .val (.int (x0 &&& (255 : Int32))), .val (.int (128 : Int32)), .val (.int (191 : Int32)), .val (.int (2 : Int32)), .val (.int (2 : Int32)), .unset, .unset] [(.int (2 : Int32))]))
      refine OGo.st (fun _ k => XS.iloadN X0.here hx rfl (hb hby d1_156) rfl k) ?_
      show OGo p e below s _ _ _ (s₁.setTop (mkF m 157 #[.val (.ref o0), .val (.int (0 : Int32)), .val (.int p2), .val (.int (x0 &&& (255 : Int32))), .val (.int (128 : Int32)), .val (.int (191 : Int32)), .val (.int (2 : Int32)), .val (.int (2 : Int32)), .unset, .unset] [(.int p2), (.int (2 : Int32))]))
      by_cases hc157 : p2 < (2 : Int32)
      · refine OGo.st (fun _ k => XS.icmpNo X0.here hx rfl (hb hby d1_157) rfl (tlt hc157).2.2.2 k) ?_
        show OGo p e below s _ _ _ (s₁.setTop (mkF m 160 #[.val (.ref o0), .val (.int (0 : Int32)), .val (.int p2), .val (.int (x0 &&& (255 : Int32))), .val (.int (128 : Int32)), .val (.int (191 : Int32)), .val (.int (2 : Int32)), .val (.int (2 : Int32)), .unset, .unset] []))
        refine OGo.st (fun _ k => XS.iconst X0.here hx rfl (hb hby d1_160) k) ?_
        show OGo p e below s _ _ _ (s₁.setTop (mkF m 161 #[.val (.ref o0), .val (.int (0 : Int32)), .val (.int p2), .val (.int (x0 &&& (255 : Int32))), .val (.int (128 : Int32)), .val (.int (191 : Int32)), .val (.int (2 : Int32)), .val (.int (2 : Int32)), .unset, .unset] [(.int (-1 : Int32))]))
        exact oretI X0 hx Bd.notSynchronized Bd.returns (hb hby d1_161) e0 ⟨(congrArg (fun z => some (Value.int z)) (show (-1 : Int32) = f1L0 p2 x0 x1 x2 x3 from Eq.symm (by unfold f1L0; exact (if_neg hc22).trans ((if_neg hc29).trans (if_pos hc157))))), N0, rfl⟩ (by decide) (by decide)
      · refine OGo.st (fun _ k => XS.icmpYes X0.here hx rfl (pc0 := 157) (pc' := 162) rfl (hb hby d1_157) rfl (flt hc157).2.2.2 (by decide) (by decide) k) ?_
        show OGo p e below s _ _ _ (s₁.setTop (mkF m 162 #[.val (.ref o0), .val (.int (0 : Int32)), .val (.int p2), .val (.int (x0 &&& (255 : Int32))), .val (.int (128 : Int32)), .val (.int (191 : Int32)), .val (.int (2 : Int32)), .val (.int (2 : Int32)), .unset, .unset] []))
        refine OGo.st (fun _ k => XS.aloadN X0.here hx rfl (hb hby d1_162) rfl rfl k) ?_
        show OGo p e below s _ _ _ (s₁.setTop (mkF m 163 #[.val (.ref o0), .val (.int (0 : Int32)), .val (.int p2), .val (.int (x0 &&& (255 : Int32))), .val (.int (128 : Int32)), .val (.int (191 : Int32)), .val (.int (2 : Int32)), .val (.int (2 : Int32)), .unset, .unset] [(.ref o0)]))
        refine OGo.st (fun _ k => XS.iloadN X0.here hx rfl (hb hby d1_163) rfl k) ?_
        show OGo p e below s _ _ _ (s₁.setTop (mkF m 164 #[.val (.ref o0), .val (.int (0 : Int32)), .val (.int p2), .val (.int (x0 &&& (255 : Int32))), .val (.int (128 : Int32)), .val (.int (191 : Int32)), .val (.int (2 : Int32)), .val (.int (2 : Int32)), .unset, .unset] [(.int (0 : Int32)), (.ref o0)]))
        refine OGo.st (fun _ k => XS.iconst X0.here hx rfl (hb hby d1_164) k) ?_
        show OGo p e below s _ _ _ (s₁.setTop (mkF m 165 #[.val (.ref o0), .val (.int (0 : Int32)), .val (.int p2), .val (.int (x0 &&& (255 : Int32))), .val (.int (128 : Int32)), .val (.int (191 : Int32)), .val (.int (2 : Int32)), .val (.int (2 : Int32)), .unset, .unset] [(.int (1 : Int32)), (.int (0 : Int32)), (.ref o0)]))
        refine OGo.st (fun _ k => XS.iadd X0.here hx rfl (hb hby d1_165) rfl k) ?_
        rw [show ((0 : Int32) + (1 : Int32)) = (1 : Int32) from by decide]
        show OGo p e below s _ _ _ (s₁.setTop (mkF m 166 #[.val (.ref o0), .val (.int (0 : Int32)), .val (.int p2), .val (.int (x0 &&& (255 : Int32))), .val (.int (128 : Int32)), .val (.int (191 : Int32)), .val (.int (2 : Int32)), .val (.int (2 : Int32)), .unset, .unset] [(.int (1 : Int32)), (.ref o0)]))
        obtain ⟨cl11, Ar11, q11, Sz11, Nn11, Hs11, Gs11⟩ := id V_o0
        have hin11 : ¬ ((1 : Int32) < 0 ∨ cl11.slots.size ≤ ((1 : Int32)).toNatClampNeg) := inb_of Sz11 ⟨by decide, by decide⟩
        have hat11 : cl11.slots[((1 : Int32)).toNatClampNeg]? = some (.int x1) := Hs11.at hin11 rfl
        refine OGo.st (fun _ k => X0.baloadBytes hx (j := (1 : Int32)) (v := (.int x1)) (by rw [e0]; exact Ar11.1) (State.isArrayOf_alike hZ.alike Ar11.2.1) Ar11.2.2 hin11 hat11 (g := (mkF m 166 #[.val (.ref o0), .val (.int (0 : Int32)), .val (.int p2), .val (.int (x0 &&& (255 : Int32))), .val (.int (128 : Int32)), .val (.int (191 : Int32)), .val (.int (2 : Int32)), .val (.int (2 : Int32)), .unset, .unset] [(.int (1 : Int32)), (.ref o0)])) rfl rfl (hb hby d1_166) _ k) ?_
        show OGo p e below s _ _ _ (s₁.setTop (mkF m 167 #[.val (.ref o0), .val (.int (0 : Int32)), .val (.int p2), .val (.int (x0 &&& (255 : Int32))), .val (.int (128 : Int32)), .val (.int (191 : Int32)), .val (.int (2 : Int32)), .val (.int (2 : Int32)), .unset, .unset] [(.int x1)]))
        refine OGo.st (fun _ k => XS.sipush X0.here hx rfl (hb hby d1_167) k) ?_
        show OGo p e below s _ _ _ (s₁.setTop (mkF m 170 #[.val (.ref o0), .val (.int (0 : Int32)), .val (.int p2), .val (.int (x0 &&& (255 : Int32))), .val (.int (128 : Int32)), .val (.int (191 : Int32)), .val (.int (2 : Int32)), .val (.int (2 : Int32)), .unset, .unset] [(.int (255 : Int32)), (.int x1)]))
        refine OGo.st (fun _ k => XS.iand X0.here hx rfl (hb hby d1_170) rfl k) ?_
        show OGo p e below s _ _ _ (s₁.setTop (mkF m 171 #[.val (.ref o0), .val (.int (0 : Int32)), .val (.int p2), .val (.int (x0 &&& (255 : Int32))), .val (.int (128 : Int32)), .val (.int (191 : Int32)), .val (.int (2 : Int32)), .val (.int (2 : Int32)), .unset, .unset] [(.int (x1 &&& (255 : Int32)))]))
        refine OGo.st (fun _ k => XS.istore X0.here hx rfl (hb hby d1_171) rfl (l' := #[.val (.ref o0), .val (.int (0 : Int32)), .val (.int p2), .val (.int (x0 &&& (255 : Int32))), .val (.int (128 : Int32)), .val (.int (191 : Int32)), .val (.int (2 : Int32)), .val (.int (2 : Int32)), .val (.int (x1 &&& (255 : Int32))), .unset]) rfl k) ?_
        show OGo p e below s _ _ _ (s₁.setTop (mkF m 173 #[.val (.ref o0), .val (.int (0 : Int32)), .val (.int p2), .val (.int (x0 &&& (255 : Int32))), .val (.int (128 : Int32)), .val (.int (191 : Int32)), .val (.int (2 : Int32)), .val (.int (2 : Int32)), .val (.int (x1 &&& (255 : Int32))), .unset] []))
        refine OGo.st (fun _ k => XS.iload X0.here hx rfl (hb hby d1_173) rfl k) ?_
        show OGo p e below s _ _ _ (s₁.setTop (mkF m 175 #[.val (.ref o0), .val (.int (0 : Int32)), .val (.int p2), .val (.int (x0 &&& (255 : Int32))), .val (.int (128 : Int32)), .val (.int (191 : Int32)), .val (.int (2 : Int32)), .val (.int (2 : Int32)), .val (.int (x1 &&& (255 : Int32))), .unset] [(.int (x1 &&& (255 : Int32)))]))
        refine OGo.st (fun _ k => XS.iload X0.here hx rfl (hb hby d1_175) rfl k) ?_
        show OGo p e below s _ _ _ (s₁.setTop (mkF m 177 #[.val (.ref o0), .val (.int (0 : Int32)), .val (.int p2), .val (.int (x0 &&& (255 : Int32))), .val (.int (128 : Int32)), .val (.int (191 : Int32)), .val (.int (2 : Int32)), .val (.int (2 : Int32)), .val (.int (x1 &&& (255 : Int32))), .unset] [(.int (128 : Int32)), (.int (x1 &&& (255 : Int32)))]))
        by_cases hc177 : (x1 &&& (255 : Int32)) < (128 : Int32)
        · refine OGo.st (fun _ k => XS.icmpYes X0.here hx rfl (pc0 := 177) (pc' := 187) rfl (hb hby d1_177) rfl (tlt hc177).1 (by decide) (by decide) k) ?_
          show OGo p e below s _ _ _ (s₁.setTop (mkF m 187 #[.val (.ref o0), .val (.int (0 : Int32)), .val (.int p2), .val (.int (x0 &&& (255 : Int32))), .val (.int (128 : Int32)), .val (.int (191 : Int32)), .val (.int (2 : Int32)), .val (.int (2 : Int32)), .val (.int (x1 &&& (255 : Int32))), .unset] []))
          refine OGo.st (fun _ k => XS.iconst X0.here hx rfl (hb hby d1_187) k) ?_
          show OGo p e below s _ _ _ (s₁.setTop (mkF m 188 #[.val (.ref o0), .val (.int (0 : Int32)), .val (.int p2), .val (.int (x0 &&& (255 : Int32))), .val (.int (128 : Int32)), .val (.int (191 : Int32)), .val (.int (2 : Int32)), .val (.int (2 : Int32)), .val (.int (x1 &&& (255 : Int32))), .unset] [(.int (-1 : Int32))]))
          exact oretI X0 hx Bd.notSynchronized Bd.returns (hb hby d1_188) e0 ⟨(congrArg (fun z => some (Value.int z)) (show (-1 : Int32) = f1L0 p2 x0 x1 x2 x3 from Eq.symm (by unfold f1L0; exact (if_neg hc22).trans ((if_neg hc29).trans ((if_neg hc157).trans (if_pos hc177)))))), N0, rfl⟩ (by decide) (by decide)
        · refine OGo.st (fun _ k => XS.icmpNo X0.here hx rfl (hb hby d1_177) rfl (flt hc177).1 k) ?_
          show OGo p e below s _ _ _ (s₁.setTop (mkF m 180 #[.val (.ref o0), .val (.int (0 : Int32)), .val (.int p2), .val (.int (x0 &&& (255 : Int32))), .val (.int (128 : Int32)), .val (.int (191 : Int32)), .val (.int (2 : Int32)), .val (.int (2 : Int32)), .val (.int (x1 &&& (255 : Int32))), .unset] []))
          refine OGo.st (fun _ k => XS.iload X0.here hx rfl (hb hby d1_180) rfl k) ?_
          show OGo p e below s _ _ _ (s₁.setTop (mkF m 182 #[.val (.ref o0), .val (.int (0 : Int32)), .val (.int p2), .val (.int (x0 &&& (255 : Int32))), .val (.int (128 : Int32)), .val (.int (191 : Int32)), .val (.int (2 : Int32)), .val (.int (2 : Int32)), .val (.int (x1 &&& (255 : Int32))), .unset] [(.int (x1 &&& (255 : Int32)))]))
          refine OGo.st (fun _ k => XS.iload X0.here hx rfl (hb hby d1_182) rfl k) ?_
          show OGo p e below s _ _ _ (s₁.setTop (mkF m 184 #[.val (.ref o0), .val (.int (0 : Int32)), .val (.int p2), .val (.int (x0 &&& (255 : Int32))), .val (.int (128 : Int32)), .val (.int (191 : Int32)), .val (.int (2 : Int32)), .val (.int (2 : Int32)), .val (.int (x1 &&& (255 : Int32))), .unset] [(.int (191 : Int32)), (.int (x1 &&& (255 : Int32)))]))
          by_cases hc184 : (191 : Int32) < (x1 &&& (255 : Int32))
          · refine OGo.st (fun _ k => XS.icmpNo X0.here hx rfl (hb hby d1_184) rfl (tlt hc184).2.2.2 k) ?_
            show OGo p e below s _ _ _ (s₁.setTop (mkF m 187 #[.val (.ref o0), .val (.int (0 : Int32)), .val (.int p2), .val (.int (x0 &&& (255 : Int32))), .val (.int (128 : Int32)), .val (.int (191 : Int32)), .val (.int (2 : Int32)), .val (.int (2 : Int32)), .val (.int (x1 &&& (255 : Int32))), .unset] []))
            refine OGo.st (fun _ k => XS.iconst X0.here hx rfl (hb hby d1_187) k) ?_
            show OGo p e below s _ _ _ (s₁.setTop (mkF m 188 #[.val (.ref o0), .val (.int (0 : Int32)), .val (.int p2), .val (.int (x0 &&& (255 : Int32))), .val (.int (128 : Int32)), .val (.int (191 : Int32)), .val (.int (2 : Int32)), .val (.int (2 : Int32)), .val (.int (x1 &&& (255 : Int32))), .unset] [(.int (-1 : Int32))]))
            exact oretI X0 hx Bd.notSynchronized Bd.returns (hb hby d1_188) e0 ⟨(congrArg (fun z => some (Value.int z)) (show (-1 : Int32) = f1L0 p2 x0 x1 x2 x3 from Eq.symm (by unfold f1L0; exact (if_neg hc22).trans ((if_neg hc29).trans ((if_neg hc157).trans ((if_neg hc177).trans (if_pos hc184))))))), N0, rfl⟩ (by decide) (by decide)
          · refine OGo.st (fun _ k => XS.icmpYes X0.here hx rfl (pc0 := 184) (pc' := 189) rfl (hb hby d1_184) rfl (flt hc184).2.2.2 (by decide) (by decide) k) ?_
            show OGo p e below s _ _ _ (s₁.setTop (mkF m 189 #[.val (.ref o0), .val (.int (0 : Int32)), .val (.int p2), .val (.int (x0 &&& (255 : Int32))), .val (.int (128 : Int32)), .val (.int (191 : Int32)), .val (.int (2 : Int32)), .val (.int (2 : Int32)), .val (.int (x1 &&& (255 : Int32))), .unset] []))
            refine OGo.st (fun _ k => XS.iloadN X0.here hx rfl (hb hby d1_189) rfl k) ?_
            show OGo p e below s _ _ _ (s₁.setTop (mkF m 190 #[.val (.ref o0), .val (.int (0 : Int32)), .val (.int p2), .val (.int (x0 &&& (255 : Int32))), .val (.int (128 : Int32)), .val (.int (191 : Int32)), .val (.int (2 : Int32)), .val (.int (2 : Int32)), .val (.int (x1 &&& (255 : Int32))), .unset] [(.int (0 : Int32))]))
            refine OGo.st (fun _ k => XS.iconst X0.here hx rfl (hb hby d1_190) k) ?_
            show OGo p e below s _ _ _ (s₁.setTop (mkF m 191 #[.val (.ref o0), .val (.int (0 : Int32)), .val (.int p2), .val (.int (x0 &&& (255 : Int32))), .val (.int (128 : Int32)), .val (.int (191 : Int32)), .val (.int (2 : Int32)), .val (.int (2 : Int32)), .val (.int (x1 &&& (255 : Int32))), .unset] [(.int (2 : Int32)), (.int (0 : Int32))]))
            refine OGo.st (fun _ k => XS.iadd X0.here hx rfl (hb hby d1_191) rfl k) ?_
            rw [show ((0 : Int32) + (2 : Int32)) = (2 : Int32) from by decide]
            show OGo p e below s _ _ _ (s₁.setTop (mkF m 192 #[.val (.ref o0), .val (.int (0 : Int32)), .val (.int p2), .val (.int (x0 &&& (255 : Int32))), .val (.int (128 : Int32)), .val (.int (191 : Int32)), .val (.int (2 : Int32)), .val (.int (2 : Int32)), .val (.int (x1 &&& (255 : Int32))), .unset] [(.int (2 : Int32))]))
            refine OGo.st (fun _ k => XS.istore X0.here hx rfl (hb hby d1_192) rfl (l' := #[.val (.ref o0), .val (.int (0 : Int32)), .val (.int p2), .val (.int (x0 &&& (255 : Int32))), .val (.int (128 : Int32)), .val (.int (191 : Int32)), .val (.int (2 : Int32)), .val (.int (2 : Int32)), .val (.int (x1 &&& (255 : Int32))), .val (.int (2 : Int32))]) rfl k) ?_
            show OGo p e below s _ _ _ (s₁.setTop (mkF m 194 #[.val (.ref o0), .val (.int (0 : Int32)), .val (.int p2), .val (.int (x0 &&& (255 : Int32))), .val (.int (128 : Int32)), .val (.int (191 : Int32)), .val (.int (2 : Int32)), .val (.int (2 : Int32)), .val (.int (x1 &&& (255 : Int32))), .val (.int (2 : Int32))] []))
            refine OGo.st (fun _ k => XS.iload X0.here hx rfl (hb hby d1_194) rfl k) ?_
            show OGo p e below s _ _ _ (s₁.setTop (mkF m 196 #[.val (.ref o0), .val (.int (0 : Int32)), .val (.int p2), .val (.int (x0 &&& (255 : Int32))), .val (.int (128 : Int32)), .val (.int (191 : Int32)), .val (.int (2 : Int32)), .val (.int (2 : Int32)), .val (.int (x1 &&& (255 : Int32))), .val (.int (2 : Int32))] [(.int (2 : Int32))]))
            refine OGo.st (fun _ k => XS.iload X0.here hx rfl (hb hby d1_196) rfl k) ?_
            show OGo p e below s _ _ _ (s₁.setTop (mkF m 198 #[.val (.ref o0), .val (.int (0 : Int32)), .val (.int p2), .val (.int (x0 &&& (255 : Int32))), .val (.int (128 : Int32)), .val (.int (191 : Int32)), .val (.int (2 : Int32)), .val (.int (2 : Int32)), .val (.int (x1 &&& (255 : Int32))), .val (.int (2 : Int32))] [(.int (2 : Int32)), (.int (2 : Int32))]))
            refine OGo.st (fun _ k => XS.icmpYes X0.here hx rfl (pc0 := 198) (pc' := 223) rfl (hb hby d1_198) rfl (flt (by decide : ¬ ((2 : Int32) < (2 : Int32)))).2.1 (by decide) (by decide) k) ?_
            show OGo p e below s _ _ _ (s₁.setTop (mkF m 223 #[.val (.ref o0), .val (.int (0 : Int32)), .val (.int p2), .val (.int (x0 &&& (255 : Int32))), .val (.int (128 : Int32)), .val (.int (191 : Int32)), .val (.int (2 : Int32)), .val (.int (2 : Int32)), .val (.int (x1 &&& (255 : Int32))), .val (.int (2 : Int32))] []))
            refine OGo.st (fun _ k => XS.iload X0.here hx rfl (hb hby d1_223) rfl k) ?_
            show OGo p e below s _ _ _ (s₁.setTop (mkF m 225 #[.val (.ref o0), .val (.int (0 : Int32)), .val (.int p2), .val (.int (x0 &&& (255 : Int32))), .val (.int (128 : Int32)), .val (.int (191 : Int32)), .val (.int (2 : Int32)), .val (.int (2 : Int32)), .val (.int (x1 &&& (255 : Int32))), .val (.int (2 : Int32))] [(.int (2 : Int32))]))
            exact oretI X0 hx Bd.notSynchronized Bd.returns (hb hby d1_225) e0 ⟨(congrArg (fun z => some (Value.int z)) (show (2 : Int32) = f1L0 p2 x0 x1 x2 x3 from Eq.symm (by unfold f1L0; exact (if_neg hc22).trans ((if_neg hc29).trans ((if_neg hc157).trans ((if_neg hc177).trans (if_neg hc184))))))), N0, rfl⟩ (by decide) (by decide)
theorem ef_1L1 (m : MethodId) (o0 : Addr) (p2 : Int32) : entryFrame m #[(.ref o0), (.int (1 : Int32)), (.int p2)] 10 = mkF m 0 #[.val (.ref o0), .val (.int (1 : Int32)), .val (.int p2), .unset, .unset, .unset, .unset, .unset, .unset, .unset] [] := by first | (simp [entryFrame, mkF, argsToLocals, Value.category]; done) | rfl
def f1L1_141 (p2 : Int32) (x1 : Int32) (x2 : Int32) (x3 : Int32) (x4 : Int32) (j124_0 : Int32) (j141_0 : Int32) : Int32 := (if p2 < (5 : Int32) then (-1 : Int32) else (if (x2 &&& (255 : Int32)) < j124_0 then (-1 : Int32) else (if j141_0 < (x2 &&& (255 : Int32)) then (-1 : Int32) else (if (x3 &&& (192 : Int32)) = (128 : Int32) then (if (x4 &&& (192 : Int32)) = (128 : Int32) then (5 : Int32) else (-1 : Int32)) else (-1 : Int32)))))
def f1L1_124 (p2 : Int32) (x1 : Int32) (x2 : Int32) (x3 : Int32) (x4 : Int32) (j124_0 : Int32) : Int32 := (if (x1 &&& (255 : Int32)) = (244 : Int32) then (f1L1_141 p2 x1 x2 x3 x4 j124_0 (143 : Int32)) else (f1L1_141 p2 x1 x2 x3 x4 j124_0 (191 : Int32)))
def f1L1_87 (p2 : Int32) (x1 : Int32) (x2 : Int32) (x3 : Int32) (x4 : Int32) (j70_0 : Int32) (j87_0 : Int32) : Int32 := (if p2 < (4 : Int32) then (-1 : Int32) else (if (x2 &&& (255 : Int32)) < j70_0 then (-1 : Int32) else (if j87_0 < (x2 &&& (255 : Int32)) then (-1 : Int32) else (if (x3 &&& (192 : Int32)) = (128 : Int32) then (4 : Int32) else (-1 : Int32)))))
def f1L1_70 (p2 : Int32) (x1 : Int32) (x2 : Int32) (x3 : Int32) (x4 : Int32) (j70_0 : Int32) : Int32 := (if (x1 &&& (255 : Int32)) = (237 : Int32) then (f1L1_87 p2 x1 x2 x3 x4 j70_0 (159 : Int32)) else (f1L1_87 p2 x1 x2 x3 x4 j70_0 (191 : Int32)))
def f1L1 (p2 : Int32) (x1 : Int32) (x2 : Int32) (x3 : Int32) (x4 : Int32) : Int32 := (if (x1 &&& (255 : Int32)) < (194 : Int32) then (-1 : Int32) else (if (223 : Int32) < (x1 &&& (255 : Int32)) then (if (239 : Int32) < (x1 &&& (255 : Int32)) then (if (244 : Int32) < (x1 &&& (255 : Int32)) then (-1 : Int32) else (if (x1 &&& (255 : Int32)) = (240 : Int32) then (f1L1_124 p2 x1 x2 x3 x4 (144 : Int32)) else (f1L1_124 p2 x1 x2 x3 x4 (128 : Int32)))) else (if (x1 &&& (255 : Int32)) = (224 : Int32) then (f1L1_70 p2 x1 x2 x3 x4 (160 : Int32)) else (f1L1_70 p2 x1 x2 x3 x4 (128 : Int32)))) else (if p2 < (3 : Int32) then (-1 : Int32) else (if (x2 &&& (255 : Int32)) < (128 : Int32) then (-1 : Int32) else (if (191 : Int32) < (x2 &&& (255 : Int32)) then (-1 : Int32) else (3 : Int32))))))
def Q1L1 (Z : State) (o0 : Addr) (p2 : Int32) (k_o0 : ClassId) (x0 : Int32) (x1 : Int32) (x2 : Int32) (x3 : Int32) (x4 : Int32) (x5 : Int32) (h0 : Heap) (n0 : Nat) (v : Option Value) (h : Heap) (L : List Loc) : Prop := v = some (.int (f1L1 p2 x1 x2 x3 x4)) ∧ Fr n0 L ∧ h = h0
set_option maxRecDepth 65536 in
set_option maxHeartbeats 40000000 in
theorem rm1L1 (l : Launch) (Z : State) (a0 : Array Value) (hw : ∀ d ∈ tables_1, d.before a0 Z = true) (ws : List Jvm.Cond) (o0 : Addr) (p2 : Int32) (k_o0 : ClassId) (x0 : Int32) (x1 : Int32) (x2 : Int32) (x3 : Int32) (x4 : Int32) (x5 : Int32) (h0 : Heap) (n0 : Nat) (Z0 : n0 ≤ h0.size) (V_o0 : Arv Z h0 o0 k_o0 .byte (6 : Int32) [(.int x0), (.int x1), (.int x2), (.int x3), (.int x4), (.int x5)] (.int (0 : Int32))) :
    MetFree l (⟨"com/example/evbind/evbind/Utf8", "sequenceEnd", "([BII)I"⟩ : MethodName) (head1 (Jvm.Cond.code (⟨"com/example/evbind/evbind/Utf8", "sequenceEnd", "([BII)I"⟩ : MethodName) prog_44_method_6_code 10 (some .int) :: ws) ({ frames := 0, cells := 0, slots := 0, locals := 0 } : Room)) (fun a U => a = #[(.ref o0), (.int (1 : Int32)), (.int p2)] ∧ Z.Warmed39 U.vm ∧ U.heap = h0) (fun _ _ _ _ _ => True) (fun _ U o U' => ∃ v L, o = .returned v ∧ Q1L1 Z o0 p2 k_o0 x0 x1 x2 x3 x4 x5 h0 n0 v U'.heap L ∧ FrameEnd U o U' L ({ frames := 0, cells := 0, slots := 0, locals := 0 } : Room).cells ({ frames := 0, cells := 0, slots := 0, locals := 0 } : Room).slots) := by
  refine MetFree.of_bodySF (plainFor_of_name pn_1) hisR ?_
  intro p e s m args below meth c s₁ Bd hml0 hP hK
  obtain ⟨rfl, hZ, hh⟩ := hP
  have hx := Bd.exec
  have hby := Bd.bytes
  have hml : c.maxLocals = 10 := hml0
  have hown : s.vm.findClass "com/example/evbind/evbind/Utf8" = some m.cls := findClass_of_methodNamed Bd.named
  have hnm := (name_of_methodNamed Bd.named Bd.method).1
  have X0 : Stand p l e ({ frames := 0, cells := 0, slots := 0, locals := 0 } : Room) s m #[(.ref o0), (.int (1 : Int32)), (.int p2)] below meth c s₁ [] 0 0 := Stand.of_body Bd
  have e0 : s₁.heap = h0 := by rw [← hh, Bd.state]; rfl
  have N0 := Fr.nil n0
  show OGo p e below s (Q1L1 Z o0 p2 k_o0 x0 x1 x2 x3 x4 x5 h0 n0) ({ frames := 0, cells := 0, slots := 0, locals := 0 } : Room).cells ({ frames := 0, cells := 0, slots := 0, locals := 0 } : Room).slots _
  refine OGo.st (fun _ k => castTop (ef_1L1 m o0 p2) k) ?_
  show OGo p e below s _ _ _ (s₁.setTop (mkF m 0 #[.val (.ref o0), .val (.int (1 : Int32)), .val (.int p2), .unset, .unset, .unset, .unset, .unset, .unset, .unset] []))
  refine OGo.st (fun _ k => XS.aloadN X0.here hx rfl (hb hby d1_0) rfl rfl k) ?_
  show OGo p e below s _ _ _ (s₁.setTop (mkF m 1 #[.val (.ref o0), .val (.int (1 : Int32)), .val (.int p2), .unset, .unset, .unset, .unset, .unset, .unset, .unset] [(.ref o0)]))
  refine OGo.st (fun _ k => XS.iloadN X0.here hx rfl (hb hby d1_1) rfl k) ?_
  show OGo p e below s _ _ _ (s₁.setTop (mkF m 2 #[.val (.ref o0), .val (.int (1 : Int32)), .val (.int p2), .unset, .unset, .unset, .unset, .unset, .unset, .unset] [(.int (1 : Int32)), (.ref o0)]))
  obtain ⟨cl1, Ar1, q1, Sz1, Nn1, Hs1, Gs1⟩ := id V_o0
  have hin1 : ¬ ((1 : Int32) < 0 ∨ cl1.slots.size ≤ ((1 : Int32)).toNatClampNeg) := inb_of Sz1 ⟨by decide, by decide⟩
  have hat1 : cl1.slots[((1 : Int32)).toNatClampNeg]? = some (.int x1) := Hs1.at hin1 rfl
  refine OGo.st (fun _ k => X0.baloadBytes hx (j := (1 : Int32)) (v := (.int x1)) (by rw [e0]; exact Ar1.1) (State.isArrayOf_alike hZ.alike Ar1.2.1) Ar1.2.2 hin1 hat1 (g := (mkF m 2 #[.val (.ref o0), .val (.int (1 : Int32)), .val (.int p2), .unset, .unset, .unset, .unset, .unset, .unset, .unset] [(.int (1 : Int32)), (.ref o0)])) rfl rfl (hb hby d1_2) _ k) ?_
  show OGo p e below s _ _ _ (s₁.setTop (mkF m 3 #[.val (.ref o0), .val (.int (1 : Int32)), .val (.int p2), .unset, .unset, .unset, .unset, .unset, .unset, .unset] [(.int x1)]))
  refine OGo.st (fun _ k => XS.sipush X0.here hx rfl (hb hby d1_3) k) ?_
  show OGo p e below s _ _ _ (s₁.setTop (mkF m 6 #[.val (.ref o0), .val (.int (1 : Int32)), .val (.int p2), .unset, .unset, .unset, .unset, .unset, .unset, .unset] [(.int (255 : Int32)), (.int x1)]))
  refine OGo.st (fun _ k => XS.iand X0.here hx rfl (hb hby d1_6) rfl k) ?_
  show OGo p e below s _ _ _ (s₁.setTop (mkF m 7 #[.val (.ref o0), .val (.int (1 : Int32)), .val (.int p2), .unset, .unset, .unset, .unset, .unset, .unset, .unset] [(.int (x1 &&& (255 : Int32)))]))
  refine OGo.st (fun _ k => XS.istoreN X0.here hx rfl (hb hby d1_7) rfl (l' := #[.val (.ref o0), .val (.int (1 : Int32)), .val (.int p2), .val (.int (x1 &&& (255 : Int32))), .unset, .unset, .unset, .unset, .unset, .unset]) rfl k) ?_
  show OGo p e below s _ _ _ (s₁.setTop (mkF m 8 #[.val (.ref o0), .val (.int (1 : Int32)), .val (.int p2), .val (.int (x1 &&& (255 : Int32))), .unset, .unset, .unset, .unset, .unset, .unset] []))
  refine OGo.st (fun _ k => XS.sipush X0.here hx rfl (hb hby d1_8) k) ?_
  show OGo p e below s _ _ _ (s₁.setTop (mkF m 11 #[.val (.ref o0), .val (.int (1 : Int32)), .val (.int p2), .val (.int (x1 &&& (255 : Int32))), .unset, .unset, .unset, .unset, .unset, .unset] [(.int (128 : Int32))]))
  refine OGo.st (fun _ k => XS.istore X0.here hx rfl (hb hby d1_11) rfl (l' := #[.val (.ref o0), .val (.int (1 : Int32)), .val (.int p2), .val (.int (x1 &&& (255 : Int32))), .val (.int (128 : Int32)), .unset, .unset, .unset, .unset, .unset]) rfl k) ?_
  show OGo p e below s _ _ _ (s₁.setTop (mkF m 13 #[.val (.ref o0), .val (.int (1 : Int32)), .val (.int p2), .val (.int (x1 &&& (255 : Int32))), .val (.int (128 : Int32)), .unset, .unset, .unset, .unset, .unset] []))
  refine OGo.st (fun _ k => XS.sipush X0.here hx rfl (hb hby d1_13) k) ?_
  show OGo p e below s _ _ _ (s₁.setTop (mkF m 16 #[.val (.ref o0), .val (.int (1 : Int32)), .val (.int p2), .val (.int (x1 &&& (255 : Int32))), .val (.int (128 : Int32)), .unset, .unset, .unset, .unset, .unset] [(.int (191 : Int32))]))
  refine OGo.st (fun _ k => XS.istore X0.here hx rfl (hb hby d1_16) rfl (l' := #[.val (.ref o0), .val (.int (1 : Int32)), .val (.int p2), .val (.int (x1 &&& (255 : Int32))), .val (.int (128 : Int32)), .val (.int (191 : Int32)), .unset, .unset, .unset, .unset]) rfl k) ?_
  show OGo p e below s _ _ _ (s₁.setTop (mkF m 18 #[.val (.ref o0), .val (.int (1 : Int32)), .val (.int p2), .val (.int (x1 &&& (255 : Int32))), .val (.int (128 : Int32)), .val (.int (191 : Int32)), .unset, .unset, .unset, .unset] []))
  refine OGo.st (fun _ k => XS.iloadN X0.here hx rfl (hb hby d1_18) rfl k) ?_
  show OGo p e below s _ _ _ (s₁.setTop (mkF m 19 #[.val (.ref o0), .val (.int (1 : Int32)), .val (.int p2), .val (.int (x1 &&& (255 : Int32))), .val (.int (128 : Int32)), .val (.int (191 : Int32)), .unset, .unset, .unset, .unset] [(.int (x1 &&& (255 : Int32)))]))
  refine OGo.st (fun _ k => XS.sipush X0.here hx rfl (hb hby d1_19) k) ?_
  show OGo p e below s _ _ _ (s₁.setTop (mkF m 22 #[.val (.ref o0), .val (.int (1 : Int32)), .val (.int p2), .val (.int (x1 &&& (255 : Int32))), .val (.int (128 : Int32)), .val (.int (191 : Int32)), .unset, .unset, .unset, .unset] [(.int (194 : Int32)), (.int (x1 &&& (255 : Int32)))]))
  by_cases hc22 : (x1 &&& (255 : Int32)) < (194 : Int32)
  · refine OGo.st (fun _ k => XS.icmpYes X0.here hx rfl (pc0 := 22) (pc' := 38) rfl (hb hby d1_22) rfl (tlt hc22).1 (by decide) (by decide) k) ?_
    show OGo p e below s _ _ _ (s₁.setTop (mkF m 38 #[.val (.ref o0), .val (.int (1 : Int32)), .val (.int p2), .val (.int (x1 &&& (255 : Int32))), .val (.int (128 : Int32)), .val (.int (191 : Int32)), .unset, .unset, .unset, .unset] []))
    refine OGo.st (fun _ k => XS.iloadN X0.here hx rfl (hb hby d1_38) rfl k) ?_
    show OGo p e below s _ _ _ (s₁.setTop (mkF m 39 #[.val (.ref o0), .val (.int (1 : Int32)), .val (.int p2), .val (.int (x1 &&& (255 : Int32))), .val (.int (128 : Int32)), .val (.int (191 : Int32)), .unset, .unset, .unset, .unset] [(.int (x1 &&& (255 : Int32)))]))
    refine OGo.st (fun _ k => XS.sipush X0.here hx rfl (hb hby d1_39) k) ?_
    show OGo p e below s _ _ _ (s₁.setTop (mkF m 42 #[.val (.ref o0), .val (.int (1 : Int32)), .val (.int p2), .val (.int (x1 &&& (255 : Int32))), .val (.int (128 : Int32)), .val (.int (191 : Int32)), .unset, .unset, .unset, .unset] [(.int (224 : Int32)), (.int (x1 &&& (255 : Int32)))]))
    refine OGo.st (fun _ k => XS.icmpYes X0.here hx rfl (pc0 := 42) (pc' := 92) rfl (hb hby d1_42) rfl (tlt (oLL hc22 (by decide))).1 (by decide) (by decide) k) ?_
    show OGo p e below s _ _ _ (s₁.setTop (mkF m 92 #[.val (.ref o0), .val (.int (1 : Int32)), .val (.int p2), .val (.int (x1 &&& (255 : Int32))), .val (.int (128 : Int32)), .val (.int (191 : Int32)), .unset, .unset, .unset, .unset] []))
    refine OGo.st (fun _ k => XS.iloadN X0.here hx rfl (hb hby d1_92) rfl k) ?_
    show OGo p e below s _ _ _ (s₁.setTop (mkF m 93 #[.val (.ref o0), .val (.int (1 : Int32)), .val (.int p2), .val (.int (x1 &&& (255 : Int32))), .val (.int (128 : Int32)), .val (.int (191 : Int32)), .unset, .unset, .unset, .unset] [(.int (x1 &&& (255 : Int32)))]))
    refine OGo.st (fun _ k => XS.sipush X0.here hx rfl (hb hby d1_93) k) ?_
    show OGo p e below s _ _ _ (s₁.setTop (mkF m 96 #[.val (.ref o0), .val (.int (1 : Int32)), .val (.int p2), .val (.int (x1 &&& (255 : Int32))), .val (.int (128 : Int32)), .val (.int (191 : Int32)), .unset, .unset, .unset, .unset] [(.int (240 : Int32)), (.int (x1 &&& (255 : Int32)))]))
    refine OGo.st (fun _ k => XS.icmpYes X0.here hx rfl (pc0 := 96) (pc' := 146) rfl (hb hby d1_96) rfl (tlt (oLL hc22 (by decide))).1 (by decide) (by decide) k) ?_
    show OGo p e below s _ _ _ (s₁.setTop (mkF m 146 #[.val (.ref o0), .val (.int (1 : Int32)), .val (.int p2), .val (.int (x1 &&& (255 : Int32))), .val (.int (128 : Int32)), .val (.int (191 : Int32)), .unset, .unset, .unset, .unset] []))
    refine OGo.st (fun _ k => XS.iconst X0.here hx rfl (hb hby d1_146) k) ?_
    show OGo p e below s _ _ _ (s₁.setTop (mkF m 147 #[.val (.ref o0), .val (.int (1 : Int32)), .val (.int p2), .val (.int (x1 &&& (255 : Int32))), .val (.int (128 : Int32)), .val (.int (191 : Int32)), .unset, .unset, .unset, .unset] [(.int (-1 : Int32))]))
    exact oretI X0 hx Bd.notSynchronized Bd.returns (hb hby d1_147) e0 ⟨(congrArg (fun z => some (Value.int z)) (show (-1 : Int32) = f1L1 p2 x1 x2 x3 x4 from Eq.symm (by unfold f1L1; exact if_pos hc22))), N0, rfl⟩ (by decide) (by decide)
  · refine OGo.st (fun _ k => XS.icmpNo X0.here hx rfl (hb hby d1_22) rfl (flt hc22).1 k) ?_
    show OGo p e below s _ _ _ (s₁.setTop (mkF m 25 #[.val (.ref o0), .val (.int (1 : Int32)), .val (.int p2), .val (.int (x1 &&& (255 : Int32))), .val (.int (128 : Int32)), .val (.int (191 : Int32)), .unset, .unset, .unset, .unset] []))
    refine OGo.st (fun _ k => XS.iloadN X0.here hx rfl (hb hby d1_25) rfl k) ?_
    show OGo p e below s _ _ _ (s₁.setTop (mkF m 26 #[.val (.ref o0), .val (.int (1 : Int32)), .val (.int p2), .val (.int (x1 &&& (255 : Int32))), .val (.int (128 : Int32)), .val (.int (191 : Int32)), .unset, .unset, .unset, .unset] [(.int (x1 &&& (255 : Int32)))]))
    refine OGo.st (fun _ k => XS.sipush X0.here hx rfl (hb hby d1_26) k) ?_
    show OGo p e below s _ _ _ (s₁.setTop (mkF m 29 #[.val (.ref o0), .val (.int (1 : Int32)), .val (.int p2), .val (.int (x1 &&& (255 : Int32))), .val (.int (128 : Int32)), .val (.int (191 : Int32)), .unset, .unset, .unset, .unset] [(.int (223 : Int32)), (.int (x1 &&& (255 : Int32)))]))
    by_cases hc29 : (223 : Int32) < (x1 &&& (255 : Int32))
    · refine OGo.st (fun _ k => XS.icmpYes X0.here hx rfl (pc0 := 29) (pc' := 38) rfl (hb hby d1_29) rfl (tlt hc29).2.2.1 (by decide) (by decide) k) ?_
      show OGo p e below s _ _ _ (s₁.setTop (mkF m 38 #[.val (.ref o0), .val (.int (1 : Int32)), .val (.int p2), .val (.int (x1 &&& (255 : Int32))), .val (.int (128 : Int32)), .val (.int (191 : Int32)), .unset, .unset, .unset, .unset] []))
      refine OGo.st (fun _ k => XS.iloadN X0.here hx rfl (hb hby d1_38) rfl k) ?_
      show OGo p e below s _ _ _ (s₁.setTop (mkF m 39 #[.val (.ref o0), .val (.int (1 : Int32)), .val (.int p2), .val (.int (x1 &&& (255 : Int32))), .val (.int (128 : Int32)), .val (.int (191 : Int32)), .unset, .unset, .unset, .unset] [(.int (x1 &&& (255 : Int32)))]))
      refine OGo.st (fun _ k => XS.sipush X0.here hx rfl (hb hby d1_39) k) ?_
      show OGo p e below s _ _ _ (s₁.setTop (mkF m 42 #[.val (.ref o0), .val (.int (1 : Int32)), .val (.int p2), .val (.int (x1 &&& (255 : Int32))), .val (.int (128 : Int32)), .val (.int (191 : Int32)), .unset, .unset, .unset, .unset] [(.int (224 : Int32)), (.int (x1 &&& (255 : Int32)))]))
      refine OGo.st (fun _ k => XS.icmpNo X0.here hx rfl (hb hby d1_42) rfl (flt (oGnL hc29 (by decide))).1 k) ?_
      show OGo p e below s _ _ _ (s₁.setTop (mkF m 45 #[.val (.ref o0), .val (.int (1 : Int32)), .val (.int p2), .val (.int (x1 &&& (255 : Int32))), .val (.int (128 : Int32)), .val (.int (191 : Int32)), .unset, .unset, .unset, .unset] []))
      refine OGo.st (fun _ k => XS.iloadN X0.here hx rfl (hb hby d1_45) rfl k) ?_
      show OGo p e below s _ _ _ (s₁.setTop (mkF m 46 #[.val (.ref o0), .val (.int (1 : Int32)), .val (.int p2), .val (.int (x1 &&& (255 : Int32))), .val (.int (128 : Int32)), .val (.int (191 : Int32)), .unset, .unset, .unset, .unset] [(.int (x1 &&& (255 : Int32)))]))
      refine OGo.st (fun _ k => XS.sipush X0.here hx rfl (hb hby d1_46) k) ?_
      show OGo p e below s _ _ _ (s₁.setTop (mkF m 49 #[.val (.ref o0), .val (.int (1 : Int32)), .val (.int p2), .val (.int (x1 &&& (255 : Int32))), .val (.int (128 : Int32)), .val (.int (191 : Int32)), .unset, .unset, .unset, .unset] [(.int (239 : Int32)), (.int (x1 &&& (255 : Int32)))]))
      by_cases hc49 : (239 : Int32) < (x1 &&& (255 : Int32))
      · refine OGo.st (fun _ k => XS.icmpYes X0.here hx rfl (pc0 := 49) (pc' := 92) rfl (hb hby d1_49) rfl (tlt hc49).2.2.1 (by decide) (by decide) k) ?_
        show OGo p e below s _ _ _ (s₁.setTop (mkF m 92 #[.val (.ref o0), .val (.int (1 : Int32)), .val (.int p2), .val (.int (x1 &&& (255 : Int32))), .val (.int (128 : Int32)), .val (.int (191 : Int32)), .unset, .unset, .unset, .unset] []))
        refine OGo.st (fun _ k => XS.iloadN X0.here hx rfl (hb hby d1_92) rfl k) ?_
        show OGo p e below s _ _ _ (s₁.setTop (mkF m 93 #[.val (.ref o0), .val (.int (1 : Int32)), .val (.int p2), .val (.int (x1 &&& (255 : Int32))), .val (.int (128 : Int32)), .val (.int (191 : Int32)), .unset, .unset, .unset, .unset] [(.int (x1 &&& (255 : Int32)))]))
        refine OGo.st (fun _ k => XS.sipush X0.here hx rfl (hb hby d1_93) k) ?_
        show OGo p e below s _ _ _ (s₁.setTop (mkF m 96 #[.val (.ref o0), .val (.int (1 : Int32)), .val (.int p2), .val (.int (x1 &&& (255 : Int32))), .val (.int (128 : Int32)), .val (.int (191 : Int32)), .unset, .unset, .unset, .unset] [(.int (240 : Int32)), (.int (x1 &&& (255 : Int32)))]))
        refine OGo.st (fun _ k => XS.icmpNo X0.here hx rfl (hb hby d1_96) rfl (flt (oGnL hc49 (by decide))).1 k) ?_
        show OGo p e below s _ _ _ (s₁.setTop (mkF m 99 #[.val (.ref o0), .val (.int (1 : Int32)), .val (.int p2), .val (.int (x1 &&& (255 : Int32))), .val (.int (128 : Int32)), .val (.int (191 : Int32)), .unset, .unset, .unset, .unset] []))
        refine OGo.st (fun _ k => XS.iloadN X0.here hx rfl (hb hby d1_99) rfl k) ?_
        show OGo p e below s _ _ _ (s₁.setTop (mkF m 100 #[.val (.ref o0), .val (.int (1 : Int32)), .val (.int p2), .val (.int (x1 &&& (255 : Int32))), .val (.int (128 : Int32)), .val (.int (191 : Int32)), .unset, .unset, .unset, .unset] [(.int (x1 &&& (255 : Int32)))]))
        refine OGo.st (fun _ k => XS.sipush X0.here hx rfl (hb hby d1_100) k) ?_
        show OGo p e below s _ _ _ (s₁.setTop (mkF m 103 #[.val (.ref o0), .val (.int (1 : Int32)), .val (.int p2), .val (.int (x1 &&& (255 : Int32))), .val (.int (128 : Int32)), .val (.int (191 : Int32)), .unset, .unset, .unset, .unset] [(.int (244 : Int32)), (.int (x1 &&& (255 : Int32)))]))
        by_cases hc103 : (244 : Int32) < (x1 &&& (255 : Int32))
        · refine OGo.st (fun _ k => XS.icmpYes X0.here hx rfl (pc0 := 103) (pc' := 146) rfl (hb hby d1_103) rfl (tlt hc103).2.2.1 (by decide) (by decide) k) ?_
          show OGo p e below s _ _ _ (s₁.setTop (mkF m 146 #[.val (.ref o0), .val (.int (1 : Int32)), .val (.int p2), .val (.int (x1 &&& (255 : Int32))), .val (.int (128 : Int32)), .val (.int (191 : Int32)), .unset, .unset, .unset, .unset] []))
          refine OGo.st (fun _ k => XS.iconst X0.here hx rfl (hb hby d1_146) k) ?_
          show OGo p e below s _ _ _ (s₁.setTop (mkF m 147 #[.val (.ref o0), .val (.int (1 : Int32)), .val (.int p2), .val (.int (x1 &&& (255 : Int32))), .val (.int (128 : Int32)), .val (.int (191 : Int32)), .unset, .unset, .unset, .unset] [(.int (-1 : Int32))]))
          exact oretI X0 hx Bd.notSynchronized Bd.returns (hb hby d1_147) e0 ⟨(congrArg (fun z => some (Value.int z)) (show (-1 : Int32) = f1L1 p2 x1 x2 x3 x4 from Eq.symm (by unfold f1L1; exact (if_neg hc22).trans ((if_pos hc29).trans ((if_pos hc49).trans (if_pos hc103)))))), N0, rfl⟩ (by decide) (by decide)
        · refine OGo.st (fun _ k => XS.icmpNo X0.here hx rfl (hb hby d1_103) rfl (flt hc103).2.2.1 k) ?_
          show OGo p e below s _ _ _ (s₁.setTop (mkF m 106 #[.val (.ref o0), .val (.int (1 : Int32)), .val (.int p2), .val (.int (x1 &&& (255 : Int32))), .val (.int (128 : Int32)), .val (.int (191 : Int32)), .unset, .unset, .unset, .unset] []))
          refine OGo.st (fun _ k => XS.iconst X0.here hx rfl (hb hby d1_106) k) ?_
          show OGo p e below s _ _ _ (s₁.setTop (mkF m 107 #[.val (.ref o0), .val (.int (1 : Int32)), .val (.int p2), .val (.int (x1 &&& (255 : Int32))), .val (.int (128 : Int32)), .val (.int (191 : Int32)), .unset, .unset, .unset, .unset] [(.int (4 : Int32))]))
          refine OGo.st (fun _ k => XS.istore X0.here hx rfl (hb hby d1_107) rfl (l' := #[.val (.ref o0), .val (.int (1 : Int32)), .val (.int p2), .val (.int (x1 &&& (255 : Int32))), .val (.int (128 : Int32)), .val (.int (191 : Int32)), .val (.int (4 : Int32)), .unset, .unset, .unset]) rfl k) ?_
          show OGo p e below s _ _ _ (s₁.setTop (mkF m 109 #[.val (.ref o0), .val (.int (1 : Int32)), .val (.int p2), .val (.int (x1 &&& (255 : Int32))), .val (.int (128 : Int32)), .val (.int (191 : Int32)), .val (.int (4 : Int32)), .unset, .unset, .unset] []))
          refine OGo.st (fun _ k => XS.iloadN X0.here hx rfl (hb hby d1_109) rfl k) ?_
          show OGo p e below s _ _ _ (s₁.setTop (mkF m 110 #[.val (.ref o0), .val (.int (1 : Int32)), .val (.int p2), .val (.int (x1 &&& (255 : Int32))), .val (.int (128 : Int32)), .val (.int (191 : Int32)), .val (.int (4 : Int32)), .unset, .unset, .unset] [(.int (x1 &&& (255 : Int32)))]))
          refine OGo.st (fun _ k => XS.sipush X0.here hx rfl (hb hby d1_110) k) ?_
          show OGo p e below s _ _ _ (s₁.setTop (mkF m 113 #[.val (.ref o0), .val (.int (1 : Int32)), .val (.int p2), .val (.int (x1 &&& (255 : Int32))), .val (.int (128 : Int32)), .val (.int (191 : Int32)), .val (.int (4 : Int32)), .unset, .unset, .unset] [(.int (240 : Int32)), (.int (x1 &&& (255 : Int32)))]))
          have hj124 : ∀ (j124_0 : Int32) (hf124_0 : f1L1 p2 x1 x2 x3 x4 = f1L1_124 p2 x1 x2 x3 x4 j124_0), OGo p e below s (Q1L1 Z o0 p2 k_o0 x0 x1 x2 x3 x4 x5 h0 n0) ({ frames := 0, cells := 0, slots := 0, locals := 0 } : Room).cells ({ frames := 0, cells := 0, slots := 0, locals := 0 } : Room).slots (s₁.setTop (mkF m 124 #[.val (.ref o0), .val (.int (1 : Int32)), .val (.int p2), .val (.int (x1 &&& (255 : Int32))), .val (.int (128 : Int32)), .val (.int (191 : Int32)), .val (.int (4 : Int32)), .unset, .unset, .unset] [(.int j124_0)])) := by
            intro j124_0 hf124_0
            refine OGo.st (fun _ k => XS.istore X0.here hx rfl (hb hby d1_124) rfl (l' := #[.val (.ref o0), .val (.int (1 : Int32)), .val (.int p2), .val (.int (x1 &&& (255 : Int32))), .val (.int j124_0), .val (.int (191 : Int32)), .val (.int (4 : Int32)), .unset, .unset, .unset]) rfl k) ?_
            show OGo p e below s _ _ _ (s₁.setTop (mkF m 126 #[.val (.ref o0), .val (.int (1 : Int32)), .val (.int p2), .val (.int (x1 &&& (255 : Int32))), .val (.int j124_0), .val (.int (191 : Int32)), .val (.int (4 : Int32)), .unset, .unset, .unset] []))
            refine OGo.st (fun _ k => XS.iloadN X0.here hx rfl (hb hby d1_126) rfl k) ?_
            show OGo p e below s _ _ _ (s₁.setTop (mkF m 127 #[.val (.ref o0), .val (.int (1 : Int32)), .val (.int p2), .val (.int (x1 &&& (255 : Int32))), .val (.int j124_0), .val (.int (191 : Int32)), .val (.int (4 : Int32)), .unset, .unset, .unset] [(.int (x1 &&& (255 : Int32)))]))
            refine OGo.st (fun _ k => XS.sipush X0.here hx rfl (hb hby d1_127) k) ?_
            show OGo p e below s _ _ _ (s₁.setTop (mkF m 130 #[.val (.ref o0), .val (.int (1 : Int32)), .val (.int p2), .val (.int (x1 &&& (255 : Int32))), .val (.int j124_0), .val (.int (191 : Int32)), .val (.int (4 : Int32)), .unset, .unset, .unset] [(.int (244 : Int32)), (.int (x1 &&& (255 : Int32)))]))
            have hj141 : ∀ (j141_0 : Int32) (hf141_0 : f1L1 p2 x1 x2 x3 x4 = f1L1_141 p2 x1 x2 x3 x4 j124_0 j141_0), OGo p e below s (Q1L1 Z o0 p2 k_o0 x0 x1 x2 x3 x4 x5 h0 n0) ({ frames := 0, cells := 0, slots := 0, locals := 0 } : Room).cells ({ frames := 0, cells := 0, slots := 0, locals := 0 } : Room).slots (s₁.setTop (mkF m 141 #[.val (.ref o0), .val (.int (1 : Int32)), .val (.int p2), .val (.int (x1 &&& (255 : Int32))), .val (.int j124_0), .val (.int (191 : Int32)), .val (.int (4 : Int32)), .unset, .unset, .unset] [(.int j141_0)])) := by
              intro j141_0 hf141_0
              refine OGo.st (fun _ k => XS.istore X0.here hx rfl (hb hby d1_141) rfl (l' := #[.val (.ref o0), .val (.int (1 : Int32)), .val (.int p2), .val (.int (x1 &&& (255 : Int32))), .val (.int j124_0), .val (.int j141_0), .val (.int (4 : Int32)), .unset, .unset, .unset]) rfl k) ?_
              show OGo p e below s _ _ _ (s₁.setTop (mkF m 143 #[.val (.ref o0), .val (.int (1 : Int32)), .val (.int p2), .val (.int (x1 &&& (255 : Int32))), .val (.int j124_0), .val (.int j141_0), .val (.int (4 : Int32)), .unset, .unset, .unset] []))
              refine OGo.st (fun _ k => XS.goto X0.here hx rfl (pc0 := 143) (pc' := 148) rfl (hb hby d1_143) (by decide) (by decide) k) ?_
              show OGo p e below s _ _ _ (s₁.setTop (mkF m 148 #[.val (.ref o0), .val (.int (1 : Int32)), .val (.int p2), .val (.int (x1 &&& (255 : Int32))), .val (.int j124_0), .val (.int j141_0), .val (.int (4 : Int32)), .unset, .unset, .unset] []))
              refine OGo.st (fun _ k => XS.iloadN X0.here hx rfl (hb hby d1_148) rfl k) ?_
              show OGo p e below s _ _ _ (s₁.setTop (mkF m 149 #[.val (.ref o0), .val (.int (1 : Int32)), .val (.int p2), .val (.int (x1 &&& (255 : Int32))), .val (.int j124_0), .val (.int j141_0), .val (.int (4 : Int32)), .unset, .unset, .unset] [(.int (1 : Int32))]))
              refine OGo.st (fun _ k => XS.iload X0.here hx rfl (hb hby d1_149) rfl k) ?_
              show OGo p e below s _ _ _ (s₁.setTop (mkF m 151 #[.val (.ref o0), .val (.int (1 : Int32)), .val (.int p2), .val (.int (x1 &&& (255 : Int32))), .val (.int j124_0), .val (.int j141_0), .val (.int (4 : Int32)), .unset, .unset, .unset] [(.int (4 : Int32)), (.int (1 : Int32))]))
              refine OGo.st (fun _ k => XS.iadd X0.here hx rfl (hb hby d1_151) rfl k) ?_
              rw [show ((1 : Int32) + (4 : Int32)) = (5 : Int32) from by decide]
              show OGo p e below s _ _ _ (s₁.setTop (mkF m 152 #[.val (.ref o0), .val (.int (1 : Int32)), .val (.int p2), .val (.int (x1 &&& (255 : Int32))), .val (.int j124_0), .val (.int j141_0), .val (.int (4 : Int32)), .unset, .unset, .unset] [(.int (5 : Int32))]))
              refine OGo.st (fun _ k => XS.istore X0.here hx rfl (hb hby d1_152) rfl (l' := #[.val (.ref o0), .val (.int (1 : Int32)), .val (.int p2), .val (.int (x1 &&& (255 : Int32))), .val (.int j124_0), .val (.int j141_0), .val (.int (4 : Int32)), .val (.int (5 : Int32)), .unset, .unset]) rfl k) ?_
              show OGo p e below s _ _ _ (s₁.setTop (mkF m 154 #[.val (.ref o0), .val (.int (1 : Int32)), .val (.int p2), .val (.int (x1 &&& (255 : Int32))), .val (.int j124_0), .val (.int j141_0), .val (.int (4 : Int32)), .val (.int (5 : Int32)), .unset, .unset] []))
              refine OGo.st (fun _ k => XS.iload X0.here hx rfl (hb hby d1_154) rfl k) ?_
              show OGo p e below s _ _ _ (s₁.setTop (mkF m 156 #[.val (.ref o0), .val (.int (1 : Int32)), .val (.int p2), .val (.int (x1 &&& (255 : Int32))), .val (.int j124_0), .val (.int j141_0), .val (.int (4 : Int32)), .val (.int (5 : Int32)), .unset, .unset] [(.int (5 : Int32))]))
              refine OGo.st (fun _ k => XS.iloadN X0.here hx rfl (hb hby d1_156) rfl k) ?_
              show OGo p e below s _ _ _ (s₁.setTop (mkF m 157 #[.val (.ref o0), .val (.int (1 : Int32)), .val (.int p2), .val (.int (x1 &&& (255 : Int32))), .val (.int j124_0), .val (.int j141_0), .val (.int (4 : Int32)), .val (.int (5 : Int32)), .unset, .unset] [(.int p2), (.int (5 : Int32))]))
              by_cases hc157 : p2 < (5 : Int32)
              · refine OGo.st (fun _ k => XS.icmpNo X0.here hx rfl (hb hby d1_157) rfl (tlt hc157).2.2.2 k) ?_
                show OGo p e below s _ _ _ (s₁.setTop (mkF m 160 #[.val (.ref o0), .val (.int (1 : Int32)), .val (.int p2), .val (.int (x1 &&& (255 : Int32))), .val (.int j124_0), .val (.int j141_0), .val (.int (4 : Int32)), .val (.int (5 : Int32)), .unset, .unset] []))
                refine OGo.st (fun _ k => XS.iconst X0.here hx rfl (hb hby d1_160) k) ?_
                show OGo p e below s _ _ _ (s₁.setTop (mkF m 161 #[.val (.ref o0), .val (.int (1 : Int32)), .val (.int p2), .val (.int (x1 &&& (255 : Int32))), .val (.int j124_0), .val (.int j141_0), .val (.int (4 : Int32)), .val (.int (5 : Int32)), .unset, .unset] [(.int (-1 : Int32))]))
                exact oretI X0 hx Bd.notSynchronized Bd.returns (hb hby d1_161) e0 ⟨(congrArg (fun z => some (Value.int z)) (show (-1 : Int32) = f1L1 p2 x1 x2 x3 x4 from Eq.symm (hf141_0.trans (by unfold f1L1_141; exact if_pos hc157)))), N0, rfl⟩ (by decide) (by decide)
              · refine OGo.st (fun _ k => XS.icmpYes X0.here hx rfl (pc0 := 157) (pc' := 162) rfl (hb hby d1_157) rfl (flt hc157).2.2.2 (by decide) (by decide) k) ?_
                show OGo p e below s _ _ _ (s₁.setTop (mkF m 162 #[.val (.ref o0), .val (.int (1 : Int32)), .val (.int p2), .val (.int (x1 &&& (255 : Int32))), .val (.int j124_0), .val (.int j141_0), .val (.int (4 : Int32)), .val (.int (5 : Int32)), .unset, .unset] []))
                refine OGo.st (fun _ k => XS.aloadN X0.here hx rfl (hb hby d1_162) rfl rfl k) ?_
                show OGo p e below s _ _ _ (s₁.setTop (mkF m 163 #[.val (.ref o0), .val (.int (1 : Int32)), .val (.int p2), .val (.int (x1 &&& (255 : Int32))), .val (.int j124_0), .val (.int j141_0), .val (.int (4 : Int32)), .val (.int (5 : Int32)), .unset, .unset] [(.ref o0)]))
                refine OGo.st (fun _ k => XS.iloadN X0.here hx rfl (hb hby d1_163) rfl k) ?_
                show OGo p e below s _ _ _ (s₁.setTop (mkF m 164 #[.val (.ref o0), .val (.int (1 : Int32)), .val (.int p2), .val (.int (x1 &&& (255 : Int32))), .val (.int j124_0), .val (.int j141_0), .val (.int (4 : Int32)), .val (.int (5 : Int32)), .unset, .unset] [(.int (1 : Int32)), (.ref o0)]))
                refine OGo.st (fun _ k => XS.iconst X0.here hx rfl (hb hby d1_164) k) ?_
                show OGo p e below s _ _ _ (s₁.setTop (mkF m 165 #[.val (.ref o0), .val (.int (1 : Int32)), .val (.int p2), .val (.int (x1 &&& (255 : Int32))), .val (.int j124_0), .val (.int j141_0), .val (.int (4 : Int32)), .val (.int (5 : Int32)), .unset, .unset] [(.int (1 : Int32)), (.int (1 : Int32)), (.ref o0)]))
                refine OGo.st (fun _ k => XS.iadd X0.here hx rfl (hb hby d1_165) rfl k) ?_
                rw [show ((1 : Int32) + (1 : Int32)) = (2 : Int32) from by decide]
                show OGo p e below s _ _ _ (s₁.setTop (mkF m 166 #[.val (.ref o0), .val (.int (1 : Int32)), .val (.int p2), .val (.int (x1 &&& (255 : Int32))), .val (.int j124_0), .val (.int j141_0), .val (.int (4 : Int32)), .val (.int (5 : Int32)), .unset, .unset] [(.int (2 : Int32)), (.ref o0)]))
                obtain ⟨cl4, Ar4, q4, Sz4, Nn4, Hs4, Gs4⟩ := id V_o0
                have hin4 : ¬ ((2 : Int32) < 0 ∨ cl4.slots.size ≤ ((2 : Int32)).toNatClampNeg) := inb_of Sz4 ⟨by decide, by decide⟩
                have hat4 : cl4.slots[((2 : Int32)).toNatClampNeg]? = some (.int x2) := Hs4.at hin4 rfl
                refine OGo.st (fun _ k => X0.baloadBytes hx (j := (2 : Int32)) (v := (.int x2)) (by rw [e0]; exact Ar4.1) (State.isArrayOf_alike hZ.alike Ar4.2.1) Ar4.2.2 hin4 hat4 (g := (mkF m 166 #[.val (.ref o0), .val (.int (1 : Int32)), .val (.int p2), .val (.int (x1 &&& (255 : Int32))), .val (.int j124_0), .val (.int j141_0), .val (.int (4 : Int32)), .val (.int (5 : Int32)), .unset, .unset] [(.int (2 : Int32)), (.ref o0)])) rfl rfl (hb hby d1_166) _ k) ?_
                show OGo p e below s _ _ _ (s₁.setTop (mkF m 167 #[.val (.ref o0), .val (.int (1 : Int32)), .val (.int p2), .val (.int (x1 &&& (255 : Int32))), .val (.int j124_0), .val (.int j141_0), .val (.int (4 : Int32)), .val (.int (5 : Int32)), .unset, .unset] [(.int x2)]))
                refine OGo.st (fun _ k => XS.sipush X0.here hx rfl (hb hby d1_167) k) ?_
                show OGo p e below s _ _ _ (s₁.setTop (mkF m 170 #[.val (.ref o0), .val (.int (1 : Int32)), .val (.int p2), .val (.int (x1 &&& (255 : Int32))), .val (.int j124_0), .val (.int j141_0), .val (.int (4 : Int32)), .val (.int (5 : Int32)), .unset, .unset] [(.int (255 : Int32)), (.int x2)]))
                refine OGo.st (fun _ k => XS.iand X0.here hx rfl (hb hby d1_170) rfl k) ?_
                show OGo p e below s _ _ _ (s₁.setTop (mkF m 171 #[.val (.ref o0), .val (.int (1 : Int32)), .val (.int p2), .val (.int (x1 &&& (255 : Int32))), .val (.int j124_0), .val (.int j141_0), .val (.int (4 : Int32)), .val (.int (5 : Int32)), .unset, .unset] [(.int (x2 &&& (255 : Int32)))]))
                refine OGo.st (fun _ k => XS.istore X0.here hx rfl (hb hby d1_171) rfl (l' := #[.val (.ref o0), .val (.int (1 : Int32)), .val (.int p2), .val (.int (x1 &&& (255 : Int32))), .val (.int j124_0), .val (.int j141_0), .val (.int (4 : Int32)), .val (.int (5 : Int32)), .val (.int (x2 &&& (255 : Int32))), .unset]) rfl k) ?_
                show OGo p e below s _ _ _ (s₁.setTop (mkF m 173 #[.val (.ref o0), .val (.int (1 : Int32)), .val (.int p2), .val (.int (x1 &&& (255 : Int32))), .val (.int j124_0), .val (.int j141_0), .val (.int (4 : Int32)), .val (.int (5 : Int32)), .val (.int (x2 &&& (255 : Int32))), .unset] []))
                refine OGo.st (fun _ k => XS.iload X0.here hx rfl (hb hby d1_173) rfl k) ?_
                show OGo p e below s _ _ _ (s₁.setTop (mkF m 175 #[.val (.ref o0), .val (.int (1 : Int32)), .val (.int p2), .val (.int (x1 &&& (255 : Int32))), .val (.int j124_0), .val (.int j141_0), .val (.int (4 : Int32)), .val (.int (5 : Int32)), .val (.int (x2 &&& (255 : Int32))), .unset] [(.int (x2 &&& (255 : Int32)))]))
                refine OGo.st (fun _ k => XS.iload X0.here hx rfl (hb hby d1_175) rfl k) ?_
                show OGo p e below s _ _ _ (s₁.setTop (mkF m 177 #[.val (.ref o0), .val (.int (1 : Int32)), .val (.int p2), .val (.int (x1 &&& (255 : Int32))), .val (.int j124_0), .val (.int j141_0), .val (.int (4 : Int32)), .val (.int (5 : Int32)), .val (.int (x2 &&& (255 : Int32))), .unset] [(.int j124_0), (.int (x2 &&& (255 : Int32)))]))
                by_cases hc177 : (x2 &&& (255 : Int32)) < j124_0
                · refine OGo.st (fun _ k => XS.icmpYes X0.here hx rfl (pc0 := 177) (pc' := 187) rfl (hb hby d1_177) rfl (tlt hc177).1 (by decide) (by decide) k) ?_
                  show OGo p e below s _ _ _ (s₁.setTop (mkF m 187 #[.val (.ref o0), .val (.int (1 : Int32)), .val (.int p2), .val (.int (x1 &&& (255 : Int32))), .val (.int j124_0), .val (.int j141_0), .val (.int (4 : Int32)), .val (.int (5 : Int32)), .val (.int (x2 &&& (255 : Int32))), .unset] []))
                  refine OGo.st (fun _ k => XS.iconst X0.here hx rfl (hb hby d1_187) k) ?_
                  show OGo p e below s _ _ _ (s₁.setTop (mkF m 188 #[.val (.ref o0), .val (.int (1 : Int32)), .val (.int p2), .val (.int (x1 &&& (255 : Int32))), .val (.int j124_0), .val (.int j141_0), .val (.int (4 : Int32)), .val (.int (5 : Int32)), .val (.int (x2 &&& (255 : Int32))), .unset] [(.int (-1 : Int32))]))
                  exact oretI X0 hx Bd.notSynchronized Bd.returns (hb hby d1_188) e0 ⟨(congrArg (fun z => some (Value.int z)) (show (-1 : Int32) = f1L1 p2 x1 x2 x3 x4 from Eq.symm (hf141_0.trans (by unfold f1L1_141; exact (if_neg hc157).trans (if_pos hc177))))), N0, rfl⟩ (by decide) (by decide)
                · refine OGo.st (fun _ k => XS.icmpNo X0.here hx rfl (hb hby d1_177) rfl (flt hc177).1 k) ?_
                  show OGo p e below s _ _ _ (s₁.setTop (mkF m 180 #[.val (.ref o0), .val (.int (1 : Int32)), .val (.int p2), .val (.int (x1 &&& (255 : Int32))), .val (.int j124_0), .val (.int j141_0), .val (.int (4 : Int32)), .val (.int (5 : Int32)), .val (.int (x2 &&& (255 : Int32))), .unset] []))
                  refine OGo.st (fun _ k => XS.iload X0.here hx rfl (hb hby d1_180) rfl k) ?_
                  show OGo p e below s _ _ _ (s₁.setTop (mkF m 182 #[.val (.ref o0), .val (.int (1 : Int32)), .val (.int p2), .val (.int (x1 &&& (255 : Int32))), .val (.int j124_0), .val (.int j141_0), .val (.int (4 : Int32)), .val (.int (5 : Int32)), .val (.int (x2 &&& (255 : Int32))), .unset] [(.int (x2 &&& (255 : Int32)))]))
                  refine OGo.st (fun _ k => XS.iload X0.here hx rfl (hb hby d1_182) rfl k) ?_
                  show OGo p e below s _ _ _ (s₁.setTop (mkF m 184 #[.val (.ref o0), .val (.int (1 : Int32)), .val (.int p2), .val (.int (x1 &&& (255 : Int32))), .val (.int j124_0), .val (.int j141_0), .val (.int (4 : Int32)), .val (.int (5 : Int32)), .val (.int (x2 &&& (255 : Int32))), .unset] [(.int j141_0), (.int (x2 &&& (255 : Int32)))]))
                  by_cases hc184 : j141_0 < (x2 &&& (255 : Int32))
                  · refine OGo.st (fun _ k => XS.icmpNo X0.here hx rfl (hb hby d1_184) rfl (tlt hc184).2.2.2 k) ?_
                    show OGo p e below s _ _ _ (s₁.setTop (mkF m 187 #[.val (.ref o0), .val (.int (1 : Int32)), .val (.int p2), .val (.int (x1 &&& (255 : Int32))), .val (.int j124_0), .val (.int j141_0), .val (.int (4 : Int32)), .val (.int (5 : Int32)), .val (.int (x2 &&& (255 : Int32))), .unset] []))
                    refine OGo.st (fun _ k => XS.iconst X0.here hx rfl (hb hby d1_187) k) ?_
                    show OGo p e below s _ _ _ (s₁.setTop (mkF m 188 #[.val (.ref o0), .val (.int (1 : Int32)), .val (.int p2), .val (.int (x1 &&& (255 : Int32))), .val (.int j124_0), .val (.int j141_0), .val (.int (4 : Int32)), .val (.int (5 : Int32)), .val (.int (x2 &&& (255 : Int32))), .unset] [(.int (-1 : Int32))]))
                    exact oretI X0 hx Bd.notSynchronized Bd.returns (hb hby d1_188) e0 ⟨(congrArg (fun z => some (Value.int z)) (show (-1 : Int32) = f1L1 p2 x1 x2 x3 x4 from Eq.symm (hf141_0.trans (by unfold f1L1_141; exact (if_neg hc157).trans ((if_neg hc177).trans (if_pos hc184)))))), N0, rfl⟩ (by decide) (by decide)
                  · refine OGo.st (fun _ k => XS.icmpYes X0.here hx rfl (pc0 := 184) (pc' := 189) rfl (hb hby d1_184) rfl (flt hc184).2.2.2 (by decide) (by decide) k) ?_
                    show OGo p e below s _ _ _ (s₁.setTop (mkF m 189 #[.val (.ref o0), .val (.int (1 : Int32)), .val (.int p2), .val (.int (x1 &&& (255 : Int32))), .val (.int j124_0), .val (.int j141_0), .val (.int (4 : Int32)), .val (.int (5 : Int32)), .val (.int (x2 &&& (255 : Int32))), .unset] []))
                    refine OGo.st (fun _ k => XS.iloadN X0.here hx rfl (hb hby d1_189) rfl k) ?_
                    show OGo p e below s _ _ _ (s₁.setTop (mkF m 190 #[.val (.ref o0), .val (.int (1 : Int32)), .val (.int p2), .val (.int (x1 &&& (255 : Int32))), .val (.int j124_0), .val (.int j141_0), .val (.int (4 : Int32)), .val (.int (5 : Int32)), .val (.int (x2 &&& (255 : Int32))), .unset] [(.int (1 : Int32))]))
                    refine OGo.st (fun _ k => XS.iconst X0.here hx rfl (hb hby d1_190) k) ?_
                    show OGo p e below s _ _ _ (s₁.setTop (mkF m 191 #[.val (.ref o0), .val (.int (1 : Int32)), .val (.int p2), .val (.int (x1 &&& (255 : Int32))), .val (.int j124_0), .val (.int j141_0), .val (.int (4 : Int32)), .val (.int (5 : Int32)), .val (.int (x2 &&& (255 : Int32))), .unset] [(.int (2 : Int32)), (.int (1 : Int32))]))
                    refine OGo.st (fun _ k => XS.iadd X0.here hx rfl (hb hby d1_191) rfl k) ?_
                    rw [show ((1 : Int32) + (2 : Int32)) = (3 : Int32) from by decide]
                    show OGo p e below s _ _ _ (s₁.setTop (mkF m 192 #[.val (.ref o0), .val (.int (1 : Int32)), .val (.int p2), .val (.int (x1 &&& (255 : Int32))), .val (.int j124_0), .val (.int j141_0), .val (.int (4 : Int32)), .val (.int (5 : Int32)), .val (.int (x2 &&& (255 : Int32))), .unset] [(.int (3 : Int32))]))
                    refine OGo.st (fun _ k => XS.istore X0.here hx rfl (hb hby d1_192) rfl (l' := #[.val (.ref o0), .val (.int (1 : Int32)), .val (.int p2), .val (.int (x1 &&& (255 : Int32))), .val (.int j124_0), .val (.int j141_0), .val (.int (4 : Int32)), .val (.int (5 : Int32)), .val (.int (x2 &&& (255 : Int32))), .val (.int (3 : Int32))]) rfl k) ?_
                    show OGo p e below s _ _ _ (s₁.setTop (mkF m 194 #[.val (.ref o0), .val (.int (1 : Int32)), .val (.int p2), .val (.int (x1 &&& (255 : Int32))), .val (.int j124_0), .val (.int j141_0), .val (.int (4 : Int32)), .val (.int (5 : Int32)), .val (.int (x2 &&& (255 : Int32))), .val (.int (3 : Int32))] []))
                    refine OGo.st (fun _ k => XS.iload X0.here hx rfl (hb hby d1_194) rfl k) ?_
                    show OGo p e below s _ _ _ (s₁.setTop (mkF m 196 #[.val (.ref o0), .val (.int (1 : Int32)), .val (.int p2), .val (.int (x1 &&& (255 : Int32))), .val (.int j124_0), .val (.int j141_0), .val (.int (4 : Int32)), .val (.int (5 : Int32)), .val (.int (x2 &&& (255 : Int32))), .val (.int (3 : Int32))] [(.int (3 : Int32))]))
                    refine OGo.st (fun _ k => XS.iload X0.here hx rfl (hb hby d1_196) rfl k) ?_
                    show OGo p e below s _ _ _ (s₁.setTop (mkF m 198 #[.val (.ref o0), .val (.int (1 : Int32)), .val (.int p2), .val (.int (x1 &&& (255 : Int32))), .val (.int j124_0), .val (.int j141_0), .val (.int (4 : Int32)), .val (.int (5 : Int32)), .val (.int (x2 &&& (255 : Int32))), .val (.int (3 : Int32))] [(.int (5 : Int32)), (.int (3 : Int32))]))
                    refine OGo.st (fun _ k => XS.icmpNo X0.here hx rfl (hb hby d1_198) rfl (tlt (by decide : (3 : Int32) < (5 : Int32))).2.1 k) ?_
                    show OGo p e below s _ _ _ (s₁.setTop (mkF m 201 #[.val (.ref o0), .val (.int (1 : Int32)), .val (.int p2), .val (.int (x1 &&& (255 : Int32))), .val (.int j124_0), .val (.int j141_0), .val (.int (4 : Int32)), .val (.int (5 : Int32)), .val (.int (x2 &&& (255 : Int32))), .val (.int (3 : Int32))] []))
                    refine OGo.st (fun _ k => XS.aloadN X0.here hx rfl (hb hby d1_201) rfl rfl k) ?_
                    show OGo p e below s _ _ _ (s₁.setTop (mkF m 202 #[.val (.ref o0), .val (.int (1 : Int32)), .val (.int p2), .val (.int (x1 &&& (255 : Int32))), .val (.int j124_0), .val (.int j141_0), .val (.int (4 : Int32)), .val (.int (5 : Int32)), .val (.int (x2 &&& (255 : Int32))), .val (.int (3 : Int32))] [(.ref o0)]))
                    refine OGo.st (fun _ k => XS.iload X0.here hx rfl (hb hby d1_202) rfl k) ?_
                    show OGo p e below s _ _ _ (s₁.setTop (mkF m 204 #[.val (.ref o0), .val (.int (1 : Int32)), .val (.int p2), .val (.int (x1 &&& (255 : Int32))), .val (.int j124_0), .val (.int j141_0), .val (.int (4 : Int32)), .val (.int (5 : Int32)), .val (.int (x2 &&& (255 : Int32))), .val (.int (3 : Int32))] [(.int (3 : Int32)), (.ref o0)]))
                    obtain ⟨cl5, Ar5, q5, Sz5, Nn5, Hs5, Gs5⟩ := id V_o0
                    have hin5 : ¬ ((3 : Int32) < 0 ∨ cl5.slots.size ≤ ((3 : Int32)).toNatClampNeg) := inb_of Sz5 ⟨by decide, by decide⟩
                    have hat5 : cl5.slots[((3 : Int32)).toNatClampNeg]? = some (.int x3) := Hs5.at hin5 rfl
                    refine OGo.st (fun _ k => X0.baloadBytes hx (j := (3 : Int32)) (v := (.int x3)) (by rw [e0]; exact Ar5.1) (State.isArrayOf_alike hZ.alike Ar5.2.1) Ar5.2.2 hin5 hat5 (g := (mkF m 204 #[.val (.ref o0), .val (.int (1 : Int32)), .val (.int p2), .val (.int (x1 &&& (255 : Int32))), .val (.int j124_0), .val (.int j141_0), .val (.int (4 : Int32)), .val (.int (5 : Int32)), .val (.int (x2 &&& (255 : Int32))), .val (.int (3 : Int32))] [(.int (3 : Int32)), (.ref o0)])) rfl rfl (hb hby d1_204) _ k) ?_
                    show OGo p e below s _ _ _ (s₁.setTop (mkF m 205 #[.val (.ref o0), .val (.int (1 : Int32)), .val (.int p2), .val (.int (x1 &&& (255 : Int32))), .val (.int j124_0), .val (.int j141_0), .val (.int (4 : Int32)), .val (.int (5 : Int32)), .val (.int (x2 &&& (255 : Int32))), .val (.int (3 : Int32))] [(.int x3)]))
                    refine OGo.st (fun _ k => XS.sipush X0.here hx rfl (hb hby d1_205) k) ?_
                    show OGo p e below s _ _ _ (s₁.setTop (mkF m 208 #[.val (.ref o0), .val (.int (1 : Int32)), .val (.int p2), .val (.int (x1 &&& (255 : Int32))), .val (.int j124_0), .val (.int j141_0), .val (.int (4 : Int32)), .val (.int (5 : Int32)), .val (.int (x2 &&& (255 : Int32))), .val (.int (3 : Int32))] [(.int (192 : Int32)), (.int x3)]))
                    refine OGo.st (fun _ k => XS.iand X0.here hx rfl (hb hby d1_208) rfl k) ?_
                    show OGo p e below s _ _ _ (s₁.setTop (mkF m 209 #[.val (.ref o0), .val (.int (1 : Int32)), .val (.int p2), .val (.int (x1 &&& (255 : Int32))), .val (.int j124_0), .val (.int j141_0), .val (.int (4 : Int32)), .val (.int (5 : Int32)), .val (.int (x2 &&& (255 : Int32))), .val (.int (3 : Int32))] [(.int (x3 &&& (192 : Int32)))]))
                    refine OGo.st (fun _ k => XS.sipush X0.here hx rfl (hb hby d1_209) k) ?_
                    show OGo p e below s _ _ _ (s₁.setTop (mkF m 212 #[.val (.ref o0), .val (.int (1 : Int32)), .val (.int p2), .val (.int (x1 &&& (255 : Int32))), .val (.int j124_0), .val (.int j141_0), .val (.int (4 : Int32)), .val (.int (5 : Int32)), .val (.int (x2 &&& (255 : Int32))), .val (.int (3 : Int32))] [(.int (128 : Int32)), (.int (x3 &&& (192 : Int32)))]))
                    by_cases hc212 : (x3 &&& (192 : Int32)) = (128 : Int32)
                    · refine OGo.st (fun _ k => XS.icmpYes X0.here hx rfl (pc0 := 212) (pc' := 217) rfl (hb hby d1_212) rfl (teq hc212).1 (by decide) (by decide) k) ?_
                      show OGo p e below s _ _ _ (s₁.setTop (mkF m 217 #[.val (.ref o0), .val (.int (1 : Int32)), .val (.int p2), .val (.int (x1 &&& (255 : Int32))), .val (.int j124_0), .val (.int j141_0), .val (.int (4 : Int32)), .val (.int (5 : Int32)), .val (.int (x2 &&& (255 : Int32))), .val (.int (3 : Int32))] []))
                      refine OGo.st (fun _ k => XS.iinc X0.here hx rfl (hb hby d1_217) rfl (l' := #[.val (.ref o0), .val (.int (1 : Int32)), .val (.int p2), .val (.int (x1 &&& (255 : Int32))), .val (.int j124_0), .val (.int j141_0), .val (.int (4 : Int32)), .val (.int (5 : Int32)), .val (.int (x2 &&& (255 : Int32))), .val (.int (4 : Int32))]) rfl k) ?_
                      show OGo p e below s _ _ _ (s₁.setTop (mkF m 220 #[.val (.ref o0), .val (.int (1 : Int32)), .val (.int p2), .val (.int (x1 &&& (255 : Int32))), .val (.int j124_0), .val (.int j141_0), .val (.int (4 : Int32)), .val (.int (5 : Int32)), .val (.int (x2 &&& (255 : Int32))), .val (.int (4 : Int32))] []))
                      refine OGo.st (fun _ k => XS.goto X0.here hx rfl (pc0 := 220) (pc' := 194) rfl (hb hby d1_220) (by decide) (by decide) k) ?_
                      show OGo p e below s _ _ _ (s₁.setTop (mkF m 194 #[.val (.ref o0), .val (.int (1 : Int32)), .val (.int p2), .val (.int (x1 &&& (255 : Int32))), .val (.int j124_0), .val (.int j141_0), .val (.int (4 : Int32)), .val (.int (5 : Int32)), .val (.int (x2 &&& (255 : Int32))), .val (.int (4 : Int32))] []))
                      refine OGo.st (fun _ k => XS.iload X0.here hx rfl (hb hby d1_194) rfl k) ?_
                      show OGo p e below s _ _ _ (s₁.setTop (mkF m 196 #[.val (.ref o0), .val (.int (1 : Int32)), .val (.int p2), .val (.int (x1 &&& (255 : Int32))), .val (.int j124_0), .val (.int j141_0), .val (.int (4 : Int32)), .val (.int (5 : Int32)), .val (.int (x2 &&& (255 : Int32))), .val (.int (4 : Int32))] [(.int (4 : Int32))]))
                      refine OGo.st (fun _ k => XS.iload X0.here hx rfl (hb hby d1_196) rfl k) ?_
                      show OGo p e below s _ _ _ (s₁.setTop (mkF m 198 #[.val (.ref o0), .val (.int (1 : Int32)), .val (.int p2), .val (.int (x1 &&& (255 : Int32))), .val (.int j124_0), .val (.int j141_0), .val (.int (4 : Int32)), .val (.int (5 : Int32)), .val (.int (x2 &&& (255 : Int32))), .val (.int (4 : Int32))] [(.int (5 : Int32)), (.int (4 : Int32))]))
                      refine OGo.st (fun _ k => XS.icmpNo X0.here hx rfl (hb hby d1_198) rfl (tlt (by decide : (4 : Int32) < (5 : Int32))).2.1 k) ?_
                      show OGo p e below s _ _ _ (s₁.setTop (mkF m 201 #[.val (.ref o0), .val (.int (1 : Int32)), .val (.int p2), .val (.int (x1 &&& (255 : Int32))), .val (.int j124_0), .val (.int j141_0), .val (.int (4 : Int32)), .val (.int (5 : Int32)), .val (.int (x2 &&& (255 : Int32))), .val (.int (4 : Int32))] []))
                      refine OGo.st (fun _ k => XS.aloadN X0.here hx rfl (hb hby d1_201) rfl rfl k) ?_
                      show OGo p e below s _ _ _ (s₁.setTop (mkF m 202 #[.val (.ref o0), .val (.int (1 : Int32)), .val (.int p2), .val (.int (x1 &&& (255 : Int32))), .val (.int j124_0), .val (.int j141_0), .val (.int (4 : Int32)), .val (.int (5 : Int32)), .val (.int (x2 &&& (255 : Int32))), .val (.int (4 : Int32))] [(.ref o0)]))
                      refine OGo.st (fun _ k => XS.iload X0.here hx rfl (hb hby d1_202) rfl k) ?_
                      show OGo p e below s _ _ _ (s₁.setTop (mkF m 204 #[.val (.ref o0), .val (.int (1 : Int32)), .val (.int p2), .val (.int (x1 &&& (255 : Int32))), .val (.int j124_0), .val (.int j141_0), .val (.int (4 : Int32)), .val (.int (5 : Int32)), .val (.int (x2 &&& (255 : Int32))), .val (.int (4 : Int32))] [(.int (4 : Int32)), (.ref o0)]))
                      obtain ⟨cl6, Ar6, q6, Sz6, Nn6, Hs6, Gs6⟩ := id V_o0
                      have hin6 : ¬ ((4 : Int32) < 0 ∨ cl6.slots.size ≤ ((4 : Int32)).toNatClampNeg) := inb_of Sz6 ⟨by decide, by decide⟩
                      have hat6 : cl6.slots[((4 : Int32)).toNatClampNeg]? = some (.int x4) := Hs6.at hin6 rfl
                      refine OGo.st (fun _ k => X0.baloadBytes hx (j := (4 : Int32)) (v := (.int x4)) (by rw [e0]; exact Ar6.1) (State.isArrayOf_alike hZ.alike Ar6.2.1) Ar6.2.2 hin6 hat6 (g := (mkF m 204 #[.val (.ref o0), .val (.int (1 : Int32)), .val (.int p2), .val (.int (x1 &&& (255 : Int32))), .val (.int j124_0), .val (.int j141_0), .val (.int (4 : Int32)), .val (.int (5 : Int32)), .val (.int (x2 &&& (255 : Int32))), .val (.int (4 : Int32))] [(.int (4 : Int32)), (.ref o0)])) rfl rfl (hb hby d1_204) _ k) ?_
                      show OGo p e below s _ _ _ (s₁.setTop (mkF m 205 #[.val (.ref o0), .val (.int (1 : Int32)), .val (.int p2), .val (.int (x1 &&& (255 : Int32))), .val (.int j124_0), .val (.int j141_0), .val (.int (4 : Int32)), .val (.int (5 : Int32)), .val (.int (x2 &&& (255 : Int32))), .val (.int (4 : Int32))] [(.int x4)]))
                      refine OGo.st (fun _ k => XS.sipush X0.here hx rfl (hb hby d1_205) k) ?_
                      show OGo p e below s _ _ _ (s₁.setTop (mkF m 208 #[.val (.ref o0), .val (.int (1 : Int32)), .val (.int p2), .val (.int (x1 &&& (255 : Int32))), .val (.int j124_0), .val (.int j141_0), .val (.int (4 : Int32)), .val (.int (5 : Int32)), .val (.int (x2 &&& (255 : Int32))), .val (.int (4 : Int32))] [(.int (192 : Int32)), (.int x4)]))
                      refine OGo.st (fun _ k => XS.iand X0.here hx rfl (hb hby d1_208) rfl k) ?_
                      show OGo p e below s _ _ _ (s₁.setTop (mkF m 209 #[.val (.ref o0), .val (.int (1 : Int32)), .val (.int p2), .val (.int (x1 &&& (255 : Int32))), .val (.int j124_0), .val (.int j141_0), .val (.int (4 : Int32)), .val (.int (5 : Int32)), .val (.int (x2 &&& (255 : Int32))), .val (.int (4 : Int32))] [(.int (x4 &&& (192 : Int32)))]))
                      refine OGo.st (fun _ k => XS.sipush X0.here hx rfl (hb hby d1_209) k) ?_
                      show OGo p e below s _ _ _ (s₁.setTop (mkF m 212 #[.val (.ref o0), .val (.int (1 : Int32)), .val (.int p2), .val (.int (x1 &&& (255 : Int32))), .val (.int j124_0), .val (.int j141_0), .val (.int (4 : Int32)), .val (.int (5 : Int32)), .val (.int (x2 &&& (255 : Int32))), .val (.int (4 : Int32))] [(.int (128 : Int32)), (.int (x4 &&& (192 : Int32)))]))
                      by_cases hc212_2 : (x4 &&& (192 : Int32)) = (128 : Int32)
                      · refine OGo.st (fun _ k => XS.icmpYes X0.here hx rfl (pc0 := 212) (pc' := 217) rfl (hb hby d1_212) rfl (teq hc212_2).1 (by decide) (by decide) k) ?_
                        show OGo p e below s _ _ _ (s₁.setTop (mkF m 217 #[.val (.ref o0), .val (.int (1 : Int32)), .val (.int p2), .val (.int (x1 &&& (255 : Int32))), .val (.int j124_0), .val (.int j141_0), .val (.int (4 : Int32)), .val (.int (5 : Int32)), .val (.int (x2 &&& (255 : Int32))), .val (.int (4 : Int32))] []))
                        refine OGo.st (fun _ k => XS.iinc X0.here hx rfl (hb hby d1_217) rfl (l' := #[.val (.ref o0), .val (.int (1 : Int32)), .val (.int p2), .val (.int (x1 &&& (255 : Int32))), .val (.int j124_0), .val (.int j141_0), .val (.int (4 : Int32)), .val (.int (5 : Int32)), .val (.int (x2 &&& (255 : Int32))), .val (.int (5 : Int32))]) rfl k) ?_
                        show OGo p e below s _ _ _ (s₁.setTop (mkF m 220 #[.val (.ref o0), .val (.int (1 : Int32)), .val (.int p2), .val (.int (x1 &&& (255 : Int32))), .val (.int j124_0), .val (.int j141_0), .val (.int (4 : Int32)), .val (.int (5 : Int32)), .val (.int (x2 &&& (255 : Int32))), .val (.int (5 : Int32))] []))
                        refine OGo.st (fun _ k => XS.goto X0.here hx rfl (pc0 := 220) (pc' := 194) rfl (hb hby d1_220) (by decide) (by decide) k) ?_
                        show OGo p e below s _ _ _ (s₁.setTop (mkF m 194 #[.val (.ref o0), .val (.int (1 : Int32)), .val (.int p2), .val (.int (x1 &&& (255 : Int32))), .val (.int j124_0), .val (.int j141_0), .val (.int (4 : Int32)), .val (.int (5 : Int32)), .val (.int (x2 &&& (255 : Int32))), .val (.int (5 : Int32))] []))
                        refine OGo.st (fun _ k => XS.iload X0.here hx rfl (hb hby d1_194) rfl k) ?_
                        show OGo p e below s _ _ _ (s₁.setTop (mkF m 196 #[.val (.ref o0), .val (.int (1 : Int32)), .val (.int p2), .val (.int (x1 &&& (255 : Int32))), .val (.int j124_0), .val (.int j141_0), .val (.int (4 : Int32)), .val (.int (5 : Int32)), .val (.int (x2 &&& (255 : Int32))), .val (.int (5 : Int32))] [(.int (5 : Int32))]))
                        refine OGo.st (fun _ k => XS.iload X0.here hx rfl (hb hby d1_196) rfl k) ?_
                        show OGo p e below s _ _ _ (s₁.setTop (mkF m 198 #[.val (.ref o0), .val (.int (1 : Int32)), .val (.int p2), .val (.int (x1 &&& (255 : Int32))), .val (.int j124_0), .val (.int j141_0), .val (.int (4 : Int32)), .val (.int (5 : Int32)), .val (.int (x2 &&& (255 : Int32))), .val (.int (5 : Int32))] [(.int (5 : Int32)), (.int (5 : Int32))]))
                        refine OGo.st (fun _ k => XS.icmpYes X0.here hx rfl (pc0 := 198) (pc' := 223) rfl (hb hby d1_198) rfl (flt (by decide : ¬ ((5 : Int32) < (5 : Int32)))).2.1 (by decide) (by decide) k) ?_
                        show OGo p e below s _ _ _ (s₁.setTop (mkF m 223 #[.val (.ref o0), .val (.int (1 : Int32)), .val (.int p2), .val (.int (x1 &&& (255 : Int32))), .val (.int j124_0), .val (.int j141_0), .val (.int (4 : Int32)), .val (.int (5 : Int32)), .val (.int (x2 &&& (255 : Int32))), .val (.int (5 : Int32))] []))
                        refine OGo.st (fun _ k => XS.iload X0.here hx rfl (hb hby d1_223) rfl k) ?_
                        show OGo p e below s _ _ _ (s₁.setTop (mkF m 225 #[.val (.ref o0), .val (.int (1 : Int32)), .val (.int p2), .val (.int (x1 &&& (255 : Int32))), .val (.int j124_0), .val (.int j141_0), .val (.int (4 : Int32)), .val (.int (5 : Int32)), .val (.int (x2 &&& (255 : Int32))), .val (.int (5 : Int32))] [(.int (5 : Int32))]))
                        exact oretI X0 hx Bd.notSynchronized Bd.returns (hb hby d1_225) e0 ⟨(congrArg (fun z => some (Value.int z)) (show (5 : Int32) = f1L1 p2 x1 x2 x3 x4 from Eq.symm (hf141_0.trans (by unfold f1L1_141; exact (if_neg hc157).trans ((if_neg hc177).trans ((if_neg hc184).trans ((if_pos hc212).trans (if_pos hc212_2)))))))), N0, rfl⟩ (by decide) (by decide)
                      · refine OGo.st (fun _ k => XS.icmpNo X0.here hx rfl (hb hby d1_212) rfl (feq hc212_2).1 k) ?_
                        show OGo p e below s _ _ _ (s₁.setTop (mkF m 215 #[.val (.ref o0), .val (.int (1 : Int32)), .val (.int p2), .val (.int (x1 &&& (255 : Int32))), .val (.int j124_0), .val (.int j141_0), .val (.int (4 : Int32)), .val (.int (5 : Int32)), .val (.int (x2 &&& (255 : Int32))), .val (.int (4 : Int32))] []))
                        refine OGo.st (fun _ k => XS.iconst X0.here hx rfl (hb hby d1_215) k) ?_
                        show OGo p e below s _ _ _ (s₁.setTop (mkF m 216 #[.val (.ref o0), .val (.int (1 : Int32)), .val (.int p2), .val (.int (x1 &&& (255 : Int32))), .val (.int j124_0), .val (.int j141_0), .val (.int (4 : Int32)), .val (.int (5 : Int32)), .val (.int (x2 &&& (255 : Int32))), .val (.int (4 : Int32))] [(.int (-1 : Int32))]))
                        exact oretI X0 hx Bd.notSynchronized Bd.returns (hb hby d1_216) e0 ⟨(congrArg (fun z => some (Value.int z)) (show (-1 : Int32) = f1L1 p2 x1 x2 x3 x4 from Eq.symm (hf141_0.trans (by unfold f1L1_141; exact (if_neg hc157).trans ((if_neg hc177).trans ((if_neg hc184).trans ((if_pos hc212).trans (if_neg hc212_2)))))))), N0, rfl⟩ (by decide) (by decide)
                    · refine OGo.st (fun _ k => XS.icmpNo X0.here hx rfl (hb hby d1_212) rfl (feq hc212).1 k) ?_
                      show OGo p e below s _ _ _ (s₁.setTop (mkF m 215 #[.val (.ref o0), .val (.int (1 : Int32)), .val (.int p2), .val (.int (x1 &&& (255 : Int32))), .val (.int j124_0), .val (.int j141_0), .val (.int (4 : Int32)), .val (.int (5 : Int32)), .val (.int (x2 &&& (255 : Int32))), .val (.int (3 : Int32))] []))
                      refine OGo.st (fun _ k => XS.iconst X0.here hx rfl (hb hby d1_215) k) ?_
                      show OGo p e below s _ _ _ (s₁.setTop (mkF m 216 #[.val (.ref o0), .val (.int (1 : Int32)), .val (.int p2), .val (.int (x1 &&& (255 : Int32))), .val (.int j124_0), .val (.int j141_0), .val (.int (4 : Int32)), .val (.int (5 : Int32)), .val (.int (x2 &&& (255 : Int32))), .val (.int (3 : Int32))] [(.int (-1 : Int32))]))
                      exact oretI X0 hx Bd.notSynchronized Bd.returns (hb hby d1_216) e0 ⟨(congrArg (fun z => some (Value.int z)) (show (-1 : Int32) = f1L1 p2 x1 x2 x3 x4 from Eq.symm (hf141_0.trans (by unfold f1L1_141; exact (if_neg hc157).trans ((if_neg hc177).trans ((if_neg hc184).trans (if_neg hc212))))))), N0, rfl⟩ (by decide) (by decide)
            by_cases hc130 : (x1 &&& (255 : Int32)) = (244 : Int32)
            · refine OGo.st (fun _ k => XS.icmpNo X0.here hx rfl (hb hby d1_130) rfl (teq hc130).2 k) ?_
              show OGo p e below s _ _ _ (s₁.setTop (mkF m 133 #[.val (.ref o0), .val (.int (1 : Int32)), .val (.int p2), .val (.int (x1 &&& (255 : Int32))), .val (.int j124_0), .val (.int (191 : Int32)), .val (.int (4 : Int32)), .unset, .unset, .unset] []))
              refine OGo.st (fun _ k => XS.sipush X0.here hx rfl (hb hby d1_133) k) ?_
              show OGo p e below s _ _ _ (s₁.setTop (mkF m 136 #[.val (.ref o0), .val (.int (1 : Int32)), .val (.int p2), .val (.int (x1 &&& (255 : Int32))), .val (.int j124_0), .val (.int (191 : Int32)), .val (.int (4 : Int32)), .unset, .unset, .unset] [(.int (143 : Int32))]))
              refine OGo.st (fun _ k => XS.goto X0.here hx rfl (pc0 := 136) (pc' := 141) rfl (hb hby d1_136) (by decide) (by decide) k) ?_
              show OGo p e below s _ _ _ (s₁.setTop (mkF m 141 #[.val (.ref o0), .val (.int (1 : Int32)), .val (.int p2), .val (.int (x1 &&& (255 : Int32))), .val (.int j124_0), .val (.int (191 : Int32)), .val (.int (4 : Int32)), .unset, .unset, .unset] [(.int (143 : Int32))]))
              exact hj141 (143 : Int32) (hf124_0.trans (by unfold f1L1_124; exact if_pos hc130))
            · refine OGo.st (fun _ k => XS.icmpYes X0.here hx rfl (pc0 := 130) (pc' := 139) rfl (hb hby d1_130) rfl (feq hc130).2 (by decide) (by decide) k) ?_
              show OGo p e below s _ _ _ (s₁.setTop (mkF m 139 #[.val (.ref o0), .val (.int (1 : Int32)), .val (.int p2), .val (.int (x1 &&& (255 : Int32))), .val (.int j124_0), .val (.int (191 : Int32)), .val (.int (4 : Int32)), .unset, .unset, .unset] []))
              refine OGo.st (fun _ k => XS.iload X0.here hx rfl (hb hby d1_139) rfl k) ?_
              show OGo p e below s _ _ _ (s₁.setTop (mkF m 141 #[.val (.ref o0), .val (.int (1 : Int32)), .val (.int p2), .val (.int (x1 &&& (255 : Int32))), .val (.int j124_0), .val (.int (191 : Int32)), .val (.int (4 : Int32)), .unset, .unset, .unset] [(.int (191 : Int32))]))
              exact hj141 (191 : Int32) (hf124_0.trans (by unfold f1L1_124; exact if_neg hc130))
          by_cases hc113 : (x1 &&& (255 : Int32)) = (240 : Int32)
          · refine OGo.st (fun _ k => XS.icmpNo X0.here hx rfl (hb hby d1_113) rfl (teq hc113).2 k) ?_
            show OGo p e below s _ _ _ (s₁.setTop (mkF m 116 #[.val (.ref o0), .val (.int (1 : Int32)), .val (.int p2), .val (.int (x1 &&& (255 : Int32))), .val (.int (128 : Int32)), .val (.int (191 : Int32)), .val (.int (4 : Int32)), .unset, .unset, .unset] []))
            refine OGo.st (fun _ k => XS.sipush X0.here hx rfl (hb hby d1_116) k) ?_
            show OGo p e below s _ _ _ (s₁.setTop (mkF m 119 #[.val (.ref o0), .val (.int (1 : Int32)), .val (.int p2), .val (.int (x1 &&& (255 : Int32))), .val (.int (128 : Int32)), .val (.int (191 : Int32)), .val (.int (4 : Int32)), .unset, .unset, .unset] [(.int (144 : Int32))]))
            refine OGo.st (fun _ k => XS.goto X0.here hx rfl (pc0 := 119) (pc' := 124) rfl (hb hby d1_119) (by decide) (by decide) k) ?_
            show OGo p e below s _ _ _ (s₁.setTop (mkF m 124 #[.val (.ref o0), .val (.int (1 : Int32)), .val (.int p2), .val (.int (x1 &&& (255 : Int32))), .val (.int (128 : Int32)), .val (.int (191 : Int32)), .val (.int (4 : Int32)), .unset, .unset, .unset] [(.int (144 : Int32))]))
            exact hj124 (144 : Int32) (by unfold f1L1; exact (if_neg hc22).trans ((if_pos hc29).trans ((if_pos hc49).trans ((if_neg hc103).trans (if_pos hc113)))))
          · refine OGo.st (fun _ k => XS.icmpYes X0.here hx rfl (pc0 := 113) (pc' := 122) rfl (hb hby d1_113) rfl (feq hc113).2 (by decide) (by decide) k) ?_
            show OGo p e below s _ _ _ (s₁.setTop (mkF m 122 #[.val (.ref o0), .val (.int (1 : Int32)), .val (.int p2), .val (.int (x1 &&& (255 : Int32))), .val (.int (128 : Int32)), .val (.int (191 : Int32)), .val (.int (4 : Int32)), .unset, .unset, .unset] []))
            refine OGo.st (fun _ k => XS.iload X0.here hx rfl (hb hby d1_122) rfl k) ?_
            show OGo p e below s _ _ _ (s₁.setTop (mkF m 124 #[.val (.ref o0), .val (.int (1 : Int32)), .val (.int p2), .val (.int (x1 &&& (255 : Int32))), .val (.int (128 : Int32)), .val (.int (191 : Int32)), .val (.int (4 : Int32)), .unset, .unset, .unset] [(.int (128 : Int32))]))
            exact hj124 (128 : Int32) (by unfold f1L1; exact (if_neg hc22).trans ((if_pos hc29).trans ((if_pos hc49).trans ((if_neg hc103).trans (if_neg hc113)))))
      · refine OGo.st (fun _ k => XS.icmpNo X0.here hx rfl (hb hby d1_49) rfl (flt hc49).2.2.1 k) ?_
        show OGo p e below s _ _ _ (s₁.setTop (mkF m 52 #[.val (.ref o0), .val (.int (1 : Int32)), .val (.int p2), .val (.int (x1 &&& (255 : Int32))), .val (.int (128 : Int32)), .val (.int (191 : Int32)), .unset, .unset, .unset, .unset] []))
        refine OGo.st (fun _ k => XS.iconst X0.here hx rfl (hb hby d1_52) k) ?_
        show OGo p e below s _ _ _ (s₁.setTop (mkF m 53 #[.val (.ref o0), .val (.int (1 : Int32)), .val (.int p2), .val (.int (x1 &&& (255 : Int32))), .val (.int (128 : Int32)), .val (.int (191 : Int32)), .unset, .unset, .unset, .unset] [(.int (3 : Int32))]))
        refine OGo.st (fun _ k => XS.istore X0.here hx rfl (hb hby d1_53) rfl (l' := #[.val (.ref o0), .val (.int (1 : Int32)), .val (.int p2), .val (.int (x1 &&& (255 : Int32))), .val (.int (128 : Int32)), .val (.int (191 : Int32)), .val (.int (3 : Int32)), .unset, .unset, .unset]) rfl k) ?_
        show OGo p e below s _ _ _ (s₁.setTop (mkF m 55 #[.val (.ref o0), .val (.int (1 : Int32)), .val (.int p2), .val (.int (x1 &&& (255 : Int32))), .val (.int (128 : Int32)), .val (.int (191 : Int32)), .val (.int (3 : Int32)), .unset, .unset, .unset] []))
        refine OGo.st (fun _ k => XS.iloadN X0.here hx rfl (hb hby d1_55) rfl k) ?_
        show OGo p e below s _ _ _ (s₁.setTop (mkF m 56 #[.val (.ref o0), .val (.int (1 : Int32)), .val (.int p2), .val (.int (x1 &&& (255 : Int32))), .val (.int (128 : Int32)), .val (.int (191 : Int32)), .val (.int (3 : Int32)), .unset, .unset, .unset] [(.int (x1 &&& (255 : Int32)))]))
        refine OGo.st (fun _ k => XS.sipush X0.here hx rfl (hb hby d1_56) k) ?_
        show OGo p e below s _ _ _ (s₁.setTop (mkF m 59 #[.val (.ref o0), .val (.int (1 : Int32)), .val (.int p2), .val (.int (x1 &&& (255 : Int32))), .val (.int (128 : Int32)), .val (.int (191 : Int32)), .val (.int (3 : Int32)), .unset, .unset, .unset] [(.int (224 : Int32)), (.int (x1 &&& (255 : Int32)))]))
        have hj70 : ∀ (j70_0 : Int32) (hf70_0 : f1L1 p2 x1 x2 x3 x4 = f1L1_70 p2 x1 x2 x3 x4 j70_0), OGo p e below s (Q1L1 Z o0 p2 k_o0 x0 x1 x2 x3 x4 x5 h0 n0) ({ frames := 0, cells := 0, slots := 0, locals := 0 } : Room).cells ({ frames := 0, cells := 0, slots := 0, locals := 0 } : Room).slots (s₁.setTop (mkF m 70 #[.val (.ref o0), .val (.int (1 : Int32)), .val (.int p2), .val (.int (x1 &&& (255 : Int32))), .val (.int (128 : Int32)), .val (.int (191 : Int32)), .val (.int (3 : Int32)), .unset, .unset, .unset] [(.int j70_0)])) := by
          intro j70_0 hf70_0
          refine OGo.st (fun _ k => XS.istore X0.here hx rfl (hb hby d1_70) rfl (l' := #[.val (.ref o0), .val (.int (1 : Int32)), .val (.int p2), .val (.int (x1 &&& (255 : Int32))), .val (.int j70_0), .val (.int (191 : Int32)), .val (.int (3 : Int32)), .unset, .unset, .unset]) rfl k) ?_
          show OGo p e below s _ _ _ (s₁.setTop (mkF m 72 #[.val (.ref o0), .val (.int (1 : Int32)), .val (.int p2), .val (.int (x1 &&& (255 : Int32))), .val (.int j70_0), .val (.int (191 : Int32)), .val (.int (3 : Int32)), .unset, .unset, .unset] []))
          refine OGo.st (fun _ k => XS.iloadN X0.here hx rfl (hb hby d1_72) rfl k) ?_
          show OGo p e below s _ _ _ (s₁.setTop (mkF m 73 #[.val (.ref o0), .val (.int (1 : Int32)), .val (.int p2), .val (.int (x1 &&& (255 : Int32))), .val (.int j70_0), .val (.int (191 : Int32)), .val (.int (3 : Int32)), .unset, .unset, .unset] [(.int (x1 &&& (255 : Int32)))]))
          refine OGo.st (fun _ k => XS.sipush X0.here hx rfl (hb hby d1_73) k) ?_
          show OGo p e below s _ _ _ (s₁.setTop (mkF m 76 #[.val (.ref o0), .val (.int (1 : Int32)), .val (.int p2), .val (.int (x1 &&& (255 : Int32))), .val (.int j70_0), .val (.int (191 : Int32)), .val (.int (3 : Int32)), .unset, .unset, .unset] [(.int (237 : Int32)), (.int (x1 &&& (255 : Int32)))]))
          have hj87 : ∀ (j87_0 : Int32) (hf87_0 : f1L1 p2 x1 x2 x3 x4 = f1L1_87 p2 x1 x2 x3 x4 j70_0 j87_0), OGo p e below s (Q1L1 Z o0 p2 k_o0 x0 x1 x2 x3 x4 x5 h0 n0) ({ frames := 0, cells := 0, slots := 0, locals := 0 } : Room).cells ({ frames := 0, cells := 0, slots := 0, locals := 0 } : Room).slots (s₁.setTop (mkF m 87 #[.val (.ref o0), .val (.int (1 : Int32)), .val (.int p2), .val (.int (x1 &&& (255 : Int32))), .val (.int j70_0), .val (.int (191 : Int32)), .val (.int (3 : Int32)), .unset, .unset, .unset] [(.int j87_0)])) := by
            intro j87_0 hf87_0
            refine OGo.st (fun _ k => XS.istore X0.here hx rfl (hb hby d1_87) rfl (l' := #[.val (.ref o0), .val (.int (1 : Int32)), .val (.int p2), .val (.int (x1 &&& (255 : Int32))), .val (.int j70_0), .val (.int j87_0), .val (.int (3 : Int32)), .unset, .unset, .unset]) rfl k) ?_
            show OGo p e below s _ _ _ (s₁.setTop (mkF m 89 #[.val (.ref o0), .val (.int (1 : Int32)), .val (.int p2), .val (.int (x1 &&& (255 : Int32))), .val (.int j70_0), .val (.int j87_0), .val (.int (3 : Int32)), .unset, .unset, .unset] []))
            refine OGo.st (fun _ k => XS.goto X0.here hx rfl (pc0 := 89) (pc' := 148) rfl (hb hby d1_89) (by decide) (by decide) k) ?_
            show OGo p e below s _ _ _ (s₁.setTop (mkF m 148 #[.val (.ref o0), .val (.int (1 : Int32)), .val (.int p2), .val (.int (x1 &&& (255 : Int32))), .val (.int j70_0), .val (.int j87_0), .val (.int (3 : Int32)), .unset, .unset, .unset] []))
            refine OGo.st (fun _ k => XS.iloadN X0.here hx rfl (hb hby d1_148) rfl k) ?_
            show OGo p e below s _ _ _ (s₁.setTop (mkF m 149 #[.val (.ref o0), .val (.int (1 : Int32)), .val (.int p2), .val (.int (x1 &&& (255 : Int32))), .val (.int j70_0), .val (.int j87_0), .val (.int (3 : Int32)), .unset, .unset, .unset] [(.int (1 : Int32))]))
            refine OGo.st (fun _ k => XS.iload X0.here hx rfl (hb hby d1_149) rfl k) ?_
            show OGo p e below s _ _ _ (s₁.setTop (mkF m 151 #[.val (.ref o0), .val (.int (1 : Int32)), .val (.int p2), .val (.int (x1 &&& (255 : Int32))), .val (.int j70_0), .val (.int j87_0), .val (.int (3 : Int32)), .unset, .unset, .unset] [(.int (3 : Int32)), (.int (1 : Int32))]))
            refine OGo.st (fun _ k => XS.iadd X0.here hx rfl (hb hby d1_151) rfl k) ?_
            rw [show ((1 : Int32) + (3 : Int32)) = (4 : Int32) from by decide]
            show OGo p e below s _ _ _ (s₁.setTop (mkF m 152 #[.val (.ref o0), .val (.int (1 : Int32)), .val (.int p2), .val (.int (x1 &&& (255 : Int32))), .val (.int j70_0), .val (.int j87_0), .val (.int (3 : Int32)), .unset, .unset, .unset] [(.int (4 : Int32))]))
            refine OGo.st (fun _ k => XS.istore X0.here hx rfl (hb hby d1_152) rfl (l' := #[.val (.ref o0), .val (.int (1 : Int32)), .val (.int p2), .val (.int (x1 &&& (255 : Int32))), .val (.int j70_0), .val (.int j87_0), .val (.int (3 : Int32)), .val (.int (4 : Int32)), .unset, .unset]) rfl k) ?_
            show OGo p e below s _ _ _ (s₁.setTop (mkF m 154 #[.val (.ref o0), .val (.int (1 : Int32)), .val (.int p2), .val (.int (x1 &&& (255 : Int32))), .val (.int j70_0), .val (.int j87_0), .val (.int (3 : Int32)), .val (.int (4 : Int32)), .unset, .unset] []))
            refine OGo.st (fun _ k => XS.iload X0.here hx rfl (hb hby d1_154) rfl k) ?_
            show OGo p e below s _ _ _ (s₁.setTop (mkF m 156 #[.val (.ref o0), .val (.int (1 : Int32)), .val (.int p2), .val (.int (x1 &&& (255 : Int32))), .val (.int j70_0), .val (.int j87_0), .val (.int (3 : Int32)), .val (.int (4 : Int32)), .unset, .unset] [(.int (4 : Int32))]))
            refine OGo.st (fun _ k => XS.iloadN X0.here hx rfl (hb hby d1_156) rfl k) ?_
            show OGo p e below s _ _ _ (s₁.setTop (mkF m 157 #[.val (.ref o0), .val (.int (1 : Int32)), .val (.int p2), .val (.int (x1 &&& (255 : Int32))), .val (.int j70_0), .val (.int j87_0), .val (.int (3 : Int32)), .val (.int (4 : Int32)), .unset, .unset] [(.int p2), (.int (4 : Int32))]))
            by_cases hc157 : p2 < (4 : Int32)
            · refine OGo.st (fun _ k => XS.icmpNo X0.here hx rfl (hb hby d1_157) rfl (tlt hc157).2.2.2 k) ?_
              show OGo p e below s _ _ _ (s₁.setTop (mkF m 160 #[.val (.ref o0), .val (.int (1 : Int32)), .val (.int p2), .val (.int (x1 &&& (255 : Int32))), .val (.int j70_0), .val (.int j87_0), .val (.int (3 : Int32)), .val (.int (4 : Int32)), .unset, .unset] []))
              refine OGo.st (fun _ k => XS.iconst X0.here hx rfl (hb hby d1_160) k) ?_
              show OGo p e below s _ _ _ (s₁.setTop (mkF m 161 #[.val (.ref o0), .val (.int (1 : Int32)), .val (.int p2), .val (.int (x1 &&& (255 : Int32))), .val (.int j70_0), .val (.int j87_0), .val (.int (3 : Int32)), .val (.int (4 : Int32)), .unset, .unset] [(.int (-1 : Int32))]))
              exact oretI X0 hx Bd.notSynchronized Bd.returns (hb hby d1_161) e0 ⟨(congrArg (fun z => some (Value.int z)) (show (-1 : Int32) = f1L1 p2 x1 x2 x3 x4 from Eq.symm (hf87_0.trans (by unfold f1L1_87; exact if_pos hc157)))), N0, rfl⟩ (by decide) (by decide)
            · refine OGo.st (fun _ k => XS.icmpYes X0.here hx rfl (pc0 := 157) (pc' := 162) rfl (hb hby d1_157) rfl (flt hc157).2.2.2 (by decide) (by decide) k) ?_
              show OGo p e below s _ _ _ (s₁.setTop (mkF m 162 #[.val (.ref o0), .val (.int (1 : Int32)), .val (.int p2), .val (.int (x1 &&& (255 : Int32))), .val (.int j70_0), .val (.int j87_0), .val (.int (3 : Int32)), .val (.int (4 : Int32)), .unset, .unset] []))
              refine OGo.st (fun _ k => XS.aloadN X0.here hx rfl (hb hby d1_162) rfl rfl k) ?_
              show OGo p e below s _ _ _ (s₁.setTop (mkF m 163 #[.val (.ref o0), .val (.int (1 : Int32)), .val (.int p2), .val (.int (x1 &&& (255 : Int32))), .val (.int j70_0), .val (.int j87_0), .val (.int (3 : Int32)), .val (.int (4 : Int32)), .unset, .unset] [(.ref o0)]))
              refine OGo.st (fun _ k => XS.iloadN X0.here hx rfl (hb hby d1_163) rfl k) ?_
              show OGo p e below s _ _ _ (s₁.setTop (mkF m 164 #[.val (.ref o0), .val (.int (1 : Int32)), .val (.int p2), .val (.int (x1 &&& (255 : Int32))), .val (.int j70_0), .val (.int j87_0), .val (.int (3 : Int32)), .val (.int (4 : Int32)), .unset, .unset] [(.int (1 : Int32)), (.ref o0)]))
              refine OGo.st (fun _ k => XS.iconst X0.here hx rfl (hb hby d1_164) k) ?_
              show OGo p e below s _ _ _ (s₁.setTop (mkF m 165 #[.val (.ref o0), .val (.int (1 : Int32)), .val (.int p2), .val (.int (x1 &&& (255 : Int32))), .val (.int j70_0), .val (.int j87_0), .val (.int (3 : Int32)), .val (.int (4 : Int32)), .unset, .unset] [(.int (1 : Int32)), (.int (1 : Int32)), (.ref o0)]))
              refine OGo.st (fun _ k => XS.iadd X0.here hx rfl (hb hby d1_165) rfl k) ?_
              rw [show ((1 : Int32) + (1 : Int32)) = (2 : Int32) from by decide]
              show OGo p e below s _ _ _ (s₁.setTop (mkF m 166 #[.val (.ref o0), .val (.int (1 : Int32)), .val (.int p2), .val (.int (x1 &&& (255 : Int32))), .val (.int j70_0), .val (.int j87_0), .val (.int (3 : Int32)), .val (.int (4 : Int32)), .unset, .unset] [(.int (2 : Int32)), (.ref o0)]))
              obtain ⟨cl9, Ar9, q9, Sz9, Nn9, Hs9, Gs9⟩ := id V_o0
              have hin9 : ¬ ((2 : Int32) < 0 ∨ cl9.slots.size ≤ ((2 : Int32)).toNatClampNeg) := inb_of Sz9 ⟨by decide, by decide⟩
              have hat9 : cl9.slots[((2 : Int32)).toNatClampNeg]? = some (.int x2) := Hs9.at hin9 rfl
              refine OGo.st (fun _ k => X0.baloadBytes hx (j := (2 : Int32)) (v := (.int x2)) (by rw [e0]; exact Ar9.1) (State.isArrayOf_alike hZ.alike Ar9.2.1) Ar9.2.2 hin9 hat9 (g := (mkF m 166 #[.val (.ref o0), .val (.int (1 : Int32)), .val (.int p2), .val (.int (x1 &&& (255 : Int32))), .val (.int j70_0), .val (.int j87_0), .val (.int (3 : Int32)), .val (.int (4 : Int32)), .unset, .unset] [(.int (2 : Int32)), (.ref o0)])) rfl rfl (hb hby d1_166) _ k) ?_
              show OGo p e below s _ _ _ (s₁.setTop (mkF m 167 #[.val (.ref o0), .val (.int (1 : Int32)), .val (.int p2), .val (.int (x1 &&& (255 : Int32))), .val (.int j70_0), .val (.int j87_0), .val (.int (3 : Int32)), .val (.int (4 : Int32)), .unset, .unset] [(.int x2)]))
              refine OGo.st (fun _ k => XS.sipush X0.here hx rfl (hb hby d1_167) k) ?_
              show OGo p e below s _ _ _ (s₁.setTop (mkF m 170 #[.val (.ref o0), .val (.int (1 : Int32)), .val (.int p2), .val (.int (x1 &&& (255 : Int32))), .val (.int j70_0), .val (.int j87_0), .val (.int (3 : Int32)), .val (.int (4 : Int32)), .unset, .unset] [(.int (255 : Int32)), (.int x2)]))
              refine OGo.st (fun _ k => XS.iand X0.here hx rfl (hb hby d1_170) rfl k) ?_
              show OGo p e below s _ _ _ (s₁.setTop (mkF m 171 #[.val (.ref o0), .val (.int (1 : Int32)), .val (.int p2), .val (.int (x1 &&& (255 : Int32))), .val (.int j70_0), .val (.int j87_0), .val (.int (3 : Int32)), .val (.int (4 : Int32)), .unset, .unset] [(.int (x2 &&& (255 : Int32)))]))
              refine OGo.st (fun _ k => XS.istore X0.here hx rfl (hb hby d1_171) rfl (l' := #[.val (.ref o0), .val (.int (1 : Int32)), .val (.int p2), .val (.int (x1 &&& (255 : Int32))), .val (.int j70_0), .val (.int j87_0), .val (.int (3 : Int32)), .val (.int (4 : Int32)), .val (.int (x2 &&& (255 : Int32))), .unset]) rfl k) ?_
              show OGo p e below s _ _ _ (s₁.setTop (mkF m 173 #[.val (.ref o0), .val (.int (1 : Int32)), .val (.int p2), .val (.int (x1 &&& (255 : Int32))), .val (.int j70_0), .val (.int j87_0), .val (.int (3 : Int32)), .val (.int (4 : Int32)), .val (.int (x2 &&& (255 : Int32))), .unset] []))
              refine OGo.st (fun _ k => XS.iload X0.here hx rfl (hb hby d1_173) rfl k) ?_
              show OGo p e below s _ _ _ (s₁.setTop (mkF m 175 #[.val (.ref o0), .val (.int (1 : Int32)), .val (.int p2), .val (.int (x1 &&& (255 : Int32))), .val (.int j70_0), .val (.int j87_0), .val (.int (3 : Int32)), .val (.int (4 : Int32)), .val (.int (x2 &&& (255 : Int32))), .unset] [(.int (x2 &&& (255 : Int32)))]))
              refine OGo.st (fun _ k => XS.iload X0.here hx rfl (hb hby d1_175) rfl k) ?_
              show OGo p e below s _ _ _ (s₁.setTop (mkF m 177 #[.val (.ref o0), .val (.int (1 : Int32)), .val (.int p2), .val (.int (x1 &&& (255 : Int32))), .val (.int j70_0), .val (.int j87_0), .val (.int (3 : Int32)), .val (.int (4 : Int32)), .val (.int (x2 &&& (255 : Int32))), .unset] [(.int j70_0), (.int (x2 &&& (255 : Int32)))]))
              by_cases hc177 : (x2 &&& (255 : Int32)) < j70_0
              · refine OGo.st (fun _ k => XS.icmpYes X0.here hx rfl (pc0 := 177) (pc' := 187) rfl (hb hby d1_177) rfl (tlt hc177).1 (by decide) (by decide) k) ?_
                show OGo p e below s _ _ _ (s₁.setTop (mkF m 187 #[.val (.ref o0), .val (.int (1 : Int32)), .val (.int p2), .val (.int (x1 &&& (255 : Int32))), .val (.int j70_0), .val (.int j87_0), .val (.int (3 : Int32)), .val (.int (4 : Int32)), .val (.int (x2 &&& (255 : Int32))), .unset] []))
                refine OGo.st (fun _ k => XS.iconst X0.here hx rfl (hb hby d1_187) k) ?_
                show OGo p e below s _ _ _ (s₁.setTop (mkF m 188 #[.val (.ref o0), .val (.int (1 : Int32)), .val (.int p2), .val (.int (x1 &&& (255 : Int32))), .val (.int j70_0), .val (.int j87_0), .val (.int (3 : Int32)), .val (.int (4 : Int32)), .val (.int (x2 &&& (255 : Int32))), .unset] [(.int (-1 : Int32))]))
                exact oretI X0 hx Bd.notSynchronized Bd.returns (hb hby d1_188) e0 ⟨(congrArg (fun z => some (Value.int z)) (show (-1 : Int32) = f1L1 p2 x1 x2 x3 x4 from Eq.symm (hf87_0.trans (by unfold f1L1_87; exact (if_neg hc157).trans (if_pos hc177))))), N0, rfl⟩ (by decide) (by decide)
              · refine OGo.st (fun _ k => XS.icmpNo X0.here hx rfl (hb hby d1_177) rfl (flt hc177).1 k) ?_
                show OGo p e below s _ _ _ (s₁.setTop (mkF m 180 #[.val (.ref o0), .val (.int (1 : Int32)), .val (.int p2), .val (.int (x1 &&& (255 : Int32))), .val (.int j70_0), .val (.int j87_0), .val (.int (3 : Int32)), .val (.int (4 : Int32)), .val (.int (x2 &&& (255 : Int32))), .unset] []))
                refine OGo.st (fun _ k => XS.iload X0.here hx rfl (hb hby d1_180) rfl k) ?_
                show OGo p e below s _ _ _ (s₁.setTop (mkF m 182 #[.val (.ref o0), .val (.int (1 : Int32)), .val (.int p2), .val (.int (x1 &&& (255 : Int32))), .val (.int j70_0), .val (.int j87_0), .val (.int (3 : Int32)), .val (.int (4 : Int32)), .val (.int (x2 &&& (255 : Int32))), .unset] [(.int (x2 &&& (255 : Int32)))]))
                refine OGo.st (fun _ k => XS.iload X0.here hx rfl (hb hby d1_182) rfl k) ?_
                show OGo p e below s _ _ _ (s₁.setTop (mkF m 184 #[.val (.ref o0), .val (.int (1 : Int32)), .val (.int p2), .val (.int (x1 &&& (255 : Int32))), .val (.int j70_0), .val (.int j87_0), .val (.int (3 : Int32)), .val (.int (4 : Int32)), .val (.int (x2 &&& (255 : Int32))), .unset] [(.int j87_0), (.int (x2 &&& (255 : Int32)))]))
                by_cases hc184 : j87_0 < (x2 &&& (255 : Int32))
                · refine OGo.st (fun _ k => XS.icmpNo X0.here hx rfl (hb hby d1_184) rfl (tlt hc184).2.2.2 k) ?_
                  show OGo p e below s _ _ _ (s₁.setTop (mkF m 187 #[.val (.ref o0), .val (.int (1 : Int32)), .val (.int p2), .val (.int (x1 &&& (255 : Int32))), .val (.int j70_0), .val (.int j87_0), .val (.int (3 : Int32)), .val (.int (4 : Int32)), .val (.int (x2 &&& (255 : Int32))), .unset] []))
                  refine OGo.st (fun _ k => XS.iconst X0.here hx rfl (hb hby d1_187) k) ?_
                  show OGo p e below s _ _ _ (s₁.setTop (mkF m 188 #[.val (.ref o0), .val (.int (1 : Int32)), .val (.int p2), .val (.int (x1 &&& (255 : Int32))), .val (.int j70_0), .val (.int j87_0), .val (.int (3 : Int32)), .val (.int (4 : Int32)), .val (.int (x2 &&& (255 : Int32))), .unset] [(.int (-1 : Int32))]))
                  exact oretI X0 hx Bd.notSynchronized Bd.returns (hb hby d1_188) e0 ⟨(congrArg (fun z => some (Value.int z)) (show (-1 : Int32) = f1L1 p2 x1 x2 x3 x4 from Eq.symm (hf87_0.trans (by unfold f1L1_87; exact (if_neg hc157).trans ((if_neg hc177).trans (if_pos hc184)))))), N0, rfl⟩ (by decide) (by decide)
                · refine OGo.st (fun _ k => XS.icmpYes X0.here hx rfl (pc0 := 184) (pc' := 189) rfl (hb hby d1_184) rfl (flt hc184).2.2.2 (by decide) (by decide) k) ?_
                  show OGo p e below s _ _ _ (s₁.setTop (mkF m 189 #[.val (.ref o0), .val (.int (1 : Int32)), .val (.int p2), .val (.int (x1 &&& (255 : Int32))), .val (.int j70_0), .val (.int j87_0), .val (.int (3 : Int32)), .val (.int (4 : Int32)), .val (.int (x2 &&& (255 : Int32))), .unset] []))
                  refine OGo.st (fun _ k => XS.iloadN X0.here hx rfl (hb hby d1_189) rfl k) ?_
                  show OGo p e below s _ _ _ (s₁.setTop (mkF m 190 #[.val (.ref o0), .val (.int (1 : Int32)), .val (.int p2), .val (.int (x1 &&& (255 : Int32))), .val (.int j70_0), .val (.int j87_0), .val (.int (3 : Int32)), .val (.int (4 : Int32)), .val (.int (x2 &&& (255 : Int32))), .unset] [(.int (1 : Int32))]))
                  refine OGo.st (fun _ k => XS.iconst X0.here hx rfl (hb hby d1_190) k) ?_
                  show OGo p e below s _ _ _ (s₁.setTop (mkF m 191 #[.val (.ref o0), .val (.int (1 : Int32)), .val (.int p2), .val (.int (x1 &&& (255 : Int32))), .val (.int j70_0), .val (.int j87_0), .val (.int (3 : Int32)), .val (.int (4 : Int32)), .val (.int (x2 &&& (255 : Int32))), .unset] [(.int (2 : Int32)), (.int (1 : Int32))]))
                  refine OGo.st (fun _ k => XS.iadd X0.here hx rfl (hb hby d1_191) rfl k) ?_
                  rw [show ((1 : Int32) + (2 : Int32)) = (3 : Int32) from by decide]
                  show OGo p e below s _ _ _ (s₁.setTop (mkF m 192 #[.val (.ref o0), .val (.int (1 : Int32)), .val (.int p2), .val (.int (x1 &&& (255 : Int32))), .val (.int j70_0), .val (.int j87_0), .val (.int (3 : Int32)), .val (.int (4 : Int32)), .val (.int (x2 &&& (255 : Int32))), .unset] [(.int (3 : Int32))]))
                  refine OGo.st (fun _ k => XS.istore X0.here hx rfl (hb hby d1_192) rfl (l' := #[.val (.ref o0), .val (.int (1 : Int32)), .val (.int p2), .val (.int (x1 &&& (255 : Int32))), .val (.int j70_0), .val (.int j87_0), .val (.int (3 : Int32)), .val (.int (4 : Int32)), .val (.int (x2 &&& (255 : Int32))), .val (.int (3 : Int32))]) rfl k) ?_
                  show OGo p e below s _ _ _ (s₁.setTop (mkF m 194 #[.val (.ref o0), .val (.int (1 : Int32)), .val (.int p2), .val (.int (x1 &&& (255 : Int32))), .val (.int j70_0), .val (.int j87_0), .val (.int (3 : Int32)), .val (.int (4 : Int32)), .val (.int (x2 &&& (255 : Int32))), .val (.int (3 : Int32))] []))
                  refine OGo.st (fun _ k => XS.iload X0.here hx rfl (hb hby d1_194) rfl k) ?_
                  show OGo p e below s _ _ _ (s₁.setTop (mkF m 196 #[.val (.ref o0), .val (.int (1 : Int32)), .val (.int p2), .val (.int (x1 &&& (255 : Int32))), .val (.int j70_0), .val (.int j87_0), .val (.int (3 : Int32)), .val (.int (4 : Int32)), .val (.int (x2 &&& (255 : Int32))), .val (.int (3 : Int32))] [(.int (3 : Int32))]))
                  refine OGo.st (fun _ k => XS.iload X0.here hx rfl (hb hby d1_196) rfl k) ?_
                  show OGo p e below s _ _ _ (s₁.setTop (mkF m 198 #[.val (.ref o0), .val (.int (1 : Int32)), .val (.int p2), .val (.int (x1 &&& (255 : Int32))), .val (.int j70_0), .val (.int j87_0), .val (.int (3 : Int32)), .val (.int (4 : Int32)), .val (.int (x2 &&& (255 : Int32))), .val (.int (3 : Int32))] [(.int (4 : Int32)), (.int (3 : Int32))]))
                  refine OGo.st (fun _ k => XS.icmpNo X0.here hx rfl (hb hby d1_198) rfl (tlt (by decide : (3 : Int32) < (4 : Int32))).2.1 k) ?_
                  show OGo p e below s _ _ _ (s₁.setTop (mkF m 201 #[.val (.ref o0), .val (.int (1 : Int32)), .val (.int p2), .val (.int (x1 &&& (255 : Int32))), .val (.int j70_0), .val (.int j87_0), .val (.int (3 : Int32)), .val (.int (4 : Int32)), .val (.int (x2 &&& (255 : Int32))), .val (.int (3 : Int32))] []))
                  refine OGo.st (fun _ k => XS.aloadN X0.here hx rfl (hb hby d1_201) rfl rfl k) ?_
                  show OGo p e below s _ _ _ (s₁.setTop (mkF m 202 #[.val (.ref o0), .val (.int (1 : Int32)), .val (.int p2), .val (.int (x1 &&& (255 : Int32))), .val (.int j70_0), .val (.int j87_0), .val (.int (3 : Int32)), .val (.int (4 : Int32)), .val (.int (x2 &&& (255 : Int32))), .val (.int (3 : Int32))] [(.ref o0)]))
                  refine OGo.st (fun _ k => XS.iload X0.here hx rfl (hb hby d1_202) rfl k) ?_
                  show OGo p e below s _ _ _ (s₁.setTop (mkF m 204 #[.val (.ref o0), .val (.int (1 : Int32)), .val (.int p2), .val (.int (x1 &&& (255 : Int32))), .val (.int j70_0), .val (.int j87_0), .val (.int (3 : Int32)), .val (.int (4 : Int32)), .val (.int (x2 &&& (255 : Int32))), .val (.int (3 : Int32))] [(.int (3 : Int32)), (.ref o0)]))
                  obtain ⟨cl10, Ar10, q10, Sz10, Nn10, Hs10, Gs10⟩ := id V_o0
                  have hin10 : ¬ ((3 : Int32) < 0 ∨ cl10.slots.size ≤ ((3 : Int32)).toNatClampNeg) := inb_of Sz10 ⟨by decide, by decide⟩
                  have hat10 : cl10.slots[((3 : Int32)).toNatClampNeg]? = some (.int x3) := Hs10.at hin10 rfl
                  refine OGo.st (fun _ k => X0.baloadBytes hx (j := (3 : Int32)) (v := (.int x3)) (by rw [e0]; exact Ar10.1) (State.isArrayOf_alike hZ.alike Ar10.2.1) Ar10.2.2 hin10 hat10 (g := (mkF m 204 #[.val (.ref o0), .val (.int (1 : Int32)), .val (.int p2), .val (.int (x1 &&& (255 : Int32))), .val (.int j70_0), .val (.int j87_0), .val (.int (3 : Int32)), .val (.int (4 : Int32)), .val (.int (x2 &&& (255 : Int32))), .val (.int (3 : Int32))] [(.int (3 : Int32)), (.ref o0)])) rfl rfl (hb hby d1_204) _ k) ?_
                  show OGo p e below s _ _ _ (s₁.setTop (mkF m 205 #[.val (.ref o0), .val (.int (1 : Int32)), .val (.int p2), .val (.int (x1 &&& (255 : Int32))), .val (.int j70_0), .val (.int j87_0), .val (.int (3 : Int32)), .val (.int (4 : Int32)), .val (.int (x2 &&& (255 : Int32))), .val (.int (3 : Int32))] [(.int x3)]))
                  refine OGo.st (fun _ k => XS.sipush X0.here hx rfl (hb hby d1_205) k) ?_
                  show OGo p e below s _ _ _ (s₁.setTop (mkF m 208 #[.val (.ref o0), .val (.int (1 : Int32)), .val (.int p2), .val (.int (x1 &&& (255 : Int32))), .val (.int j70_0), .val (.int j87_0), .val (.int (3 : Int32)), .val (.int (4 : Int32)), .val (.int (x2 &&& (255 : Int32))), .val (.int (3 : Int32))] [(.int (192 : Int32)), (.int x3)]))
                  refine OGo.st (fun _ k => XS.iand X0.here hx rfl (hb hby d1_208) rfl k) ?_
                  show OGo p e below s _ _ _ (s₁.setTop (mkF m 209 #[.val (.ref o0), .val (.int (1 : Int32)), .val (.int p2), .val (.int (x1 &&& (255 : Int32))), .val (.int j70_0), .val (.int j87_0), .val (.int (3 : Int32)), .val (.int (4 : Int32)), .val (.int (x2 &&& (255 : Int32))), .val (.int (3 : Int32))] [(.int (x3 &&& (192 : Int32)))]))
                  refine OGo.st (fun _ k => XS.sipush X0.here hx rfl (hb hby d1_209) k) ?_
                  show OGo p e below s _ _ _ (s₁.setTop (mkF m 212 #[.val (.ref o0), .val (.int (1 : Int32)), .val (.int p2), .val (.int (x1 &&& (255 : Int32))), .val (.int j70_0), .val (.int j87_0), .val (.int (3 : Int32)), .val (.int (4 : Int32)), .val (.int (x2 &&& (255 : Int32))), .val (.int (3 : Int32))] [(.int (128 : Int32)), (.int (x3 &&& (192 : Int32)))]))
                  by_cases hc212 : (x3 &&& (192 : Int32)) = (128 : Int32)
                  · refine OGo.st (fun _ k => XS.icmpYes X0.here hx rfl (pc0 := 212) (pc' := 217) rfl (hb hby d1_212) rfl (teq hc212).1 (by decide) (by decide) k) ?_
                    show OGo p e below s _ _ _ (s₁.setTop (mkF m 217 #[.val (.ref o0), .val (.int (1 : Int32)), .val (.int p2), .val (.int (x1 &&& (255 : Int32))), .val (.int j70_0), .val (.int j87_0), .val (.int (3 : Int32)), .val (.int (4 : Int32)), .val (.int (x2 &&& (255 : Int32))), .val (.int (3 : Int32))] []))
                    refine OGo.st (fun _ k => XS.iinc X0.here hx rfl (hb hby d1_217) rfl (l' := #[.val (.ref o0), .val (.int (1 : Int32)), .val (.int p2), .val (.int (x1 &&& (255 : Int32))), .val (.int j70_0), .val (.int j87_0), .val (.int (3 : Int32)), .val (.int (4 : Int32)), .val (.int (x2 &&& (255 : Int32))), .val (.int (4 : Int32))]) rfl k) ?_
                    show OGo p e below s _ _ _ (s₁.setTop (mkF m 220 #[.val (.ref o0), .val (.int (1 : Int32)), .val (.int p2), .val (.int (x1 &&& (255 : Int32))), .val (.int j70_0), .val (.int j87_0), .val (.int (3 : Int32)), .val (.int (4 : Int32)), .val (.int (x2 &&& (255 : Int32))), .val (.int (4 : Int32))] []))
                    refine OGo.st (fun _ k => XS.goto X0.here hx rfl (pc0 := 220) (pc' := 194) rfl (hb hby d1_220) (by decide) (by decide) k) ?_
                    show OGo p e below s _ _ _ (s₁.setTop (mkF m 194 #[.val (.ref o0), .val (.int (1 : Int32)), .val (.int p2), .val (.int (x1 &&& (255 : Int32))), .val (.int j70_0), .val (.int j87_0), .val (.int (3 : Int32)), .val (.int (4 : Int32)), .val (.int (x2 &&& (255 : Int32))), .val (.int (4 : Int32))] []))
                    refine OGo.st (fun _ k => XS.iload X0.here hx rfl (hb hby d1_194) rfl k) ?_
                    show OGo p e below s _ _ _ (s₁.setTop (mkF m 196 #[.val (.ref o0), .val (.int (1 : Int32)), .val (.int p2), .val (.int (x1 &&& (255 : Int32))), .val (.int j70_0), .val (.int j87_0), .val (.int (3 : Int32)), .val (.int (4 : Int32)), .val (.int (x2 &&& (255 : Int32))), .val (.int (4 : Int32))] [(.int (4 : Int32))]))
                    refine OGo.st (fun _ k => XS.iload X0.here hx rfl (hb hby d1_196) rfl k) ?_
                    show OGo p e below s _ _ _ (s₁.setTop (mkF m 198 #[.val (.ref o0), .val (.int (1 : Int32)), .val (.int p2), .val (.int (x1 &&& (255 : Int32))), .val (.int j70_0), .val (.int j87_0), .val (.int (3 : Int32)), .val (.int (4 : Int32)), .val (.int (x2 &&& (255 : Int32))), .val (.int (4 : Int32))] [(.int (4 : Int32)), (.int (4 : Int32))]))
                    refine OGo.st (fun _ k => XS.icmpYes X0.here hx rfl (pc0 := 198) (pc' := 223) rfl (hb hby d1_198) rfl (flt (by decide : ¬ ((4 : Int32) < (4 : Int32)))).2.1 (by decide) (by decide) k) ?_
                    show OGo p e below s _ _ _ (s₁.setTop (mkF m 223 #[.val (.ref o0), .val (.int (1 : Int32)), .val (.int p2), .val (.int (x1 &&& (255 : Int32))), .val (.int j70_0), .val (.int j87_0), .val (.int (3 : Int32)), .val (.int (4 : Int32)), .val (.int (x2 &&& (255 : Int32))), .val (.int (4 : Int32))] []))
                    refine OGo.st (fun _ k => XS.iload X0.here hx rfl (hb hby d1_223) rfl k) ?_
                    show OGo p e below s _ _ _ (s₁.setTop (mkF m 225 #[.val (.ref o0), .val (.int (1 : Int32)), .val (.int p2), .val (.int (x1 &&& (255 : Int32))), .val (.int j70_0), .val (.int j87_0), .val (.int (3 : Int32)), .val (.int (4 : Int32)), .val (.int (x2 &&& (255 : Int32))), .val (.int (4 : Int32))] [(.int (4 : Int32))]))
                    exact oretI X0 hx Bd.notSynchronized Bd.returns (hb hby d1_225) e0 ⟨(congrArg (fun z => some (Value.int z)) (show (4 : Int32) = f1L1 p2 x1 x2 x3 x4 from Eq.symm (hf87_0.trans (by unfold f1L1_87; exact (if_neg hc157).trans ((if_neg hc177).trans ((if_neg hc184).trans (if_pos hc212))))))), N0, rfl⟩ (by decide) (by decide)
                  · refine OGo.st (fun _ k => XS.icmpNo X0.here hx rfl (hb hby d1_212) rfl (feq hc212).1 k) ?_
                    show OGo p e below s _ _ _ (s₁.setTop (mkF m 215 #[.val (.ref o0), .val (.int (1 : Int32)), .val (.int p2), .val (.int (x1 &&& (255 : Int32))), .val (.int j70_0), .val (.int j87_0), .val (.int (3 : Int32)), .val (.int (4 : Int32)), .val (.int (x2 &&& (255 : Int32))), .val (.int (3 : Int32))] []))
                    refine OGo.st (fun _ k => XS.iconst X0.here hx rfl (hb hby d1_215) k) ?_
                    show OGo p e below s _ _ _ (s₁.setTop (mkF m 216 #[.val (.ref o0), .val (.int (1 : Int32)), .val (.int p2), .val (.int (x1 &&& (255 : Int32))), .val (.int j70_0), .val (.int j87_0), .val (.int (3 : Int32)), .val (.int (4 : Int32)), .val (.int (x2 &&& (255 : Int32))), .val (.int (3 : Int32))] [(.int (-1 : Int32))]))
                    exact oretI X0 hx Bd.notSynchronized Bd.returns (hb hby d1_216) e0 ⟨(congrArg (fun z => some (Value.int z)) (show (-1 : Int32) = f1L1 p2 x1 x2 x3 x4 from Eq.symm (hf87_0.trans (by unfold f1L1_87; exact (if_neg hc157).trans ((if_neg hc177).trans ((if_neg hc184).trans (if_neg hc212))))))), N0, rfl⟩ (by decide) (by decide)
          by_cases hc76 : (x1 &&& (255 : Int32)) = (237 : Int32)
          · refine OGo.st (fun _ k => XS.icmpNo X0.here hx rfl (hb hby d1_76) rfl (teq hc76).2 k) ?_
            show OGo p e below s _ _ _ (s₁.setTop (mkF m 79 #[.val (.ref o0), .val (.int (1 : Int32)), .val (.int p2), .val (.int (x1 &&& (255 : Int32))), .val (.int j70_0), .val (.int (191 : Int32)), .val (.int (3 : Int32)), .unset, .unset, .unset] []))
            refine OGo.st (fun _ k => XS.sipush X0.here hx rfl (hb hby d1_79) k) ?_
            show OGo p e below s _ _ _ (s₁.setTop (mkF m 82 #[.val (.ref o0), .val (.int (1 : Int32)), .val (.int p2), .val (.int (x1 &&& (255 : Int32))), .val (.int j70_0), .val (.int (191 : Int32)), .val (.int (3 : Int32)), .unset, .unset, .unset] [(.int (159 : Int32))]))
            refine OGo.st (fun _ k => XS.goto X0.here hx rfl (pc0 := 82) (pc' := 87) rfl (hb hby d1_82) (by decide) (by decide) k) ?_
            show OGo p e below s _ _ _ (s₁.setTop (mkF m 87 #[.val (.ref o0), .val (.int (1 : Int32)), .val (.int p2), .val (.int (x1 &&& (255 : Int32))), .val (.int j70_0), .val (.int (191 : Int32)), .val (.int (3 : Int32)), .unset, .unset, .unset] [(.int (159 : Int32))]))
            exact hj87 (159 : Int32) (hf70_0.trans (by unfold f1L1_70; exact if_pos hc76))
          · refine OGo.st (fun _ k => XS.icmpYes X0.here hx rfl (pc0 := 76) (pc' := 85) rfl (hb hby d1_76) rfl (feq hc76).2 (by decide) (by decide) k) ?_
            show OGo p e below s _ _ _ (s₁.setTop (mkF m 85 #[.val (.ref o0), .val (.int (1 : Int32)), .val (.int p2), .val (.int (x1 &&& (255 : Int32))), .val (.int j70_0), .val (.int (191 : Int32)), .val (.int (3 : Int32)), .unset, .unset, .unset] []))
            refine OGo.st (fun _ k => XS.iload X0.here hx rfl (hb hby d1_85) rfl k) ?_
            show OGo p e below s _ _ _ (s₁.setTop (mkF m 87 #[.val (.ref o0), .val (.int (1 : Int32)), .val (.int p2), .val (.int (x1 &&& (255 : Int32))), .val (.int j70_0), .val (.int (191 : Int32)), .val (.int (3 : Int32)), .unset, .unset, .unset] [(.int (191 : Int32))]))
            exact hj87 (191 : Int32) (hf70_0.trans (by unfold f1L1_70; exact if_neg hc76))
        by_cases hc59 : (x1 &&& (255 : Int32)) = (224 : Int32)
        · refine OGo.st (fun _ k => XS.icmpNo X0.here hx rfl (hb hby d1_59) rfl (teq hc59).2 k) ?_
          show OGo p e below s _ _ _ (s₁.setTop (mkF m 62 #[.val (.ref o0), .val (.int (1 : Int32)), .val (.int p2), .val (.int (x1 &&& (255 : Int32))), .val (.int (128 : Int32)), .val (.int (191 : Int32)), .val (.int (3 : Int32)), .unset, .unset, .unset] []))
          refine OGo.st (fun _ k => XS.sipush X0.here hx rfl (hb hby d1_62) k) ?_
          show OGo p e below s _ _ _ (s₁.setTop (mkF m 65 #[.val (.ref o0), .val (.int (1 : Int32)), .val (.int p2), .val (.int (x1 &&& (255 : Int32))), .val (.int (128 : Int32)), .val (.int (191 : Int32)), .val (.int (3 : Int32)), .unset, .unset, .unset] [(.int (160 : Int32))]))
          refine OGo.st (fun _ k => XS.goto X0.here hx rfl (pc0 := 65) (pc' := 70) rfl (hb hby d1_65) (by decide) (by decide) k) ?_
          show OGo p e below s _ _ _ (s₁.setTop (mkF m 70 #[.val (.ref o0), .val (.int (1 : Int32)), .val (.int p2), .val (.int (x1 &&& (255 : Int32))), .val (.int (128 : Int32)), .val (.int (191 : Int32)), .val (.int (3 : Int32)), .unset, .unset, .unset] [(.int (160 : Int32))]))
          exact hj70 (160 : Int32) (by unfold f1L1; exact (if_neg hc22).trans ((if_pos hc29).trans ((if_neg hc49).trans (if_pos hc59))))
        · refine OGo.st (fun _ k => XS.icmpYes X0.here hx rfl (pc0 := 59) (pc' := 68) rfl (hb hby d1_59) rfl (feq hc59).2 (by decide) (by decide) k) ?_
          show OGo p e below s _ _ _ (s₁.setTop (mkF m 68 #[.val (.ref o0), .val (.int (1 : Int32)), .val (.int p2), .val (.int (x1 &&& (255 : Int32))), .val (.int (128 : Int32)), .val (.int (191 : Int32)), .val (.int (3 : Int32)), .unset, .unset, .unset] []))
          refine OGo.st (fun _ k => XS.iload X0.here hx rfl (hb hby d1_68) rfl k) ?_
          show OGo p e below s _ _ _ (s₁.setTop (mkF m 70 #[.val (.ref o0), .val (.int (1 : Int32)), .val (.int p2), .val (.int (x1 &&& (255 : Int32))), .val (.int (128 : Int32)), .val (.int (191 : Int32)), .val (.int (3 : Int32)), .unset, .unset, .unset] [(.int (128 : Int32))]))
          exact hj70 (128 : Int32) (by unfold f1L1; exact (if_neg hc22).trans ((if_pos hc29).trans ((if_neg hc49).trans (if_neg hc59))))
    · refine OGo.st (fun _ k => XS.icmpNo X0.here hx rfl (hb hby d1_29) rfl (flt hc29).2.2.1 k) ?_
      show OGo p e below s _ _ _ (s₁.setTop (mkF m 32 #[.val (.ref o0), .val (.int (1 : Int32)), .val (.int p2), .val (.int (x1 &&& (255 : Int32))), .val (.int (128 : Int32)), .val (.int (191 : Int32)), .unset, .unset, .unset, .unset] []))
      refine OGo.st (fun _ k => XS.iconst X0.here hx rfl (hb hby d1_32) k) ?_
      show OGo p e below s _ _ _ (s₁.setTop (mkF m 33 #[.val (.ref o0), .val (.int (1 : Int32)), .val (.int p2), .val (.int (x1 &&& (255 : Int32))), .val (.int (128 : Int32)), .val (.int (191 : Int32)), .unset, .unset, .unset, .unset] [(.int (2 : Int32))]))
      refine OGo.st (fun _ k => XS.istore X0.here hx rfl (hb hby d1_33) rfl (l' := #[.val (.ref o0), .val (.int (1 : Int32)), .val (.int p2), .val (.int (x1 &&& (255 : Int32))), .val (.int (128 : Int32)), .val (.int (191 : Int32)), .val (.int (2 : Int32)), .unset, .unset, .unset]) rfl k) ?_
      show OGo p e below s _ _ _ (s₁.setTop (mkF m 35 #[.val (.ref o0), .val (.int (1 : Int32)), .val (.int p2), .val (.int (x1 &&& (255 : Int32))), .val (.int (128 : Int32)), .val (.int (191 : Int32)), .val (.int (2 : Int32)), .unset, .unset, .unset] []))
      refine OGo.st (fun _ k => XS.goto X0.here hx rfl (pc0 := 35) (pc' := 148) rfl (hb hby d1_35) (by decide) (by decide) k) ?_
      show OGo p e below s _ _ _ (s₁.setTop (mkF m 148 #[.val (.ref o0), .val (.int (1 : Int32)), .val (.int p2), .val (.int (x1 &&& (255 : Int32))), .val (.int (128 : Int32)), .val (.int (191 : Int32)), .val (.int (2 : Int32)), .unset, .unset, .unset] []))
      refine OGo.st (fun _ k => XS.iloadN X0.here hx rfl (hb hby d1_148) rfl k) ?_
      show OGo p e below s _ _ _ (s₁.setTop (mkF m 149 #[.val (.ref o0), .val (.int (1 : Int32)), .val (.int p2), .val (.int (x1 &&& (255 : Int32))), .val (.int (128 : Int32)), .val (.int (191 : Int32)), .val (.int (2 : Int32)), .unset, .unset, .unset] [(.int (1 : Int32))]))
      refine OGo.st (fun _ k => XS.iload X0.here hx rfl (hb hby d1_149) rfl k) ?_
      show OGo p e below s _ _ _ (s₁.setTop (mkF m 151 #[.val (.ref o0), .val (.int (1 : Int32)), .val (.int p2), .val (.int (x1 &&& (255 : Int32))), .val (.int (128 : Int32)), .val (.int (191 : Int32)), .val (.int (2 : Int32)), .unset, .unset, .unset] [(.int (2 : Int32)), (.int (1 : Int32))]))
      refine OGo.st (fun _ k => XS.iadd X0.here hx rfl (hb hby d1_151) rfl k) ?_
      rw [show ((1 : Int32) + (2 : Int32)) = (3 : Int32) from by decide]
      show OGo p e below s _ _ _ (s₁.setTop (mkF m 152 #[.val (.ref o0), .val (.int (1 : Int32)), .val (.int p2), .val (.int (x1 &&& (255 : Int32))), .val (.int (128 : Int32)), .val (.int (191 : Int32)), .val (.int (2 : Int32)), .unset, .unset, .unset] [(.int (3 : Int32))]))
      refine OGo.st (fun _ k => XS.istore X0.here hx rfl (hb hby d1_152) rfl (l' := #[.val (.ref o0), .val (.int (1 : Int32)), .val (.int p2), .val (.int (x1 &&& (255 : Int32))), .val (.int (128 : Int32)), .val (.int (191 : Int32)), .val (.int (2 : Int32)), .val (.int (3 : Int32)), .unset, .unset]) rfl k) ?_
      show OGo p e below s _ _ _ (s₁.setTop (mkF m 154 #[.val (.ref o0), .val (.int (1 : Int32)), .val (.int p2), .val (.int (x1 &&& (255 : Int32))), .val (.int (128 : Int32)), .val (.int (191 : Int32)), .val (.int (2 : Int32)), .val (.int (3 : Int32)), .unset, .unset] []))
      refine OGo.st (fun _ k => XS.iload X0.here hx rfl (hb hby d1_154) rfl k) ?_
      show OGo p e below s _ _ _ (s₁.setTop (mkF m 156 #[.val (.ref o0), .val (.int (1 : Int32)), .val (.int p2), .val (.int (x1 &&& (255 : Int32))), .val (.int (128 : Int32)), .val (.int (191 : Int32)), .val (.int (2 : Int32)), .val (.int (3 : Int32)), .unset, .unset] [(.int (3 : Int32))]))
      refine OGo.st (fun _ k => XS.iloadN X0.here hx rfl (hb hby d1_156) rfl k) ?_
      show OGo p e below s _ _ _ (s₁.setTop (mkF m 157 #[.val (.ref o0), .val (.int (1 : Int32)), .val (.int p2), .val (.int (x1 &&& (255 : Int32))), .val (.int (128 : Int32)), .val (.int (191 : Int32)), .val (.int (2 : Int32)), .val (.int (3 : Int32)), .unset, .unset] [(.int p2), (.int (3 : Int32))]))
      by_cases hc157 : p2 < (3 : Int32)
      · refine OGo.st (fun _ k => XS.icmpNo X0.here hx rfl (hb hby d1_157) rfl (tlt hc157).2.2.2 k) ?_
        show OGo p e below s _ _ _ (s₁.setTop (mkF m 160 #[.val (.ref o0), .val (.int (1 : Int32)), .val (.int p2), .val (.int (x1 &&& (255 : Int32))), .val (.int (128 : Int32)), .val (.int (191 : Int32)), .val (.int (2 : Int32)), .val (.int (3 : Int32)), .unset, .unset] []))
        refine OGo.st (fun _ k => XS.iconst X0.here hx rfl (hb hby d1_160) k) ?_
        show OGo p e below s _ _ _ (s₁.setTop (mkF m 161 #[.val (.ref o0), .val (.int (1 : Int32)), .val (.int p2), .val (.int (x1 &&& (255 : Int32))), .val (.int (128 : Int32)), .val (.int (191 : Int32)), .val (.int (2 : Int32)), .val (.int (3 : Int32)), .unset, .unset] [(.int (-1 : Int32))]))
        exact oretI X0 hx Bd.notSynchronized Bd.returns (hb hby d1_161) e0 ⟨(congrArg (fun z => some (Value.int z)) (show (-1 : Int32) = f1L1 p2 x1 x2 x3 x4 from Eq.symm (by unfold f1L1; exact (if_neg hc22).trans ((if_neg hc29).trans (if_pos hc157))))), N0, rfl⟩ (by decide) (by decide)
      · refine OGo.st (fun _ k => XS.icmpYes X0.here hx rfl (pc0 := 157) (pc' := 162) rfl (hb hby d1_157) rfl (flt hc157).2.2.2 (by decide) (by decide) k) ?_
        show OGo p e below s _ _ _ (s₁.setTop (mkF m 162 #[.val (.ref o0), .val (.int (1 : Int32)), .val (.int p2), .val (.int (x1 &&& (255 : Int32))), .val (.int (128 : Int32)), .val (.int (191 : Int32)), .val (.int (2 : Int32)), .val (.int (3 : Int32)), .unset, .unset] []))
        refine OGo.st (fun _ k => XS.aloadN X0.here hx rfl (hb hby d1_162) rfl rfl k) ?_
        show OGo p e below s _ _ _ (s₁.setTop (mkF m 163 #[.val (.ref o0), .val (.int (1 : Int32)), .val (.int p2), .val (.int (x1 &&& (255 : Int32))), .val (.int (128 : Int32)), .val (.int (191 : Int32)), .val (.int (2 : Int32)), .val (.int (3 : Int32)), .unset, .unset] [(.ref o0)]))
        refine OGo.st (fun _ k => XS.iloadN X0.here hx rfl (hb hby d1_163) rfl k) ?_
        show OGo p e below s _ _ _ (s₁.setTop (mkF m 164 #[.val (.ref o0), .val (.int (1 : Int32)), .val (.int p2), .val (.int (x1 &&& (255 : Int32))), .val (.int (128 : Int32)), .val (.int (191 : Int32)), .val (.int (2 : Int32)), .val (.int (3 : Int32)), .unset, .unset] [(.int (1 : Int32)), (.ref o0)]))
        refine OGo.st (fun _ k => XS.iconst X0.here hx rfl (hb hby d1_164) k) ?_
        show OGo p e below s _ _ _ (s₁.setTop (mkF m 165 #[.val (.ref o0), .val (.int (1 : Int32)), .val (.int p2), .val (.int (x1 &&& (255 : Int32))), .val (.int (128 : Int32)), .val (.int (191 : Int32)), .val (.int (2 : Int32)), .val (.int (3 : Int32)), .unset, .unset] [(.int (1 : Int32)), (.int (1 : Int32)), (.ref o0)]))
        refine OGo.st (fun _ k => XS.iadd X0.here hx rfl (hb hby d1_165) rfl k) ?_
        rw [show ((1 : Int32) + (1 : Int32)) = (2 : Int32) from by decide]
        show OGo p e below s _ _ _ (s₁.setTop (mkF m 166 #[.val (.ref o0), .val (.int (1 : Int32)), .val (.int p2), .val (.int (x1 &&& (255 : Int32))), .val (.int (128 : Int32)), .val (.int (191 : Int32)), .val (.int (2 : Int32)), .val (.int (3 : Int32)), .unset, .unset] [(.int (2 : Int32)), (.ref o0)]))
        obtain ⟨cl11, Ar11, q11, Sz11, Nn11, Hs11, Gs11⟩ := id V_o0
        have hin11 : ¬ ((2 : Int32) < 0 ∨ cl11.slots.size ≤ ((2 : Int32)).toNatClampNeg) := inb_of Sz11 ⟨by decide, by decide⟩
        have hat11 : cl11.slots[((2 : Int32)).toNatClampNeg]? = some (.int x2) := Hs11.at hin11 rfl
        refine OGo.st (fun _ k => X0.baloadBytes hx (j := (2 : Int32)) (v := (.int x2)) (by rw [e0]; exact Ar11.1) (State.isArrayOf_alike hZ.alike Ar11.2.1) Ar11.2.2 hin11 hat11 (g := (mkF m 166 #[.val (.ref o0), .val (.int (1 : Int32)), .val (.int p2), .val (.int (x1 &&& (255 : Int32))), .val (.int (128 : Int32)), .val (.int (191 : Int32)), .val (.int (2 : Int32)), .val (.int (3 : Int32)), .unset, .unset] [(.int (2 : Int32)), (.ref o0)])) rfl rfl (hb hby d1_166) _ k) ?_
        show OGo p e below s _ _ _ (s₁.setTop (mkF m 167 #[.val (.ref o0), .val (.int (1 : Int32)), .val (.int p2), .val (.int (x1 &&& (255 : Int32))), .val (.int (128 : Int32)), .val (.int (191 : Int32)), .val (.int (2 : Int32)), .val (.int (3 : Int32)), .unset, .unset] [(.int x2)]))
        refine OGo.st (fun _ k => XS.sipush X0.here hx rfl (hb hby d1_167) k) ?_
        show OGo p e below s _ _ _ (s₁.setTop (mkF m 170 #[.val (.ref o0), .val (.int (1 : Int32)), .val (.int p2), .val (.int (x1 &&& (255 : Int32))), .val (.int (128 : Int32)), .val (.int (191 : Int32)), .val (.int (2 : Int32)), .val (.int (3 : Int32)), .unset, .unset] [(.int (255 : Int32)), (.int x2)]))
        refine OGo.st (fun _ k => XS.iand X0.here hx rfl (hb hby d1_170) rfl k) ?_
        show OGo p e below s _ _ _ (s₁.setTop (mkF m 171 #[.val (.ref o0), .val (.int (1 : Int32)), .val (.int p2), .val (.int (x1 &&& (255 : Int32))), .val (.int (128 : Int32)), .val (.int (191 : Int32)), .val (.int (2 : Int32)), .val (.int (3 : Int32)), .unset, .unset] [(.int (x2 &&& (255 : Int32)))]))
        refine OGo.st (fun _ k => XS.istore X0.here hx rfl (hb hby d1_171) rfl (l' := #[.val (.ref o0), .val (.int (1 : Int32)), .val (.int p2), .val (.int (x1 &&& (255 : Int32))), .val (.int (128 : Int32)), .val (.int (191 : Int32)), .val (.int (2 : Int32)), .val (.int (3 : Int32)), .val (.int (x2 &&& (255 : Int32))), .unset]) rfl k) ?_
        show OGo p e below s _ _ _ (s₁.setTop (mkF m 173 #[.val (.ref o0), .val (.int (1 : Int32)), .val (.int p2), .val (.int (x1 &&& (255 : Int32))), .val (.int (128 : Int32)), .val (.int (191 : Int32)), .val (.int (2 : Int32)), .val (.int (3 : Int32)), .val (.int (x2 &&& (255 : Int32))), .unset] []))
        refine OGo.st (fun _ k => XS.iload X0.here hx rfl (hb hby d1_173) rfl k) ?_
        show OGo p e below s _ _ _ (s₁.setTop (mkF m 175 #[.val (.ref o0), .val (.int (1 : Int32)), .val (.int p2), .val (.int (x1 &&& (255 : Int32))), .val (.int (128 : Int32)), .val (.int (191 : Int32)), .val (.int (2 : Int32)), .val (.int (3 : Int32)), .val (.int (x2 &&& (255 : Int32))), .unset] [(.int (x2 &&& (255 : Int32)))]))
        refine OGo.st (fun _ k => XS.iload X0.here hx rfl (hb hby d1_175) rfl k) ?_
        show OGo p e below s _ _ _ (s₁.setTop (mkF m 177 #[.val (.ref o0), .val (.int (1 : Int32)), .val (.int p2), .val (.int (x1 &&& (255 : Int32))), .val (.int (128 : Int32)), .val (.int (191 : Int32)), .val (.int (2 : Int32)), .val (.int (3 : Int32)), .val (.int (x2 &&& (255 : Int32))), .unset] [(.int (128 : Int32)), (.int (x2 &&& (255 : Int32)))]))
        by_cases hc177 : (x2 &&& (255 : Int32)) < (128 : Int32)
        · refine OGo.st (fun _ k => XS.icmpYes X0.here hx rfl (pc0 := 177) (pc' := 187) rfl (hb hby d1_177) rfl (tlt hc177).1 (by decide) (by decide) k) ?_
          show OGo p e below s _ _ _ (s₁.setTop (mkF m 187 #[.val (.ref o0), .val (.int (1 : Int32)), .val (.int p2), .val (.int (x1 &&& (255 : Int32))), .val (.int (128 : Int32)), .val (.int (191 : Int32)), .val (.int (2 : Int32)), .val (.int (3 : Int32)), .val (.int (x2 &&& (255 : Int32))), .unset] []))
          refine OGo.st (fun _ k => XS.iconst X0.here hx rfl (hb hby d1_187) k) ?_
          show OGo p e below s _ _ _ (s₁.setTop (mkF m 188 #[.val (.ref o0), .val (.int (1 : Int32)), .val (.int p2), .val (.int (x1 &&& (255 : Int32))), .val (.int (128 : Int32)), .val (.int (191 : Int32)), .val (.int (2 : Int32)), .val (.int (3 : Int32)), .val (.int (x2 &&& (255 : Int32))), .unset] [(.int (-1 : Int32))]))
          exact oretI X0 hx Bd.notSynchronized Bd.returns (hb hby d1_188) e0 ⟨(congrArg (fun z => some (Value.int z)) (show (-1 : Int32) = f1L1 p2 x1 x2 x3 x4 from Eq.symm (by unfold f1L1; exact (if_neg hc22).trans ((if_neg hc29).trans ((if_neg hc157).trans (if_pos hc177)))))), N0, rfl⟩ (by decide) (by decide)
        · refine OGo.st (fun _ k => XS.icmpNo X0.here hx rfl (hb hby d1_177) rfl (flt hc177).1 k) ?_
          show OGo p e below s _ _ _ (s₁.setTop (mkF m 180 #[.val (.ref o0), .val (.int (1 : Int32)), .val (.int p2), .val (.int (x1 &&& (255 : Int32))), .val (.int (128 : Int32)), .val (.int (191 : Int32)), .val (.int (2 : Int32)), .val (.int (3 : Int32)), .val (.int (x2 &&& (255 : Int32))), .unset] []))
          refine OGo.st (fun _ k => XS.iload X0.here hx rfl (hb hby d1_180) rfl k) ?_
          show OGo p e below s _ _ _ (s₁.setTop (mkF m 182 #[.val (.ref o0), .val (.int (1 : Int32)), .val (.int p2), .val (.int (x1 &&& (255 : Int32))), .val (.int (128 : Int32)), .val (.int (191 : Int32)), .val (.int (2 : Int32)), .val (.int (3 : Int32)), .val (.int (x2 &&& (255 : Int32))), .unset] [(.int (x2 &&& (255 : Int32)))]))
          refine OGo.st (fun _ k => XS.iload X0.here hx rfl (hb hby d1_182) rfl k) ?_
          show OGo p e below s _ _ _ (s₁.setTop (mkF m 184 #[.val (.ref o0), .val (.int (1 : Int32)), .val (.int p2), .val (.int (x1 &&& (255 : Int32))), .val (.int (128 : Int32)), .val (.int (191 : Int32)), .val (.int (2 : Int32)), .val (.int (3 : Int32)), .val (.int (x2 &&& (255 : Int32))), .unset] [(.int (191 : Int32)), (.int (x2 &&& (255 : Int32)))]))
          by_cases hc184 : (191 : Int32) < (x2 &&& (255 : Int32))
          · refine OGo.st (fun _ k => XS.icmpNo X0.here hx rfl (hb hby d1_184) rfl (tlt hc184).2.2.2 k) ?_
            show OGo p e below s _ _ _ (s₁.setTop (mkF m 187 #[.val (.ref o0), .val (.int (1 : Int32)), .val (.int p2), .val (.int (x1 &&& (255 : Int32))), .val (.int (128 : Int32)), .val (.int (191 : Int32)), .val (.int (2 : Int32)), .val (.int (3 : Int32)), .val (.int (x2 &&& (255 : Int32))), .unset] []))
            refine OGo.st (fun _ k => XS.iconst X0.here hx rfl (hb hby d1_187) k) ?_
            show OGo p e below s _ _ _ (s₁.setTop (mkF m 188 #[.val (.ref o0), .val (.int (1 : Int32)), .val (.int p2), .val (.int (x1 &&& (255 : Int32))), .val (.int (128 : Int32)), .val (.int (191 : Int32)), .val (.int (2 : Int32)), .val (.int (3 : Int32)), .val (.int (x2 &&& (255 : Int32))), .unset] [(.int (-1 : Int32))]))
            exact oretI X0 hx Bd.notSynchronized Bd.returns (hb hby d1_188) e0 ⟨(congrArg (fun z => some (Value.int z)) (show (-1 : Int32) = f1L1 p2 x1 x2 x3 x4 from Eq.symm (by unfold f1L1; exact (if_neg hc22).trans ((if_neg hc29).trans ((if_neg hc157).trans ((if_neg hc177).trans (if_pos hc184))))))), N0, rfl⟩ (by decide) (by decide)
          · refine OGo.st (fun _ k => XS.icmpYes X0.here hx rfl (pc0 := 184) (pc' := 189) rfl (hb hby d1_184) rfl (flt hc184).2.2.2 (by decide) (by decide) k) ?_
            show OGo p e below s _ _ _ (s₁.setTop (mkF m 189 #[.val (.ref o0), .val (.int (1 : Int32)), .val (.int p2), .val (.int (x1 &&& (255 : Int32))), .val (.int (128 : Int32)), .val (.int (191 : Int32)), .val (.int (2 : Int32)), .val (.int (3 : Int32)), .val (.int (x2 &&& (255 : Int32))), .unset] []))
            refine OGo.st (fun _ k => XS.iloadN X0.here hx rfl (hb hby d1_189) rfl k) ?_
            show OGo p e below s _ _ _ (s₁.setTop (mkF m 190 #[.val (.ref o0), .val (.int (1 : Int32)), .val (.int p2), .val (.int (x1 &&& (255 : Int32))), .val (.int (128 : Int32)), .val (.int (191 : Int32)), .val (.int (2 : Int32)), .val (.int (3 : Int32)), .val (.int (x2 &&& (255 : Int32))), .unset] [(.int (1 : Int32))]))
            refine OGo.st (fun _ k => XS.iconst X0.here hx rfl (hb hby d1_190) k) ?_
            show OGo p e below s _ _ _ (s₁.setTop (mkF m 191 #[.val (.ref o0), .val (.int (1 : Int32)), .val (.int p2), .val (.int (x1 &&& (255 : Int32))), .val (.int (128 : Int32)), .val (.int (191 : Int32)), .val (.int (2 : Int32)), .val (.int (3 : Int32)), .val (.int (x2 &&& (255 : Int32))), .unset] [(.int (2 : Int32)), (.int (1 : Int32))]))
            refine OGo.st (fun _ k => XS.iadd X0.here hx rfl (hb hby d1_191) rfl k) ?_
            rw [show ((1 : Int32) + (2 : Int32)) = (3 : Int32) from by decide]
            show OGo p e below s _ _ _ (s₁.setTop (mkF m 192 #[.val (.ref o0), .val (.int (1 : Int32)), .val (.int p2), .val (.int (x1 &&& (255 : Int32))), .val (.int (128 : Int32)), .val (.int (191 : Int32)), .val (.int (2 : Int32)), .val (.int (3 : Int32)), .val (.int (x2 &&& (255 : Int32))), .unset] [(.int (3 : Int32))]))
            refine OGo.st (fun _ k => XS.istore X0.here hx rfl (hb hby d1_192) rfl (l' := #[.val (.ref o0), .val (.int (1 : Int32)), .val (.int p2), .val (.int (x1 &&& (255 : Int32))), .val (.int (128 : Int32)), .val (.int (191 : Int32)), .val (.int (2 : Int32)), .val (.int (3 : Int32)), .val (.int (x2 &&& (255 : Int32))), .val (.int (3 : Int32))]) rfl k) ?_
            show OGo p e below s _ _ _ (s₁.setTop (mkF m 194 #[.val (.ref o0), .val (.int (1 : Int32)), .val (.int p2), .val (.int (x1 &&& (255 : Int32))), .val (.int (128 : Int32)), .val (.int (191 : Int32)), .val (.int (2 : Int32)), .val (.int (3 : Int32)), .val (.int (x2 &&& (255 : Int32))), .val (.int (3 : Int32))] []))
            refine OGo.st (fun _ k => XS.iload X0.here hx rfl (hb hby d1_194) rfl k) ?_
            show OGo p e below s _ _ _ (s₁.setTop (mkF m 196 #[.val (.ref o0), .val (.int (1 : Int32)), .val (.int p2), .val (.int (x1 &&& (255 : Int32))), .val (.int (128 : Int32)), .val (.int (191 : Int32)), .val (.int (2 : Int32)), .val (.int (3 : Int32)), .val (.int (x2 &&& (255 : Int32))), .val (.int (3 : Int32))] [(.int (3 : Int32))]))
            refine OGo.st (fun _ k => XS.iload X0.here hx rfl (hb hby d1_196) rfl k) ?_
            show OGo p e below s _ _ _ (s₁.setTop (mkF m 198 #[.val (.ref o0), .val (.int (1 : Int32)), .val (.int p2), .val (.int (x1 &&& (255 : Int32))), .val (.int (128 : Int32)), .val (.int (191 : Int32)), .val (.int (2 : Int32)), .val (.int (3 : Int32)), .val (.int (x2 &&& (255 : Int32))), .val (.int (3 : Int32))] [(.int (3 : Int32)), (.int (3 : Int32))]))
            refine OGo.st (fun _ k => XS.icmpYes X0.here hx rfl (pc0 := 198) (pc' := 223) rfl (hb hby d1_198) rfl (flt (by decide : ¬ ((3 : Int32) < (3 : Int32)))).2.1 (by decide) (by decide) k) ?_
            show OGo p e below s _ _ _ (s₁.setTop (mkF m 223 #[.val (.ref o0), .val (.int (1 : Int32)), .val (.int p2), .val (.int (x1 &&& (255 : Int32))), .val (.int (128 : Int32)), .val (.int (191 : Int32)), .val (.int (2 : Int32)), .val (.int (3 : Int32)), .val (.int (x2 &&& (255 : Int32))), .val (.int (3 : Int32))] []))
            refine OGo.st (fun _ k => XS.iload X0.here hx rfl (hb hby d1_223) rfl k) ?_
            show OGo p e below s _ _ _ (s₁.setTop (mkF m 225 #[.val (.ref o0), .val (.int (1 : Int32)), .val (.int p2), .val (.int (x1 &&& (255 : Int32))), .val (.int (128 : Int32)), .val (.int (191 : Int32)), .val (.int (2 : Int32)), .val (.int (3 : Int32)), .val (.int (x2 &&& (255 : Int32))), .val (.int (3 : Int32))] [(.int (3 : Int32))]))
            exact oretI X0 hx Bd.notSynchronized Bd.returns (hb hby d1_225) e0 ⟨(congrArg (fun z => some (Value.int z)) (show (3 : Int32) = f1L1 p2 x1 x2 x3 x4 from Eq.symm (by unfold f1L1; exact (if_neg hc22).trans ((if_neg hc29).trans ((if_neg hc157).trans ((if_neg hc177).trans (if_neg hc184))))))), N0, rfl⟩ (by decide) (by decide)
theorem own_last1 (x : Int32) (h0 : ¬ (x &&& (1 : Int32)) = (0 : Int32)) : (x &&& (1 : Int32)) = (1 : Int32) := by
  have e := Jvm.Kit.i32_mask x 1 (k := 1) (by decide) (by decide)
  have k0 : (0 : Int32).toInt = 0 := by decide
  have k1 : (1 : Int32).toInt = 1 := by decide
  simp only [← Int32.toInt_inj, e, k0, k1] at h0 ⊢
  omega
theorem pn_0 : plainName "com/example/evbind/evbind/Utf8SequenceEndPinLaw" = true := by first | (simp [plainName, overriddenIn]; done) | decide +kernel
theorem pd_0_0 : parseMethodDescriptor "([BII)I" = some ⟨[(.array .byte), .int, .int], some .int⟩ := by decide +kernel
theorem pd_0_1 : parseMethodDescriptor "(IIIIII)I" = some ⟨[.int, .int, .int, .int, .int, .int], some .int⟩ := by decide +kernel
theorem ef_0 (m : MethodId) (p0 : Int32) (p1 : Int32) (p2 : Int32) (p3 : Int32) (p4 : Int32) (p5 : Int32) : entryFrame m #[(.int p0), (.int p1), (.int p2), (.int p3), (.int p4), (.int p5)] maxLocals = mkF m 0 #[.val (.int p0), .val (.int p1), .val (.int p2), .val (.int p3), .val (.int p4), .val (.int p5), .unset, .unset, .unset, .unset, .unset, .unset, .unset, .unset] [] := by first | (simp [entryFrame, mkF, argsToLocals, Value.category, maxLocals]; done) | rfl
def v0_0 (p0 : Int32) (p1 : Int32) (p2 : Int32) (p3 : Int32) (p4 : Int32) (p5 : Int32) : Int32 := (f1L0 ((p5 &&& (2147483647 : Int32)) % (7 : Int32)) (nar .byte (((p0 &&& (255 : Int32)) ||| (128 : Int32)).toInt8.toInt32)) (nar .byte ((p1 &&& (255 : Int32)).toInt8.toInt32)) (nar .byte ((p2 &&& (255 : Int32)).toInt8.toInt32)) (nar .byte ((p3 &&& (255 : Int32)).toInt8.toInt32)))
def v0_1 (p0 : Int32) (p1 : Int32) (p2 : Int32) (p3 : Int32) (p4 : Int32) (p5 : Int32) : Int32 := (f1L1 ((p5 &&& (2147483647 : Int32)) % (7 : Int32)) (nar .byte (((p0 &&& (255 : Int32)) ||| (128 : Int32)).toInt8.toInt32)) (nar .byte ((p1 &&& (255 : Int32)).toInt8.toInt32)) (nar .byte ((p2 &&& (255 : Int32)).toInt8.toInt32)) (nar .byte ((p3 &&& (255 : Int32)).toInt8.toInt32)))
def f0 (p0 : Int32) (p1 : Int32) (p2 : Int32) (p3 : Int32) (p4 : Int32) (p5 : Int32) : Int32 := (if (p4 &&& (1 : Int32)) = (0 : Int32) then (if (v0_0 p0 p1 p2 p3 p4 p5) = (f2 ((p0 &&& (255 : Int32)) ||| (128 : Int32)) (p1 &&& (255 : Int32)) (p2 &&& (255 : Int32)) (p3 &&& (255 : Int32)) (0 : Int32) ((p5 &&& (2147483647 : Int32)) % (7 : Int32))) then (1 : Int32) else (0 : Int32)) else (if (v0_1 p0 p1 p2 p3 p4 p5) = (f2 ((p0 &&& (255 : Int32)) ||| (128 : Int32)) (p1 &&& (255 : Int32)) (p2 &&& (255 : Int32)) (p3 &&& (255 : Int32)) (1 : Int32) ((p5 &&& (2147483647 : Int32)) % (7 : Int32))) then (1 : Int32) else (0 : Int32)))
def Q0 (Z : State) (p0 : Int32) (p1 : Int32) (p2 : Int32) (p3 : Int32) (p4 : Int32) (p5 : Int32) (h0 : Heap) (n0 : Nat) (v : Option Value) (h : Heap) (L : List Loc) : Prop := v = some (.int (f0 p0 p1 p2 p3 p4 p5)) ∧ Fr n0 L
set_option maxRecDepth 65536 in
set_option maxHeartbeats 40000000 in
theorem rm0 (l : Launch) (Z : State) (a0 : Array Value) (hw : ∀ d ∈ tables_1, d.before a0 Z = true) (ws : List Jvm.Cond) (p0 : Int32) (p1 : Int32) (p2 : Int32) (p3 : Int32) (p4 : Int32) (p5 : Int32) (h0 : Heap) (n0 : Nat) (Z0 : n0 ≤ h0.size) :
    MetFree l x (head1 (Jvm.Cond.code x code maxLocals ret :: ws) room_1) (fun a U => a = #[(.int p0), (.int p1), (.int p2), (.int p3), (.int p4), (.int p5)] ∧ Z.Warmed39 U.vm ∧ U.heap = h0) (fun _ _ _ _ _ => True) (fun _ U o U' => ∃ v L, o = .returned v ∧ Q0 Z p0 p1 p2 p3 p4 p5 h0 n0 v U'.heap L ∧ FrameEnd U o U' L room_1.cells room_1.slots) := by
  refine MetFree.of_bodySF (plainFor_of_name pn_0) hisR ?_
  intro p e s m args below meth c s₁ Bd hml0 hP hK
  obtain ⟨rfl, hZ, hh⟩ := hP
  have hx := Bd.exec
  have hby := Bd.bytes
  have hml : c.maxLocals = 14 := hml0
  have hown : s.vm.findClass "com/example/evbind/evbind/Utf8SequenceEndPinLaw" = some m.cls := findClass_of_methodNamed Bd.named
  have hnm := (name_of_methodNamed Bd.named Bd.method).1
  have X0 : Stand p l e room_1 s m #[(.int p0), (.int p1), (.int p2), (.int p3), (.int p4), (.int p5)] below meth c s₁ [] 0 0 := Stand.of_body Bd
  have e0 : s₁.heap = h0 := by rw [← hh, Bd.state]; rfl
  have N0 := Fr.nil n0
  show OGo p e below s (Q0 Z p0 p1 p2 p3 p4 p5 h0 n0) room_1.cells room_1.slots _
  refine OGo.st (fun _ k => castTop (ef_0 m p0 p1 p2 p3 p4 p5) k) ?_
  show OGo p e below s _ _ _ (s₁.setTop (mkF m 0 #[.val (.int p0), .val (.int p1), .val (.int p2), .val (.int p3), .val (.int p4), .val (.int p5), .unset, .unset, .unset, .unset, .unset, .unset, .unset, .unset] []))
  refine OGo.st (fun _ k => XS.iload X0.here hx rfl (hb hby at_0) rfl k) ?_
  show OGo p e below s _ _ _ (s₁.setTop (mkF m 2 #[.val (.int p0), .val (.int p1), .val (.int p2), .val (.int p3), .val (.int p4), .val (.int p5), .unset, .unset, .unset, .unset, .unset, .unset, .unset, .unset] [(.int p4)]))
  refine OGo.st (fun _ k => XS.iconst X0.here hx rfl (hb hby at_2) k) ?_
  show OGo p e below s _ _ _ (s₁.setTop (mkF m 3 #[.val (.int p0), .val (.int p1), .val (.int p2), .val (.int p3), .val (.int p4), .val (.int p5), .unset, .unset, .unset, .unset, .unset, .unset, .unset, .unset] [(.int (1 : Int32)), (.int p4)]))
  refine OGo.st (fun _ k => XS.iand X0.here hx rfl (hb hby at_3) rfl k) ?_
  show OGo p e below s _ _ _ (s₁.setTop (mkF m 4 #[.val (.int p0), .val (.int p1), .val (.int p2), .val (.int p3), .val (.int p4), .val (.int p5), .unset, .unset, .unset, .unset, .unset, .unset, .unset, .unset] [(.int (p4 &&& (1 : Int32)))]))
  by_cases hc4 : (p4 &&& (1 : Int32)) = (0 : Int32)
  · rw [hc4]
    show OGo p e below s _ _ _ (s₁.setTop (mkF m 4 #[.val (.int p0), .val (.int p1), .val (.int p2), .val (.int p3), .val (.int p4), .val (.int p5), .unset, .unset, .unset, .unset, .unset, .unset, .unset, .unset] [(.int (0 : Int32))]))
    refine OGo.st (fun _ k => XS.istore X0.here hx rfl (hb hby at_4) rfl (l' := #[.val (.int p0), .val (.int p1), .val (.int p2), .val (.int p3), .val (.int p4), .val (.int p5), .val (.int (0 : Int32)), .unset, .unset, .unset, .unset, .unset, .unset, .unset]) rfl k) ?_
    show OGo p e below s _ _ _ (s₁.setTop (mkF m 6 #[.val (.int p0), .val (.int p1), .val (.int p2), .val (.int p3), .val (.int p4), .val (.int p5), .val (.int (0 : Int32)), .unset, .unset, .unset, .unset, .unset, .unset, .unset] []))
    refine OGo.st (fun _ k => XS.iload X0.here hx rfl (hb hby at_6) rfl k) ?_
    show OGo p e below s _ _ _ (s₁.setTop (mkF m 8 #[.val (.int p0), .val (.int p1), .val (.int p2), .val (.int p3), .val (.int p4), .val (.int p5), .val (.int (0 : Int32)), .unset, .unset, .unset, .unset, .unset, .unset, .unset] [(.int p5)]))
    refine OGo.st (fun _ k => X0.ldcInt hx hown (mvT hZ (hw _ (List.mem_of_getElem? (i := 0) rfl))) (g := (mkF m 8 #[.val (.int p0), .val (.int p1), .val (.int p2), .val (.int p3), .val (.int p4), .val (.int p5), .val (.int (0 : Int32)), .unset, .unset, .unset, .unset, .unset, .unset, .unset] [(.int p5)])) rfl (hb hby at_8) _ k) ?_
    show OGo p e below s _ _ _ (s₁.setTop (mkF m 10 #[.val (.int p0), .val (.int p1), .val (.int p2), .val (.int p3), .val (.int p4), .val (.int p5), .val (.int (0 : Int32)), .unset, .unset, .unset, .unset, .unset, .unset, .unset] [(.int (2147483647 : Int32)), (.int p5)]))
    refine OGo.st (fun _ k => XS.iand X0.here hx rfl (hb hby at_10) rfl k) ?_
    show OGo p e below s _ _ _ (s₁.setTop (mkF m 11 #[.val (.int p0), .val (.int p1), .val (.int p2), .val (.int p3), .val (.int p4), .val (.int p5), .val (.int (0 : Int32)), .unset, .unset, .unset, .unset, .unset, .unset, .unset] [(.int (p5 &&& (2147483647 : Int32)))]))
    refine OGo.st (fun _ k => XS.bipush X0.here hx rfl (hb hby at_11) k) ?_
    show OGo p e below s _ _ _ (s₁.setTop (mkF m 13 #[.val (.int p0), .val (.int p1), .val (.int p2), .val (.int p3), .val (.int p4), .val (.int p5), .val (.int (0 : Int32)), .unset, .unset, .unset, .unset, .unset, .unset, .unset] [(.int (7 : Int32)), (.int (p5 &&& (2147483647 : Int32)))]))
    refine OGo.st (fun _ k => iremM X0 hx rfl (hb hby at_13) rfl (by decide) k) ?_
    show OGo p e below s _ _ _ (s₁.setTop (mkF m 14 #[.val (.int p0), .val (.int p1), .val (.int p2), .val (.int p3), .val (.int p4), .val (.int p5), .val (.int (0 : Int32)), .unset, .unset, .unset, .unset, .unset, .unset, .unset] [(.int ((p5 &&& (2147483647 : Int32)) % (7 : Int32)))]))
    refine OGo.st (fun _ k => XS.istore X0.here hx rfl (hb hby at_14) rfl (l' := #[.val (.int p0), .val (.int p1), .val (.int p2), .val (.int p3), .val (.int p4), .val (.int p5), .val (.int (0 : Int32)), .val (.int ((p5 &&& (2147483647 : Int32)) % (7 : Int32))), .unset, .unset, .unset, .unset, .unset, .unset]) rfl k) ?_
    show OGo p e below s _ _ _ (s₁.setTop (mkF m 16 #[.val (.int p0), .val (.int p1), .val (.int p2), .val (.int p3), .val (.int p4), .val (.int p5), .val (.int (0 : Int32)), .val (.int ((p5 &&& (2147483647 : Int32)) % (7 : Int32))), .unset, .unset, .unset, .unset, .unset, .unset] []))
    refine OGo.st (fun _ k => XS.iloadN X0.here hx rfl (hb hby at_16) rfl k) ?_
    show OGo p e below s _ _ _ (s₁.setTop (mkF m 17 #[.val (.int p0), .val (.int p1), .val (.int p2), .val (.int p3), .val (.int p4), .val (.int p5), .val (.int (0 : Int32)), .val (.int ((p5 &&& (2147483647 : Int32)) % (7 : Int32))), .unset, .unset, .unset, .unset, .unset, .unset] [(.int p0)]))
    refine OGo.st (fun _ k => XS.sipush X0.here hx rfl (hb hby at_17) k) ?_
    show OGo p e below s _ _ _ (s₁.setTop (mkF m 20 #[.val (.int p0), .val (.int p1), .val (.int p2), .val (.int p3), .val (.int p4), .val (.int p5), .val (.int (0 : Int32)), .val (.int ((p5 &&& (2147483647 : Int32)) % (7 : Int32))), .unset, .unset, .unset, .unset, .unset, .unset] [(.int (255 : Int32)), (.int p0)]))
    refine OGo.st (fun _ k => XS.iand X0.here hx rfl (hb hby at_20) rfl k) ?_
    show OGo p e below s _ _ _ (s₁.setTop (mkF m 21 #[.val (.int p0), .val (.int p1), .val (.int p2), .val (.int p3), .val (.int p4), .val (.int p5), .val (.int (0 : Int32)), .val (.int ((p5 &&& (2147483647 : Int32)) % (7 : Int32))), .unset, .unset, .unset, .unset, .unset, .unset] [(.int (p0 &&& (255 : Int32)))]))
    refine OGo.st (fun _ k => XS.sipush X0.here hx rfl (hb hby at_21) k) ?_
    show OGo p e below s _ _ _ (s₁.setTop (mkF m 24 #[.val (.int p0), .val (.int p1), .val (.int p2), .val (.int p3), .val (.int p4), .val (.int p5), .val (.int (0 : Int32)), .val (.int ((p5 &&& (2147483647 : Int32)) % (7 : Int32))), .unset, .unset, .unset, .unset, .unset, .unset] [(.int (128 : Int32)), (.int (p0 &&& (255 : Int32)))]))
    refine OGo.st (fun _ k => XS.ior X0.here hx rfl (hb hby at_24) rfl k) ?_
    show OGo p e below s _ _ _ (s₁.setTop (mkF m 25 #[.val (.int p0), .val (.int p1), .val (.int p2), .val (.int p3), .val (.int p4), .val (.int p5), .val (.int (0 : Int32)), .val (.int ((p5 &&& (2147483647 : Int32)) % (7 : Int32))), .unset, .unset, .unset, .unset, .unset, .unset] [(.int ((p0 &&& (255 : Int32)) ||| (128 : Int32)))]))
    refine OGo.st (fun _ k => XS.istore X0.here hx rfl (hb hby at_25) rfl (l' := #[.val (.int p0), .val (.int p1), .val (.int p2), .val (.int p3), .val (.int p4), .val (.int p5), .val (.int (0 : Int32)), .val (.int ((p5 &&& (2147483647 : Int32)) % (7 : Int32))), .val (.int ((p0 &&& (255 : Int32)) ||| (128 : Int32))), .unset, .unset, .unset, .unset, .unset]) rfl k) ?_
    show OGo p e below s _ _ _ (s₁.setTop (mkF m 27 #[.val (.int p0), .val (.int p1), .val (.int p2), .val (.int p3), .val (.int p4), .val (.int p5), .val (.int (0 : Int32)), .val (.int ((p5 &&& (2147483647 : Int32)) % (7 : Int32))), .val (.int ((p0 &&& (255 : Int32)) ||| (128 : Int32))), .unset, .unset, .unset, .unset, .unset] []))
    refine OGo.st (fun _ k => XS.iloadN X0.here hx rfl (hb hby at_27) rfl k) ?_
    show OGo p e below s _ _ _ (s₁.setTop (mkF m 28 #[.val (.int p0), .val (.int p1), .val (.int p2), .val (.int p3), .val (.int p4), .val (.int p5), .val (.int (0 : Int32)), .val (.int ((p5 &&& (2147483647 : Int32)) % (7 : Int32))), .val (.int ((p0 &&& (255 : Int32)) ||| (128 : Int32))), .unset, .unset, .unset, .unset, .unset] [(.int p1)]))
    refine OGo.st (fun _ k => XS.sipush X0.here hx rfl (hb hby at_28) k) ?_
    show OGo p e below s _ _ _ (s₁.setTop (mkF m 31 #[.val (.int p0), .val (.int p1), .val (.int p2), .val (.int p3), .val (.int p4), .val (.int p5), .val (.int (0 : Int32)), .val (.int ((p5 &&& (2147483647 : Int32)) % (7 : Int32))), .val (.int ((p0 &&& (255 : Int32)) ||| (128 : Int32))), .unset, .unset, .unset, .unset, .unset] [(.int (255 : Int32)), (.int p1)]))
    refine OGo.st (fun _ k => XS.iand X0.here hx rfl (hb hby at_31) rfl k) ?_
    show OGo p e below s _ _ _ (s₁.setTop (mkF m 32 #[.val (.int p0), .val (.int p1), .val (.int p2), .val (.int p3), .val (.int p4), .val (.int p5), .val (.int (0 : Int32)), .val (.int ((p5 &&& (2147483647 : Int32)) % (7 : Int32))), .val (.int ((p0 &&& (255 : Int32)) ||| (128 : Int32))), .unset, .unset, .unset, .unset, .unset] [(.int (p1 &&& (255 : Int32)))]))
    refine OGo.st (fun _ k => XS.istore X0.here hx rfl (hb hby at_32) rfl (l' := #[.val (.int p0), .val (.int p1), .val (.int p2), .val (.int p3), .val (.int p4), .val (.int p5), .val (.int (0 : Int32)), .val (.int ((p5 &&& (2147483647 : Int32)) % (7 : Int32))), .val (.int ((p0 &&& (255 : Int32)) ||| (128 : Int32))), .val (.int (p1 &&& (255 : Int32))), .unset, .unset, .unset, .unset]) rfl k) ?_
    show OGo p e below s _ _ _ (s₁.setTop (mkF m 34 #[.val (.int p0), .val (.int p1), .val (.int p2), .val (.int p3), .val (.int p4), .val (.int p5), .val (.int (0 : Int32)), .val (.int ((p5 &&& (2147483647 : Int32)) % (7 : Int32))), .val (.int ((p0 &&& (255 : Int32)) ||| (128 : Int32))), .val (.int (p1 &&& (255 : Int32))), .unset, .unset, .unset, .unset] []))
    refine OGo.st (fun _ k => XS.iloadN X0.here hx rfl (hb hby at_34) rfl k) ?_
    show OGo p e below s _ _ _ (s₁.setTop (mkF m 35 #[.val (.int p0), .val (.int p1), .val (.int p2), .val (.int p3), .val (.int p4), .val (.int p5), .val (.int (0 : Int32)), .val (.int ((p5 &&& (2147483647 : Int32)) % (7 : Int32))), .val (.int ((p0 &&& (255 : Int32)) ||| (128 : Int32))), .val (.int (p1 &&& (255 : Int32))), .unset, .unset, .unset, .unset] [(.int p2)]))
    refine OGo.st (fun _ k => XS.sipush X0.here hx rfl (hb hby at_35) k) ?_
    show OGo p e below s _ _ _ (s₁.setTop (mkF m 38 #[.val (.int p0), .val (.int p1), .val (.int p2), .val (.int p3), .val (.int p4), .val (.int p5), .val (.int (0 : Int32)), .val (.int ((p5 &&& (2147483647 : Int32)) % (7 : Int32))), .val (.int ((p0 &&& (255 : Int32)) ||| (128 : Int32))), .val (.int (p1 &&& (255 : Int32))), .unset, .unset, .unset, .unset] [(.int (255 : Int32)), (.int p2)]))
    refine OGo.st (fun _ k => XS.iand X0.here hx rfl (hb hby at_38) rfl k) ?_
    show OGo p e below s _ _ _ (s₁.setTop (mkF m 39 #[.val (.int p0), .val (.int p1), .val (.int p2), .val (.int p3), .val (.int p4), .val (.int p5), .val (.int (0 : Int32)), .val (.int ((p5 &&& (2147483647 : Int32)) % (7 : Int32))), .val (.int ((p0 &&& (255 : Int32)) ||| (128 : Int32))), .val (.int (p1 &&& (255 : Int32))), .unset, .unset, .unset, .unset] [(.int (p2 &&& (255 : Int32)))]))
    refine OGo.st (fun _ k => XS.istore X0.here hx rfl (hb hby at_39) rfl (l' := #[.val (.int p0), .val (.int p1), .val (.int p2), .val (.int p3), .val (.int p4), .val (.int p5), .val (.int (0 : Int32)), .val (.int ((p5 &&& (2147483647 : Int32)) % (7 : Int32))), .val (.int ((p0 &&& (255 : Int32)) ||| (128 : Int32))), .val (.int (p1 &&& (255 : Int32))), .val (.int (p2 &&& (255 : Int32))), .unset, .unset, .unset]) rfl k) ?_
    show OGo p e below s _ _ _ (s₁.setTop (mkF m 41 #[.val (.int p0), .val (.int p1), .val (.int p2), .val (.int p3), .val (.int p4), .val (.int p5), .val (.int (0 : Int32)), .val (.int ((p5 &&& (2147483647 : Int32)) % (7 : Int32))), .val (.int ((p0 &&& (255 : Int32)) ||| (128 : Int32))), .val (.int (p1 &&& (255 : Int32))), .val (.int (p2 &&& (255 : Int32))), .unset, .unset, .unset] []))
    refine OGo.st (fun _ k => XS.iloadN X0.here hx rfl (hb hby at_41) rfl k) ?_
    show OGo p e below s _ _ _ (s₁.setTop (mkF m 42 #[.val (.int p0), .val (.int p1), .val (.int p2), .val (.int p3), .val (.int p4), .val (.int p5), .val (.int (0 : Int32)), .val (.int ((p5 &&& (2147483647 : Int32)) % (7 : Int32))), .val (.int ((p0 &&& (255 : Int32)) ||| (128 : Int32))), .val (.int (p1 &&& (255 : Int32))), .val (.int (p2 &&& (255 : Int32))), .unset, .unset, .unset] [(.int p3)]))
    refine OGo.st (fun _ k => XS.sipush X0.here hx rfl (hb hby at_42) k) ?_
    show OGo p e below s _ _ _ (s₁.setTop (mkF m 45 #[.val (.int p0), .val (.int p1), .val (.int p2), .val (.int p3), .val (.int p4), .val (.int p5), .val (.int (0 : Int32)), .val (.int ((p5 &&& (2147483647 : Int32)) % (7 : Int32))), .val (.int ((p0 &&& (255 : Int32)) ||| (128 : Int32))), .val (.int (p1 &&& (255 : Int32))), .val (.int (p2 &&& (255 : Int32))), .unset, .unset, .unset] [(.int (255 : Int32)), (.int p3)]))
    refine OGo.st (fun _ k => XS.iand X0.here hx rfl (hb hby at_45) rfl k) ?_
    show OGo p e below s _ _ _ (s₁.setTop (mkF m 46 #[.val (.int p0), .val (.int p1), .val (.int p2), .val (.int p3), .val (.int p4), .val (.int p5), .val (.int (0 : Int32)), .val (.int ((p5 &&& (2147483647 : Int32)) % (7 : Int32))), .val (.int ((p0 &&& (255 : Int32)) ||| (128 : Int32))), .val (.int (p1 &&& (255 : Int32))), .val (.int (p2 &&& (255 : Int32))), .unset, .unset, .unset] [(.int (p3 &&& (255 : Int32)))]))
    refine OGo.st (fun _ k => XS.istore X0.here hx rfl (hb hby at_46) rfl (l' := #[.val (.int p0), .val (.int p1), .val (.int p2), .val (.int p3), .val (.int p4), .val (.int p5), .val (.int (0 : Int32)), .val (.int ((p5 &&& (2147483647 : Int32)) % (7 : Int32))), .val (.int ((p0 &&& (255 : Int32)) ||| (128 : Int32))), .val (.int (p1 &&& (255 : Int32))), .val (.int (p2 &&& (255 : Int32))), .val (.int (p3 &&& (255 : Int32))), .unset, .unset]) rfl k) ?_
    show OGo p e below s _ _ _ (s₁.setTop (mkF m 48 #[.val (.int p0), .val (.int p1), .val (.int p2), .val (.int p3), .val (.int p4), .val (.int p5), .val (.int (0 : Int32)), .val (.int ((p5 &&& (2147483647 : Int32)) % (7 : Int32))), .val (.int ((p0 &&& (255 : Int32)) ||| (128 : Int32))), .val (.int (p1 &&& (255 : Int32))), .val (.int (p2 &&& (255 : Int32))), .val (.int (p3 &&& (255 : Int32))), .unset, .unset] []))
    refine OGo.st (fun _ k => XS.bipush X0.here hx rfl (hb hby at_48) k) ?_
    show OGo p e below s _ _ _ (s₁.setTop (mkF m 50 #[.val (.int p0), .val (.int p1), .val (.int p2), .val (.int p3), .val (.int p4), .val (.int p5), .val (.int (0 : Int32)), .val (.int ((p5 &&& (2147483647 : Int32)) % (7 : Int32))), .val (.int ((p0 &&& (255 : Int32)) ||| (128 : Int32))), .val (.int (p1 &&& (255 : Int32))), .val (.int (p2 &&& (255 : Int32))), .val (.int (p3 &&& (255 : Int32))), .unset, .unset] [(.int (6 : Int32))]))
    obtain ⟨T1, h1, k1, X1, e1, E1, A1, st1⟩ := newP X0 hx hZ (hw _ (List.mem_of_getElem? (i := 1) rfl)) e0 (g := (mkF m 50 #[.val (.int p0), .val (.int p1), .val (.int p2), .val (.int p3), .val (.int p4), .val (.int p5), .val (.int (0 : Int32)), .val (.int ((p5 &&& (2147483647 : Int32)) % (7 : Int32))), .val (.int ((p0 &&& (255 : Int32)) ||| (128 : Int32))), .val (.int (p1 &&& (255 : Int32))), .val (.int (p2 &&& (255 : Int32))), .val (.int (p3 &&& (255 : Int32))), .unset, .unset] [(.int (6 : Int32))])) rfl (hb hby at_50) rfl (by decide) (cap := 6) (by decide) (by decide) (by decide) (by decide)
    obtain ⟨b1, g1⟩ : ∃ z, z = h0.size := ⟨_, rfl⟩
    rw [← g1] at A1 st1
    refine OGo.st st1 ?_
    have g_b1 : n0 ≤ b1 := Nat.le_trans Z0 (Nat.le_of_eq g1.symm)
    have sz_b1 : h0.size ≤ b1 := Nat.le_trans (Keep.refl h0 []).1 (Nat.le_of_eq g1.symm)
    have K1 : Keep h0 h1 [] := (Keep.refl h0 _).ext E1
    have Z1 : n0 ≤ h1.size := Nat.le_trans Z0 E1.1
    have V_b1 : Arv Z h1 b1 k1 .byte (6 : Int32) [(.int (0 : Int32)), (.int (0 : Int32)), (.int (0 : Int32)), (.int (0 : Int32)), (.int (0 : Int32)), (.int (0 : Int32))] (.int (0 : Int32)) := (Arv.new A1 (by decide)).pad (pad_rep [] (.int (0 : Int32)) 6)
    show OGo p e below s _ _ _ (T1.setTop (mkF m 52 #[.val (.int p0), .val (.int p1), .val (.int p2), .val (.int p3), .val (.int p4), .val (.int p5), .val (.int (0 : Int32)), .val (.int ((p5 &&& (2147483647 : Int32)) % (7 : Int32))), .val (.int ((p0 &&& (255 : Int32)) ||| (128 : Int32))), .val (.int (p1 &&& (255 : Int32))), .val (.int (p2 &&& (255 : Int32))), .val (.int (p3 &&& (255 : Int32))), .unset, .unset] [(.ref b1)]))
    refine OGo.st (fun _ k => XS.astore X1.here hx rfl (hb hby at_52) rfl rfl (l' := #[.val (.int p0), .val (.int p1), .val (.int p2), .val (.int p3), .val (.int p4), .val (.int p5), .val (.int (0 : Int32)), .val (.int ((p5 &&& (2147483647 : Int32)) % (7 : Int32))), .val (.int ((p0 &&& (255 : Int32)) ||| (128 : Int32))), .val (.int (p1 &&& (255 : Int32))), .val (.int (p2 &&& (255 : Int32))), .val (.int (p3 &&& (255 : Int32))), .val (.ref b1), .unset]) rfl k) ?_
    show OGo p e below s _ _ _ (T1.setTop (mkF m 54 #[.val (.int p0), .val (.int p1), .val (.int p2), .val (.int p3), .val (.int p4), .val (.int p5), .val (.int (0 : Int32)), .val (.int ((p5 &&& (2147483647 : Int32)) % (7 : Int32))), .val (.int ((p0 &&& (255 : Int32)) ||| (128 : Int32))), .val (.int (p1 &&& (255 : Int32))), .val (.int (p2 &&& (255 : Int32))), .val (.int (p3 &&& (255 : Int32))), .val (.ref b1), .unset] []))
    refine OGo.st (fun _ k => XS.aload X1.here hx rfl (hb hby at_54) rfl rfl k) ?_
    show OGo p e below s _ _ _ (T1.setTop (mkF m 56 #[.val (.int p0), .val (.int p1), .val (.int p2), .val (.int p3), .val (.int p4), .val (.int p5), .val (.int (0 : Int32)), .val (.int ((p5 &&& (2147483647 : Int32)) % (7 : Int32))), .val (.int ((p0 &&& (255 : Int32)) ||| (128 : Int32))), .val (.int (p1 &&& (255 : Int32))), .val (.int (p2 &&& (255 : Int32))), .val (.int (p3 &&& (255 : Int32))), .val (.ref b1), .unset] [(.ref b1)]))
    refine OGo.st (fun _ k => XS.iload X1.here hx rfl (hb hby at_56) rfl k) ?_
    show OGo p e below s _ _ _ (T1.setTop (mkF m 58 #[.val (.int p0), .val (.int p1), .val (.int p2), .val (.int p3), .val (.int p4), .val (.int p5), .val (.int (0 : Int32)), .val (.int ((p5 &&& (2147483647 : Int32)) % (7 : Int32))), .val (.int ((p0 &&& (255 : Int32)) ||| (128 : Int32))), .val (.int (p1 &&& (255 : Int32))), .val (.int (p2 &&& (255 : Int32))), .val (.int (p3 &&& (255 : Int32))), .val (.ref b1), .unset] [(.int (0 : Int32)), (.ref b1)]))
    refine OGo.st (fun _ k => XS.iload X1.here hx rfl (hb hby at_58) rfl k) ?_
    show OGo p e below s _ _ _ (T1.setTop (mkF m 60 #[.val (.int p0), .val (.int p1), .val (.int p2), .val (.int p3), .val (.int p4), .val (.int p5), .val (.int (0 : Int32)), .val (.int ((p5 &&& (2147483647 : Int32)) % (7 : Int32))), .val (.int ((p0 &&& (255 : Int32)) ||| (128 : Int32))), .val (.int (p1 &&& (255 : Int32))), .val (.int (p2 &&& (255 : Int32))), .val (.int (p3 &&& (255 : Int32))), .val (.ref b1), .unset] [(.int ((p0 &&& (255 : Int32)) ||| (128 : Int32))), (.int (0 : Int32)), (.ref b1)]))
    refine OGo.st (fun _ k => XS.i2b X1.here hx rfl (hb hby at_60) rfl k) ?_
    show OGo p e below s _ _ _ (T1.setTop (mkF m 61 #[.val (.int p0), .val (.int p1), .val (.int p2), .val (.int p3), .val (.int p4), .val (.int p5), .val (.int (0 : Int32)), .val (.int ((p5 &&& (2147483647 : Int32)) % (7 : Int32))), .val (.int ((p0 &&& (255 : Int32)) ||| (128 : Int32))), .val (.int (p1 &&& (255 : Int32))), .val (.int (p2 &&& (255 : Int32))), .val (.int (p3 &&& (255 : Int32))), .val (.ref b1), .unset] [(.int (((p0 &&& (255 : Int32)) ||| (128 : Int32)).toInt8.toInt32)), (.int (0 : Int32)), (.ref b1)]))
    obtain ⟨cl2, Ar2, q2, Sz2, Nn2, Hs2, Gs2⟩ := id V_b1
    have hin2 : ¬ ((0 : Int32) < 0 ∨ cl2.slots.size ≤ ((0 : Int32)).toNatClampNeg) := inb_of Sz2 ⟨by decide, by decide⟩
    obtain ⟨T2, h2, X2, e2, W2, st2⟩ := stB X1 hx hZ e1 Ar2 (j := (0 : Int32)) hin2 (g := (mkF m 61 #[.val (.int p0), .val (.int p1), .val (.int p2), .val (.int p3), .val (.int p4), .val (.int p5), .val (.int (0 : Int32)), .val (.int ((p5 &&& (2147483647 : Int32)) % (7 : Int32))), .val (.int ((p0 &&& (255 : Int32)) ||| (128 : Int32))), .val (.int (p1 &&& (255 : Int32))), .val (.int (p2 &&& (255 : Int32))), .val (.int (p3 &&& (255 : Int32))), .val (.ref b1), .unset] [(.int (((p0 &&& (255 : Int32)) ||| (128 : Int32)).toInt8.toInt32)), (.int (0 : Int32)), (.ref b1)])) rfl rfl (hb hby at_61)
    refine OGo.st st2 ?_
    have K2 : Keep h0 h2 [] := (K1).wr W2 (Or.inr sz_b1)
    have N2 := Fr.snoc X2 N0 g_b1
    have Z2 : n0 ≤ h2.size := Nat.le_trans Z1 (Keep.of_wr W2).1
    have V2 : Arv Z h2 b1 k1 .byte (6 : Int32) [(.int (nar .byte (((p0 &&& (255 : Int32)) ||| (128 : Int32)).toInt8.toInt32))), (.int (0 : Int32)), (.int (0 : Int32)), (.int (0 : Int32)), (.int (0 : Int32)), (.int (0 : Int32))] (.int (0 : Int32)) := Arv.set Ar2 q2 Sz2 Nn2 Hs2 Gs2 (fits_nar_byte _) W2 0 rfl (Nat.le_of_ble_eq_true rfl)
    show OGo p e below s _ _ _ (T2.setTop (mkF m 62 #[.val (.int p0), .val (.int p1), .val (.int p2), .val (.int p3), .val (.int p4), .val (.int p5), .val (.int (0 : Int32)), .val (.int ((p5 &&& (2147483647 : Int32)) % (7 : Int32))), .val (.int ((p0 &&& (255 : Int32)) ||| (128 : Int32))), .val (.int (p1 &&& (255 : Int32))), .val (.int (p2 &&& (255 : Int32))), .val (.int (p3 &&& (255 : Int32))), .val (.ref b1), .unset] []))
    refine OGo.st (fun _ k => XS.aload X2.here hx rfl (hb hby at_62) rfl rfl k) ?_
    show OGo p e below s _ _ _ (T2.setTop (mkF m 64 #[.val (.int p0), .val (.int p1), .val (.int p2), .val (.int p3), .val (.int p4), .val (.int p5), .val (.int (0 : Int32)), .val (.int ((p5 &&& (2147483647 : Int32)) % (7 : Int32))), .val (.int ((p0 &&& (255 : Int32)) ||| (128 : Int32))), .val (.int (p1 &&& (255 : Int32))), .val (.int (p2 &&& (255 : Int32))), .val (.int (p3 &&& (255 : Int32))), .val (.ref b1), .unset] [(.ref b1)]))
    refine OGo.st (fun _ k => XS.iload X2.here hx rfl (hb hby at_64) rfl k) ?_
    show OGo p e below s _ _ _ (T2.setTop (mkF m 66 #[.val (.int p0), .val (.int p1), .val (.int p2), .val (.int p3), .val (.int p4), .val (.int p5), .val (.int (0 : Int32)), .val (.int ((p5 &&& (2147483647 : Int32)) % (7 : Int32))), .val (.int ((p0 &&& (255 : Int32)) ||| (128 : Int32))), .val (.int (p1 &&& (255 : Int32))), .val (.int (p2 &&& (255 : Int32))), .val (.int (p3 &&& (255 : Int32))), .val (.ref b1), .unset] [(.int (0 : Int32)), (.ref b1)]))
    refine OGo.st (fun _ k => XS.iconst X2.here hx rfl (hb hby at_66) k) ?_
    show OGo p e below s _ _ _ (T2.setTop (mkF m 67 #[.val (.int p0), .val (.int p1), .val (.int p2), .val (.int p3), .val (.int p4), .val (.int p5), .val (.int (0 : Int32)), .val (.int ((p5 &&& (2147483647 : Int32)) % (7 : Int32))), .val (.int ((p0 &&& (255 : Int32)) ||| (128 : Int32))), .val (.int (p1 &&& (255 : Int32))), .val (.int (p2 &&& (255 : Int32))), .val (.int (p3 &&& (255 : Int32))), .val (.ref b1), .unset] [(.int (1 : Int32)), (.int (0 : Int32)), (.ref b1)]))
    refine OGo.st (fun _ k => XS.iadd X2.here hx rfl (hb hby at_67) rfl k) ?_
    rw [show ((0 : Int32) + (1 : Int32)) = (1 : Int32) from by decide]
    show OGo p e below s _ _ _ (T2.setTop (mkF m 68 #[.val (.int p0), .val (.int p1), .val (.int p2), .val (.int p3), .val (.int p4), .val (.int p5), .val (.int (0 : Int32)), .val (.int ((p5 &&& (2147483647 : Int32)) % (7 : Int32))), .val (.int ((p0 &&& (255 : Int32)) ||| (128 : Int32))), .val (.int (p1 &&& (255 : Int32))), .val (.int (p2 &&& (255 : Int32))), .val (.int (p3 &&& (255 : Int32))), .val (.ref b1), .unset] [(.int (1 : Int32)), (.ref b1)]))
    refine OGo.st (fun _ k => XS.iload X2.here hx rfl (hb hby at_68) rfl k) ?_
    show OGo p e below s _ _ _ (T2.setTop (mkF m 70 #[.val (.int p0), .val (.int p1), .val (.int p2), .val (.int p3), .val (.int p4), .val (.int p5), .val (.int (0 : Int32)), .val (.int ((p5 &&& (2147483647 : Int32)) % (7 : Int32))), .val (.int ((p0 &&& (255 : Int32)) ||| (128 : Int32))), .val (.int (p1 &&& (255 : Int32))), .val (.int (p2 &&& (255 : Int32))), .val (.int (p3 &&& (255 : Int32))), .val (.ref b1), .unset] [(.int (p1 &&& (255 : Int32))), (.int (1 : Int32)), (.ref b1)]))
    refine OGo.st (fun _ k => XS.i2b X2.here hx rfl (hb hby at_70) rfl k) ?_
    show OGo p e below s _ _ _ (T2.setTop (mkF m 71 #[.val (.int p0), .val (.int p1), .val (.int p2), .val (.int p3), .val (.int p4), .val (.int p5), .val (.int (0 : Int32)), .val (.int ((p5 &&& (2147483647 : Int32)) % (7 : Int32))), .val (.int ((p0 &&& (255 : Int32)) ||| (128 : Int32))), .val (.int (p1 &&& (255 : Int32))), .val (.int (p2 &&& (255 : Int32))), .val (.int (p3 &&& (255 : Int32))), .val (.ref b1), .unset] [(.int ((p1 &&& (255 : Int32)).toInt8.toInt32)), (.int (1 : Int32)), (.ref b1)]))
    obtain ⟨cl3, Ar3, q3, Sz3, Nn3, Hs3, Gs3⟩ := id V2
    have hin3 : ¬ ((1 : Int32) < 0 ∨ cl3.slots.size ≤ ((1 : Int32)).toNatClampNeg) := inb_of Sz3 ⟨by decide, by decide⟩
    obtain ⟨T3, h3, X3, e3, W3, st3⟩ := stB X2 hx hZ e2 Ar3 (j := (1 : Int32)) hin3 (g := (mkF m 71 #[.val (.int p0), .val (.int p1), .val (.int p2), .val (.int p3), .val (.int p4), .val (.int p5), .val (.int (0 : Int32)), .val (.int ((p5 &&& (2147483647 : Int32)) % (7 : Int32))), .val (.int ((p0 &&& (255 : Int32)) ||| (128 : Int32))), .val (.int (p1 &&& (255 : Int32))), .val (.int (p2 &&& (255 : Int32))), .val (.int (p3 &&& (255 : Int32))), .val (.ref b1), .unset] [(.int ((p1 &&& (255 : Int32)).toInt8.toInt32)), (.int (1 : Int32)), (.ref b1)])) rfl rfl (hb hby at_71)
    refine OGo.st st3 ?_
    have K3 : Keep h0 h3 [] := (K2).wr W3 (Or.inr sz_b1)
    have N3 := Fr.snoc X3 N2 g_b1
    have Z3 : n0 ≤ h3.size := Nat.le_trans Z2 (Keep.of_wr W3).1
    have V3 : Arv Z h3 b1 k1 .byte (6 : Int32) [(.int (nar .byte (((p0 &&& (255 : Int32)) ||| (128 : Int32)).toInt8.toInt32))), (.int (nar .byte ((p1 &&& (255 : Int32)).toInt8.toInt32))), (.int (0 : Int32)), (.int (0 : Int32)), (.int (0 : Int32)), (.int (0 : Int32))] (.int (0 : Int32)) := Arv.set Ar3 q3 Sz3 Nn3 Hs3 Gs3 (fits_nar_byte _) W3 1 rfl (Nat.le_of_ble_eq_true rfl)
    show OGo p e below s _ _ _ (T3.setTop (mkF m 72 #[.val (.int p0), .val (.int p1), .val (.int p2), .val (.int p3), .val (.int p4), .val (.int p5), .val (.int (0 : Int32)), .val (.int ((p5 &&& (2147483647 : Int32)) % (7 : Int32))), .val (.int ((p0 &&& (255 : Int32)) ||| (128 : Int32))), .val (.int (p1 &&& (255 : Int32))), .val (.int (p2 &&& (255 : Int32))), .val (.int (p3 &&& (255 : Int32))), .val (.ref b1), .unset] []))
    refine OGo.st (fun _ k => XS.aload X3.here hx rfl (hb hby at_72) rfl rfl k) ?_
    show OGo p e below s _ _ _ (T3.setTop (mkF m 74 #[.val (.int p0), .val (.int p1), .val (.int p2), .val (.int p3), .val (.int p4), .val (.int p5), .val (.int (0 : Int32)), .val (.int ((p5 &&& (2147483647 : Int32)) % (7 : Int32))), .val (.int ((p0 &&& (255 : Int32)) ||| (128 : Int32))), .val (.int (p1 &&& (255 : Int32))), .val (.int (p2 &&& (255 : Int32))), .val (.int (p3 &&& (255 : Int32))), .val (.ref b1), .unset] [(.ref b1)]))
    refine OGo.st (fun _ k => XS.iload X3.here hx rfl (hb hby at_74) rfl k) ?_
    show OGo p e below s _ _ _ (T3.setTop (mkF m 76 #[.val (.int p0), .val (.int p1), .val (.int p2), .val (.int p3), .val (.int p4), .val (.int p5), .val (.int (0 : Int32)), .val (.int ((p5 &&& (2147483647 : Int32)) % (7 : Int32))), .val (.int ((p0 &&& (255 : Int32)) ||| (128 : Int32))), .val (.int (p1 &&& (255 : Int32))), .val (.int (p2 &&& (255 : Int32))), .val (.int (p3 &&& (255 : Int32))), .val (.ref b1), .unset] [(.int (0 : Int32)), (.ref b1)]))
    refine OGo.st (fun _ k => XS.iconst X3.here hx rfl (hb hby at_76) k) ?_
    show OGo p e below s _ _ _ (T3.setTop (mkF m 77 #[.val (.int p0), .val (.int p1), .val (.int p2), .val (.int p3), .val (.int p4), .val (.int p5), .val (.int (0 : Int32)), .val (.int ((p5 &&& (2147483647 : Int32)) % (7 : Int32))), .val (.int ((p0 &&& (255 : Int32)) ||| (128 : Int32))), .val (.int (p1 &&& (255 : Int32))), .val (.int (p2 &&& (255 : Int32))), .val (.int (p3 &&& (255 : Int32))), .val (.ref b1), .unset] [(.int (2 : Int32)), (.int (0 : Int32)), (.ref b1)]))
    refine OGo.st (fun _ k => XS.iadd X3.here hx rfl (hb hby at_77) rfl k) ?_
    rw [show ((0 : Int32) + (2 : Int32)) = (2 : Int32) from by decide]
    show OGo p e below s _ _ _ (T3.setTop (mkF m 78 #[.val (.int p0), .val (.int p1), .val (.int p2), .val (.int p3), .val (.int p4), .val (.int p5), .val (.int (0 : Int32)), .val (.int ((p5 &&& (2147483647 : Int32)) % (7 : Int32))), .val (.int ((p0 &&& (255 : Int32)) ||| (128 : Int32))), .val (.int (p1 &&& (255 : Int32))), .val (.int (p2 &&& (255 : Int32))), .val (.int (p3 &&& (255 : Int32))), .val (.ref b1), .unset] [(.int (2 : Int32)), (.ref b1)]))
    refine OGo.st (fun _ k => XS.iload X3.here hx rfl (hb hby at_78) rfl k) ?_
    show OGo p e below s _ _ _ (T3.setTop (mkF m 80 #[.val (.int p0), .val (.int p1), .val (.int p2), .val (.int p3), .val (.int p4), .val (.int p5), .val (.int (0 : Int32)), .val (.int ((p5 &&& (2147483647 : Int32)) % (7 : Int32))), .val (.int ((p0 &&& (255 : Int32)) ||| (128 : Int32))), .val (.int (p1 &&& (255 : Int32))), .val (.int (p2 &&& (255 : Int32))), .val (.int (p3 &&& (255 : Int32))), .val (.ref b1), .unset] [(.int (p2 &&& (255 : Int32))), (.int (2 : Int32)), (.ref b1)]))
    refine OGo.st (fun _ k => XS.i2b X3.here hx rfl (hb hby at_80) rfl k) ?_
    show OGo p e below s _ _ _ (T3.setTop (mkF m 81 #[.val (.int p0), .val (.int p1), .val (.int p2), .val (.int p3), .val (.int p4), .val (.int p5), .val (.int (0 : Int32)), .val (.int ((p5 &&& (2147483647 : Int32)) % (7 : Int32))), .val (.int ((p0 &&& (255 : Int32)) ||| (128 : Int32))), .val (.int (p1 &&& (255 : Int32))), .val (.int (p2 &&& (255 : Int32))), .val (.int (p3 &&& (255 : Int32))), .val (.ref b1), .unset] [(.int ((p2 &&& (255 : Int32)).toInt8.toInt32)), (.int (2 : Int32)), (.ref b1)]))
    obtain ⟨cl4, Ar4, q4, Sz4, Nn4, Hs4, Gs4⟩ := id V3
    have hin4 : ¬ ((2 : Int32) < 0 ∨ cl4.slots.size ≤ ((2 : Int32)).toNatClampNeg) := inb_of Sz4 ⟨by decide, by decide⟩
    obtain ⟨T4, h4, X4, e4, W4, st4⟩ := stB X3 hx hZ e3 Ar4 (j := (2 : Int32)) hin4 (g := (mkF m 81 #[.val (.int p0), .val (.int p1), .val (.int p2), .val (.int p3), .val (.int p4), .val (.int p5), .val (.int (0 : Int32)), .val (.int ((p5 &&& (2147483647 : Int32)) % (7 : Int32))), .val (.int ((p0 &&& (255 : Int32)) ||| (128 : Int32))), .val (.int (p1 &&& (255 : Int32))), .val (.int (p2 &&& (255 : Int32))), .val (.int (p3 &&& (255 : Int32))), .val (.ref b1), .unset] [(.int ((p2 &&& (255 : Int32)).toInt8.toInt32)), (.int (2 : Int32)), (.ref b1)])) rfl rfl (hb hby at_81)
    refine OGo.st st4 ?_
    have K4 : Keep h0 h4 [] := (K3).wr W4 (Or.inr sz_b1)
    have N4 := Fr.snoc X4 N3 g_b1
    have Z4 : n0 ≤ h4.size := Nat.le_trans Z3 (Keep.of_wr W4).1
    have V4 : Arv Z h4 b1 k1 .byte (6 : Int32) [(.int (nar .byte (((p0 &&& (255 : Int32)) ||| (128 : Int32)).toInt8.toInt32))), (.int (nar .byte ((p1 &&& (255 : Int32)).toInt8.toInt32))), (.int (nar .byte ((p2 &&& (255 : Int32)).toInt8.toInt32))), (.int (0 : Int32)), (.int (0 : Int32)), (.int (0 : Int32))] (.int (0 : Int32)) := Arv.set Ar4 q4 Sz4 Nn4 Hs4 Gs4 (fits_nar_byte _) W4 2 rfl (Nat.le_of_ble_eq_true rfl)
    show OGo p e below s _ _ _ (T4.setTop (mkF m 82 #[.val (.int p0), .val (.int p1), .val (.int p2), .val (.int p3), .val (.int p4), .val (.int p5), .val (.int (0 : Int32)), .val (.int ((p5 &&& (2147483647 : Int32)) % (7 : Int32))), .val (.int ((p0 &&& (255 : Int32)) ||| (128 : Int32))), .val (.int (p1 &&& (255 : Int32))), .val (.int (p2 &&& (255 : Int32))), .val (.int (p3 &&& (255 : Int32))), .val (.ref b1), .unset] []))
    refine OGo.st (fun _ k => XS.aload X4.here hx rfl (hb hby at_82) rfl rfl k) ?_
    show OGo p e below s _ _ _ (T4.setTop (mkF m 84 #[.val (.int p0), .val (.int p1), .val (.int p2), .val (.int p3), .val (.int p4), .val (.int p5), .val (.int (0 : Int32)), .val (.int ((p5 &&& (2147483647 : Int32)) % (7 : Int32))), .val (.int ((p0 &&& (255 : Int32)) ||| (128 : Int32))), .val (.int (p1 &&& (255 : Int32))), .val (.int (p2 &&& (255 : Int32))), .val (.int (p3 &&& (255 : Int32))), .val (.ref b1), .unset] [(.ref b1)]))
    refine OGo.st (fun _ k => XS.iload X4.here hx rfl (hb hby at_84) rfl k) ?_
    show OGo p e below s _ _ _ (T4.setTop (mkF m 86 #[.val (.int p0), .val (.int p1), .val (.int p2), .val (.int p3), .val (.int p4), .val (.int p5), .val (.int (0 : Int32)), .val (.int ((p5 &&& (2147483647 : Int32)) % (7 : Int32))), .val (.int ((p0 &&& (255 : Int32)) ||| (128 : Int32))), .val (.int (p1 &&& (255 : Int32))), .val (.int (p2 &&& (255 : Int32))), .val (.int (p3 &&& (255 : Int32))), .val (.ref b1), .unset] [(.int (0 : Int32)), (.ref b1)]))
    refine OGo.st (fun _ k => XS.iconst X4.here hx rfl (hb hby at_86) k) ?_
    show OGo p e below s _ _ _ (T4.setTop (mkF m 87 #[.val (.int p0), .val (.int p1), .val (.int p2), .val (.int p3), .val (.int p4), .val (.int p5), .val (.int (0 : Int32)), .val (.int ((p5 &&& (2147483647 : Int32)) % (7 : Int32))), .val (.int ((p0 &&& (255 : Int32)) ||| (128 : Int32))), .val (.int (p1 &&& (255 : Int32))), .val (.int (p2 &&& (255 : Int32))), .val (.int (p3 &&& (255 : Int32))), .val (.ref b1), .unset] [(.int (3 : Int32)), (.int (0 : Int32)), (.ref b1)]))
    refine OGo.st (fun _ k => XS.iadd X4.here hx rfl (hb hby at_87) rfl k) ?_
    rw [show ((0 : Int32) + (3 : Int32)) = (3 : Int32) from by decide]
    show OGo p e below s _ _ _ (T4.setTop (mkF m 88 #[.val (.int p0), .val (.int p1), .val (.int p2), .val (.int p3), .val (.int p4), .val (.int p5), .val (.int (0 : Int32)), .val (.int ((p5 &&& (2147483647 : Int32)) % (7 : Int32))), .val (.int ((p0 &&& (255 : Int32)) ||| (128 : Int32))), .val (.int (p1 &&& (255 : Int32))), .val (.int (p2 &&& (255 : Int32))), .val (.int (p3 &&& (255 : Int32))), .val (.ref b1), .unset] [(.int (3 : Int32)), (.ref b1)]))
    refine OGo.st (fun _ k => XS.iload X4.here hx rfl (hb hby at_88) rfl k) ?_
    show OGo p e below s _ _ _ (T4.setTop (mkF m 90 #[.val (.int p0), .val (.int p1), .val (.int p2), .val (.int p3), .val (.int p4), .val (.int p5), .val (.int (0 : Int32)), .val (.int ((p5 &&& (2147483647 : Int32)) % (7 : Int32))), .val (.int ((p0 &&& (255 : Int32)) ||| (128 : Int32))), .val (.int (p1 &&& (255 : Int32))), .val (.int (p2 &&& (255 : Int32))), .val (.int (p3 &&& (255 : Int32))), .val (.ref b1), .unset] [(.int (p3 &&& (255 : Int32))), (.int (3 : Int32)), (.ref b1)]))
    refine OGo.st (fun _ k => XS.i2b X4.here hx rfl (hb hby at_90) rfl k) ?_
    show OGo p e below s _ _ _ (T4.setTop (mkF m 91 #[.val (.int p0), .val (.int p1), .val (.int p2), .val (.int p3), .val (.int p4), .val (.int p5), .val (.int (0 : Int32)), .val (.int ((p5 &&& (2147483647 : Int32)) % (7 : Int32))), .val (.int ((p0 &&& (255 : Int32)) ||| (128 : Int32))), .val (.int (p1 &&& (255 : Int32))), .val (.int (p2 &&& (255 : Int32))), .val (.int (p3 &&& (255 : Int32))), .val (.ref b1), .unset] [(.int ((p3 &&& (255 : Int32)).toInt8.toInt32)), (.int (3 : Int32)), (.ref b1)]))
    obtain ⟨cl5, Ar5, q5, Sz5, Nn5, Hs5, Gs5⟩ := id V4
    have hin5 : ¬ ((3 : Int32) < 0 ∨ cl5.slots.size ≤ ((3 : Int32)).toNatClampNeg) := inb_of Sz5 ⟨by decide, by decide⟩
    obtain ⟨T5, h5, X5, e5, W5, st5⟩ := stB X4 hx hZ e4 Ar5 (j := (3 : Int32)) hin5 (g := (mkF m 91 #[.val (.int p0), .val (.int p1), .val (.int p2), .val (.int p3), .val (.int p4), .val (.int p5), .val (.int (0 : Int32)), .val (.int ((p5 &&& (2147483647 : Int32)) % (7 : Int32))), .val (.int ((p0 &&& (255 : Int32)) ||| (128 : Int32))), .val (.int (p1 &&& (255 : Int32))), .val (.int (p2 &&& (255 : Int32))), .val (.int (p3 &&& (255 : Int32))), .val (.ref b1), .unset] [(.int ((p3 &&& (255 : Int32)).toInt8.toInt32)), (.int (3 : Int32)), (.ref b1)])) rfl rfl (hb hby at_91)
    refine OGo.st st5 ?_
    have K5 : Keep h0 h5 [] := (K4).wr W5 (Or.inr sz_b1)
    have N5 := Fr.snoc X5 N4 g_b1
    have Z5 : n0 ≤ h5.size := Nat.le_trans Z4 (Keep.of_wr W5).1
    have V5 : Arv Z h5 b1 k1 .byte (6 : Int32) [(.int (nar .byte (((p0 &&& (255 : Int32)) ||| (128 : Int32)).toInt8.toInt32))), (.int (nar .byte ((p1 &&& (255 : Int32)).toInt8.toInt32))), (.int (nar .byte ((p2 &&& (255 : Int32)).toInt8.toInt32))), (.int (nar .byte ((p3 &&& (255 : Int32)).toInt8.toInt32))), (.int (0 : Int32)), (.int (0 : Int32))] (.int (0 : Int32)) := Arv.set Ar5 q5 Sz5 Nn5 Hs5 Gs5 (fits_nar_byte _) W5 3 rfl (Nat.le_of_ble_eq_true rfl)
    show OGo p e below s _ _ _ (T5.setTop (mkF m 92 #[.val (.int p0), .val (.int p1), .val (.int p2), .val (.int p3), .val (.int p4), .val (.int p5), .val (.int (0 : Int32)), .val (.int ((p5 &&& (2147483647 : Int32)) % (7 : Int32))), .val (.int ((p0 &&& (255 : Int32)) ||| (128 : Int32))), .val (.int (p1 &&& (255 : Int32))), .val (.int (p2 &&& (255 : Int32))), .val (.int (p3 &&& (255 : Int32))), .val (.ref b1), .unset] []))
    refine OGo.st (fun _ k => XS.aload X5.here hx rfl (hb hby at_92) rfl rfl k) ?_
    show OGo p e below s _ _ _ (T5.setTop (mkF m 94 #[.val (.int p0), .val (.int p1), .val (.int p2), .val (.int p3), .val (.int p4), .val (.int p5), .val (.int (0 : Int32)), .val (.int ((p5 &&& (2147483647 : Int32)) % (7 : Int32))), .val (.int ((p0 &&& (255 : Int32)) ||| (128 : Int32))), .val (.int (p1 &&& (255 : Int32))), .val (.int (p2 &&& (255 : Int32))), .val (.int (p3 &&& (255 : Int32))), .val (.ref b1), .unset] [(.ref b1)]))
    refine OGo.st (fun _ k => XS.iload X5.here hx rfl (hb hby at_94) rfl k) ?_
    show OGo p e below s _ _ _ (T5.setTop (mkF m 96 #[.val (.int p0), .val (.int p1), .val (.int p2), .val (.int p3), .val (.int p4), .val (.int p5), .val (.int (0 : Int32)), .val (.int ((p5 &&& (2147483647 : Int32)) % (7 : Int32))), .val (.int ((p0 &&& (255 : Int32)) ||| (128 : Int32))), .val (.int (p1 &&& (255 : Int32))), .val (.int (p2 &&& (255 : Int32))), .val (.int (p3 &&& (255 : Int32))), .val (.ref b1), .unset] [(.int (0 : Int32)), (.ref b1)]))
    refine OGo.st (fun _ k => XS.iload X5.here hx rfl (hb hby at_96) rfl k) ?_
    show OGo p e below s _ _ _ (T5.setTop (mkF m 98 #[.val (.int p0), .val (.int p1), .val (.int p2), .val (.int p3), .val (.int p4), .val (.int p5), .val (.int (0 : Int32)), .val (.int ((p5 &&& (2147483647 : Int32)) % (7 : Int32))), .val (.int ((p0 &&& (255 : Int32)) ||| (128 : Int32))), .val (.int (p1 &&& (255 : Int32))), .val (.int (p2 &&& (255 : Int32))), .val (.int (p3 &&& (255 : Int32))), .val (.ref b1), .unset] [(.int ((p5 &&& (2147483647 : Int32)) % (7 : Int32))), (.int (0 : Int32)), (.ref b1)]))
    obtain ⟨_, _, ⟨T6, L6, k6, n6⟩, -, X6, ⟨Lc6, hQ6, l6, y6, z6⟩, st6⟩ := Jvm.LawKit.callS X5 hx (y := (⟨"com/example/evbind/evbind/Utf8", "sequenceEnd", "([BII)I"⟩ : MethodName)) hown (mvT hZ (hw _ (List.mem_of_getElem? (i := 2) rfl))) (mvT hZ (hw _ (List.mem_of_getElem? (i := 3) rfl))) (mvT hZ (hw _ (List.mem_of_getElem? (i := 4) rfl))) (mvT hZ (hw _ (List.mem_of_getElem? (i := 5) rfl))) (by decide) (backOf (W := 0) (rm1L0 l Z a0 hw [] b1 ((p5 &&& (2147483647 : Int32)) % (7 : Int32)) k1 (nar .byte (((p0 &&& (255 : Int32)) ||| (128 : Int32)).toInt8.toInt32)) (nar .byte ((p1 &&& (255 : Int32)).toInt8.toInt32)) (nar .byte ((p2 &&& (255 : Int32)).toInt8.toInt32)) (nar .byte ((p3 &&& (255 : Int32)).toInt8.toInt32)) (0 : Int32) (0 : Int32) h5 n0 Z5 V5) hZ (hw _ (List.mem_of_getElem? (i := 5) rfl)) (hw _ (List.mem_of_getElem? (i := 4) rfl)) (by decide) (by decide)) (g := (mkF m 98 #[.val (.int p0), .val (.int p1), .val (.int p2), .val (.int p3), .val (.int p4), .val (.int p5), .val (.int (0 : Int32)), .val (.int ((p5 &&& (2147483647 : Int32)) % (7 : Int32))), .val (.int ((p0 &&& (255 : Int32)) ||| (128 : Int32))), .val (.int (p1 &&& (255 : Int32))), .val (.int (p2 &&& (255 : Int32))), .val (.int (p3 &&& (255 : Int32))), .val (.ref b1), .unset] [(.int ((p5 &&& (2147483647 : Int32)) % (7 : Int32))), (.int (0 : Int32)), (.ref b1)])) rfl (by rw [hml]; rfl) (argsL := [(.ref b1), (.int (0 : Int32)), (.int ((p5 &&& (2147483647 : Int32)) % (7 : Int32)))]) (rest := []) (lenOf pd_0_0 rfl) rfl (by show 2 * 0 + _ ≤ _; exact Nat.le_of_eq rfl) (hb hby at_98) (fun _ _ => ⟨rfl, e5, (by decide : 1 + 0 ≤ _), (by decide : 6 + 0 ≤ _)⟩)
    dsimp only [Pt.U, Pt.locs, Pt.cells, Pt.slots] at X6 l6 y6 z6 st6 hQ6
    subst l6 y6 z6
    obtain ⟨rfl, N6q, e6⟩ := hQ6
    have N6 := Fr.app N5 N6q
    refine OGo.st st6 ?_
    show OGo p e below s _ _ _ (T6.setTop (mkF m 101 #[.val (.int p0), .val (.int p1), .val (.int p2), .val (.int p3), .val (.int p4), .val (.int p5), .val (.int (0 : Int32)), .val (.int ((p5 &&& (2147483647 : Int32)) % (7 : Int32))), .val (.int ((p0 &&& (255 : Int32)) ||| (128 : Int32))), .val (.int (p1 &&& (255 : Int32))), .val (.int (p2 &&& (255 : Int32))), .val (.int (p3 &&& (255 : Int32))), .val (.ref b1), .unset] [(.int (f1L0 ((p5 &&& (2147483647 : Int32)) % (7 : Int32)) (nar .byte (((p0 &&& (255 : Int32)) ||| (128 : Int32)).toInt8.toInt32)) (nar .byte ((p1 &&& (255 : Int32)).toInt8.toInt32)) (nar .byte ((p2 &&& (255 : Int32)).toInt8.toInt32)) (nar .byte ((p3 &&& (255 : Int32)).toInt8.toInt32))))]))
    refine OGo.st (fun _ k => XS.istore X6.here hx rfl (hb hby at_101) rfl (l' := #[.val (.int p0), .val (.int p1), .val (.int p2), .val (.int p3), .val (.int p4), .val (.int p5), .val (.int (0 : Int32)), .val (.int ((p5 &&& (2147483647 : Int32)) % (7 : Int32))), .val (.int ((p0 &&& (255 : Int32)) ||| (128 : Int32))), .val (.int (p1 &&& (255 : Int32))), .val (.int (p2 &&& (255 : Int32))), .val (.int (p3 &&& (255 : Int32))), .val (.ref b1), .val (.int (v0_0 p0 p1 p2 p3 p4 p5))]) rfl k) ?_
    show OGo p e below s _ _ _ (T6.setTop (mkF m 103 #[.val (.int p0), .val (.int p1), .val (.int p2), .val (.int p3), .val (.int p4), .val (.int p5), .val (.int (0 : Int32)), .val (.int ((p5 &&& (2147483647 : Int32)) % (7 : Int32))), .val (.int ((p0 &&& (255 : Int32)) ||| (128 : Int32))), .val (.int (p1 &&& (255 : Int32))), .val (.int (p2 &&& (255 : Int32))), .val (.int (p3 &&& (255 : Int32))), .val (.ref b1), .val (.int (v0_0 p0 p1 p2 p3 p4 p5))] []))
    refine OGo.st (fun _ k => XS.iload X6.here hx rfl (hb hby at_103) rfl k) ?_
    show OGo p e below s _ _ _ (T6.setTop (mkF m 105 #[.val (.int p0), .val (.int p1), .val (.int p2), .val (.int p3), .val (.int p4), .val (.int p5), .val (.int (0 : Int32)), .val (.int ((p5 &&& (2147483647 : Int32)) % (7 : Int32))), .val (.int ((p0 &&& (255 : Int32)) ||| (128 : Int32))), .val (.int (p1 &&& (255 : Int32))), .val (.int (p2 &&& (255 : Int32))), .val (.int (p3 &&& (255 : Int32))), .val (.ref b1), .val (.int (v0_0 p0 p1 p2 p3 p4 p5))] [(.int (v0_0 p0 p1 p2 p3 p4 p5))]))
    refine OGo.st (fun _ k => XS.iload X6.here hx rfl (hb hby at_105) rfl k) ?_
    show OGo p e below s _ _ _ (T6.setTop (mkF m 107 #[.val (.int p0), .val (.int p1), .val (.int p2), .val (.int p3), .val (.int p4), .val (.int p5), .val (.int (0 : Int32)), .val (.int ((p5 &&& (2147483647 : Int32)) % (7 : Int32))), .val (.int ((p0 &&& (255 : Int32)) ||| (128 : Int32))), .val (.int (p1 &&& (255 : Int32))), .val (.int (p2 &&& (255 : Int32))), .val (.int (p3 &&& (255 : Int32))), .val (.ref b1), .val (.int (v0_0 p0 p1 p2 p3 p4 p5))] [(.int ((p0 &&& (255 : Int32)) ||| (128 : Int32))), (.int (v0_0 p0 p1 p2 p3 p4 p5))]))
    refine OGo.st (fun _ k => XS.iload X6.here hx rfl (hb hby at_107) rfl k) ?_
    show OGo p e below s _ _ _ (T6.setTop (mkF m 109 #[.val (.int p0), .val (.int p1), .val (.int p2), .val (.int p3), .val (.int p4), .val (.int p5), .val (.int (0 : Int32)), .val (.int ((p5 &&& (2147483647 : Int32)) % (7 : Int32))), .val (.int ((p0 &&& (255 : Int32)) ||| (128 : Int32))), .val (.int (p1 &&& (255 : Int32))), .val (.int (p2 &&& (255 : Int32))), .val (.int (p3 &&& (255 : Int32))), .val (.ref b1), .val (.int (v0_0 p0 p1 p2 p3 p4 p5))] [(.int (p1 &&& (255 : Int32))), (.int ((p0 &&& (255 : Int32)) ||| (128 : Int32))), (.int (v0_0 p0 p1 p2 p3 p4 p5))]))
    refine OGo.st (fun _ k => XS.iload X6.here hx rfl (hb hby at_109) rfl k) ?_
    show OGo p e below s _ _ _ (T6.setTop (mkF m 111 #[.val (.int p0), .val (.int p1), .val (.int p2), .val (.int p3), .val (.int p4), .val (.int p5), .val (.int (0 : Int32)), .val (.int ((p5 &&& (2147483647 : Int32)) % (7 : Int32))), .val (.int ((p0 &&& (255 : Int32)) ||| (128 : Int32))), .val (.int (p1 &&& (255 : Int32))), .val (.int (p2 &&& (255 : Int32))), .val (.int (p3 &&& (255 : Int32))), .val (.ref b1), .val (.int (v0_0 p0 p1 p2 p3 p4 p5))] [(.int (p2 &&& (255 : Int32))), (.int (p1 &&& (255 : Int32))), (.int ((p0 &&& (255 : Int32)) ||| (128 : Int32))), (.int (v0_0 p0 p1 p2 p3 p4 p5))]))
    refine OGo.st (fun _ k => XS.iload X6.here hx rfl (hb hby at_111) rfl k) ?_
    show OGo p e below s _ _ _ (T6.setTop (mkF m 113 #[.val (.int p0), .val (.int p1), .val (.int p2), .val (.int p3), .val (.int p4), .val (.int p5), .val (.int (0 : Int32)), .val (.int ((p5 &&& (2147483647 : Int32)) % (7 : Int32))), .val (.int ((p0 &&& (255 : Int32)) ||| (128 : Int32))), .val (.int (p1 &&& (255 : Int32))), .val (.int (p2 &&& (255 : Int32))), .val (.int (p3 &&& (255 : Int32))), .val (.ref b1), .val (.int (v0_0 p0 p1 p2 p3 p4 p5))] [(.int (p3 &&& (255 : Int32))), (.int (p2 &&& (255 : Int32))), (.int (p1 &&& (255 : Int32))), (.int ((p0 &&& (255 : Int32)) ||| (128 : Int32))), (.int (v0_0 p0 p1 p2 p3 p4 p5))]))
    refine OGo.st (fun _ k => XS.iload X6.here hx rfl (hb hby at_113) rfl k) ?_
    show OGo p e below s _ _ _ (T6.setTop (mkF m 115 #[.val (.int p0), .val (.int p1), .val (.int p2), .val (.int p3), .val (.int p4), .val (.int p5), .val (.int (0 : Int32)), .val (.int ((p5 &&& (2147483647 : Int32)) % (7 : Int32))), .val (.int ((p0 &&& (255 : Int32)) ||| (128 : Int32))), .val (.int (p1 &&& (255 : Int32))), .val (.int (p2 &&& (255 : Int32))), .val (.int (p3 &&& (255 : Int32))), .val (.ref b1), .val (.int (v0_0 p0 p1 p2 p3 p4 p5))] [(.int (0 : Int32)), (.int (p3 &&& (255 : Int32))), (.int (p2 &&& (255 : Int32))), (.int (p1 &&& (255 : Int32))), (.int ((p0 &&& (255 : Int32)) ||| (128 : Int32))), (.int (v0_0 p0 p1 p2 p3 p4 p5))]))
    refine OGo.st (fun _ k => XS.iload X6.here hx rfl (hb hby at_115) rfl k) ?_
    show OGo p e below s _ _ _ (T6.setTop (mkF m 117 #[.val (.int p0), .val (.int p1), .val (.int p2), .val (.int p3), .val (.int p4), .val (.int p5), .val (.int (0 : Int32)), .val (.int ((p5 &&& (2147483647 : Int32)) % (7 : Int32))), .val (.int ((p0 &&& (255 : Int32)) ||| (128 : Int32))), .val (.int (p1 &&& (255 : Int32))), .val (.int (p2 &&& (255 : Int32))), .val (.int (p3 &&& (255 : Int32))), .val (.ref b1), .val (.int (v0_0 p0 p1 p2 p3 p4 p5))] [(.int ((p5 &&& (2147483647 : Int32)) % (7 : Int32))), (.int (0 : Int32)), (.int (p3 &&& (255 : Int32))), (.int (p2 &&& (255 : Int32))), (.int (p1 &&& (255 : Int32))), (.int ((p0 &&& (255 : Int32)) ||| (128 : Int32))), (.int (v0_0 p0 p1 p2 p3 p4 p5))]))
    obtain ⟨_, _, ⟨T7, L7, k7, n7⟩, -, X7, ⟨Lc7, hQ7, l7, y7, z7⟩, st7⟩ := Jvm.LawKit.callS X6 hx (y := (⟨"com/example/evbind/evbind/Utf8SequenceEndPinLaw", "expected", "(IIIIII)I"⟩ : MethodName)) hown (mvT hZ (hw _ (List.mem_of_getElem? (i := 6) rfl))) (mvT hZ (hw _ (List.mem_of_getElem? (i := 7) rfl))) (mvT hZ (hw _ (List.mem_of_getElem? (i := 8) rfl))) (mvT hZ (hw _ (List.mem_of_getElem? (i := 9) rfl))) (by decide) (backOf (W := 1) (rm2 l Z a0 hw [] ((p0 &&& (255 : Int32)) ||| (128 : Int32)) (p1 &&& (255 : Int32)) (p2 &&& (255 : Int32)) (p3 &&& (255 : Int32)) (0 : Int32) ((p5 &&& (2147483647 : Int32)) % (7 : Int32)) h5 n0 Z5) hZ (hw _ (List.mem_of_getElem? (i := 9) rfl)) (hw _ (List.mem_of_getElem? (i := 8) rfl)) (by decide) (by decide)) (g := (mkF m 117 #[.val (.int p0), .val (.int p1), .val (.int p2), .val (.int p3), .val (.int p4), .val (.int p5), .val (.int (0 : Int32)), .val (.int ((p5 &&& (2147483647 : Int32)) % (7 : Int32))), .val (.int ((p0 &&& (255 : Int32)) ||| (128 : Int32))), .val (.int (p1 &&& (255 : Int32))), .val (.int (p2 &&& (255 : Int32))), .val (.int (p3 &&& (255 : Int32))), .val (.ref b1), .val (.int (v0_0 p0 p1 p2 p3 p4 p5))] [(.int ((p5 &&& (2147483647 : Int32)) % (7 : Int32))), (.int (0 : Int32)), (.int (p3 &&& (255 : Int32))), (.int (p2 &&& (255 : Int32))), (.int (p1 &&& (255 : Int32))), (.int ((p0 &&& (255 : Int32)) ||| (128 : Int32))), (.int (v0_0 p0 p1 p2 p3 p4 p5))])) rfl (by rw [hml]; rfl) (argsL := [(.int ((p0 &&& (255 : Int32)) ||| (128 : Int32))), (.int (p1 &&& (255 : Int32))), (.int (p2 &&& (255 : Int32))), (.int (p3 &&& (255 : Int32))), (.int (0 : Int32)), (.int ((p5 &&& (2147483647 : Int32)) % (7 : Int32)))]) (rest := [(.int (v0_0 p0 p1 p2 p3 p4 p5))]) (lenOf pd_0_1 rfl) rfl (by show 2 * 0 + _ ≤ _; exact Nat.le_of_eq rfl) (hb hby at_117) (fun _ _ => ⟨rfl, e6, (by decide : 1 + 0 ≤ _), (by decide : 6 + 0 ≤ _)⟩)
    dsimp only [Pt.U, Pt.locs, Pt.cells, Pt.slots] at X7 l7 y7 z7 st7 hQ7
    subst l7 y7 z7
    obtain ⟨rfl, N7q, e7⟩ := hQ7
    have N7 := Fr.app N6 N7q
    refine OGo.st st7 ?_
    show OGo p e below s _ _ _ (T7.setTop (mkF m 120 #[.val (.int p0), .val (.int p1), .val (.int p2), .val (.int p3), .val (.int p4), .val (.int p5), .val (.int (0 : Int32)), .val (.int ((p5 &&& (2147483647 : Int32)) % (7 : Int32))), .val (.int ((p0 &&& (255 : Int32)) ||| (128 : Int32))), .val (.int (p1 &&& (255 : Int32))), .val (.int (p2 &&& (255 : Int32))), .val (.int (p3 &&& (255 : Int32))), .val (.ref b1), .val (.int (v0_0 p0 p1 p2 p3 p4 p5))] [(.int (f2 ((p0 &&& (255 : Int32)) ||| (128 : Int32)) (p1 &&& (255 : Int32)) (p2 &&& (255 : Int32)) (p3 &&& (255 : Int32)) (0 : Int32) ((p5 &&& (2147483647 : Int32)) % (7 : Int32)))), (.int (v0_0 p0 p1 p2 p3 p4 p5))]))
    by_cases hc120 : (v0_0 p0 p1 p2 p3 p4 p5) = (f2 ((p0 &&& (255 : Int32)) ||| (128 : Int32)) (p1 &&& (255 : Int32)) (p2 &&& (255 : Int32)) (p3 &&& (255 : Int32)) (0 : Int32) ((p5 &&& (2147483647 : Int32)) % (7 : Int32)))
    · refine OGo.st (fun _ k => XS.icmpNo X7.here hx rfl (hb hby at_120) rfl (teq hc120).2 k) ?_
      show OGo p e below s _ _ _ (T7.setTop (mkF m 123 #[.val (.int p0), .val (.int p1), .val (.int p2), .val (.int p3), .val (.int p4), .val (.int p5), .val (.int (0 : Int32)), .val (.int ((p5 &&& (2147483647 : Int32)) % (7 : Int32))), .val (.int ((p0 &&& (255 : Int32)) ||| (128 : Int32))), .val (.int (p1 &&& (255 : Int32))), .val (.int (p2 &&& (255 : Int32))), .val (.int (p3 &&& (255 : Int32))), .val (.ref b1), .val (.int (v0_0 p0 p1 p2 p3 p4 p5))] []))
      refine OGo.st (fun _ k => XS.iconst X7.here hx rfl (hb hby at_123) k) ?_
      show OGo p e below s _ _ _ (T7.setTop (mkF m 124 #[.val (.int p0), .val (.int p1), .val (.int p2), .val (.int p3), .val (.int p4), .val (.int p5), .val (.int (0 : Int32)), .val (.int ((p5 &&& (2147483647 : Int32)) % (7 : Int32))), .val (.int ((p0 &&& (255 : Int32)) ||| (128 : Int32))), .val (.int (p1 &&& (255 : Int32))), .val (.int (p2 &&& (255 : Int32))), .val (.int (p3 &&& (255 : Int32))), .val (.ref b1), .val (.int (v0_0 p0 p1 p2 p3 p4 p5))] [(.int (1 : Int32))]))
      refine OGo.st (fun _ k => XS.goto X7.here hx rfl (pc0 := 124) (pc' := 128) rfl (hb hby at_124) (by decide) (by decide) k) ?_
      show OGo p e below s _ _ _ (T7.setTop (mkF m 128 #[.val (.int p0), .val (.int p1), .val (.int p2), .val (.int p3), .val (.int p4), .val (.int p5), .val (.int (0 : Int32)), .val (.int ((p5 &&& (2147483647 : Int32)) % (7 : Int32))), .val (.int ((p0 &&& (255 : Int32)) ||| (128 : Int32))), .val (.int (p1 &&& (255 : Int32))), .val (.int (p2 &&& (255 : Int32))), .val (.int (p3 &&& (255 : Int32))), .val (.ref b1), .val (.int (v0_0 p0 p1 p2 p3 p4 p5))] [(.int (1 : Int32))]))
      exact oretN X7 hx Bd.notSynchronized (t := .boolean) Bd.returns (by simp) (hb hby at_128) (z' := (1 : Int32)) (by decide) e7 ⟨(congrArg (fun z => some (Value.int z)) (show (1 : Int32) = f0 p0 p1 p2 p3 p4 p5 from Eq.symm (by unfold f0; exact (if_pos hc4).trans (if_pos hc120)))), N7⟩ (by decide) (by decide)
    · refine OGo.st (fun _ k => XS.icmpYes X7.here hx rfl (pc0 := 120) (pc' := 127) rfl (hb hby at_120) rfl (feq hc120).2 (by decide) (by decide) k) ?_
      show OGo p e below s _ _ _ (T7.setTop (mkF m 127 #[.val (.int p0), .val (.int p1), .val (.int p2), .val (.int p3), .val (.int p4), .val (.int p5), .val (.int (0 : Int32)), .val (.int ((p5 &&& (2147483647 : Int32)) % (7 : Int32))), .val (.int ((p0 &&& (255 : Int32)) ||| (128 : Int32))), .val (.int (p1 &&& (255 : Int32))), .val (.int (p2 &&& (255 : Int32))), .val (.int (p3 &&& (255 : Int32))), .val (.ref b1), .val (.int (v0_0 p0 p1 p2 p3 p4 p5))] []))
      refine OGo.st (fun _ k => XS.iconst X7.here hx rfl (hb hby at_127) k) ?_
      show OGo p e below s _ _ _ (T7.setTop (mkF m 128 #[.val (.int p0), .val (.int p1), .val (.int p2), .val (.int p3), .val (.int p4), .val (.int p5), .val (.int (0 : Int32)), .val (.int ((p5 &&& (2147483647 : Int32)) % (7 : Int32))), .val (.int ((p0 &&& (255 : Int32)) ||| (128 : Int32))), .val (.int (p1 &&& (255 : Int32))), .val (.int (p2 &&& (255 : Int32))), .val (.int (p3 &&& (255 : Int32))), .val (.ref b1), .val (.int (v0_0 p0 p1 p2 p3 p4 p5))] [(.int (0 : Int32))]))
      exact oretN X7 hx Bd.notSynchronized (t := .boolean) Bd.returns (by simp) (hb hby at_128) (z' := (0 : Int32)) (by decide) e7 ⟨(congrArg (fun z => some (Value.int z)) (show (0 : Int32) = f0 p0 p1 p2 p3 p4 p5 from Eq.symm (by unfold f0; exact (if_pos hc4).trans (if_neg hc120)))), N7⟩ (by decide) (by decide)
  · have hc4_2 : (p4 &&& (1 : Int32)) = (1 : Int32) := own_last1 _ hc4
    rw [hc4_2]
    show OGo p e below s _ _ _ (s₁.setTop (mkF m 4 #[.val (.int p0), .val (.int p1), .val (.int p2), .val (.int p3), .val (.int p4), .val (.int p5), .unset, .unset, .unset, .unset, .unset, .unset, .unset, .unset] [(.int (1 : Int32))]))
    refine OGo.st (fun _ k => XS.istore X0.here hx rfl (hb hby at_4) rfl (l' := #[.val (.int p0), .val (.int p1), .val (.int p2), .val (.int p3), .val (.int p4), .val (.int p5), .val (.int (1 : Int32)), .unset, .unset, .unset, .unset, .unset, .unset, .unset]) rfl k) ?_
    show OGo p e below s _ _ _ (s₁.setTop (mkF m 6 #[.val (.int p0), .val (.int p1), .val (.int p2), .val (.int p3), .val (.int p4), .val (.int p5), .val (.int (1 : Int32)), .unset, .unset, .unset, .unset, .unset, .unset, .unset] []))
    refine OGo.st (fun _ k => XS.iload X0.here hx rfl (hb hby at_6) rfl k) ?_
    show OGo p e below s _ _ _ (s₁.setTop (mkF m 8 #[.val (.int p0), .val (.int p1), .val (.int p2), .val (.int p3), .val (.int p4), .val (.int p5), .val (.int (1 : Int32)), .unset, .unset, .unset, .unset, .unset, .unset, .unset] [(.int p5)]))
    refine OGo.st (fun _ k => X0.ldcInt hx hown (mvT hZ (hw _ (List.mem_of_getElem? (i := 0) rfl))) (g := (mkF m 8 #[.val (.int p0), .val (.int p1), .val (.int p2), .val (.int p3), .val (.int p4), .val (.int p5), .val (.int (1 : Int32)), .unset, .unset, .unset, .unset, .unset, .unset, .unset] [(.int p5)])) rfl (hb hby at_8) _ k) ?_
    show OGo p e below s _ _ _ (s₁.setTop (mkF m 10 #[.val (.int p0), .val (.int p1), .val (.int p2), .val (.int p3), .val (.int p4), .val (.int p5), .val (.int (1 : Int32)), .unset, .unset, .unset, .unset, .unset, .unset, .unset] [(.int (2147483647 : Int32)), (.int p5)]))
    refine OGo.st (fun _ k => XS.iand X0.here hx rfl (hb hby at_10) rfl k) ?_
    show OGo p e below s _ _ _ (s₁.setTop (mkF m 11 #[.val (.int p0), .val (.int p1), .val (.int p2), .val (.int p3), .val (.int p4), .val (.int p5), .val (.int (1 : Int32)), .unset, .unset, .unset, .unset, .unset, .unset, .unset] [(.int (p5 &&& (2147483647 : Int32)))]))
    refine OGo.st (fun _ k => XS.bipush X0.here hx rfl (hb hby at_11) k) ?_
    show OGo p e below s _ _ _ (s₁.setTop (mkF m 13 #[.val (.int p0), .val (.int p1), .val (.int p2), .val (.int p3), .val (.int p4), .val (.int p5), .val (.int (1 : Int32)), .unset, .unset, .unset, .unset, .unset, .unset, .unset] [(.int (7 : Int32)), (.int (p5 &&& (2147483647 : Int32)))]))
    refine OGo.st (fun _ k => iremM X0 hx rfl (hb hby at_13) rfl (by decide) k) ?_
    show OGo p e below s _ _ _ (s₁.setTop (mkF m 14 #[.val (.int p0), .val (.int p1), .val (.int p2), .val (.int p3), .val (.int p4), .val (.int p5), .val (.int (1 : Int32)), .unset, .unset, .unset, .unset, .unset, .unset, .unset] [(.int ((p5 &&& (2147483647 : Int32)) % (7 : Int32)))]))
    refine OGo.st (fun _ k => XS.istore X0.here hx rfl (hb hby at_14) rfl (l' := #[.val (.int p0), .val (.int p1), .val (.int p2), .val (.int p3), .val (.int p4), .val (.int p5), .val (.int (1 : Int32)), .val (.int ((p5 &&& (2147483647 : Int32)) % (7 : Int32))), .unset, .unset, .unset, .unset, .unset, .unset]) rfl k) ?_
    show OGo p e below s _ _ _ (s₁.setTop (mkF m 16 #[.val (.int p0), .val (.int p1), .val (.int p2), .val (.int p3), .val (.int p4), .val (.int p5), .val (.int (1 : Int32)), .val (.int ((p5 &&& (2147483647 : Int32)) % (7 : Int32))), .unset, .unset, .unset, .unset, .unset, .unset] []))
    refine OGo.st (fun _ k => XS.iloadN X0.here hx rfl (hb hby at_16) rfl k) ?_
    show OGo p e below s _ _ _ (s₁.setTop (mkF m 17 #[.val (.int p0), .val (.int p1), .val (.int p2), .val (.int p3), .val (.int p4), .val (.int p5), .val (.int (1 : Int32)), .val (.int ((p5 &&& (2147483647 : Int32)) % (7 : Int32))), .unset, .unset, .unset, .unset, .unset, .unset] [(.int p0)]))
    refine OGo.st (fun _ k => XS.sipush X0.here hx rfl (hb hby at_17) k) ?_
    show OGo p e below s _ _ _ (s₁.setTop (mkF m 20 #[.val (.int p0), .val (.int p1), .val (.int p2), .val (.int p3), .val (.int p4), .val (.int p5), .val (.int (1 : Int32)), .val (.int ((p5 &&& (2147483647 : Int32)) % (7 : Int32))), .unset, .unset, .unset, .unset, .unset, .unset] [(.int (255 : Int32)), (.int p0)]))
    refine OGo.st (fun _ k => XS.iand X0.here hx rfl (hb hby at_20) rfl k) ?_
    show OGo p e below s _ _ _ (s₁.setTop (mkF m 21 #[.val (.int p0), .val (.int p1), .val (.int p2), .val (.int p3), .val (.int p4), .val (.int p5), .val (.int (1 : Int32)), .val (.int ((p5 &&& (2147483647 : Int32)) % (7 : Int32))), .unset, .unset, .unset, .unset, .unset, .unset] [(.int (p0 &&& (255 : Int32)))]))
    refine OGo.st (fun _ k => XS.sipush X0.here hx rfl (hb hby at_21) k) ?_
    show OGo p e below s _ _ _ (s₁.setTop (mkF m 24 #[.val (.int p0), .val (.int p1), .val (.int p2), .val (.int p3), .val (.int p4), .val (.int p5), .val (.int (1 : Int32)), .val (.int ((p5 &&& (2147483647 : Int32)) % (7 : Int32))), .unset, .unset, .unset, .unset, .unset, .unset] [(.int (128 : Int32)), (.int (p0 &&& (255 : Int32)))]))
    refine OGo.st (fun _ k => XS.ior X0.here hx rfl (hb hby at_24) rfl k) ?_
    show OGo p e below s _ _ _ (s₁.setTop (mkF m 25 #[.val (.int p0), .val (.int p1), .val (.int p2), .val (.int p3), .val (.int p4), .val (.int p5), .val (.int (1 : Int32)), .val (.int ((p5 &&& (2147483647 : Int32)) % (7 : Int32))), .unset, .unset, .unset, .unset, .unset, .unset] [(.int ((p0 &&& (255 : Int32)) ||| (128 : Int32)))]))
    refine OGo.st (fun _ k => XS.istore X0.here hx rfl (hb hby at_25) rfl (l' := #[.val (.int p0), .val (.int p1), .val (.int p2), .val (.int p3), .val (.int p4), .val (.int p5), .val (.int (1 : Int32)), .val (.int ((p5 &&& (2147483647 : Int32)) % (7 : Int32))), .val (.int ((p0 &&& (255 : Int32)) ||| (128 : Int32))), .unset, .unset, .unset, .unset, .unset]) rfl k) ?_
    show OGo p e below s _ _ _ (s₁.setTop (mkF m 27 #[.val (.int p0), .val (.int p1), .val (.int p2), .val (.int p3), .val (.int p4), .val (.int p5), .val (.int (1 : Int32)), .val (.int ((p5 &&& (2147483647 : Int32)) % (7 : Int32))), .val (.int ((p0 &&& (255 : Int32)) ||| (128 : Int32))), .unset, .unset, .unset, .unset, .unset] []))
    refine OGo.st (fun _ k => XS.iloadN X0.here hx rfl (hb hby at_27) rfl k) ?_
    show OGo p e below s _ _ _ (s₁.setTop (mkF m 28 #[.val (.int p0), .val (.int p1), .val (.int p2), .val (.int p3), .val (.int p4), .val (.int p5), .val (.int (1 : Int32)), .val (.int ((p5 &&& (2147483647 : Int32)) % (7 : Int32))), .val (.int ((p0 &&& (255 : Int32)) ||| (128 : Int32))), .unset, .unset, .unset, .unset, .unset] [(.int p1)]))
    refine OGo.st (fun _ k => XS.sipush X0.here hx rfl (hb hby at_28) k) ?_
    show OGo p e below s _ _ _ (s₁.setTop (mkF m 31 #[.val (.int p0), .val (.int p1), .val (.int p2), .val (.int p3), .val (.int p4), .val (.int p5), .val (.int (1 : Int32)), .val (.int ((p5 &&& (2147483647 : Int32)) % (7 : Int32))), .val (.int ((p0 &&& (255 : Int32)) ||| (128 : Int32))), .unset, .unset, .unset, .unset, .unset] [(.int (255 : Int32)), (.int p1)]))
    refine OGo.st (fun _ k => XS.iand X0.here hx rfl (hb hby at_31) rfl k) ?_
    show OGo p e below s _ _ _ (s₁.setTop (mkF m 32 #[.val (.int p0), .val (.int p1), .val (.int p2), .val (.int p3), .val (.int p4), .val (.int p5), .val (.int (1 : Int32)), .val (.int ((p5 &&& (2147483647 : Int32)) % (7 : Int32))), .val (.int ((p0 &&& (255 : Int32)) ||| (128 : Int32))), .unset, .unset, .unset, .unset, .unset] [(.int (p1 &&& (255 : Int32)))]))
    refine OGo.st (fun _ k => XS.istore X0.here hx rfl (hb hby at_32) rfl (l' := #[.val (.int p0), .val (.int p1), .val (.int p2), .val (.int p3), .val (.int p4), .val (.int p5), .val (.int (1 : Int32)), .val (.int ((p5 &&& (2147483647 : Int32)) % (7 : Int32))), .val (.int ((p0 &&& (255 : Int32)) ||| (128 : Int32))), .val (.int (p1 &&& (255 : Int32))), .unset, .unset, .unset, .unset]) rfl k) ?_
    show OGo p e below s _ _ _ (s₁.setTop (mkF m 34 #[.val (.int p0), .val (.int p1), .val (.int p2), .val (.int p3), .val (.int p4), .val (.int p5), .val (.int (1 : Int32)), .val (.int ((p5 &&& (2147483647 : Int32)) % (7 : Int32))), .val (.int ((p0 &&& (255 : Int32)) ||| (128 : Int32))), .val (.int (p1 &&& (255 : Int32))), .unset, .unset, .unset, .unset] []))
    refine OGo.st (fun _ k => XS.iloadN X0.here hx rfl (hb hby at_34) rfl k) ?_
    show OGo p e below s _ _ _ (s₁.setTop (mkF m 35 #[.val (.int p0), .val (.int p1), .val (.int p2), .val (.int p3), .val (.int p4), .val (.int p5), .val (.int (1 : Int32)), .val (.int ((p5 &&& (2147483647 : Int32)) % (7 : Int32))), .val (.int ((p0 &&& (255 : Int32)) ||| (128 : Int32))), .val (.int (p1 &&& (255 : Int32))), .unset, .unset, .unset, .unset] [(.int p2)]))
    refine OGo.st (fun _ k => XS.sipush X0.here hx rfl (hb hby at_35) k) ?_
    show OGo p e below s _ _ _ (s₁.setTop (mkF m 38 #[.val (.int p0), .val (.int p1), .val (.int p2), .val (.int p3), .val (.int p4), .val (.int p5), .val (.int (1 : Int32)), .val (.int ((p5 &&& (2147483647 : Int32)) % (7 : Int32))), .val (.int ((p0 &&& (255 : Int32)) ||| (128 : Int32))), .val (.int (p1 &&& (255 : Int32))), .unset, .unset, .unset, .unset] [(.int (255 : Int32)), (.int p2)]))
    refine OGo.st (fun _ k => XS.iand X0.here hx rfl (hb hby at_38) rfl k) ?_
    show OGo p e below s _ _ _ (s₁.setTop (mkF m 39 #[.val (.int p0), .val (.int p1), .val (.int p2), .val (.int p3), .val (.int p4), .val (.int p5), .val (.int (1 : Int32)), .val (.int ((p5 &&& (2147483647 : Int32)) % (7 : Int32))), .val (.int ((p0 &&& (255 : Int32)) ||| (128 : Int32))), .val (.int (p1 &&& (255 : Int32))), .unset, .unset, .unset, .unset] [(.int (p2 &&& (255 : Int32)))]))
    refine OGo.st (fun _ k => XS.istore X0.here hx rfl (hb hby at_39) rfl (l' := #[.val (.int p0), .val (.int p1), .val (.int p2), .val (.int p3), .val (.int p4), .val (.int p5), .val (.int (1 : Int32)), .val (.int ((p5 &&& (2147483647 : Int32)) % (7 : Int32))), .val (.int ((p0 &&& (255 : Int32)) ||| (128 : Int32))), .val (.int (p1 &&& (255 : Int32))), .val (.int (p2 &&& (255 : Int32))), .unset, .unset, .unset]) rfl k) ?_
    show OGo p e below s _ _ _ (s₁.setTop (mkF m 41 #[.val (.int p0), .val (.int p1), .val (.int p2), .val (.int p3), .val (.int p4), .val (.int p5), .val (.int (1 : Int32)), .val (.int ((p5 &&& (2147483647 : Int32)) % (7 : Int32))), .val (.int ((p0 &&& (255 : Int32)) ||| (128 : Int32))), .val (.int (p1 &&& (255 : Int32))), .val (.int (p2 &&& (255 : Int32))), .unset, .unset, .unset] []))
    refine OGo.st (fun _ k => XS.iloadN X0.here hx rfl (hb hby at_41) rfl k) ?_
    show OGo p e below s _ _ _ (s₁.setTop (mkF m 42 #[.val (.int p0), .val (.int p1), .val (.int p2), .val (.int p3), .val (.int p4), .val (.int p5), .val (.int (1 : Int32)), .val (.int ((p5 &&& (2147483647 : Int32)) % (7 : Int32))), .val (.int ((p0 &&& (255 : Int32)) ||| (128 : Int32))), .val (.int (p1 &&& (255 : Int32))), .val (.int (p2 &&& (255 : Int32))), .unset, .unset, .unset] [(.int p3)]))
    refine OGo.st (fun _ k => XS.sipush X0.here hx rfl (hb hby at_42) k) ?_
    show OGo p e below s _ _ _ (s₁.setTop (mkF m 45 #[.val (.int p0), .val (.int p1), .val (.int p2), .val (.int p3), .val (.int p4), .val (.int p5), .val (.int (1 : Int32)), .val (.int ((p5 &&& (2147483647 : Int32)) % (7 : Int32))), .val (.int ((p0 &&& (255 : Int32)) ||| (128 : Int32))), .val (.int (p1 &&& (255 : Int32))), .val (.int (p2 &&& (255 : Int32))), .unset, .unset, .unset] [(.int (255 : Int32)), (.int p3)]))
    refine OGo.st (fun _ k => XS.iand X0.here hx rfl (hb hby at_45) rfl k) ?_
    show OGo p e below s _ _ _ (s₁.setTop (mkF m 46 #[.val (.int p0), .val (.int p1), .val (.int p2), .val (.int p3), .val (.int p4), .val (.int p5), .val (.int (1 : Int32)), .val (.int ((p5 &&& (2147483647 : Int32)) % (7 : Int32))), .val (.int ((p0 &&& (255 : Int32)) ||| (128 : Int32))), .val (.int (p1 &&& (255 : Int32))), .val (.int (p2 &&& (255 : Int32))), .unset, .unset, .unset] [(.int (p3 &&& (255 : Int32)))]))
    refine OGo.st (fun _ k => XS.istore X0.here hx rfl (hb hby at_46) rfl (l' := #[.val (.int p0), .val (.int p1), .val (.int p2), .val (.int p3), .val (.int p4), .val (.int p5), .val (.int (1 : Int32)), .val (.int ((p5 &&& (2147483647 : Int32)) % (7 : Int32))), .val (.int ((p0 &&& (255 : Int32)) ||| (128 : Int32))), .val (.int (p1 &&& (255 : Int32))), .val (.int (p2 &&& (255 : Int32))), .val (.int (p3 &&& (255 : Int32))), .unset, .unset]) rfl k) ?_
    show OGo p e below s _ _ _ (s₁.setTop (mkF m 48 #[.val (.int p0), .val (.int p1), .val (.int p2), .val (.int p3), .val (.int p4), .val (.int p5), .val (.int (1 : Int32)), .val (.int ((p5 &&& (2147483647 : Int32)) % (7 : Int32))), .val (.int ((p0 &&& (255 : Int32)) ||| (128 : Int32))), .val (.int (p1 &&& (255 : Int32))), .val (.int (p2 &&& (255 : Int32))), .val (.int (p3 &&& (255 : Int32))), .unset, .unset] []))
    refine OGo.st (fun _ k => XS.bipush X0.here hx rfl (hb hby at_48) k) ?_
    show OGo p e below s _ _ _ (s₁.setTop (mkF m 50 #[.val (.int p0), .val (.int p1), .val (.int p2), .val (.int p3), .val (.int p4), .val (.int p5), .val (.int (1 : Int32)), .val (.int ((p5 &&& (2147483647 : Int32)) % (7 : Int32))), .val (.int ((p0 &&& (255 : Int32)) ||| (128 : Int32))), .val (.int (p1 &&& (255 : Int32))), .val (.int (p2 &&& (255 : Int32))), .val (.int (p3 &&& (255 : Int32))), .unset, .unset] [(.int (6 : Int32))]))
    obtain ⟨T8, h8, k8, X8, e8, E8, A8, st8⟩ := newP X0 hx hZ (hw _ (List.mem_of_getElem? (i := 1) rfl)) e0 (g := (mkF m 50 #[.val (.int p0), .val (.int p1), .val (.int p2), .val (.int p3), .val (.int p4), .val (.int p5), .val (.int (1 : Int32)), .val (.int ((p5 &&& (2147483647 : Int32)) % (7 : Int32))), .val (.int ((p0 &&& (255 : Int32)) ||| (128 : Int32))), .val (.int (p1 &&& (255 : Int32))), .val (.int (p2 &&& (255 : Int32))), .val (.int (p3 &&& (255 : Int32))), .unset, .unset] [(.int (6 : Int32))])) rfl (hb hby at_50) rfl (by decide) (cap := 6) (by decide) (by decide) (by decide) (by decide)
    obtain ⟨b8, g8⟩ : ∃ z, z = h0.size := ⟨_, rfl⟩
    rw [← g8] at A8 st8
    refine OGo.st st8 ?_
    have g_b8 : n0 ≤ b8 := Nat.le_trans Z0 (Nat.le_of_eq g8.symm)
    have sz_b8 : h0.size ≤ b8 := Nat.le_trans (Keep.refl h0 []).1 (Nat.le_of_eq g8.symm)
    have K8 : Keep h0 h8 [] := (Keep.refl h0 _).ext E8
    have Z8 : n0 ≤ h8.size := Nat.le_trans Z0 E8.1
    have V_b8 : Arv Z h8 b8 k8 .byte (6 : Int32) [(.int (0 : Int32)), (.int (0 : Int32)), (.int (0 : Int32)), (.int (0 : Int32)), (.int (0 : Int32)), (.int (0 : Int32))] (.int (0 : Int32)) := (Arv.new A8 (by decide)).pad (pad_rep [] (.int (0 : Int32)) 6)
    show OGo p e below s _ _ _ (T8.setTop (mkF m 52 #[.val (.int p0), .val (.int p1), .val (.int p2), .val (.int p3), .val (.int p4), .val (.int p5), .val (.int (1 : Int32)), .val (.int ((p5 &&& (2147483647 : Int32)) % (7 : Int32))), .val (.int ((p0 &&& (255 : Int32)) ||| (128 : Int32))), .val (.int (p1 &&& (255 : Int32))), .val (.int (p2 &&& (255 : Int32))), .val (.int (p3 &&& (255 : Int32))), .unset, .unset] [(.ref b8)]))
    refine OGo.st (fun _ k => XS.astore X8.here hx rfl (hb hby at_52) rfl rfl (l' := #[.val (.int p0), .val (.int p1), .val (.int p2), .val (.int p3), .val (.int p4), .val (.int p5), .val (.int (1 : Int32)), .val (.int ((p5 &&& (2147483647 : Int32)) % (7 : Int32))), .val (.int ((p0 &&& (255 : Int32)) ||| (128 : Int32))), .val (.int (p1 &&& (255 : Int32))), .val (.int (p2 &&& (255 : Int32))), .val (.int (p3 &&& (255 : Int32))), .val (.ref b8), .unset]) rfl k) ?_
    show OGo p e below s _ _ _ (T8.setTop (mkF m 54 #[.val (.int p0), .val (.int p1), .val (.int p2), .val (.int p3), .val (.int p4), .val (.int p5), .val (.int (1 : Int32)), .val (.int ((p5 &&& (2147483647 : Int32)) % (7 : Int32))), .val (.int ((p0 &&& (255 : Int32)) ||| (128 : Int32))), .val (.int (p1 &&& (255 : Int32))), .val (.int (p2 &&& (255 : Int32))), .val (.int (p3 &&& (255 : Int32))), .val (.ref b8), .unset] []))
    refine OGo.st (fun _ k => XS.aload X8.here hx rfl (hb hby at_54) rfl rfl k) ?_
    show OGo p e below s _ _ _ (T8.setTop (mkF m 56 #[.val (.int p0), .val (.int p1), .val (.int p2), .val (.int p3), .val (.int p4), .val (.int p5), .val (.int (1 : Int32)), .val (.int ((p5 &&& (2147483647 : Int32)) % (7 : Int32))), .val (.int ((p0 &&& (255 : Int32)) ||| (128 : Int32))), .val (.int (p1 &&& (255 : Int32))), .val (.int (p2 &&& (255 : Int32))), .val (.int (p3 &&& (255 : Int32))), .val (.ref b8), .unset] [(.ref b8)]))
    refine OGo.st (fun _ k => XS.iload X8.here hx rfl (hb hby at_56) rfl k) ?_
    show OGo p e below s _ _ _ (T8.setTop (mkF m 58 #[.val (.int p0), .val (.int p1), .val (.int p2), .val (.int p3), .val (.int p4), .val (.int p5), .val (.int (1 : Int32)), .val (.int ((p5 &&& (2147483647 : Int32)) % (7 : Int32))), .val (.int ((p0 &&& (255 : Int32)) ||| (128 : Int32))), .val (.int (p1 &&& (255 : Int32))), .val (.int (p2 &&& (255 : Int32))), .val (.int (p3 &&& (255 : Int32))), .val (.ref b8), .unset] [(.int (1 : Int32)), (.ref b8)]))
    refine OGo.st (fun _ k => XS.iload X8.here hx rfl (hb hby at_58) rfl k) ?_
    show OGo p e below s _ _ _ (T8.setTop (mkF m 60 #[.val (.int p0), .val (.int p1), .val (.int p2), .val (.int p3), .val (.int p4), .val (.int p5), .val (.int (1 : Int32)), .val (.int ((p5 &&& (2147483647 : Int32)) % (7 : Int32))), .val (.int ((p0 &&& (255 : Int32)) ||| (128 : Int32))), .val (.int (p1 &&& (255 : Int32))), .val (.int (p2 &&& (255 : Int32))), .val (.int (p3 &&& (255 : Int32))), .val (.ref b8), .unset] [(.int ((p0 &&& (255 : Int32)) ||| (128 : Int32))), (.int (1 : Int32)), (.ref b8)]))
    refine OGo.st (fun _ k => XS.i2b X8.here hx rfl (hb hby at_60) rfl k) ?_
    show OGo p e below s _ _ _ (T8.setTop (mkF m 61 #[.val (.int p0), .val (.int p1), .val (.int p2), .val (.int p3), .val (.int p4), .val (.int p5), .val (.int (1 : Int32)), .val (.int ((p5 &&& (2147483647 : Int32)) % (7 : Int32))), .val (.int ((p0 &&& (255 : Int32)) ||| (128 : Int32))), .val (.int (p1 &&& (255 : Int32))), .val (.int (p2 &&& (255 : Int32))), .val (.int (p3 &&& (255 : Int32))), .val (.ref b8), .unset] [(.int (((p0 &&& (255 : Int32)) ||| (128 : Int32)).toInt8.toInt32)), (.int (1 : Int32)), (.ref b8)]))
    obtain ⟨cl9, Ar9, q9, Sz9, Nn9, Hs9, Gs9⟩ := id V_b8
    have hin9 : ¬ ((1 : Int32) < 0 ∨ cl9.slots.size ≤ ((1 : Int32)).toNatClampNeg) := inb_of Sz9 ⟨by decide, by decide⟩
    obtain ⟨T9, h9, X9, e9, W9, st9⟩ := stB X8 hx hZ e8 Ar9 (j := (1 : Int32)) hin9 (g := (mkF m 61 #[.val (.int p0), .val (.int p1), .val (.int p2), .val (.int p3), .val (.int p4), .val (.int p5), .val (.int (1 : Int32)), .val (.int ((p5 &&& (2147483647 : Int32)) % (7 : Int32))), .val (.int ((p0 &&& (255 : Int32)) ||| (128 : Int32))), .val (.int (p1 &&& (255 : Int32))), .val (.int (p2 &&& (255 : Int32))), .val (.int (p3 &&& (255 : Int32))), .val (.ref b8), .unset] [(.int (((p0 &&& (255 : Int32)) ||| (128 : Int32)).toInt8.toInt32)), (.int (1 : Int32)), (.ref b8)])) rfl rfl (hb hby at_61)
    refine OGo.st st9 ?_
    have K9 : Keep h0 h9 [] := (K8).wr W9 (Or.inr sz_b8)
    have N9 := Fr.snoc X9 N0 g_b8
    have Z9 : n0 ≤ h9.size := Nat.le_trans Z8 (Keep.of_wr W9).1
    have V9 : Arv Z h9 b8 k8 .byte (6 : Int32) [(.int (0 : Int32)), (.int (nar .byte (((p0 &&& (255 : Int32)) ||| (128 : Int32)).toInt8.toInt32))), (.int (0 : Int32)), (.int (0 : Int32)), (.int (0 : Int32)), (.int (0 : Int32))] (.int (0 : Int32)) := Arv.set Ar9 q9 Sz9 Nn9 Hs9 Gs9 (fits_nar_byte _) W9 1 rfl (Nat.le_of_ble_eq_true rfl)
    show OGo p e below s _ _ _ (T9.setTop (mkF m 62 #[.val (.int p0), .val (.int p1), .val (.int p2), .val (.int p3), .val (.int p4), .val (.int p5), .val (.int (1 : Int32)), .val (.int ((p5 &&& (2147483647 : Int32)) % (7 : Int32))), .val (.int ((p0 &&& (255 : Int32)) ||| (128 : Int32))), .val (.int (p1 &&& (255 : Int32))), .val (.int (p2 &&& (255 : Int32))), .val (.int (p3 &&& (255 : Int32))), .val (.ref b8), .unset] []))
    refine OGo.st (fun _ k => XS.aload X9.here hx rfl (hb hby at_62) rfl rfl k) ?_
    show OGo p e below s _ _ _ (T9.setTop (mkF m 64 #[.val (.int p0), .val (.int p1), .val (.int p2), .val (.int p3), .val (.int p4), .val (.int p5), .val (.int (1 : Int32)), .val (.int ((p5 &&& (2147483647 : Int32)) % (7 : Int32))), .val (.int ((p0 &&& (255 : Int32)) ||| (128 : Int32))), .val (.int (p1 &&& (255 : Int32))), .val (.int (p2 &&& (255 : Int32))), .val (.int (p3 &&& (255 : Int32))), .val (.ref b8), .unset] [(.ref b8)]))
    refine OGo.st (fun _ k => XS.iload X9.here hx rfl (hb hby at_64) rfl k) ?_
    show OGo p e below s _ _ _ (T9.setTop (mkF m 66 #[.val (.int p0), .val (.int p1), .val (.int p2), .val (.int p3), .val (.int p4), .val (.int p5), .val (.int (1 : Int32)), .val (.int ((p5 &&& (2147483647 : Int32)) % (7 : Int32))), .val (.int ((p0 &&& (255 : Int32)) ||| (128 : Int32))), .val (.int (p1 &&& (255 : Int32))), .val (.int (p2 &&& (255 : Int32))), .val (.int (p3 &&& (255 : Int32))), .val (.ref b8), .unset] [(.int (1 : Int32)), (.ref b8)]))
    refine OGo.st (fun _ k => XS.iconst X9.here hx rfl (hb hby at_66) k) ?_
    show OGo p e below s _ _ _ (T9.setTop (mkF m 67 #[.val (.int p0), .val (.int p1), .val (.int p2), .val (.int p3), .val (.int p4), .val (.int p5), .val (.int (1 : Int32)), .val (.int ((p5 &&& (2147483647 : Int32)) % (7 : Int32))), .val (.int ((p0 &&& (255 : Int32)) ||| (128 : Int32))), .val (.int (p1 &&& (255 : Int32))), .val (.int (p2 &&& (255 : Int32))), .val (.int (p3 &&& (255 : Int32))), .val (.ref b8), .unset] [(.int (1 : Int32)), (.int (1 : Int32)), (.ref b8)]))
    refine OGo.st (fun _ k => XS.iadd X9.here hx rfl (hb hby at_67) rfl k) ?_
    rw [show ((1 : Int32) + (1 : Int32)) = (2 : Int32) from by decide]
    show OGo p e below s _ _ _ (T9.setTop (mkF m 68 #[.val (.int p0), .val (.int p1), .val (.int p2), .val (.int p3), .val (.int p4), .val (.int p5), .val (.int (1 : Int32)), .val (.int ((p5 &&& (2147483647 : Int32)) % (7 : Int32))), .val (.int ((p0 &&& (255 : Int32)) ||| (128 : Int32))), .val (.int (p1 &&& (255 : Int32))), .val (.int (p2 &&& (255 : Int32))), .val (.int (p3 &&& (255 : Int32))), .val (.ref b8), .unset] [(.int (2 : Int32)), (.ref b8)]))
    refine OGo.st (fun _ k => XS.iload X9.here hx rfl (hb hby at_68) rfl k) ?_
    show OGo p e below s _ _ _ (T9.setTop (mkF m 70 #[.val (.int p0), .val (.int p1), .val (.int p2), .val (.int p3), .val (.int p4), .val (.int p5), .val (.int (1 : Int32)), .val (.int ((p5 &&& (2147483647 : Int32)) % (7 : Int32))), .val (.int ((p0 &&& (255 : Int32)) ||| (128 : Int32))), .val (.int (p1 &&& (255 : Int32))), .val (.int (p2 &&& (255 : Int32))), .val (.int (p3 &&& (255 : Int32))), .val (.ref b8), .unset] [(.int (p1 &&& (255 : Int32))), (.int (2 : Int32)), (.ref b8)]))
    refine OGo.st (fun _ k => XS.i2b X9.here hx rfl (hb hby at_70) rfl k) ?_
    show OGo p e below s _ _ _ (T9.setTop (mkF m 71 #[.val (.int p0), .val (.int p1), .val (.int p2), .val (.int p3), .val (.int p4), .val (.int p5), .val (.int (1 : Int32)), .val (.int ((p5 &&& (2147483647 : Int32)) % (7 : Int32))), .val (.int ((p0 &&& (255 : Int32)) ||| (128 : Int32))), .val (.int (p1 &&& (255 : Int32))), .val (.int (p2 &&& (255 : Int32))), .val (.int (p3 &&& (255 : Int32))), .val (.ref b8), .unset] [(.int ((p1 &&& (255 : Int32)).toInt8.toInt32)), (.int (2 : Int32)), (.ref b8)]))
    obtain ⟨cl10, Ar10, q10, Sz10, Nn10, Hs10, Gs10⟩ := id V9
    have hin10 : ¬ ((2 : Int32) < 0 ∨ cl10.slots.size ≤ ((2 : Int32)).toNatClampNeg) := inb_of Sz10 ⟨by decide, by decide⟩
    obtain ⟨T10, h10, X10, e10, W10, st10⟩ := stB X9 hx hZ e9 Ar10 (j := (2 : Int32)) hin10 (g := (mkF m 71 #[.val (.int p0), .val (.int p1), .val (.int p2), .val (.int p3), .val (.int p4), .val (.int p5), .val (.int (1 : Int32)), .val (.int ((p5 &&& (2147483647 : Int32)) % (7 : Int32))), .val (.int ((p0 &&& (255 : Int32)) ||| (128 : Int32))), .val (.int (p1 &&& (255 : Int32))), .val (.int (p2 &&& (255 : Int32))), .val (.int (p3 &&& (255 : Int32))), .val (.ref b8), .unset] [(.int ((p1 &&& (255 : Int32)).toInt8.toInt32)), (.int (2 : Int32)), (.ref b8)])) rfl rfl (hb hby at_71)
    refine OGo.st st10 ?_
    have K10 : Keep h0 h10 [] := (K9).wr W10 (Or.inr sz_b8)
    have N10 := Fr.snoc X10 N9 g_b8
    have Z10 : n0 ≤ h10.size := Nat.le_trans Z9 (Keep.of_wr W10).1
    have V10 : Arv Z h10 b8 k8 .byte (6 : Int32) [(.int (0 : Int32)), (.int (nar .byte (((p0 &&& (255 : Int32)) ||| (128 : Int32)).toInt8.toInt32))), (.int (nar .byte ((p1 &&& (255 : Int32)).toInt8.toInt32))), (.int (0 : Int32)), (.int (0 : Int32)), (.int (0 : Int32))] (.int (0 : Int32)) := Arv.set Ar10 q10 Sz10 Nn10 Hs10 Gs10 (fits_nar_byte _) W10 2 rfl (Nat.le_of_ble_eq_true rfl)
    show OGo p e below s _ _ _ (T10.setTop (mkF m 72 #[.val (.int p0), .val (.int p1), .val (.int p2), .val (.int p3), .val (.int p4), .val (.int p5), .val (.int (1 : Int32)), .val (.int ((p5 &&& (2147483647 : Int32)) % (7 : Int32))), .val (.int ((p0 &&& (255 : Int32)) ||| (128 : Int32))), .val (.int (p1 &&& (255 : Int32))), .val (.int (p2 &&& (255 : Int32))), .val (.int (p3 &&& (255 : Int32))), .val (.ref b8), .unset] []))
    refine OGo.st (fun _ k => XS.aload X10.here hx rfl (hb hby at_72) rfl rfl k) ?_
    show OGo p e below s _ _ _ (T10.setTop (mkF m 74 #[.val (.int p0), .val (.int p1), .val (.int p2), .val (.int p3), .val (.int p4), .val (.int p5), .val (.int (1 : Int32)), .val (.int ((p5 &&& (2147483647 : Int32)) % (7 : Int32))), .val (.int ((p0 &&& (255 : Int32)) ||| (128 : Int32))), .val (.int (p1 &&& (255 : Int32))), .val (.int (p2 &&& (255 : Int32))), .val (.int (p3 &&& (255 : Int32))), .val (.ref b8), .unset] [(.ref b8)]))
    refine OGo.st (fun _ k => XS.iload X10.here hx rfl (hb hby at_74) rfl k) ?_
    show OGo p e below s _ _ _ (T10.setTop (mkF m 76 #[.val (.int p0), .val (.int p1), .val (.int p2), .val (.int p3), .val (.int p4), .val (.int p5), .val (.int (1 : Int32)), .val (.int ((p5 &&& (2147483647 : Int32)) % (7 : Int32))), .val (.int ((p0 &&& (255 : Int32)) ||| (128 : Int32))), .val (.int (p1 &&& (255 : Int32))), .val (.int (p2 &&& (255 : Int32))), .val (.int (p3 &&& (255 : Int32))), .val (.ref b8), .unset] [(.int (1 : Int32)), (.ref b8)]))
    refine OGo.st (fun _ k => XS.iconst X10.here hx rfl (hb hby at_76) k) ?_
    show OGo p e below s _ _ _ (T10.setTop (mkF m 77 #[.val (.int p0), .val (.int p1), .val (.int p2), .val (.int p3), .val (.int p4), .val (.int p5), .val (.int (1 : Int32)), .val (.int ((p5 &&& (2147483647 : Int32)) % (7 : Int32))), .val (.int ((p0 &&& (255 : Int32)) ||| (128 : Int32))), .val (.int (p1 &&& (255 : Int32))), .val (.int (p2 &&& (255 : Int32))), .val (.int (p3 &&& (255 : Int32))), .val (.ref b8), .unset] [(.int (2 : Int32)), (.int (1 : Int32)), (.ref b8)]))
    refine OGo.st (fun _ k => XS.iadd X10.here hx rfl (hb hby at_77) rfl k) ?_
    rw [show ((1 : Int32) + (2 : Int32)) = (3 : Int32) from by decide]
    show OGo p e below s _ _ _ (T10.setTop (mkF m 78 #[.val (.int p0), .val (.int p1), .val (.int p2), .val (.int p3), .val (.int p4), .val (.int p5), .val (.int (1 : Int32)), .val (.int ((p5 &&& (2147483647 : Int32)) % (7 : Int32))), .val (.int ((p0 &&& (255 : Int32)) ||| (128 : Int32))), .val (.int (p1 &&& (255 : Int32))), .val (.int (p2 &&& (255 : Int32))), .val (.int (p3 &&& (255 : Int32))), .val (.ref b8), .unset] [(.int (3 : Int32)), (.ref b8)]))
    refine OGo.st (fun _ k => XS.iload X10.here hx rfl (hb hby at_78) rfl k) ?_
    show OGo p e below s _ _ _ (T10.setTop (mkF m 80 #[.val (.int p0), .val (.int p1), .val (.int p2), .val (.int p3), .val (.int p4), .val (.int p5), .val (.int (1 : Int32)), .val (.int ((p5 &&& (2147483647 : Int32)) % (7 : Int32))), .val (.int ((p0 &&& (255 : Int32)) ||| (128 : Int32))), .val (.int (p1 &&& (255 : Int32))), .val (.int (p2 &&& (255 : Int32))), .val (.int (p3 &&& (255 : Int32))), .val (.ref b8), .unset] [(.int (p2 &&& (255 : Int32))), (.int (3 : Int32)), (.ref b8)]))
    refine OGo.st (fun _ k => XS.i2b X10.here hx rfl (hb hby at_80) rfl k) ?_
    show OGo p e below s _ _ _ (T10.setTop (mkF m 81 #[.val (.int p0), .val (.int p1), .val (.int p2), .val (.int p3), .val (.int p4), .val (.int p5), .val (.int (1 : Int32)), .val (.int ((p5 &&& (2147483647 : Int32)) % (7 : Int32))), .val (.int ((p0 &&& (255 : Int32)) ||| (128 : Int32))), .val (.int (p1 &&& (255 : Int32))), .val (.int (p2 &&& (255 : Int32))), .val (.int (p3 &&& (255 : Int32))), .val (.ref b8), .unset] [(.int ((p2 &&& (255 : Int32)).toInt8.toInt32)), (.int (3 : Int32)), (.ref b8)]))
    obtain ⟨cl11, Ar11, q11, Sz11, Nn11, Hs11, Gs11⟩ := id V10
    have hin11 : ¬ ((3 : Int32) < 0 ∨ cl11.slots.size ≤ ((3 : Int32)).toNatClampNeg) := inb_of Sz11 ⟨by decide, by decide⟩
    obtain ⟨T11, h11, X11, e11, W11, st11⟩ := stB X10 hx hZ e10 Ar11 (j := (3 : Int32)) hin11 (g := (mkF m 81 #[.val (.int p0), .val (.int p1), .val (.int p2), .val (.int p3), .val (.int p4), .val (.int p5), .val (.int (1 : Int32)), .val (.int ((p5 &&& (2147483647 : Int32)) % (7 : Int32))), .val (.int ((p0 &&& (255 : Int32)) ||| (128 : Int32))), .val (.int (p1 &&& (255 : Int32))), .val (.int (p2 &&& (255 : Int32))), .val (.int (p3 &&& (255 : Int32))), .val (.ref b8), .unset] [(.int ((p2 &&& (255 : Int32)).toInt8.toInt32)), (.int (3 : Int32)), (.ref b8)])) rfl rfl (hb hby at_81)
    refine OGo.st st11 ?_
    have K11 : Keep h0 h11 [] := (K10).wr W11 (Or.inr sz_b8)
    have N11 := Fr.snoc X11 N10 g_b8
    have Z11 : n0 ≤ h11.size := Nat.le_trans Z10 (Keep.of_wr W11).1
    have V11 : Arv Z h11 b8 k8 .byte (6 : Int32) [(.int (0 : Int32)), (.int (nar .byte (((p0 &&& (255 : Int32)) ||| (128 : Int32)).toInt8.toInt32))), (.int (nar .byte ((p1 &&& (255 : Int32)).toInt8.toInt32))), (.int (nar .byte ((p2 &&& (255 : Int32)).toInt8.toInt32))), (.int (0 : Int32)), (.int (0 : Int32))] (.int (0 : Int32)) := Arv.set Ar11 q11 Sz11 Nn11 Hs11 Gs11 (fits_nar_byte _) W11 3 rfl (Nat.le_of_ble_eq_true rfl)
    show OGo p e below s _ _ _ (T11.setTop (mkF m 82 #[.val (.int p0), .val (.int p1), .val (.int p2), .val (.int p3), .val (.int p4), .val (.int p5), .val (.int (1 : Int32)), .val (.int ((p5 &&& (2147483647 : Int32)) % (7 : Int32))), .val (.int ((p0 &&& (255 : Int32)) ||| (128 : Int32))), .val (.int (p1 &&& (255 : Int32))), .val (.int (p2 &&& (255 : Int32))), .val (.int (p3 &&& (255 : Int32))), .val (.ref b8), .unset] []))
    refine OGo.st (fun _ k => XS.aload X11.here hx rfl (hb hby at_82) rfl rfl k) ?_
    show OGo p e below s _ _ _ (T11.setTop (mkF m 84 #[.val (.int p0), .val (.int p1), .val (.int p2), .val (.int p3), .val (.int p4), .val (.int p5), .val (.int (1 : Int32)), .val (.int ((p5 &&& (2147483647 : Int32)) % (7 : Int32))), .val (.int ((p0 &&& (255 : Int32)) ||| (128 : Int32))), .val (.int (p1 &&& (255 : Int32))), .val (.int (p2 &&& (255 : Int32))), .val (.int (p3 &&& (255 : Int32))), .val (.ref b8), .unset] [(.ref b8)]))
    refine OGo.st (fun _ k => XS.iload X11.here hx rfl (hb hby at_84) rfl k) ?_
    show OGo p e below s _ _ _ (T11.setTop (mkF m 86 #[.val (.int p0), .val (.int p1), .val (.int p2), .val (.int p3), .val (.int p4), .val (.int p5), .val (.int (1 : Int32)), .val (.int ((p5 &&& (2147483647 : Int32)) % (7 : Int32))), .val (.int ((p0 &&& (255 : Int32)) ||| (128 : Int32))), .val (.int (p1 &&& (255 : Int32))), .val (.int (p2 &&& (255 : Int32))), .val (.int (p3 &&& (255 : Int32))), .val (.ref b8), .unset] [(.int (1 : Int32)), (.ref b8)]))
    refine OGo.st (fun _ k => XS.iconst X11.here hx rfl (hb hby at_86) k) ?_
    show OGo p e below s _ _ _ (T11.setTop (mkF m 87 #[.val (.int p0), .val (.int p1), .val (.int p2), .val (.int p3), .val (.int p4), .val (.int p5), .val (.int (1 : Int32)), .val (.int ((p5 &&& (2147483647 : Int32)) % (7 : Int32))), .val (.int ((p0 &&& (255 : Int32)) ||| (128 : Int32))), .val (.int (p1 &&& (255 : Int32))), .val (.int (p2 &&& (255 : Int32))), .val (.int (p3 &&& (255 : Int32))), .val (.ref b8), .unset] [(.int (3 : Int32)), (.int (1 : Int32)), (.ref b8)]))
    refine OGo.st (fun _ k => XS.iadd X11.here hx rfl (hb hby at_87) rfl k) ?_
    rw [show ((1 : Int32) + (3 : Int32)) = (4 : Int32) from by decide]
    show OGo p e below s _ _ _ (T11.setTop (mkF m 88 #[.val (.int p0), .val (.int p1), .val (.int p2), .val (.int p3), .val (.int p4), .val (.int p5), .val (.int (1 : Int32)), .val (.int ((p5 &&& (2147483647 : Int32)) % (7 : Int32))), .val (.int ((p0 &&& (255 : Int32)) ||| (128 : Int32))), .val (.int (p1 &&& (255 : Int32))), .val (.int (p2 &&& (255 : Int32))), .val (.int (p3 &&& (255 : Int32))), .val (.ref b8), .unset] [(.int (4 : Int32)), (.ref b8)]))
    refine OGo.st (fun _ k => XS.iload X11.here hx rfl (hb hby at_88) rfl k) ?_
    show OGo p e below s _ _ _ (T11.setTop (mkF m 90 #[.val (.int p0), .val (.int p1), .val (.int p2), .val (.int p3), .val (.int p4), .val (.int p5), .val (.int (1 : Int32)), .val (.int ((p5 &&& (2147483647 : Int32)) % (7 : Int32))), .val (.int ((p0 &&& (255 : Int32)) ||| (128 : Int32))), .val (.int (p1 &&& (255 : Int32))), .val (.int (p2 &&& (255 : Int32))), .val (.int (p3 &&& (255 : Int32))), .val (.ref b8), .unset] [(.int (p3 &&& (255 : Int32))), (.int (4 : Int32)), (.ref b8)]))
    refine OGo.st (fun _ k => XS.i2b X11.here hx rfl (hb hby at_90) rfl k) ?_
    show OGo p e below s _ _ _ (T11.setTop (mkF m 91 #[.val (.int p0), .val (.int p1), .val (.int p2), .val (.int p3), .val (.int p4), .val (.int p5), .val (.int (1 : Int32)), .val (.int ((p5 &&& (2147483647 : Int32)) % (7 : Int32))), .val (.int ((p0 &&& (255 : Int32)) ||| (128 : Int32))), .val (.int (p1 &&& (255 : Int32))), .val (.int (p2 &&& (255 : Int32))), .val (.int (p3 &&& (255 : Int32))), .val (.ref b8), .unset] [(.int ((p3 &&& (255 : Int32)).toInt8.toInt32)), (.int (4 : Int32)), (.ref b8)]))
    obtain ⟨cl12, Ar12, q12, Sz12, Nn12, Hs12, Gs12⟩ := id V11
    have hin12 : ¬ ((4 : Int32) < 0 ∨ cl12.slots.size ≤ ((4 : Int32)).toNatClampNeg) := inb_of Sz12 ⟨by decide, by decide⟩
    obtain ⟨T12, h12, X12, e12, W12, st12⟩ := stB X11 hx hZ e11 Ar12 (j := (4 : Int32)) hin12 (g := (mkF m 91 #[.val (.int p0), .val (.int p1), .val (.int p2), .val (.int p3), .val (.int p4), .val (.int p5), .val (.int (1 : Int32)), .val (.int ((p5 &&& (2147483647 : Int32)) % (7 : Int32))), .val (.int ((p0 &&& (255 : Int32)) ||| (128 : Int32))), .val (.int (p1 &&& (255 : Int32))), .val (.int (p2 &&& (255 : Int32))), .val (.int (p3 &&& (255 : Int32))), .val (.ref b8), .unset] [(.int ((p3 &&& (255 : Int32)).toInt8.toInt32)), (.int (4 : Int32)), (.ref b8)])) rfl rfl (hb hby at_91)
    refine OGo.st st12 ?_
    have K12 : Keep h0 h12 [] := (K11).wr W12 (Or.inr sz_b8)
    have N12 := Fr.snoc X12 N11 g_b8
    have Z12 : n0 ≤ h12.size := Nat.le_trans Z11 (Keep.of_wr W12).1
    have V12 : Arv Z h12 b8 k8 .byte (6 : Int32) [(.int (0 : Int32)), (.int (nar .byte (((p0 &&& (255 : Int32)) ||| (128 : Int32)).toInt8.toInt32))), (.int (nar .byte ((p1 &&& (255 : Int32)).toInt8.toInt32))), (.int (nar .byte ((p2 &&& (255 : Int32)).toInt8.toInt32))), (.int (nar .byte ((p3 &&& (255 : Int32)).toInt8.toInt32))), (.int (0 : Int32))] (.int (0 : Int32)) := Arv.set Ar12 q12 Sz12 Nn12 Hs12 Gs12 (fits_nar_byte _) W12 4 rfl (Nat.le_of_ble_eq_true rfl)
    show OGo p e below s _ _ _ (T12.setTop (mkF m 92 #[.val (.int p0), .val (.int p1), .val (.int p2), .val (.int p3), .val (.int p4), .val (.int p5), .val (.int (1 : Int32)), .val (.int ((p5 &&& (2147483647 : Int32)) % (7 : Int32))), .val (.int ((p0 &&& (255 : Int32)) ||| (128 : Int32))), .val (.int (p1 &&& (255 : Int32))), .val (.int (p2 &&& (255 : Int32))), .val (.int (p3 &&& (255 : Int32))), .val (.ref b8), .unset] []))
    refine OGo.st (fun _ k => XS.aload X12.here hx rfl (hb hby at_92) rfl rfl k) ?_
    show OGo p e below s _ _ _ (T12.setTop (mkF m 94 #[.val (.int p0), .val (.int p1), .val (.int p2), .val (.int p3), .val (.int p4), .val (.int p5), .val (.int (1 : Int32)), .val (.int ((p5 &&& (2147483647 : Int32)) % (7 : Int32))), .val (.int ((p0 &&& (255 : Int32)) ||| (128 : Int32))), .val (.int (p1 &&& (255 : Int32))), .val (.int (p2 &&& (255 : Int32))), .val (.int (p3 &&& (255 : Int32))), .val (.ref b8), .unset] [(.ref b8)]))
    refine OGo.st (fun _ k => XS.iload X12.here hx rfl (hb hby at_94) rfl k) ?_
    show OGo p e below s _ _ _ (T12.setTop (mkF m 96 #[.val (.int p0), .val (.int p1), .val (.int p2), .val (.int p3), .val (.int p4), .val (.int p5), .val (.int (1 : Int32)), .val (.int ((p5 &&& (2147483647 : Int32)) % (7 : Int32))), .val (.int ((p0 &&& (255 : Int32)) ||| (128 : Int32))), .val (.int (p1 &&& (255 : Int32))), .val (.int (p2 &&& (255 : Int32))), .val (.int (p3 &&& (255 : Int32))), .val (.ref b8), .unset] [(.int (1 : Int32)), (.ref b8)]))
    refine OGo.st (fun _ k => XS.iload X12.here hx rfl (hb hby at_96) rfl k) ?_
    show OGo p e below s _ _ _ (T12.setTop (mkF m 98 #[.val (.int p0), .val (.int p1), .val (.int p2), .val (.int p3), .val (.int p4), .val (.int p5), .val (.int (1 : Int32)), .val (.int ((p5 &&& (2147483647 : Int32)) % (7 : Int32))), .val (.int ((p0 &&& (255 : Int32)) ||| (128 : Int32))), .val (.int (p1 &&& (255 : Int32))), .val (.int (p2 &&& (255 : Int32))), .val (.int (p3 &&& (255 : Int32))), .val (.ref b8), .unset] [(.int ((p5 &&& (2147483647 : Int32)) % (7 : Int32))), (.int (1 : Int32)), (.ref b8)]))
    obtain ⟨_, _, ⟨T13, L13, k13, n13⟩, -, X13, ⟨Lc13, hQ13, l13, y13, z13⟩, st13⟩ := Jvm.LawKit.callS X12 hx (y := (⟨"com/example/evbind/evbind/Utf8", "sequenceEnd", "([BII)I"⟩ : MethodName)) hown (mvT hZ (hw _ (List.mem_of_getElem? (i := 2) rfl))) (mvT hZ (hw _ (List.mem_of_getElem? (i := 3) rfl))) (mvT hZ (hw _ (List.mem_of_getElem? (i := 4) rfl))) (mvT hZ (hw _ (List.mem_of_getElem? (i := 5) rfl))) (by decide) (backOf (W := 0) (rm1L1 l Z a0 hw [] b8 ((p5 &&& (2147483647 : Int32)) % (7 : Int32)) k8 (0 : Int32) (nar .byte (((p0 &&& (255 : Int32)) ||| (128 : Int32)).toInt8.toInt32)) (nar .byte ((p1 &&& (255 : Int32)).toInt8.toInt32)) (nar .byte ((p2 &&& (255 : Int32)).toInt8.toInt32)) (nar .byte ((p3 &&& (255 : Int32)).toInt8.toInt32)) (0 : Int32) h12 n0 Z12 V12) hZ (hw _ (List.mem_of_getElem? (i := 5) rfl)) (hw _ (List.mem_of_getElem? (i := 4) rfl)) (by decide) (by decide)) (g := (mkF m 98 #[.val (.int p0), .val (.int p1), .val (.int p2), .val (.int p3), .val (.int p4), .val (.int p5), .val (.int (1 : Int32)), .val (.int ((p5 &&& (2147483647 : Int32)) % (7 : Int32))), .val (.int ((p0 &&& (255 : Int32)) ||| (128 : Int32))), .val (.int (p1 &&& (255 : Int32))), .val (.int (p2 &&& (255 : Int32))), .val (.int (p3 &&& (255 : Int32))), .val (.ref b8), .unset] [(.int ((p5 &&& (2147483647 : Int32)) % (7 : Int32))), (.int (1 : Int32)), (.ref b8)])) rfl (by rw [hml]; rfl) (argsL := [(.ref b8), (.int (1 : Int32)), (.int ((p5 &&& (2147483647 : Int32)) % (7 : Int32)))]) (rest := []) (lenOf pd_0_0 rfl) rfl (by show 2 * 0 + _ ≤ _; exact Nat.le_of_eq rfl) (hb hby at_98) (fun _ _ => ⟨rfl, e12, (by decide : 1 + 0 ≤ _), (by decide : 6 + 0 ≤ _)⟩)
    dsimp only [Pt.U, Pt.locs, Pt.cells, Pt.slots] at X13 l13 y13 z13 st13 hQ13
    subst l13 y13 z13
    obtain ⟨rfl, N13q, e13⟩ := hQ13
    have N13 := Fr.app N12 N13q
    refine OGo.st st13 ?_
    show OGo p e below s _ _ _ (T13.setTop (mkF m 101 #[.val (.int p0), .val (.int p1), .val (.int p2), .val (.int p3), .val (.int p4), .val (.int p5), .val (.int (1 : Int32)), .val (.int ((p5 &&& (2147483647 : Int32)) % (7 : Int32))), .val (.int ((p0 &&& (255 : Int32)) ||| (128 : Int32))), .val (.int (p1 &&& (255 : Int32))), .val (.int (p2 &&& (255 : Int32))), .val (.int (p3 &&& (255 : Int32))), .val (.ref b8), .unset] [(.int (f1L1 ((p5 &&& (2147483647 : Int32)) % (7 : Int32)) (nar .byte (((p0 &&& (255 : Int32)) ||| (128 : Int32)).toInt8.toInt32)) (nar .byte ((p1 &&& (255 : Int32)).toInt8.toInt32)) (nar .byte ((p2 &&& (255 : Int32)).toInt8.toInt32)) (nar .byte ((p3 &&& (255 : Int32)).toInt8.toInt32))))]))
    refine OGo.st (fun _ k => XS.istore X13.here hx rfl (hb hby at_101) rfl (l' := #[.val (.int p0), .val (.int p1), .val (.int p2), .val (.int p3), .val (.int p4), .val (.int p5), .val (.int (1 : Int32)), .val (.int ((p5 &&& (2147483647 : Int32)) % (7 : Int32))), .val (.int ((p0 &&& (255 : Int32)) ||| (128 : Int32))), .val (.int (p1 &&& (255 : Int32))), .val (.int (p2 &&& (255 : Int32))), .val (.int (p3 &&& (255 : Int32))), .val (.ref b8), .val (.int (v0_1 p0 p1 p2 p3 p4 p5))]) rfl k) ?_
    show OGo p e below s _ _ _ (T13.setTop (mkF m 103 #[.val (.int p0), .val (.int p1), .val (.int p2), .val (.int p3), .val (.int p4), .val (.int p5), .val (.int (1 : Int32)), .val (.int ((p5 &&& (2147483647 : Int32)) % (7 : Int32))), .val (.int ((p0 &&& (255 : Int32)) ||| (128 : Int32))), .val (.int (p1 &&& (255 : Int32))), .val (.int (p2 &&& (255 : Int32))), .val (.int (p3 &&& (255 : Int32))), .val (.ref b8), .val (.int (v0_1 p0 p1 p2 p3 p4 p5))] []))
    refine OGo.st (fun _ k => XS.iload X13.here hx rfl (hb hby at_103) rfl k) ?_
    show OGo p e below s _ _ _ (T13.setTop (mkF m 105 #[.val (.int p0), .val (.int p1), .val (.int p2), .val (.int p3), .val (.int p4), .val (.int p5), .val (.int (1 : Int32)), .val (.int ((p5 &&& (2147483647 : Int32)) % (7 : Int32))), .val (.int ((p0 &&& (255 : Int32)) ||| (128 : Int32))), .val (.int (p1 &&& (255 : Int32))), .val (.int (p2 &&& (255 : Int32))), .val (.int (p3 &&& (255 : Int32))), .val (.ref b8), .val (.int (v0_1 p0 p1 p2 p3 p4 p5))] [(.int (v0_1 p0 p1 p2 p3 p4 p5))]))
    refine OGo.st (fun _ k => XS.iload X13.here hx rfl (hb hby at_105) rfl k) ?_
    show OGo p e below s _ _ _ (T13.setTop (mkF m 107 #[.val (.int p0), .val (.int p1), .val (.int p2), .val (.int p3), .val (.int p4), .val (.int p5), .val (.int (1 : Int32)), .val (.int ((p5 &&& (2147483647 : Int32)) % (7 : Int32))), .val (.int ((p0 &&& (255 : Int32)) ||| (128 : Int32))), .val (.int (p1 &&& (255 : Int32))), .val (.int (p2 &&& (255 : Int32))), .val (.int (p3 &&& (255 : Int32))), .val (.ref b8), .val (.int (v0_1 p0 p1 p2 p3 p4 p5))] [(.int ((p0 &&& (255 : Int32)) ||| (128 : Int32))), (.int (v0_1 p0 p1 p2 p3 p4 p5))]))
    refine OGo.st (fun _ k => XS.iload X13.here hx rfl (hb hby at_107) rfl k) ?_
    show OGo p e below s _ _ _ (T13.setTop (mkF m 109 #[.val (.int p0), .val (.int p1), .val (.int p2), .val (.int p3), .val (.int p4), .val (.int p5), .val (.int (1 : Int32)), .val (.int ((p5 &&& (2147483647 : Int32)) % (7 : Int32))), .val (.int ((p0 &&& (255 : Int32)) ||| (128 : Int32))), .val (.int (p1 &&& (255 : Int32))), .val (.int (p2 &&& (255 : Int32))), .val (.int (p3 &&& (255 : Int32))), .val (.ref b8), .val (.int (v0_1 p0 p1 p2 p3 p4 p5))] [(.int (p1 &&& (255 : Int32))), (.int ((p0 &&& (255 : Int32)) ||| (128 : Int32))), (.int (v0_1 p0 p1 p2 p3 p4 p5))]))
    refine OGo.st (fun _ k => XS.iload X13.here hx rfl (hb hby at_109) rfl k) ?_
    show OGo p e below s _ _ _ (T13.setTop (mkF m 111 #[.val (.int p0), .val (.int p1), .val (.int p2), .val (.int p3), .val (.int p4), .val (.int p5), .val (.int (1 : Int32)), .val (.int ((p5 &&& (2147483647 : Int32)) % (7 : Int32))), .val (.int ((p0 &&& (255 : Int32)) ||| (128 : Int32))), .val (.int (p1 &&& (255 : Int32))), .val (.int (p2 &&& (255 : Int32))), .val (.int (p3 &&& (255 : Int32))), .val (.ref b8), .val (.int (v0_1 p0 p1 p2 p3 p4 p5))] [(.int (p2 &&& (255 : Int32))), (.int (p1 &&& (255 : Int32))), (.int ((p0 &&& (255 : Int32)) ||| (128 : Int32))), (.int (v0_1 p0 p1 p2 p3 p4 p5))]))
    refine OGo.st (fun _ k => XS.iload X13.here hx rfl (hb hby at_111) rfl k) ?_
    show OGo p e below s _ _ _ (T13.setTop (mkF m 113 #[.val (.int p0), .val (.int p1), .val (.int p2), .val (.int p3), .val (.int p4), .val (.int p5), .val (.int (1 : Int32)), .val (.int ((p5 &&& (2147483647 : Int32)) % (7 : Int32))), .val (.int ((p0 &&& (255 : Int32)) ||| (128 : Int32))), .val (.int (p1 &&& (255 : Int32))), .val (.int (p2 &&& (255 : Int32))), .val (.int (p3 &&& (255 : Int32))), .val (.ref b8), .val (.int (v0_1 p0 p1 p2 p3 p4 p5))] [(.int (p3 &&& (255 : Int32))), (.int (p2 &&& (255 : Int32))), (.int (p1 &&& (255 : Int32))), (.int ((p0 &&& (255 : Int32)) ||| (128 : Int32))), (.int (v0_1 p0 p1 p2 p3 p4 p5))]))
    refine OGo.st (fun _ k => XS.iload X13.here hx rfl (hb hby at_113) rfl k) ?_
    show OGo p e below s _ _ _ (T13.setTop (mkF m 115 #[.val (.int p0), .val (.int p1), .val (.int p2), .val (.int p3), .val (.int p4), .val (.int p5), .val (.int (1 : Int32)), .val (.int ((p5 &&& (2147483647 : Int32)) % (7 : Int32))), .val (.int ((p0 &&& (255 : Int32)) ||| (128 : Int32))), .val (.int (p1 &&& (255 : Int32))), .val (.int (p2 &&& (255 : Int32))), .val (.int (p3 &&& (255 : Int32))), .val (.ref b8), .val (.int (v0_1 p0 p1 p2 p3 p4 p5))] [(.int (1 : Int32)), (.int (p3 &&& (255 : Int32))), (.int (p2 &&& (255 : Int32))), (.int (p1 &&& (255 : Int32))), (.int ((p0 &&& (255 : Int32)) ||| (128 : Int32))), (.int (v0_1 p0 p1 p2 p3 p4 p5))]))
    refine OGo.st (fun _ k => XS.iload X13.here hx rfl (hb hby at_115) rfl k) ?_
    show OGo p e below s _ _ _ (T13.setTop (mkF m 117 #[.val (.int p0), .val (.int p1), .val (.int p2), .val (.int p3), .val (.int p4), .val (.int p5), .val (.int (1 : Int32)), .val (.int ((p5 &&& (2147483647 : Int32)) % (7 : Int32))), .val (.int ((p0 &&& (255 : Int32)) ||| (128 : Int32))), .val (.int (p1 &&& (255 : Int32))), .val (.int (p2 &&& (255 : Int32))), .val (.int (p3 &&& (255 : Int32))), .val (.ref b8), .val (.int (v0_1 p0 p1 p2 p3 p4 p5))] [(.int ((p5 &&& (2147483647 : Int32)) % (7 : Int32))), (.int (1 : Int32)), (.int (p3 &&& (255 : Int32))), (.int (p2 &&& (255 : Int32))), (.int (p1 &&& (255 : Int32))), (.int ((p0 &&& (255 : Int32)) ||| (128 : Int32))), (.int (v0_1 p0 p1 p2 p3 p4 p5))]))
    obtain ⟨_, _, ⟨T14, L14, k14, n14⟩, -, X14, ⟨Lc14, hQ14, l14, y14, z14⟩, st14⟩ := Jvm.LawKit.callS X13 hx (y := (⟨"com/example/evbind/evbind/Utf8SequenceEndPinLaw", "expected", "(IIIIII)I"⟩ : MethodName)) hown (mvT hZ (hw _ (List.mem_of_getElem? (i := 6) rfl))) (mvT hZ (hw _ (List.mem_of_getElem? (i := 7) rfl))) (mvT hZ (hw _ (List.mem_of_getElem? (i := 8) rfl))) (mvT hZ (hw _ (List.mem_of_getElem? (i := 9) rfl))) (by decide) (backOf (W := 1) (rm2 l Z a0 hw [] ((p0 &&& (255 : Int32)) ||| (128 : Int32)) (p1 &&& (255 : Int32)) (p2 &&& (255 : Int32)) (p3 &&& (255 : Int32)) (1 : Int32) ((p5 &&& (2147483647 : Int32)) % (7 : Int32)) h12 n0 Z12) hZ (hw _ (List.mem_of_getElem? (i := 9) rfl)) (hw _ (List.mem_of_getElem? (i := 8) rfl)) (by decide) (by decide)) (g := (mkF m 117 #[.val (.int p0), .val (.int p1), .val (.int p2), .val (.int p3), .val (.int p4), .val (.int p5), .val (.int (1 : Int32)), .val (.int ((p5 &&& (2147483647 : Int32)) % (7 : Int32))), .val (.int ((p0 &&& (255 : Int32)) ||| (128 : Int32))), .val (.int (p1 &&& (255 : Int32))), .val (.int (p2 &&& (255 : Int32))), .val (.int (p3 &&& (255 : Int32))), .val (.ref b8), .val (.int (v0_1 p0 p1 p2 p3 p4 p5))] [(.int ((p5 &&& (2147483647 : Int32)) % (7 : Int32))), (.int (1 : Int32)), (.int (p3 &&& (255 : Int32))), (.int (p2 &&& (255 : Int32))), (.int (p1 &&& (255 : Int32))), (.int ((p0 &&& (255 : Int32)) ||| (128 : Int32))), (.int (v0_1 p0 p1 p2 p3 p4 p5))])) rfl (by rw [hml]; rfl) (argsL := [(.int ((p0 &&& (255 : Int32)) ||| (128 : Int32))), (.int (p1 &&& (255 : Int32))), (.int (p2 &&& (255 : Int32))), (.int (p3 &&& (255 : Int32))), (.int (1 : Int32)), (.int ((p5 &&& (2147483647 : Int32)) % (7 : Int32)))]) (rest := [(.int (v0_1 p0 p1 p2 p3 p4 p5))]) (lenOf pd_0_1 rfl) rfl (by show 2 * 0 + _ ≤ _; exact Nat.le_of_eq rfl) (hb hby at_117) (fun _ _ => ⟨rfl, e13, (by decide : 1 + 0 ≤ _), (by decide : 6 + 0 ≤ _)⟩)
    dsimp only [Pt.U, Pt.locs, Pt.cells, Pt.slots] at X14 l14 y14 z14 st14 hQ14
    subst l14 y14 z14
    obtain ⟨rfl, N14q, e14⟩ := hQ14
    have N14 := Fr.app N13 N14q
    refine OGo.st st14 ?_
    show OGo p e below s _ _ _ (T14.setTop (mkF m 120 #[.val (.int p0), .val (.int p1), .val (.int p2), .val (.int p3), .val (.int p4), .val (.int p5), .val (.int (1 : Int32)), .val (.int ((p5 &&& (2147483647 : Int32)) % (7 : Int32))), .val (.int ((p0 &&& (255 : Int32)) ||| (128 : Int32))), .val (.int (p1 &&& (255 : Int32))), .val (.int (p2 &&& (255 : Int32))), .val (.int (p3 &&& (255 : Int32))), .val (.ref b8), .val (.int (v0_1 p0 p1 p2 p3 p4 p5))] [(.int (f2 ((p0 &&& (255 : Int32)) ||| (128 : Int32)) (p1 &&& (255 : Int32)) (p2 &&& (255 : Int32)) (p3 &&& (255 : Int32)) (1 : Int32) ((p5 &&& (2147483647 : Int32)) % (7 : Int32)))), (.int (v0_1 p0 p1 p2 p3 p4 p5))]))
    by_cases hc120 : (v0_1 p0 p1 p2 p3 p4 p5) = (f2 ((p0 &&& (255 : Int32)) ||| (128 : Int32)) (p1 &&& (255 : Int32)) (p2 &&& (255 : Int32)) (p3 &&& (255 : Int32)) (1 : Int32) ((p5 &&& (2147483647 : Int32)) % (7 : Int32)))
    · refine OGo.st (fun _ k => XS.icmpNo X14.here hx rfl (hb hby at_120) rfl (teq hc120).2 k) ?_
      show OGo p e below s _ _ _ (T14.setTop (mkF m 123 #[.val (.int p0), .val (.int p1), .val (.int p2), .val (.int p3), .val (.int p4), .val (.int p5), .val (.int (1 : Int32)), .val (.int ((p5 &&& (2147483647 : Int32)) % (7 : Int32))), .val (.int ((p0 &&& (255 : Int32)) ||| (128 : Int32))), .val (.int (p1 &&& (255 : Int32))), .val (.int (p2 &&& (255 : Int32))), .val (.int (p3 &&& (255 : Int32))), .val (.ref b8), .val (.int (v0_1 p0 p1 p2 p3 p4 p5))] []))
      refine OGo.st (fun _ k => XS.iconst X14.here hx rfl (hb hby at_123) k) ?_
      show OGo p e below s _ _ _ (T14.setTop (mkF m 124 #[.val (.int p0), .val (.int p1), .val (.int p2), .val (.int p3), .val (.int p4), .val (.int p5), .val (.int (1 : Int32)), .val (.int ((p5 &&& (2147483647 : Int32)) % (7 : Int32))), .val (.int ((p0 &&& (255 : Int32)) ||| (128 : Int32))), .val (.int (p1 &&& (255 : Int32))), .val (.int (p2 &&& (255 : Int32))), .val (.int (p3 &&& (255 : Int32))), .val (.ref b8), .val (.int (v0_1 p0 p1 p2 p3 p4 p5))] [(.int (1 : Int32))]))
      refine OGo.st (fun _ k => XS.goto X14.here hx rfl (pc0 := 124) (pc' := 128) rfl (hb hby at_124) (by decide) (by decide) k) ?_
      show OGo p e below s _ _ _ (T14.setTop (mkF m 128 #[.val (.int p0), .val (.int p1), .val (.int p2), .val (.int p3), .val (.int p4), .val (.int p5), .val (.int (1 : Int32)), .val (.int ((p5 &&& (2147483647 : Int32)) % (7 : Int32))), .val (.int ((p0 &&& (255 : Int32)) ||| (128 : Int32))), .val (.int (p1 &&& (255 : Int32))), .val (.int (p2 &&& (255 : Int32))), .val (.int (p3 &&& (255 : Int32))), .val (.ref b8), .val (.int (v0_1 p0 p1 p2 p3 p4 p5))] [(.int (1 : Int32))]))
      exact oretN X14 hx Bd.notSynchronized (t := .boolean) Bd.returns (by simp) (hb hby at_128) (z' := (1 : Int32)) (by decide) e14 ⟨(congrArg (fun z => some (Value.int z)) (show (1 : Int32) = f0 p0 p1 p2 p3 p4 p5 from Eq.symm (by unfold f0; exact (if_neg hc4).trans (if_pos hc120)))), N14⟩ (by decide) (by decide)
    · refine OGo.st (fun _ k => XS.icmpYes X14.here hx rfl (pc0 := 120) (pc' := 127) rfl (hb hby at_120) rfl (feq hc120).2 (by decide) (by decide) k) ?_
      show OGo p e below s _ _ _ (T14.setTop (mkF m 127 #[.val (.int p0), .val (.int p1), .val (.int p2), .val (.int p3), .val (.int p4), .val (.int p5), .val (.int (1 : Int32)), .val (.int ((p5 &&& (2147483647 : Int32)) % (7 : Int32))), .val (.int ((p0 &&& (255 : Int32)) ||| (128 : Int32))), .val (.int (p1 &&& (255 : Int32))), .val (.int (p2 &&& (255 : Int32))), .val (.int (p3 &&& (255 : Int32))), .val (.ref b8), .val (.int (v0_1 p0 p1 p2 p3 p4 p5))] []))
      refine OGo.st (fun _ k => XS.iconst X14.here hx rfl (hb hby at_127) k) ?_
      show OGo p e below s _ _ _ (T14.setTop (mkF m 128 #[.val (.int p0), .val (.int p1), .val (.int p2), .val (.int p3), .val (.int p4), .val (.int p5), .val (.int (1 : Int32)), .val (.int ((p5 &&& (2147483647 : Int32)) % (7 : Int32))), .val (.int ((p0 &&& (255 : Int32)) ||| (128 : Int32))), .val (.int (p1 &&& (255 : Int32))), .val (.int (p2 &&& (255 : Int32))), .val (.int (p3 &&& (255 : Int32))), .val (.ref b8), .val (.int (v0_1 p0 p1 p2 p3 p4 p5))] [(.int (0 : Int32))]))
      exact oretN X14 hx Bd.notSynchronized (t := .boolean) Bd.returns (by simp) (hb hby at_128) (z' := (0 : Int32)) (by decide) e14 ⟨(congrArg (fun z => some (Value.int z)) (show (0 : Int32) = f0 p0 p1 p2 p3 p4 p5 from Eq.symm (by unfold f0; exact (if_neg hc4).trans (if_neg hc120)))), N14⟩ (by decide) (by decide)
theorem own_k0 : (0 : Int32).toInt = 0 := by decide
theorem own_k1 : (1 : Int32).toInt = 1 := by decide
theorem own_k2 : (2 : Int32).toInt = 2 := by decide
theorem own_k3 : (3 : Int32).toInt = 3 := by decide
theorem own_k4 : (4 : Int32).toInt = 4 := by decide
theorem own_k5 : (5 : Int32).toInt = 5 := by decide
theorem own_k128 : (128 : Int32).toInt = 128 := by decide
theorem own_k143 : (143 : Int32).toInt = 143 := by decide
theorem own_k144 : (144 : Int32).toInt = 144 := by decide
theorem own_k159 : (159 : Int32).toInt = 159 := by decide
theorem own_k160 : (160 : Int32).toInt = 160 := by decide
theorem own_k191 : (191 : Int32).toInt = 191 := by decide
theorem own_k192 : (192 : Int32).toInt = 192 := by decide
theorem own_k194 : (194 : Int32).toInt = 194 := by decide
theorem own_k223 : (223 : Int32).toInt = 223 := by decide
theorem own_k224 : (224 : Int32).toInt = 224 := by decide
theorem own_k237 : (237 : Int32).toInt = 237 := by decide
theorem own_k239 : (239 : Int32).toInt = 239 := by decide
theorem own_k240 : (240 : Int32).toInt = 240 := by decide
theorem own_k244 : (244 : Int32).toInt = 244 := by decide
theorem own_k2048 : (2048 : Int32).toInt = 2048 := by decide
theorem own_k55296 : (55296 : Int32).toInt = 55296 := by decide
theorem own_k57343 : (57343 : Int32).toInt = 57343 := by decide
theorem own_k65536 : (65536 : Int32).toInt = 65536 := by decide
theorem own_k1114111 : (1114111 : Int32).toInt = 1114111 := by decide
theorem own_all (P : Int32 → Prop) (h : ∀ n : Fin 256, P (Int32.ofNat n.val)) (y : Int32) (h0 : 0 ≤ y.toInt) (h1 : y.toInt ≤ 255) : P y := by
  have e : y = Int32.ofNat y.toInt.toNat := by
    apply Int32.toInt_inj.mp
    rw [Int32.toInt_ofNat_of_lt (by omega)]; omega
  have q := h ⟨y.toInt.toNat, by omega⟩
  rw [e]; exact q
theorem own_F (F : Int32) (h0 : 0 ≤ F.toInt) (h1 : F.toInt ≤ 255) : (((F &&& (224 : Int32)) = (192 : Int32)) ↔ (192 ≤ F.toInt ∧ F.toInt ≤ 223)) ∧ (((F &&& (240 : Int32)) = (224 : Int32)) ↔ (224 ≤ F.toInt ∧ F.toInt ≤ 239)) ∧ (((F &&& (248 : Int32)) = (240 : Int32)) ↔ (240 ≤ F.toInt ∧ F.toInt ≤ 247)) :=
  own_all (fun F => (((F &&& (224 : Int32)) = (192 : Int32)) ↔ (192 ≤ F.toInt ∧ F.toInt ≤ 223)) ∧ (((F &&& (240 : Int32)) = (224 : Int32)) ↔ (224 ≤ F.toInt ∧ F.toInt ≤ 239)) ∧ (((F &&& (248 : Int32)) = (240 : Int32)) ↔ (240 ≤ F.toInt ∧ F.toInt ≤ 247))) (by decide +kernel) F h0 h1
theorem own_C (F : Int32) (h0 : 0 ≤ F.toInt) (h1 : F.toInt ≤ 255) : (((F &&& (192 : Int32)) = (128 : Int32)) ↔ (128 ≤ F.toInt ∧ F.toInt ≤ 191)) :=
  own_all (fun F => (((F &&& (192 : Int32)) = (128 : Int32)) ↔ (128 ≤ F.toInt ∧ F.toInt ≤ 191))) (by decide +kernel) F h0 h1
theorem own_if10 (p : Prop) [Decidable p] : ((if p then (1 : Int32) else (0 : Int32)) = (0 : Int32)) ↔ ¬ p := by by_cases h : p <;> simp [h]
theorem own_e224 (x : Int32) : (x = (224 : Int32)) ↔ (x.toInt = 224) := by rw [← Int32.toInt_inj, own_k224]
theorem own_e237 (x : Int32) : (x = (237 : Int32)) ↔ (x.toInt = 237) := by rw [← Int32.toInt_inj, own_k237]
theorem own_e240 (x : Int32) : (x = (240 : Int32)) ↔ (x.toInt = 240) := by rw [← Int32.toInt_inj, own_k240]
theorem own_e244 (x : Int32) : (x = (244 : Int32)) ↔ (x.toInt = 244) := by rw [← Int32.toInt_inj, own_k244]
theorem own_cp (a b : Int32) (h1 : 0 ≤ a.toInt) (h2 : a.toInt < 2 ^ 24) (h3 : 0 ≤ b.toInt) (h4 : b.toInt < 64) : ((a <<< ((6 : Int32) &&& 31)) ||| b).toInt = a.toInt * 64 + b.toInt := by
  have ea : a.toInt = if 2 * a.toBitVec.toNat < 2 ^ 32 then (a.toBitVec.toNat : Int) else (a.toBitVec.toNat : Int) - (2 ^ 32 : Nat) := BitVec.toInt_eq_toNat_cond _
  have eb : b.toInt = if 2 * b.toBitVec.toNat < 2 ^ 32 then (b.toBitVec.toNat : Int) else (b.toBitVec.toNat : Int) - (2 ^ 32 : Nat) := BitVec.toInt_eq_toNat_cond _
  have la := a.toBitVec.isLt; have lb := b.toBitVec.isLt
  have na : (a.toBitVec.toNat : Int) = a.toInt := by split at ea <;> omega
  have nb : (b.toBitVec.toNat : Int) = b.toInt := by split at eb <;> omega
  have es : (a <<< ((6 : Int32) &&& 31)).toBitVec = a.toBitVec <<< 6 := by rw [Int32.toBitVec_shiftLeft]; rfl
  have er : ((a <<< ((6 : Int32) &&& 31)) ||| b).toBitVec.toNat = a.toBitVec.toNat * 64 + b.toBitVec.toNat := by
    rw [Int32.toBitVec_or, es, BitVec.toNat_or, BitVec.toNat_shiftLeft, Nat.mod_eq_of_lt (by rw [Nat.shiftLeft_eq]; omega), ← Nat.shiftLeft_add_eq_or_of_lt (by omega), Nat.shiftLeft_eq]
  have c : ((a <<< ((6 : Int32) &&& 31)) ||| b).toInt = if 2 * ((a <<< ((6 : Int32) &&& 31)) ||| b).toBitVec.toNat < 2 ^ 32 then (((a <<< ((6 : Int32) &&& 31)) ||| b).toBitVec.toNat : Int) else (((a <<< ((6 : Int32) &&& 31)) ||| b).toBitVec.toNat : Int) - (2 ^ 32 : Nat) := BitVec.toInt_eq_toNat_cond _
  rw [c, er, if_pos (by omega)]; omega
theorem own_bb (y : Int32) (h0 : 0 ≤ y.toInt) (h1 : y.toInt ≤ 255) : (nar .byte (y.toInt8.toInt32) &&& (255 : Int32)) = y := by
  apply Int32.toInt_inj.mp
  rw [Jvm.Kit.i32_mask _ 255 (k := 8) (by decide) (by decide)]
  show (y.toInt8.toInt32.toInt8.toInt32).toInt % 2 ^ 8 = _
  rw [Int8.toInt_toInt32, Int32.toInt_toInt8, Int8.toInt_toInt32, Int32.toInt_toInt8]
  unfold Int.bmod; dsimp only; split <;> split <;> omega
theorem own_b2 (y : Int32) (h0 : 0 ≤ y.toInt) (h1 : y.toInt ≤ 255) : (nar .byte (y.toInt8.toInt32) &&& (192 : Int32)) = (y &&& (192 : Int32)) := by
  have k : ((255 : Int32) &&& (192 : Int32)) = (192 : Int32) := by decide
  have e := own_bb y h0 h1
  rw [← k, ← Int32.and_assoc, e, k]
set_option maxHeartbeats 8000000 in
theorem own_L0 (F C1 C2 C3 L x0 x1 x2 x3 : Int32) (hF : 0 ≤ F.toInt ∧ F.toInt ≤ 255) (h1 : 0 ≤ C1.toInt ∧ C1.toInt ≤ 255) (h2 : 0 ≤ C2.toInt ∧ C2.toInt ≤ 255) (h3 : 0 ≤ C3.toInt ∧ C3.toInt ≤ 255)
    (e0 : (x0 &&& (255 : Int32)) = F) (e1 : (x1 &&& (255 : Int32)) = C1) (e2 : (x2 &&& (192 : Int32)) = (C2 &&& (192 : Int32))) (e3 : (x3 &&& (192 : Int32)) = (C3 &&& (192 : Int32))) : f1L0 L x0 x1 x2 x3 = f2 F C1 C2 C3 (0 : Int32) L := by
  have s2 : ((0 : Int32) + (2 : Int32)) = (2 : Int32) := by decide
  have s3 : ((0 : Int32) + (3 : Int32)) = (3 : Int32) := by decide
  have s4 : ((0 : Int32) + (4 : Int32)) = (4 : Int32) := by decide
  have t0 : ¬ ((1 : Int32) = (0 : Int32)) := by decide
  obtain ⟨a1, a2, a3⟩ := own_F F hF.1 hF.2
  have c1 := own_C C1 h1.1 h1.2
  have c2 := own_C C2 h2.1 h2.2
  have c3 := own_C C3 h3.1 h3.2
  have m31 : (F &&& (31 : Int32)).toInt = F.toInt % 2 ^ 5 := Jvm.Kit.i32_mask F 31 (by decide) (by decide)
  have m15 : (F &&& (15 : Int32)).toInt = F.toInt % 2 ^ 4 := Jvm.Kit.i32_mask F 15 (by decide) (by decide)
  have m7 : (F &&& (7 : Int32)).toInt = F.toInt % 2 ^ 3 := Jvm.Kit.i32_mask F 7 (by decide) (by decide)
  have n1 : (C1 &&& (63 : Int32)).toInt = C1.toInt % 2 ^ 6 := Jvm.Kit.i32_mask C1 63 (by decide) (by decide)
  have n2 : (C2 &&& (63 : Int32)).toInt = C2.toInt % 2 ^ 6 := Jvm.Kit.i32_mask C2 63 (by decide) (by decide)
  have n3 : (C3 &&& (63 : Int32)).toInt = C3.toInt % 2 ^ 6 := Jvm.Kit.i32_mask C3 63 (by decide) (by decide)
  have w0 : (v2_0 F C1 C2 C3 (0 : Int32) L).toInt = (F.toInt % 2 ^ 5) * 64 + C1.toInt % 2 ^ 6 := by unfold v2_0; rw [own_cp _ _ (by rw [m31]; omega) (by rw [m31]; omega) (by rw [n1]; omega) (by rw [n1]; omega), m31, n1]
  have w1 : (v2_1 F C1 C2 C3 (0 : Int32) L).toInt = (F.toInt % 2 ^ 4) * 64 + C1.toInt % 2 ^ 6 := by unfold v2_1; rw [own_cp _ _ (by rw [m15]; omega) (by rw [m15]; omega) (by rw [n1]; omega) (by rw [n1]; omega), m15, n1]
  have w2 : (v2_2 F C1 C2 C3 (0 : Int32) L).toInt = ((F.toInt % 2 ^ 4) * 64 + C1.toInt % 2 ^ 6) * 64 + C2.toInt % 2 ^ 6 := by unfold v2_2; rw [own_cp _ _ (by rw [w1]; omega) (by rw [w1]; omega) (by rw [n2]; omega) (by rw [n2]; omega), w1, n2]
  have w3 : (v2_3 F C1 C2 C3 (0 : Int32) L).toInt = (F.toInt % 2 ^ 3) * 64 + C1.toInt % 2 ^ 6 := by unfold v2_3; rw [own_cp _ _ (by rw [m7]; omega) (by rw [m7]; omega) (by rw [n1]; omega) (by rw [n1]; omega), m7, n1]
  have w4 : (v2_4 F C1 C2 C3 (0 : Int32) L).toInt = ((F.toInt % 2 ^ 3) * 64 + C1.toInt % 2 ^ 6) * 64 + C2.toInt % 2 ^ 6 := by unfold v2_4; rw [own_cp _ _ (by rw [w3]; omega) (by rw [w3]; omega) (by rw [n2]; omega) (by rw [n2]; omega), w3, n2]
  have w5 : (v2_5 F C1 C2 C3 (0 : Int32) L).toInt = (((F.toInt % 2 ^ 3) * 64 + C1.toInt % 2 ^ 6) * 64 + C2.toInt % 2 ^ 6) * 64 + C3.toInt % 2 ^ 6 := by unfold v2_5; rw [own_cp _ _ (by rw [w4]; omega) (by rw [w4]; omega) (by rw [n3]; omega) (by rw [n3]; omega), w4, n3]
  unfold f1L0 f1L0_124 f1L0_141 f1L0_70 f1L0_87 f2 f2_177 f2_215 f2_239 f3
  simp only [e0, e1, e2, e3, a1, a2, a3, c1, c2, c3, s2, s3, s4, own_if10, eq_self, if_true, t0, if_false, own_e224, own_e237, own_e240, own_e244, Int32.lt_iff_toInt_lt, w0, w2, w5, own_k0, own_k1, own_k2, own_k3, own_k4, own_k5, own_k128, own_k143, own_k144, own_k159, own_k160, own_k191, own_k192, own_k194, own_k223, own_k224, own_k237, own_k239, own_k240, own_k244, own_k2048, own_k55296, own_k57343, own_k65536, own_k1114111]
  generalize F.toInt = f at *
  generalize C1.toInt = d1 at *
  generalize C2.toInt = d2 at *
  generalize C3.toInt = d3 at *
  generalize L.toInt = l at *
  clear a1 a2 a3 c1 c2 c3 m31 m15 m7 n1 n2 n3 w0 w1 w2 w3 w4 w5 e0 e1 e2 e3 s2 s3 s4
  rcases (by omega : f < 192 ∨ (192 ≤ f ∧ f < 194) ∨ (194 ≤ f ∧ f ≤ 223) ∨ f = 224 ∨ (225 ≤ f ∧ f ≤ 236) ∨ f = 237 ∨ (238 ≤ f ∧ f ≤ 239) ∨ f = 240 ∨ (241 ≤ f ∧ f ≤ 243) ∨ f = 244 ∨ (245 ≤ f ∧ f ≤ 247) ∨ 248 ≤ f) with r | r | r | r | r | r | r | r | r | r | r | r
  all_goals (simp (disch := omega) only [if_pos, if_neg])
  all_goals (repeat' (first | rfl | split))
  all_goals (first | rfl | (exfalso; omega))
set_option maxHeartbeats 8000000 in
theorem own_L1 (F C1 C2 C3 L x1 x2 x3 x4 : Int32) (hF : 0 ≤ F.toInt ∧ F.toInt ≤ 255) (h1 : 0 ≤ C1.toInt ∧ C1.toInt ≤ 255) (h2 : 0 ≤ C2.toInt ∧ C2.toInt ≤ 255) (h3 : 0 ≤ C3.toInt ∧ C3.toInt ≤ 255)
    (e0 : (x1 &&& (255 : Int32)) = F) (e1 : (x2 &&& (255 : Int32)) = C1) (e2 : (x3 &&& (192 : Int32)) = (C2 &&& (192 : Int32))) (e3 : (x4 &&& (192 : Int32)) = (C3 &&& (192 : Int32))) : f1L1 L x1 x2 x3 x4 = f2 F C1 C2 C3 (1 : Int32) L := by
  have s2 : ((1 : Int32) + (2 : Int32)) = (3 : Int32) := by decide
  have s3 : ((1 : Int32) + (3 : Int32)) = (4 : Int32) := by decide
  have s4 : ((1 : Int32) + (4 : Int32)) = (5 : Int32) := by decide
  have t0 : ¬ ((1 : Int32) = (0 : Int32)) := by decide
  obtain ⟨a1, a2, a3⟩ := own_F F hF.1 hF.2
  have c1 := own_C C1 h1.1 h1.2
  have c2 := own_C C2 h2.1 h2.2
  have c3 := own_C C3 h3.1 h3.2
  have m31 : (F &&& (31 : Int32)).toInt = F.toInt % 2 ^ 5 := Jvm.Kit.i32_mask F 31 (by decide) (by decide)
  have m15 : (F &&& (15 : Int32)).toInt = F.toInt % 2 ^ 4 := Jvm.Kit.i32_mask F 15 (by decide) (by decide)
  have m7 : (F &&& (7 : Int32)).toInt = F.toInt % 2 ^ 3 := Jvm.Kit.i32_mask F 7 (by decide) (by decide)
  have n1 : (C1 &&& (63 : Int32)).toInt = C1.toInt % 2 ^ 6 := Jvm.Kit.i32_mask C1 63 (by decide) (by decide)
  have n2 : (C2 &&& (63 : Int32)).toInt = C2.toInt % 2 ^ 6 := Jvm.Kit.i32_mask C2 63 (by decide) (by decide)
  have n3 : (C3 &&& (63 : Int32)).toInt = C3.toInt % 2 ^ 6 := Jvm.Kit.i32_mask C3 63 (by decide) (by decide)
  have w0 : (v2_0 F C1 C2 C3 (1 : Int32) L).toInt = (F.toInt % 2 ^ 5) * 64 + C1.toInt % 2 ^ 6 := by unfold v2_0; rw [own_cp _ _ (by rw [m31]; omega) (by rw [m31]; omega) (by rw [n1]; omega) (by rw [n1]; omega), m31, n1]
  have w1 : (v2_1 F C1 C2 C3 (1 : Int32) L).toInt = (F.toInt % 2 ^ 4) * 64 + C1.toInt % 2 ^ 6 := by unfold v2_1; rw [own_cp _ _ (by rw [m15]; omega) (by rw [m15]; omega) (by rw [n1]; omega) (by rw [n1]; omega), m15, n1]
  have w2 : (v2_2 F C1 C2 C3 (1 : Int32) L).toInt = ((F.toInt % 2 ^ 4) * 64 + C1.toInt % 2 ^ 6) * 64 + C2.toInt % 2 ^ 6 := by unfold v2_2; rw [own_cp _ _ (by rw [w1]; omega) (by rw [w1]; omega) (by rw [n2]; omega) (by rw [n2]; omega), w1, n2]
  have w3 : (v2_3 F C1 C2 C3 (1 : Int32) L).toInt = (F.toInt % 2 ^ 3) * 64 + C1.toInt % 2 ^ 6 := by unfold v2_3; rw [own_cp _ _ (by rw [m7]; omega) (by rw [m7]; omega) (by rw [n1]; omega) (by rw [n1]; omega), m7, n1]
  have w4 : (v2_4 F C1 C2 C3 (1 : Int32) L).toInt = ((F.toInt % 2 ^ 3) * 64 + C1.toInt % 2 ^ 6) * 64 + C2.toInt % 2 ^ 6 := by unfold v2_4; rw [own_cp _ _ (by rw [w3]; omega) (by rw [w3]; omega) (by rw [n2]; omega) (by rw [n2]; omega), w3, n2]
  have w5 : (v2_5 F C1 C2 C3 (1 : Int32) L).toInt = (((F.toInt % 2 ^ 3) * 64 + C1.toInt % 2 ^ 6) * 64 + C2.toInt % 2 ^ 6) * 64 + C3.toInt % 2 ^ 6 := by unfold v2_5; rw [own_cp _ _ (by rw [w4]; omega) (by rw [w4]; omega) (by rw [n3]; omega) (by rw [n3]; omega), w4, n3]
  unfold f1L1 f1L1_124 f1L1_141 f1L1_70 f1L1_87 f2 f2_177 f2_215 f2_239 f3
  simp only [e0, e1, e2, e3, a1, a2, a3, c1, c2, c3, s2, s3, s4, own_if10, eq_self, if_true, t0, if_false, own_e224, own_e237, own_e240, own_e244, Int32.lt_iff_toInt_lt, w0, w2, w5, own_k0, own_k1, own_k2, own_k3, own_k4, own_k5, own_k128, own_k143, own_k144, own_k159, own_k160, own_k191, own_k192, own_k194, own_k223, own_k224, own_k237, own_k239, own_k240, own_k244, own_k2048, own_k55296, own_k57343, own_k65536, own_k1114111]
  generalize F.toInt = f at *
  generalize C1.toInt = d1 at *
  generalize C2.toInt = d2 at *
  generalize C3.toInt = d3 at *
  generalize L.toInt = l at *
  clear a1 a2 a3 c1 c2 c3 m31 m15 m7 n1 n2 n3 w0 w1 w2 w3 w4 w5 e0 e1 e2 e3 s2 s3 s4
  rcases (by omega : f < 192 ∨ (192 ≤ f ∧ f < 194) ∨ (194 ≤ f ∧ f ≤ 223) ∨ f = 224 ∨ (225 ≤ f ∧ f ≤ 236) ∨ f = 237 ∨ (238 ≤ f ∧ f ≤ 239) ∨ f = 240 ∨ (241 ≤ f ∧ f ≤ 243) ∨ f = 244 ∨ (245 ≤ f ∧ f ≤ 247) ∨ 248 ≤ f) with r | r | r | r | r | r | r | r | r | r | r | r
  all_goals (simp (disch := omega) only [if_pos, if_neg])
  all_goals (repeat' (first | rfl | split))
  all_goals (first | rfl | (exfalso; omega))
theorem own_m8 (y : Int32) : 0 ≤ (y &&& (255 : Int32)).toInt ∧ (y &&& (255 : Int32)).toInt ≤ 255 := by
  rw [Jvm.Kit.i32_mask _ 255 (k := 8) (by decide) (by decide)]; omega
theorem own_f8 (y : Int32) : 0 ≤ ((y &&& (255 : Int32)) ||| (128 : Int32)).toInt ∧ ((y &&& (255 : Int32)) ||| (128 : Int32)).toInt ≤ 255 :=
  own_all (fun y => 0 ≤ (y ||| (128 : Int32)).toInt ∧ (y ||| (128 : Int32)).toInt ≤ 255) (by decide +kernel) _ (own_m8 y).1 (own_m8 y).2
theorem own_plain (p0 p1 p2 p3 p4 p5 : Int32) : f0 p0 p1 p2 p3 p4 p5 = 1 := by
  have f := own_f8 p0
  have g1 := own_m8 p1; have g2 := own_m8 p2; have g3 := own_m8 p3
  have A : v0_0 p0 p1 p2 p3 p4 p5 = _ := own_L0 _ _ _ _ ((p5 &&& (2147483647 : Int32)) % (7 : Int32)) _ _ _ _ f g1 g2 g3 (own_bb _ f.1 f.2) (own_bb _ g1.1 g1.2) (own_b2 _ g2.1 g2.2) (own_b2 _ g3.1 g3.2)
  have B : v0_1 p0 p1 p2 p3 p4 p5 = _ := own_L1 _ _ _ _ ((p5 &&& (2147483647 : Int32)) % (7 : Int32)) _ _ _ _ f g1 g2 g3 (own_bb _ f.1 f.2) (own_bb _ g1.1 g1.2) (own_b2 _ g2.1 g2.2) (own_b2 _ g3.1 g3.2)
  unfold f0
  rw [A, B, if_pos rfl, if_pos rfl, ite_self]
set_option maxRecDepth 65536 in
set_option maxHeartbeats 40000000 in
theorem comes_1 {Post : Tables → Env → Array Value → State → Outcome → State → Prop} (hpost : ∀ tb e args s v u, (limb_1_1.after args s (.returned v) u = true ∧ limb_1_2.after args s (.returned v) u = true ∧ True) → FrameEnd s (.returned v) u (Jvm.fieldLocs frame_1_writes args s ++ Jvm.arrayLocs frame_1_arrays args s ++ Jvm.staticLocs frame_1_statics s) 16 128 → Post tb e args s (.returned v) u) :
    ArmFor flags0 classFile x code maxLocals ret World_1 tables_1 room_1 Calls_1 rest_1 Pre_1 Post := by
  intro l hfl _ _ p e ha hc hk s m args below hf hA hF happ hP
  obtain ⟨hcalls, hrest, hpre⟩ := hP
  obtain ⟨-, -, -, hnamed, -, -, -, hat⟩ := (Spec.applies_iff hf).mp happ
  obtain ⟨hg, hn⟩ := and_e (Cond.before_iff.mp (show (Jvm.Cond.and given_1 narrow_1).before args s = true from hpre))
  obtain ⟨gv1, gv2⟩ := and_e hg
  obtain ⟨gv3, gv4⟩ := and_e gv2
  obtain ⟨gv5, gv6⟩ := and_e gv4
  obtain ⟨gv7, gv8⟩ := and_e gv6
  obtain ⟨gv9, gv10⟩ := and_e gv8
  obtain ⟨gv11, gv12⟩ := and_e gv10
  obtain ⟨w0, w1, w2, w3, w4, w5, rfl⟩ : ∃ w0 w1 w2 w3 w4 w5 : Value, args = #[w0, w1, w2, w3, w4, w5] := by
    have hs : args.size = 6 := by simpa [Cond.value, given_1] using gv1
    obtain ⟨L⟩ := args
    match L, hs with
    | [w0, w1, w2, w3, w4, w5], _ => exact ⟨w0, w1, w2, w3, w4, w5, rfl⟩
  have hw := fun d (hd : d ∈ tables_1) => atoms_spec (ws := Jvm.Cond.code x code maxLocals ret :: tables_1) hat d (List.mem_cons_of_mem _ hd)
  have hfit : Fit s := fun {y c} hc i hi => by
    obtain ⟨ha, rfl⟩ := Array.getElem?_eq_some_iff.mp hc
    have q := List.all_eq_true.mp ((Array.all_eq_true_iff_forall_mem.mp hF) _ (Array.getElem_mem ha)) i (List.mem_range.mpr hi)
    simpa [Array.getElem?_eq_getElem hi] using q
  obtain ⟨i0, ei0⟩ := is_v gv3
  obtain rfl : w0 = (.int i0) := Option.some.inj ei0
  obtain ⟨i1, ei1⟩ := is_v gv5
  obtain rfl : w1 = (.int i1) := Option.some.inj ei1
  obtain ⟨i2, ei2⟩ := is_v gv7
  obtain rfl : w2 = (.int i2) := Option.some.inj ei2
  obtain ⟨i3, ei3⟩ := is_v gv9
  obtain rfl : w3 = (.int i3) := Option.some.inj ei3
  obtain ⟨i4, ei4⟩ := is_v gv11
  obtain rfl : w4 = (.int i4) := Option.some.inj ei4
  obtain ⟨i5, ei5⟩ := is_v gv12
  obtain rfl : w5 = (.int i5) := Option.some.inj ei5
  have hpl := own_plain i0 i1 i2 i3 i4 i5
  obtain ⟨n, o, h1, h2, h3, _, L, rfl, ⟨rfl, N⟩, hq⟩ := rm0 l s _ hw tables_1 i0 i1 i2 i3 i4 i5 s.heap s.heap.size (Nat.le_refl _) p e ha hc hk s m _ below hf ((Spec.applies_iff_loose hf).mp happ).1 ⟨rfl, State.Warmed39.refl s, rfl⟩ trivial
  refine ⟨n, _, h1, h2, h3, hpost _ _ _ _ _ _ ⟨Cond.after_iff.mpr rfl, Cond.after_iff.mpr (eq_i res_at (Term.int_eval (1)) (congrArg Value.int hpl)), trivial⟩ ⟨hq.1, hq.2.1, (hq.2.2.sift fun y hy => Or.inr (N y hy)).mono (by decide) (by decide)⟩⟩
theorem main_1_1 : Claimed_1_1 := comes_1 fun _ _ _ _ _ _ h hF => ⟨h.1, hF⟩
theorem main_1_2 : Claimed_1_2 := comes_1 fun _ _ _ _ _ _ h hF => ⟨h.2.1, hF⟩
end Jvm.Pilot.@@N@@
namespace Jvm.Pilot.@@N@@
open Jvm Jvm.ClassFile Sem Op Lib Jvm.Free Jvm.Stand Jvm.Pilot.@@N@@.Jvm.D
/-! MADE BY PROGRAM (witnessworld.py) out of the Statement's table words and the real class files: 9 classes; the members and pool entries that the words name. The judged class is class 1, her method 1. -/
namespace start1
open Jvm.ClassFile
def u (s : String) : CpInfo := .utf8 (stringToUtf16 s)
/-- a pool by its gaps: so many unusable entries, then the entry; so many at the end -/
def gap : Nat → List CpInfo → List CpInfo
  | 0, r => r
  | n + 1, r => .unusable :: gap n r
def poolList (es : List (Nat × CpInfo)) (last : Nat) : List CpInfo := es.foldr (fun e r => gap e.1 (e.2 :: r)) (gap last [])
def pool (es : List (Nat × CpInfo)) (last : Nat) : Array CpInfo := ⟨poolList es last⟩
def fileOf (pool : Array CpInfo) (this : Nat) (attrs : Array Attribute := #[]) (ms : Array MethodInfo := #[]) (fl : Nat := 33) (sup : Nat := 0) (ifs : Array Nat := #[]) (fds : Array FieldInfo := #[]) : ClassFile where
  minorVersion := 0
  majorVersion := 65
  constantPool := pool
  accessFlags := fl
  thisClass := this
  superClass := sup
  interfaces := ifs
  fields := fds
  methods := ms
  attributes := attrs
def plain (name : String) (sup : Option ClassId) : Class where
  name := name
  kind := .ordinary
  loader := none
  accessFlags := 33
  super := sup
  interfaces := #[]
  cf := none
  fields := #[]
  methods := #[]
  instanceTypes := #[]
  staticTypes := #[]
  resolved := #[]
  callSites := []
  init := .initialized
  statics := none
  mirror := none

def pool0 : Array CpInfo := pool [(5, u "<init>"), (0, u "()V"), (1, .class_ 10), (1, u "java/lang/Object")] 113

def k0m0 : Method := { name := "<init>", desc := "()V", sig := { parameters := [], returnType := none }, accessFlags := 1, code := none }
/-- java/lang/Object -/
def k0 : Class := { plain "java/lang/Object" none with
  accessFlags := 33
  interfaces := #[]
  cf := some (fileOf pool0 8 #[] #[{ accessFlags := 1, nameIndex := 5, descriptorIndex := 6, attributes := #[] }] 33 0 #[] #[])
  fields := #[]
  methods := #[k0m0]
  instanceTypes := #[]
  staticTypes := #[]
  resolved := Array.replicate 124 none
  statics := none }

def pool1 : Array CpInfo := pool [(2, .class_ 4), (1, u "java/lang/Object"), (0, u "<init>"), (0, u "()V"), (0, .integer 2147483647), (0, .methodref 9 10), (0, .class_ 11), (0, .nameAndType 12 13), (0, u "com/example/evbind/evbind/Utf8"), (0, u "sequenceEnd"), (0, u "([BII)I"), (0, .methodref 15 16), (0, .class_ 17), (0, .nameAndType 18 19), (0, u "com/example/evbind/evbind/Utf8SequenceEndPinLaw"), (0, u "expected"), (0, u "(IIIIII)I"), (0, .methodref 15 21), (0, .nameAndType 22 23), (0, u "isCont"), (0, u "(I)Z"), (0, .integer 55296), (0, .integer 57343), (0, .integer 65536), (0, .integer 1114111), (2, u "law"), (0, u "(IIIIII)Z")] 5

def k1m0 : Method := { name := "<init>", desc := "()V", sig := { parameters := [], returnType := none }, accessFlags := 2, code := none }
def k1c1 : Code := { maxStack := 7, maxLocals := 14, code := code, exceptionTable := #[], attributes := #[] }
def k1m1 : Method := { name := "law", desc := "(IIIIII)Z", sig := { parameters := [.int, .int, .int, .int, .int, .int], returnType := some .boolean }, accessFlags := 9, code := some k1c1 }
def k1c2 : Code := { maxStack := 2, maxLocals := 1, code := method_3_code, exceptionTable := #[], attributes := #[] }
def k1m2 : Method := { name := "isCont", desc := "(I)Z", sig := { parameters := [.int], returnType := some .boolean }, accessFlags := 10, code := some k1c2 }
def k1c3 : Code := { maxStack := 3, maxLocals := 9, code := method_4_code, exceptionTable := #[], attributes := #[] }
def k1m3 : Method := { name := "expected", desc := "(IIIIII)I", sig := { parameters := [.int, .int, .int, .int, .int, .int], returnType := some .int }, accessFlags := 10, code := some k1c3 }
/-- com/example/evbind/evbind/Utf8SequenceEndPinLaw -/
def k1 : Class := { plain "com/example/evbind/evbind/Utf8SequenceEndPinLaw" (some 0) with
  accessFlags := 49
  interfaces := #[]
  cf := some (fileOf pool1 15 #[] #[{ accessFlags := 2, nameIndex := 5, descriptorIndex := 6, attributes := #[] }, { accessFlags := 9, nameIndex := 30, descriptorIndex := 31, attributes := #[] }, { accessFlags := 10, nameIndex := 22, descriptorIndex := 23, attributes := #[] }, { accessFlags := 10, nameIndex := 18, descriptorIndex := 19, attributes := #[] }] 49 2 #[] #[])
  fields := #[]
  methods := #[k1m0, k1m1, k1m2, k1m3]
  instanceTypes := #[]
  staticTypes := #[]
  resolved := Array.replicate 37 none
  statics := none }

def pool2 : Array CpInfo := pool [(2, .class_ 4), (1, u "java/lang/Object"), (0, u "<init>"), (0, u "()V"), (1, .class_ 10), (1, u "com/example/evbind/evbind/Utf8"), (19, u "sequenceEnd"), (0, u "([BII)I")] 7

def k2m0 : Method := { name := "<init>", desc := "()V", sig := { parameters := [], returnType := none }, accessFlags := 2, code := none }
def k2c1 : Code := { maxStack := 3, maxLocals := 10, code := prog_44_method_6_code, exceptionTable := #[], attributes := #[] }
def k2m1 : Method := { name := "sequenceEnd", desc := "([BII)I", sig := { parameters := [(.array .byte), .int, .int], returnType := some .int }, accessFlags := 8, code := some k2c1 }
/-- com/example/evbind/evbind/Utf8 -/
def k2 : Class := { plain "com/example/evbind/evbind/Utf8" (some 0) with
  accessFlags := 48
  interfaces := #[]
  cf := some (fileOf pool2 8 #[] #[{ accessFlags := 2, nameIndex := 5, descriptorIndex := 6, attributes := #[] }, { accessFlags := 8, nameIndex := 30, descriptorIndex := 31, attributes := #[] }] 48 2 #[] #[])
  fields := #[]
  methods := #[k2m0, k2m1]
  instanceTypes := #[]
  staticTypes := #[]
  resolved := Array.replicate 39 none
  statics := none }

def pool3 : Array CpInfo := pool [(1, u "java/lang/Cloneable"), (0, .class_ 1), (0, u "java/lang/Object"), (0, .class_ 3)] 3

/-- java/lang/Cloneable -/
def k3 : Class := { plain "java/lang/Cloneable" (some 0) with
  accessFlags := 1537
  interfaces := #[]
  cf := some (fileOf pool3 2 #[] #[] 1537 4 #[] #[])
  fields := #[]
  methods := #[]
  instanceTypes := #[]
  staticTypes := #[]
  resolved := Array.replicate 8 none
  statics := none }

def pool4 : Array CpInfo := pool [(1, u "java/io/Serializable"), (0, .class_ 1), (0, u "java/lang/Object"), (0, .class_ 3)] 3

/-- java/io/Serializable -/
def k4 : Class := { plain "java/io/Serializable" (some 0) with
  accessFlags := 1537
  interfaces := #[]
  cf := some (fileOf pool4 2 #[] #[] 1537 4 #[] #[])
  fields := #[]
  methods := #[]
  instanceTypes := #[]
  staticTypes := #[]
  resolved := Array.replicate 8 none
  statics := none }

/-- the primitive byte -/
def k5 : Class := { plain "byte" none with kind := .primitive 'B', accessFlags := 0x411 }
/-- [B -/
def k6 : Class := { plain "[B" (some 0) with kind := .array 5 .byte, interfaces := #[3, 4], accessFlags := 1041 }

/-- the primitive int -/
def k7 : Class := { plain "int" none with kind := .primitive 'I', accessFlags := 0x411 }
/-- [I -/
def k8 : Class := { plain "[I" (some 0) with kind := .array 7 .int, interfaces := #[3, 4], accessFlags := 1041 }

def heap : Heap := #[]
def classes : Array Class := #[k0, k1, k2, k3, k4, k5, k6, k7, k8]
def interned : List (Array UInt16 × Addr) := []
def slotsUsed : Nat := 0
def theMethod : MethodId := ⟨1, 1⟩
def args0 : Array Value := #[.int 7, .int 7, .int 7, .int 7, .int 7, .int 7]
def aboutOver (below : List Frame) : State where
  vm := { classes := classes, interned := interned.toArray }
  heap := heap
  slotsUsed := slotsUsed
  threads := #[{ frames := .invoking theMethod args0 :: below }]
def below0 : List Frame := [.native { method := ⟨0, 0⟩, args := #[] }]
def about1 : State := aboutOver below0
def p0 : Program := .bare "" "" ""
def e0 : Env := launch0.env 0 0 0
theorem w_frames : about1.frames = Frame.invoking theMethod args0 :: below0 := rfl
set_option maxRecDepth 65536 in
theorem w_args : argsFit about1.vm theMethod args0 = true := by decide +kernel
set_option maxRecDepth 65536 in
theorem w_heap : heapFits about1 = true := by decide +kernel
set_option maxRecDepth 65536 in
theorem w_runnable : about1.curStatus? = some .runnable := by decide +kernel
set_option maxRecDepth 65536 in
theorem w_alone : about1.alone = true := by decide +kernel
set_option maxRecDepth 65536 in
theorem w_named : about1.methodNamed? x = some theMethod := by decide +kernel
set_option maxRecDepth 65536 in
theorem w_hears : about1.hears theMethod below0 = true := by decide +kernel
set_option maxRecDepth 65536 in
theorem w_ripe : about1.ripe theMethod args0 below0 = true := by decide +kernel
theorem w_running : about1.status = .running := rfl
set_option maxRecDepth 65536 in
theorem w_room : about1.hasRoom e0.platform room_1 = true :=
  launch0.hasRoom_least _ room_1 (by decide +kernel) (by decide +kernel) (by decide +kernel) (by decide +kernel) (by decide +kernel) (by decide +kernel)
theorem allAtoms_all (ts : List Jvm.Cond) (a : Array Jvm.Value) (st : Jvm.State) : (allAtoms ts).before a st = ts.all (fun c => c.before a st) := by
  induction ts with
  | nil => rfl
  | cons c t ih =>
    show (Jvm.Cond.and c (allAtoms t)).before a st = _
    rw [Jvm.Cond.before_and, ih, List.all_cons]
def words1 : List Jvm.Cond := Jvm.Cond.code x code maxLocals ret :: tables_1
/-- a 'code' word, met by the world's own term for the bytes: nothing is compared byte by byte -/
theorem code_word {y : MethodName} {bytes : ByteArray} {mx : Nat} {rt : Option FieldType} {a : Array Value} {s : State} {m : MethodId} {meth : Method} {c : Code} (h1 : s.methodNamed? y = some m) (h2 : s.vm.method? m = some meth) (h3 : meth.code = some c) (h4 : c.code = bytes)
    (h5 : (c.maxLocals == mx && c.exceptionTable.isEmpty && decide (c.maxStack ≤ mostOperands) && decide (meth.sig.returnType = rt) && !meth.locks && decide (parseMethodDescriptor y.desc = some meth.sig)) = true) : (Jvm.Cond.code y bytes mx rt).before a s = true := by
  simp only [Bool.and_eq_true, beq_iff_eq, Bool.not_eq_true', decide_eq_true_eq] at h5
  obtain ⟨⟨⟨⟨⟨g1, g2⟩, g3⟩, g4⟩, g5⟩, g6⟩ := h5
  simp [Cond.before, Cond.holds, Cond.value, h1, h2, h3, h4, g1, g2, g3, g4, g5, g6]
def isCode : Jvm.Cond → Bool
  | .code _ _ _ _ => true
  | _ => false
theorem all_split {L : List Jvm.Cond} {P : Jvm.Cond → Bool} (h1 : L.all (fun c => isCode c || P c) = true) (h2 : ∀ c ∈ L.filter isCode, P c = true) : L.all P = true := by
  refine List.all_eq_true.mpr fun c hc => ?_
  have h := List.all_eq_true.mp h1 c hc
  rcases Bool.eq_false_or_eq_true (isCode c) with hi | hi
  · exact h2 c (List.mem_filter.mpr ⟨hc, hi⟩)
  · simpa [hi] using h
set_option maxRecDepth 65536 in
theorem w_c0 : (Jvm.Cond.code x code maxLocals ret).before args0 about1 = true := code_word (m := ⟨1, 1⟩) (meth := k1m1) (c := k1c1) (by decide +kernel) rfl rfl rfl (by decide +kernel)
set_option maxRecDepth 65536 in
theorem w_c1 : (Jvm.Cond.code ({ cls := "com/example/evbind/evbind/Utf8", name := "sequenceEnd", desc := "([BII)I" } : Jvm.MethodName) prog_44_method_6_code (10 : Nat) (Option.some Jvm.ClassFile.FieldType.int)).before args0 about1 = true := code_word (m := ⟨2, 1⟩) (meth := k2m1) (c := k2c1) (by decide +kernel) rfl rfl rfl (by decide +kernel)
set_option maxRecDepth 65536 in
theorem w_c2 : (Jvm.Cond.code ({ cls := "com/example/evbind/evbind/Utf8SequenceEndPinLaw", name := "expected", desc := "(IIIIII)I" } : Jvm.MethodName) method_4_code (9 : Nat) (Option.some Jvm.ClassFile.FieldType.int)).before args0 about1 = true := code_word (m := ⟨1, 3⟩) (meth := k1m3) (c := k1c3) (by decide +kernel) rfl rfl rfl (by decide +kernel)
set_option maxRecDepth 65536 in
theorem w_c3 : (Jvm.Cond.code ({ cls := "com/example/evbind/evbind/Utf8SequenceEndPinLaw", name := "isCont", desc := "(I)Z" } : Jvm.MethodName) method_3_code (1 : Nat) (Option.some Jvm.ClassFile.FieldType.boolean)).before args0 about1 = true := code_word (m := ⟨1, 2⟩) (meth := k1m2) (c := k1c2) (by decide +kernel) rfl rfl rfl (by decide +kernel)
def codes1 : List Jvm.Cond := [Jvm.Cond.code x code maxLocals ret, Jvm.Cond.code ({ cls := "com/example/evbind/evbind/Utf8", name := "sequenceEnd", desc := "([BII)I" } : Jvm.MethodName) prog_44_method_6_code (10 : Nat) (Option.some Jvm.ClassFile.FieldType.int), Jvm.Cond.code ({ cls := "com/example/evbind/evbind/Utf8SequenceEndPinLaw", name := "expected", desc := "(IIIIII)I" } : Jvm.MethodName) method_4_code (9 : Nat) (Option.some Jvm.ClassFile.FieldType.int), Jvm.Cond.code ({ cls := "com/example/evbind/evbind/Utf8SequenceEndPinLaw", name := "isCont", desc := "(I)Z" } : Jvm.MethodName) method_3_code (1 : Nat) (Option.some Jvm.ClassFile.FieldType.boolean)]
set_option maxRecDepth 65536 in
theorem codes_eq : words1.filter isCode = codes1 := rfl
theorem w_codes : ∀ c ∈ words1.filter isCode, c.before args0 about1 = true := by
  rw [codes_eq]
  intro c hc
  simp only [codes1, List.mem_cons, List.not_mem_nil, or_false] at hc
  rcases hc with rfl | rfl | rfl | rfl
  · exact w_c0
  · exact w_c1
  · exact w_c2
  · exact w_c3
set_option maxRecDepth 65536 in
theorem w_t1 : words1.all (fun c => isCode c || c.before args0 about1) = true := by decide +kernel
theorem w_tables : (allAtoms (Jvm.Cond.code x code maxLocals ret :: tables_1)).before args0 about1 = true := by
  rw [allAtoms_all]
  show words1.all (fun c => c.before args0 about1) = true
  refine all_split ?_ w_codes
  rw [w_t1]
set_option maxRecDepth 65536 in
theorem w_case : (Jvm.Cond.and given_1 narrow_1).before args0 about1 = true := by decide +kernel
theorem w_applies : (headSpec (Jvm.Cond.code x code maxLocals ret :: tables_1) room_1).applies x e0.platform about1 = true :=
  (Spec.applies_iff w_frames).mpr ⟨w_running, w_runnable, w_alone, w_named, w_hears, w_ripe, w_room, w_tables⟩
theorem atStart : AtStart classFile x code maxLocals ret World_1 tables_1 room_1 Calls_1 rest_1 Pre_1 launch0 p0 e0 about1 theMethod args0 below0 :=
  ⟨lists_1, trivial, launch0.admits_env _ _ _, launch0.least_env, fairChoices_fair.cas, fairChoices_fair.clock, w_frames, w_args, w_heap, w_applies, trivial, trivial, w_case⟩
end start1
theorem witness_1 : WitnessClaimed_1 := ⟨start1.p0, start1.e0, start1.about1, start1.theMethod, start1.args0, start1.below0, start1.atStart⟩
end Jvm.Pilot.@@N@@
