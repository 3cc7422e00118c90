import JvmDerived
import JvmDerived.Pilot.@@N@@Statement
import JvmDerived.Pilot.@@N@@Code
set_option linter.unusedVariables false
set_option linter.unusedSimpArgs false
@@BLOCK:NumsL.lean.txt@@
namespace Jvm.RoadKit
open Sem ClassFile Op Lib Jvm.Stand Jvm.Free Jvm.LawKit
section Own
variable {p : Program} {l : Launch} {e : Env} {R : Room} {s : State} {m : MethodId} {args : Array Value} {below : List Frame} {meth : Method} {c : Code} {T : State} {locs : List Loc} {cells slots : Nat}
/-- from t the run ends in a return of which Q holds -/
def OGo (p : Program) (e : Env) (below : List Frame) (s : State) (Q : Option Value → Heap → List Loc → Prop) (C N : Nat) (t : State) : Prop :=
  ∃ s₂ o, Steps p.tables e below t s₂ ∧ s₂.status = .running ∧ Ended s₂ below o ∧ ∃ v L, o = .returned v ∧ Q v s₂.heap L ∧ FrameEnd s o s₂ L C N
theorem OGo.st {Q : Option Value → Heap → List Loc → Prop} {C N : Nat} {t t' : State} (k : ∀ target, Steps p.tables e below t' target → Steps p.tables e below t target) (h : OGo p e below s Q C N t') : OGo p e below s Q C N t := by
  obtain ⟨s₂, o, a, r⟩ := h; exact ⟨s₂, o, k _ a, r⟩
theorem oretW {Q : Option Value → Heap → List Loc → Prop} {C N : Nat} (X : Stand p l e R s m args below meth c T locs cells slots) (hx : p.tables.exec = Jvm.exec) (hlk : meth.locks = false) {pc : Nat} {Ls : Array Slot} {w : Value} {t : FieldType} {i : Instr} {rest : List Value} (hret : meth.sig.returnType = some t) (hn : narrow t w = w)
    (hi : (i = .ireturn ∧ (t = .int ∨ t = .boolean ∨ t = .byte ∨ t = .char ∨ t = .short) ∧ ∃ z, w = .int z) ∨ (i = .lreturn ∧ t = .long ∧ ∃ z, w = .long z) ∨ (i = .dreturn ∧ t = .double ∧ ∃ z, w = .double z) ∨ (i = .freturn ∧ t = .float ∧ ∃ z, w = .float z) ∨ (i = .areturn ∧ t.isReference = true ∧ w.isRef = true))
    (hd : decode c.code pc = .ok (i, 1)) {h : Heap} (hh : T.heap = h) (hq : Q (some w) h locs) (hC : cells ≤ C) (hN : slots ≤ N) : OGo p e below s Q C N (T.setTop (mkF m pc Ls (w :: rest))) := by
  obtain ⟨fs, hr, hrun, hended, hW, hsame⟩ := X.leave (v := some w) (fun h => by rw [hret] at h; cases h) hlk
  exact ⟨_, _, retOut X hx hret hn hi hd hr, hrun, hended, _, _, rfl, hh ▸ hq, ⟨_, rfl⟩, hW, hsame.mono hC hN⟩
theorem oretI {Q : Option Value → Heap → List Loc → Prop} {C N : Nat} (X : Stand p l e R s m args below meth c T locs cells slots) (hx : p.tables.exec = Jvm.exec) (hlk : meth.locks = false) {pc : Nat} {Ls : Array Slot} {z : Int32} {rest : List Value} (hret : meth.sig.returnType = some .int)
    (hd : decode c.code pc = .ok (.ireturn, 1)) {h : Heap} (hh : T.heap = h) (hq : Q (some (.int z)) h locs) (hC : cells ≤ C) (hN : slots ≤ N) : OGo p e below s Q C N (T.setTop (mkF m pc Ls (.int z :: rest))) :=
  oretW X hx hlk hret rfl (Or.inl ⟨rfl, Or.inl rfl, _, rfl⟩) hd hh hq hC hN
theorem oretJ {Q : Option Value → Heap → List Loc → Prop} {C N : Nat} (X : Stand p l e R s m args below meth c T locs cells slots) (hx : p.tables.exec = Jvm.exec) (hlk : meth.locks = false) {pc : Nat} {Ls : Array Slot} {z : Int64} {rest : List Value} (hret : meth.sig.returnType = some .long)
    (hd : decode c.code pc = .ok (.lreturn, 1)) {h : Heap} (hh : T.heap = h) (hq : Q (some (.long z)) h locs) (hC : cells ≤ C) (hN : slots ≤ N) : OGo p e below s Q C N (T.setTop (mkF m pc Ls (.long z :: rest))) :=
  oretW X hx hlk hret rfl (Or.inr (Or.inl ⟨rfl, rfl, _, rfl⟩)) hd hh hq hC hN
theorem onarR {t : FieldType} {w : Value} (ht : t.isReference = true) (hw : w.isRef = true) : narrow t w = w := by
  cases t <;> first | (cases ht; done) | (cases w <;> first | rfl | (cases hw; done))
theorem ofitR {t : FieldType} {w : Value} (ht : t.isReference = true) (hw : w.isRef = true) : fits t w = true := by
  cases t <;> first | (cases ht; done) | (cases w <;> first | rfl | (cases hw; done))
theorem oretA {Q : Option Value → Heap → List Loc → Prop} {C N : Nat} (X : Stand p l e R s m args below meth c T locs cells slots) (hx : p.tables.exec = Jvm.exec) (hlk : meth.locks = false) {pc : Nat} {Ls : Array Slot} {w : Value} {t : FieldType} {rest : List Value} (hret : meth.sig.returnType = some t) (ht : t.isReference = true) (hw : w.isRef = true)
    (hd : decode c.code pc = .ok (.areturn, 1)) {h : Heap} (hh : T.heap = h) (hq : Q (some w) h locs) (hC : cells ≤ C) (hN : slots ≤ N) : OGo p e below s Q C N (T.setTop (mkF m pc Ls (w :: rest))) :=
  oretW X hx hlk hret (onarR ht hw) (Or.inr (Or.inr (Or.inr (Or.inr ⟨rfl, ht, hw⟩)))) hd hh hq hC hN
theorem oretN {Q : Option Value → Heap → List Loc → Prop} {C N : Nat} (X : Stand p l e R s m args below meth c T locs cells slots) (hx : p.tables.exec = Jvm.exec) (hlk : meth.locks = false) {pc : Nat} {Ls : Array Slot} {z z' : Int32} {t : FieldType} {rest : List Value} (hret : meth.sig.returnType = some t) (ht : t = .boolean ∨ t = .byte ∨ t = .char ∨ t = .short)
    (hd : decode c.code pc = .ok (.ireturn, 1)) (hz : nar t z = z') {h : Heap} (hh : T.heap = h) (hq : Q (some (.int z')) h locs) (hC : cells ≤ C) (hN : slots ≤ N) : OGo p e below s Q C N (T.setTop (mkF m pc Ls (.int z :: rest))) := by
  subst hz
  obtain ⟨fs, hr, hrun, hended, hW, hsame⟩ := X.leave (v := some (.int (nar t z))) (fun h => by rw [hret] at h; cases h) hlk
  exact ⟨_, _, retN X hx hret ht hd hr, hrun, hended, _, _, rfl, hh ▸ hq, ⟨_, rfl⟩, hW, hsame.mono hC hN⟩
theorem oret0 {Q : Option Value → Heap → List Loc → Prop} {C N : Nat} (X : Stand p l e R s m args below meth c T locs cells slots) (hx : p.tables.exec = Jvm.exec) (hlk : meth.locks = false) {pc : Nat} {Ls : Array Slot} (hret : meth.sig.returnType = none)
    (hd : decode c.code pc = .ok (.return_, 1)) {h : Heap} (hh : T.heap = h) (hq : Q none h locs) (hC : cells ≤ C) (hN : slots ≤ N) : OGo p e below s Q C N (T.setTop (mkF m pc Ls [])) := by
  obtain ⟨fs, hr, hrun, hended, hW, hsame⟩ := X.leave (v := none) (fun _ => rfl) hlk
  exact ⟨_, _, X.returnOut hx hret hd hr, hrun, hended, _, _, rfl, hh ▸ hq, ⟨_, rfl⟩, hW, hsame.mono hC hN⟩
theorem olrem {tb : Tables} [Ours tb] {target : State} {g : JFrame} (h : At T m c below) (hx : tb.exec = Jvm.exec) (hg : g.method = m) {x y : Int64} {rest : List Value} (hd : decode c.code g.pc = .ok (.lrem, 1)) (hs : g.stack = .long y :: .long x :: rest) (hy : y ≠ 0)
    (hr : Steps tb e below (T.setTop { g with pc := g.pc + 1, stack := .long (x % y) :: rest }) target) : Steps tb e below (T.setTop g) target :=
  XS.lrem h hx hg hd hs hy (by rw [lrem_mod]; exact hr)
theorem olc_lt (x y : Int64) : lcmpW x y < 0 ↔ x < y := by rw [lcW]; exact lc_lt x y
theorem olc_gt (x y : Int64) : 0 < lcmpW x y ↔ y < x := by rw [lcW]; exact lc_gt x y
theorem olc_eq (x y : Int64) : lcmpW x y = 0 ↔ x = y := by rw [lcW]; exact lc_eq x y
theorem onilP {v : Int} : ∀ q ∈ ([] : List (Int × Int)), q.1 ≠ v := fun _ q => nomatch q
theorem oconsP {v a b : Int} {l : List (Int × Int)} (h : a ≠ v) (t : ∀ q ∈ l, q.1 ≠ v) : ∀ q ∈ (a, b) :: l, q.1 ≠ v := fun q hq => (List.mem_cons.mp hq).elim (fun u => by rw [u]; exact h) (t q)
theorem oint_ne {z k : Int32} {K : Int} (h : ¬ z = k) (hk : k.toInt = K) : K ≠ z.toInt := fun q => h (Int32.toInt_inj.mp (by rw [hk, q]))
theorem ofld_eq {Z : State} {t : Term} {C n d : String} {a : Addr} {k : Int32} (h : (Cond.eq (Term.field t C n d) (Term.int k)).value args Z none Z [] = some true) (ev : t.eval args Z none [] Z = some (.ref a)) : Fld Z Z.heap a C n d (.int k) := by
  apply Fld.start
  have q := fld_at (args := args) (first := Z) (o := none) (idx := []) (s := Z) (C := C) (n := n) (dd := d) ev
  simp only [Cond.value, q, Term.int_eval] at h
  cases hv : Z.fieldOf? a C n d with
  | none => simp [hv] at h
  | some v => cases v <;> simp [hv] at h <;> simp [h]
section Imp
variable {E a b : Int32}
theorem oLL (h : E < a) (k : a.toInt ≤ b.toInt) : E < b := by rw [Int32.lt_iff_toInt_lt] at *; omega
theorem oLnG (h : E < a) (k : a.toInt ≤ b.toInt + 1) : ¬ b < E := by rw [Int32.lt_iff_toInt_lt] at *; omega
theorem oLnE (h : E < a) (k : a.toInt ≤ b.toInt) : ¬ E = b := fun q => by subst q; rw [Int32.lt_iff_toInt_lt] at h; omega
theorem oGG (h : a < E) (k : b.toInt ≤ a.toInt) : b < E := by rw [Int32.lt_iff_toInt_lt] at *; omega
theorem oGnL (h : a < E) (k : b.toInt ≤ a.toInt + 1) : ¬ E < b := by rw [Int32.lt_iff_toInt_lt] at *; omega
theorem oGnE (h : a < E) (k : b.toInt ≤ a.toInt) : ¬ E = b := fun q => by subst q; rw [Int32.lt_iff_toInt_lt] at h; omega
theorem onLnL (h : ¬ E < a) (k : b.toInt ≤ a.toInt) : ¬ E < b := by rw [Int32.lt_iff_toInt_lt] at *; omega
theorem onLG (h : ¬ E < a) (k : b.toInt < a.toInt) : b < E := by rw [Int32.lt_iff_toInt_lt] at *; omega
theorem onLnE (h : ¬ E < a) (k : b.toInt < a.toInt) : ¬ E = b := fun q => by subst q; rw [Int32.lt_iff_toInt_lt] at h; omega
theorem onGnG (h : ¬ a < E) (k : a.toInt ≤ b.toInt) : ¬ b < E := by rw [Int32.lt_iff_toInt_lt] at *; omega
theorem onGL (h : ¬ a < E) (k : a.toInt < b.toInt) : E < b := by rw [Int32.lt_iff_toInt_lt] at *; omega
theorem onGnE (h : ¬ a < E) (k : a.toInt < b.toInt) : ¬ E = b := fun q => by subst q; rw [Int32.lt_iff_toInt_lt] at h; omega
end Imp
end Own
end Jvm.RoadKit
namespace Jvm.Pilot.@@N@@
open Jvm Jvm.ClassFile Sem Op Lib Jvm.Free Jvm.Stand Jvm.LawKit Jvm.RoadKit Bundle Jvm.Pilot.@@N@@.Jvm.D

theorem d1_0 : decode method_2_code 0 = .ok (.iload_n 0, 1) := by decide +kernel
theorem d1_1 : decode method_2_code 1 = .ok (.ifCond .ne 7, 3) := by decide +kernel
theorem d1_4 : decode method_2_code 4 = .ok (.getstatic 7, 3) := by decide +kernel
theorem d1_7 : decode method_2_code 7 = .ok (.areturn, 1) := by decide +kernel
theorem d1_8 : decode method_2_code 8 = .ok (.iload_n 0, 1) := by decide +kernel
theorem d1_9 : decode method_2_code 9 = .ok (.iconst 1, 1) := by decide +kernel
theorem d1_10 : decode method_2_code 10 = .ok (.if_icmp .ne 7, 3) := by decide +kernel
theorem d1_13 : decode method_2_code 13 = .ok (.getstatic 13, 3) := by decide +kernel
theorem d1_16 : decode method_2_code 16 = .ok (.areturn, 1) := by decide +kernel
theorem d1_17 : decode method_2_code 17 = .ok (.iload_n 0, 1) := by decide +kernel
theorem d1_18 : decode method_2_code 18 = .ok (.iconst 2, 1) := by decide +kernel
theorem d1_19 : decode method_2_code 19 = .ok (.if_icmp .ne 7, 3) := by decide +kernel
theorem d1_22 : decode method_2_code 22 = .ok (.getstatic 16, 3) := by decide +kernel
theorem d1_25 : decode method_2_code 25 = .ok (.areturn, 1) := by decide +kernel
theorem d1_26 : decode method_2_code 26 = .ok (.iload_n 0, 1) := by decide +kernel
theorem d1_27 : decode method_2_code 27 = .ok (.iconst 3, 1) := by decide +kernel
theorem d1_28 : decode method_2_code 28 = .ok (.if_icmp .ne 7, 3) := by decide +kernel
theorem d1_31 : decode method_2_code 31 = .ok (.getstatic 19, 3) := by decide +kernel
theorem d1_34 : decode method_2_code 34 = .ok (.areturn, 1) := by decide +kernel
theorem d1_35 : decode method_2_code 35 = .ok (.aconst_null, 1) := by decide +kernel
theorem d1_36 : decode method_2_code 36 = .ok (.areturn, 1) := by decide +kernel
theorem pn_1 : plainName "com/example/pushout_bench/pushoutbench/graph/AttributeTypeAcceptsPinLaw" = true := by first | (simp [plainName, overriddenIn]; done) | decide +kernel
theorem ef_1 (m : MethodId) (p0 : Int32) : entryFrame m #[(.int p0)] 1 = mkF m 0 #[.val (.int p0)] [] := by first | (simp [entryFrame, mkF, argsToLocals, Value.category]; done) | rfl
def f1 (p0 : Int32) (w_INT : Addr) (w_DOUBLE : Addr) (w_BOOLEAN : Addr) (w_STRING : Addr) : Value := (if p0 = (0 : Int32) then ((.ref w_INT) : Value) else (if p0 = (1 : Int32) then ((.ref w_DOUBLE) : Value) else (if p0 = (2 : Int32) then ((.ref w_BOOLEAN) : Value) else (if p0 = (3 : Int32) then ((.ref w_STRING) : Value) else (.null : Value)))))
theorem f1_isRef (p0 : Int32) (w_INT : Addr) (w_DOUBLE : Addr) (w_BOOLEAN : Addr) (w_STRING : Addr) : (f1 p0 w_INT w_DOUBLE w_BOOLEAN w_STRING).isRef = true := by unfold f1; (repeat' split) <;> first | rfl | assumption
def Q1 (Z : State) (p0 : Int32) (w_INT : Addr) (w_DOUBLE : Addr) (w_BOOLEAN : Addr) (w_STRING : Addr) (h0 : Heap) (n0 : Nat) (v : Option Value) (h : Heap) (L : List Loc) : Prop := v = some (f1 p0 w_INT w_DOUBLE w_BOOLEAN w_STRING) ∧ Fr n0 L ∧ h = h0
set_option maxRecDepth 65536 in
set_option maxHeartbeats 40000000 in
theorem rm1 (l : Launch) (Z : State) (a0 : Array Value) (hw : ∀ d ∈ tables_1, d.before a0 Z = true) (ws : List Jvm.Cond) (p0 : Int32) (w_INT : Addr) (w_DOUBLE : Addr) (w_BOOLEAN : Addr) (w_STRING : Addr) (h0 : Heap) (n0 : Nat) (Z0 : n0 ≤ h0.size) (S_INT : Sta Z h0 "com/example/pushout_bench/pushoutbench/graph/AttributeType" "INT" "Lcom/example/pushout_bench/pushoutbench/graph/AttributeType;" (.ref w_INT)) (S_DOUBLE : Sta Z h0 "com/example/pushout_bench/pushoutbench/graph/AttributeType" "DOUBLE" "Lcom/example/pushout_bench/pushoutbench/graph/AttributeType;" (.ref w_DOUBLE)) (S_BOOLEAN : Sta Z h0 "com/example/pushout_bench/pushoutbench/graph/AttributeType" "BOOLEAN" "Lcom/example/pushout_bench/pushoutbench/graph/AttributeType;" (.ref w_BOOLEAN)) (S_STRING : Sta Z h0 "com/example/pushout_bench/pushoutbench/graph/AttributeType" "STRING" "Lcom/example/pushout_bench/pushoutbench/graph/AttributeType;" (.ref w_STRING)) :
    MetFree l (⟨"com/example/pushout_bench/pushoutbench/graph/AttributeTypeAcceptsPinLaw", "pick", "(I)Lcom/example/pushout_bench/pushoutbench/graph/AttributeType;"⟩ : MethodName) (head1 (Jvm.Cond.code (⟨"com/example/pushout_bench/pushoutbench/graph/AttributeTypeAcceptsPinLaw", "pick", "(I)Lcom/example/pushout_bench/pushoutbench/graph/AttributeType;"⟩ : MethodName) method_2_code 1 (some (.object "com/example/pushout_bench/pushoutbench/graph/AttributeType")) :: ws) ({ frames := 0, cells := 0, slots := 0, locals := 0 } : Room)) (fun a U => a = #[(.int p0)] ∧ Z.Warmed39 U.vm ∧ U.heap = h0) (fun _ _ _ _ _ => True) (fun _ U o U' => ∃ v L, o = .returned v ∧ Q1 Z p0 w_INT w_DOUBLE w_BOOLEAN w_STRING h0 n0 v U'.heap L ∧ FrameEnd U o U' L ({ frames := 0, cells := 0, slots := 0, locals := 0 } : Room).cells ({ frames := 0, cells := 0, slots := 0, locals := 0 } : Room).slots) := by
  refine MetFree.of_bodySF (plainFor_of_name pn_1) hisR ?_
  intro p e s m args below meth c s₁ Bd hml0 hP hK
  obtain ⟨rfl, hZ, hh⟩ := hP
  have hx := Bd.exec
  have hby := Bd.bytes
  have hml : c.maxLocals = 1 := hml0
  have hown : s.vm.findClass "com/example/pushout_bench/pushoutbench/graph/AttributeTypeAcceptsPinLaw" = some m.cls := findClass_of_methodNamed Bd.named
  have hnm := (name_of_methodNamed Bd.named Bd.method).1
  have X0 : Stand p l e ({ frames := 0, cells := 0, slots := 0, locals := 0 } : Room) s m #[(.int p0)] below meth c s₁ [] 0 0 := Stand.of_body Bd
  have e0 : s₁.heap = h0 := by rw [← hh, Bd.state]; rfl
  have N0 := Fr.nil n0
  show OGo p e below s (Q1 Z p0 w_INT w_DOUBLE w_BOOLEAN w_STRING h0 n0) ({ frames := 0, cells := 0, slots := 0, locals := 0 } : Room).cells ({ frames := 0, cells := 0, slots := 0, locals := 0 } : Room).slots _
  refine OGo.st (fun _ k => castTop (ef_1 m p0) k) ?_
  show OGo p e below s _ _ _ (s₁.setTop (mkF m 0 #[.val (.int p0)] []))
  refine OGo.st (fun _ k => XS.iloadN X0.here hx rfl (hb hby d1_0) rfl k) ?_
  show OGo p e below s _ _ _ (s₁.setTop (mkF m 1 #[.val (.int p0)] [(.int p0)]))
  by_cases hc1 : p0 = (0 : Int32)
  · refine OGo.st (fun _ k => XS.ifNo X0.here hx rfl (hb hby d1_1) rfl ((if0 _ _).trans (teq hc1).2) k) ?_
    show OGo p e below s _ _ _ (s₁.setTop (mkF m 4 #[.val (.int p0)] []))
    obtain ⟨T1, X1, e1, st1⟩ := getS2 X0 hx hZ hown (host := "") (Or.inl (hw _ (List.mem_of_getElem? (i := 5) rfl))) Via.refl e0 S_INT (g := (mkF m 4 #[.val (.int p0)] [])) rfl (hb hby d1_4)
    refine OGo.st st1 ?_
    show OGo p e below s _ _ _ (T1.setTop (mkF m 7 #[.val (.int p0)] [(.ref w_INT)]))
    exact oretA X1 hx Bd.notSynchronized Bd.returns rfl rfl (hb hby d1_7) e1 ⟨(congrArg (fun z => some (z)) (show ((.ref w_INT) : Value) = f1 p0 w_INT w_DOUBLE w_BOOLEAN w_STRING from Eq.symm (by unfold f1; exact if_pos hc1))), N0, rfl⟩ (by decide) (by decide)
  · refine OGo.st (fun _ k => XS.ifYes X0.here hx rfl (pc0 := 1) (pc' := 8) rfl (hb hby d1_1) rfl ((if0 _ _).trans (feq hc1).2) (by decide) (by decide) k) ?_
    show OGo p e below s _ _ _ (s₁.setTop (mkF m 8 #[.val (.int p0)] []))
    refine OGo.st (fun _ k => XS.iloadN X0.here hx rfl (hb hby d1_8) rfl k) ?_
    show OGo p e below s _ _ _ (s₁.setTop (mkF m 9 #[.val (.int p0)] [(.int p0)]))
    refine OGo.st (fun _ k => XS.iconst X0.here hx rfl (hb hby d1_9) k) ?_
    show OGo p e below s _ _ _ (s₁.setTop (mkF m 10 #[.val (.int p0)] [(.int (1 : Int32)), (.int p0)]))
    by_cases hc10 : p0 = (1 : Int32)
    · refine OGo.st (fun _ k => XS.icmpNo X0.here hx rfl (hb hby d1_10) rfl (teq hc10).2 k) ?_
      show OGo p e below s _ _ _ (s₁.setTop (mkF m 13 #[.val (.int p0)] []))
      obtain ⟨T2, X2, e2, st2⟩ := getS2 X0 hx hZ hown (host := "") (Or.inl (hw _ (List.mem_of_getElem? (i := 19) rfl))) Via.refl e0 S_DOUBLE (g := (mkF m 13 #[.val (.int p0)] [])) rfl (hb hby d1_13)
      refine OGo.st st2 ?_
      show OGo p e below s _ _ _ (T2.setTop (mkF m 16 #[.val (.int p0)] [(.ref w_DOUBLE)]))
      exact oretA X2 hx Bd.notSynchronized Bd.returns rfl rfl (hb hby d1_16) e2 ⟨(congrArg (fun z => some (z)) (show ((.ref w_DOUBLE) : Value) = f1 p0 w_INT w_DOUBLE w_BOOLEAN w_STRING from Eq.symm (by unfold f1; exact (if_neg hc1).trans (if_pos hc10)))), N0, rfl⟩ (by decide) (by decide)
    · refine OGo.st (fun _ k => XS.icmpYes X0.here hx rfl (pc0 := 10) (pc' := 17) rfl (hb hby d1_10) rfl (feq hc10).2 (by decide) (by decide) k) ?_
      show OGo p e below s _ _ _ (s₁.setTop (mkF m 17 #[.val (.int p0)] []))
      refine OGo.st (fun _ k => XS.iloadN X0.here hx rfl (hb hby d1_17) rfl k) ?_
      show OGo p e below s _ _ _ (s₁.setTop (mkF m 18 #[.val (.int p0)] [(.int p0)]))
      refine OGo.st (fun _ k => XS.iconst X0.here hx rfl (hb hby d1_18) k) ?_
      show OGo p e below s _ _ _ (s₁.setTop (mkF m 19 #[.val (.int p0)] [(.int (2 : Int32)), (.int p0)]))
      by_cases hc19 : p0 = (2 : Int32)
      · refine OGo.st (fun _ k => XS.icmpNo X0.here hx rfl (hb hby d1_19) rfl (teq hc19).2 k) ?_
        show OGo p e below s _ _ _ (s₁.setTop (mkF m 22 #[.val (.int p0)] []))
        obtain ⟨T3, X3, e3, st3⟩ := getS2 X0 hx hZ hown (host := "") (Or.inl (hw _ (List.mem_of_getElem? (i := 17) rfl))) Via.refl e0 S_BOOLEAN (g := (mkF m 22 #[.val (.int p0)] [])) rfl (hb hby d1_22)
        refine OGo.st st3 ?_
        show OGo p e below s _ _ _ (T3.setTop (mkF m 25 #[.val (.int p0)] [(.ref w_BOOLEAN)]))
        exact oretA X3 hx Bd.notSynchronized Bd.returns rfl rfl (hb hby d1_25) e3 ⟨(congrArg (fun z => some (z)) (show ((.ref w_BOOLEAN) : Value) = f1 p0 w_INT w_DOUBLE w_BOOLEAN w_STRING from Eq.symm (by unfold f1; exact (if_neg hc1).trans ((if_neg hc10).trans (if_pos hc19))))), N0, rfl⟩ (by decide) (by decide)
      · refine OGo.st (fun _ k => XS.icmpYes X0.here hx rfl (pc0 := 19) (pc' := 26) rfl (hb hby d1_19) rfl (feq hc19).2 (by decide) (by decide) k) ?_
        show OGo p e below s _ _ _ (s₁.setTop (mkF m 26 #[.val (.int p0)] []))
        refine OGo.st (fun _ k => XS.iloadN X0.here hx rfl (hb hby d1_26) rfl k) ?_
        show OGo p e below s _ _ _ (s₁.setTop (mkF m 27 #[.val (.int p0)] [(.int p0)]))
        refine OGo.st (fun _ k => XS.iconst X0.here hx rfl (hb hby d1_27) k) ?_
        show OGo p e below s _ _ _ (s₁.setTop (mkF m 28 #[.val (.int p0)] [(.int (3 : Int32)), (.int p0)]))
        by_cases hc28 : p0 = (3 : Int32)
        · refine OGo.st (fun _ k => XS.icmpNo X0.here hx rfl (hb hby d1_28) rfl (teq hc28).2 k) ?_
          show OGo p e below s _ _ _ (s₁.setTop (mkF m 31 #[.val (.int p0)] []))
          obtain ⟨T4, X4, e4, st4⟩ := getS2 X0 hx hZ hown (host := "") (Or.inl (hw _ (List.mem_of_getElem? (i := 8) rfl))) Via.refl e0 S_STRING (g := (mkF m 31 #[.val (.int p0)] [])) rfl (hb hby d1_31)
          refine OGo.st st4 ?_
          show OGo p e below s _ _ _ (T4.setTop (mkF m 34 #[.val (.int p0)] [(.ref w_STRING)]))
          exact oretA X4 hx Bd.notSynchronized Bd.returns rfl rfl (hb hby d1_34) e4 ⟨(congrArg (fun z => some (z)) (show ((.ref w_STRING) : Value) = f1 p0 w_INT w_DOUBLE w_BOOLEAN w_STRING from Eq.symm (by unfold f1; exact (if_neg hc1).trans ((if_neg hc10).trans ((if_neg hc19).trans (if_pos hc28)))))), N0, rfl⟩ (by decide) (by decide)
        · refine OGo.st (fun _ k => XS.icmpYes X0.here hx rfl (pc0 := 28) (pc' := 35) rfl (hb hby d1_28) rfl (feq hc28).2 (by decide) (by decide) k) ?_
          show OGo p e below s _ _ _ (s₁.setTop (mkF m 35 #[.val (.int p0)] []))
          refine OGo.st (fun _ k => XS.aconstNull X0.here hx rfl (hb hby d1_35) k) ?_
          show OGo p e below s _ _ _ (s₁.setTop (mkF m 36 #[.val (.int p0)] [.null]))
          exact oretA X0 hx Bd.notSynchronized Bd.returns rfl rfl (hb hby d1_36) e0 ⟨(congrArg (fun z => some (z)) (show (.null : Value) = f1 p0 w_INT w_DOUBLE w_BOOLEAN w_STRING from Eq.symm (by unfold f1; exact (if_neg hc1).trans ((if_neg hc10).trans ((if_neg hc19).trans (if_neg hc28)))))), N0, rfl⟩ (by decide) (by decide)
theorem ef_1A (m : MethodId) (p0 : Int32) : entryFrame m #[(.int p0)] 1 = mkF m 0 #[.val (.int p0)] [] := by first | (simp [entryFrame, mkF, argsToLocals, Value.category]; done) | rfl
def f1A (p0 : Int32) (w_INT : Addr) (w_DOUBLE : Addr) (w_BOOLEAN : Addr) (w_STRING : Addr) : Addr := (if p0 = (0 : Int32) then w_INT else (if p0 = (1 : Int32) then w_DOUBLE else (if p0 = (2 : Int32) then w_BOOLEAN else (if p0 = (3 : Int32) then w_STRING else 0))))
def Q1A (Z : State) (p0 : Int32) (w_INT : Addr) (w_DOUBLE : Addr) (w_BOOLEAN : Addr) (w_STRING : Addr) (h0 : Heap) (n0 : Nat) (v : Option Value) (h : Heap) (L : List Loc) : Prop := v = some (.ref (f1A p0 w_INT w_DOUBLE w_BOOLEAN w_STRING)) ∧ Fr n0 L ∧ h = h0
set_option maxRecDepth 65536 in
set_option maxHeartbeats 40000000 in
theorem rm1A (l : Launch) (Z : State) (a0 : Array Value) (hw : ∀ d ∈ tables_1, d.before a0 Z = true) (ws : List Jvm.Cond) (p0 : Int32) (w_INT : Addr) (w_DOUBLE : Addr) (w_BOOLEAN : Addr) (w_STRING : Addr) (h0 : Heap) (n0 : Nat) (Z0 : n0 ≤ h0.size) (S_INT : Sta Z h0 "com/example/pushout_bench/pushoutbench/graph/AttributeType" "INT" "Lcom/example/pushout_bench/pushoutbench/graph/AttributeType;" (.ref w_INT)) (S_DOUBLE : Sta Z h0 "com/example/pushout_bench/pushoutbench/graph/AttributeType" "DOUBLE" "Lcom/example/pushout_bench/pushoutbench/graph/AttributeType;" (.ref w_DOUBLE)) (S_BOOLEAN : Sta Z h0 "com/example/pushout_bench/pushoutbench/graph/AttributeType" "BOOLEAN" "Lcom/example/pushout_bench/pushoutbench/graph/AttributeType;" (.ref w_BOOLEAN)) (S_STRING : Sta Z h0 "com/example/pushout_bench/pushoutbench/graph/AttributeType" "STRING" "Lcom/example/pushout_bench/pushoutbench/graph/AttributeType;" (.ref w_STRING)) (hp : p0 = 0 ∨ p0 = 1 ∨ p0 = 2 ∨ p0 = 3) :
    MetFree l (⟨"com/example/pushout_bench/pushoutbench/graph/AttributeTypeAcceptsPinLaw", "pick", "(I)Lcom/example/pushout_bench/pushoutbench/graph/AttributeType;"⟩ : MethodName) (head1 (Jvm.Cond.code (⟨"com/example/pushout_bench/pushoutbench/graph/AttributeTypeAcceptsPinLaw", "pick", "(I)Lcom/example/pushout_bench/pushoutbench/graph/AttributeType;"⟩ : MethodName) method_2_code 1 (some (.object "com/example/pushout_bench/pushoutbench/graph/AttributeType")) :: ws) ({ frames := 0, cells := 0, slots := 0, locals := 0 } : Room)) (fun a U => a = #[(.int p0)] ∧ Z.Warmed39 U.vm ∧ U.heap = h0) (fun _ _ _ _ _ => True) (fun _ U o U' => ∃ v L, o = .returned v ∧ Q1A Z p0 w_INT w_DOUBLE w_BOOLEAN w_STRING h0 n0 v U'.heap L ∧ FrameEnd U o U' L ({ frames := 0, cells := 0, slots := 0, locals := 0 } : Room).cells ({ frames := 0, cells := 0, slots := 0, locals := 0 } : Room).slots) := by
  refine MetFree.of_bodySF (plainFor_of_name pn_1) hisR ?_
  intro p e s m args below meth c s₁ Bd hml0 hP hK
  obtain ⟨rfl, hZ, hh⟩ := hP
  have hx := Bd.exec
  have hby := Bd.bytes
  have hml : c.maxLocals = 1 := hml0
  have hown : s.vm.findClass "com/example/pushout_bench/pushoutbench/graph/AttributeTypeAcceptsPinLaw" = some m.cls := findClass_of_methodNamed Bd.named
  have hnm := (name_of_methodNamed Bd.named Bd.method).1
  have X0 : Stand p l e ({ frames := 0, cells := 0, slots := 0, locals := 0 } : Room) s m #[(.int p0)] below meth c s₁ [] 0 0 := Stand.of_body Bd
  have e0 : s₁.heap = h0 := by rw [← hh, Bd.state]; rfl
  have N0 := Fr.nil n0
  show OGo p e below s (Q1A Z p0 w_INT w_DOUBLE w_BOOLEAN w_STRING h0 n0) ({ frames := 0, cells := 0, slots := 0, locals := 0 } : Room).cells ({ frames := 0, cells := 0, slots := 0, locals := 0 } : Room).slots _
  refine OGo.st (fun _ k => castTop (ef_1A m p0) k) ?_
  show OGo p e below s _ _ _ (s₁.setTop (mkF m 0 #[.val (.int p0)] []))
  refine OGo.st (fun _ k => XS.iloadN X0.here hx rfl (hb hby d1_0) rfl k) ?_
  show OGo p e below s _ _ _ (s₁.setTop (mkF m 1 #[.val (.int p0)] [(.int p0)]))
  by_cases hc1 : p0 = (0 : Int32)
  · refine OGo.st (fun _ k => XS.ifNo X0.here hx rfl (hb hby d1_1) rfl ((if0 _ _).trans (teq hc1).2) k) ?_
    show OGo p e below s _ _ _ (s₁.setTop (mkF m 4 #[.val (.int p0)] []))
    obtain ⟨T1, X1, e1, st1⟩ := getS2 X0 hx hZ hown (host := "") (Or.inl (hw _ (List.mem_of_getElem? (i := 5) rfl))) Via.refl e0 S_INT (g := (mkF m 4 #[.val (.int p0)] [])) rfl (hb hby d1_4)
    refine OGo.st st1 ?_
    show OGo p e below s _ _ _ (T1.setTop (mkF m 7 #[.val (.int p0)] [(.ref w_INT)]))
    exact oretA X1 hx Bd.notSynchronized Bd.returns rfl rfl (hb hby d1_7) e1 ⟨(congrArg (fun z => some (Value.ref z)) (show w_INT = f1A p0 w_INT w_DOUBLE w_BOOLEAN w_STRING from Eq.symm (by unfold f1A; exact if_pos hc1))), N0, rfl⟩ (by decide) (by decide)
  · refine OGo.st (fun _ k => XS.ifYes X0.here hx rfl (pc0 := 1) (pc' := 8) rfl (hb hby d1_1) rfl ((if0 _ _).trans (feq hc1).2) (by decide) (by decide) k) ?_
    show OGo p e below s _ _ _ (s₁.setTop (mkF m 8 #[.val (.int p0)] []))
    refine OGo.st (fun _ k => XS.iloadN X0.here hx rfl (hb hby d1_8) rfl k) ?_
    show OGo p e below s _ _ _ (s₁.setTop (mkF m 9 #[.val (.int p0)] [(.int p0)]))
    refine OGo.st (fun _ k => XS.iconst X0.here hx rfl (hb hby d1_9) k) ?_
    show OGo p e below s _ _ _ (s₁.setTop (mkF m 10 #[.val (.int p0)] [(.int (1 : Int32)), (.int p0)]))
    by_cases hc10 : p0 = (1 : Int32)
    · refine OGo.st (fun _ k => XS.icmpNo X0.here hx rfl (hb hby d1_10) rfl (teq hc10).2 k) ?_
      show OGo p e below s _ _ _ (s₁.setTop (mkF m 13 #[.val (.int p0)] []))
      obtain ⟨T2, X2, e2, st2⟩ := getS2 X0 hx hZ hown (host := "") (Or.inl (hw _ (List.mem_of_getElem? (i := 19) rfl))) Via.refl e0 S_DOUBLE (g := (mkF m 13 #[.val (.int p0)] [])) rfl (hb hby d1_13)
      refine OGo.st st2 ?_
      show OGo p e below s _ _ _ (T2.setTop (mkF m 16 #[.val (.int p0)] [(.ref w_DOUBLE)]))
      exact oretA X2 hx Bd.notSynchronized Bd.returns rfl rfl (hb hby d1_16) e2 ⟨(congrArg (fun z => some (Value.ref z)) (show w_DOUBLE = f1A p0 w_INT w_DOUBLE w_BOOLEAN w_STRING from Eq.symm (by unfold f1A; exact (if_neg hc1).trans (if_pos hc10)))), N0, rfl⟩ (by decide) (by decide)
    · refine OGo.st (fun _ k => XS.icmpYes X0.here hx rfl (pc0 := 10) (pc' := 17) rfl (hb hby d1_10) rfl (feq hc10).2 (by decide) (by decide) k) ?_
      show OGo p e below s _ _ _ (s₁.setTop (mkF m 17 #[.val (.int p0)] []))
      refine OGo.st (fun _ k => XS.iloadN X0.here hx rfl (hb hby d1_17) rfl k) ?_
      show OGo p e below s _ _ _ (s₁.setTop (mkF m 18 #[.val (.int p0)] [(.int p0)]))
      refine OGo.st (fun _ k => XS.iconst X0.here hx rfl (hb hby d1_18) k) ?_
      show OGo p e below s _ _ _ (s₁.setTop (mkF m 19 #[.val (.int p0)] [(.int (2 : Int32)), (.int p0)]))
      by_cases hc19 : p0 = (2 : Int32)
      · refine OGo.st (fun _ k => XS.icmpNo X0.here hx rfl (hb hby d1_19) rfl (teq hc19).2 k) ?_
        show OGo p e below s _ _ _ (s₁.setTop (mkF m 22 #[.val (.int p0)] []))
        obtain ⟨T3, X3, e3, st3⟩ := getS2 X0 hx hZ hown (host := "") (Or.inl (hw _ (List.mem_of_getElem? (i := 17) rfl))) Via.refl e0 S_BOOLEAN (g := (mkF m 22 #[.val (.int p0)] [])) rfl (hb hby d1_22)
        refine OGo.st st3 ?_
        show OGo p e below s _ _ _ (T3.setTop (mkF m 25 #[.val (.int p0)] [(.ref w_BOOLEAN)]))
        exact oretA X3 hx Bd.notSynchronized Bd.returns rfl rfl (hb hby d1_25) e3 ⟨(congrArg (fun z => some (Value.ref z)) (show w_BOOLEAN = f1A p0 w_INT w_DOUBLE w_BOOLEAN w_STRING from Eq.symm (by unfold f1A; exact (if_neg hc1).trans ((if_neg hc10).trans (if_pos hc19))))), N0, rfl⟩ (by decide) (by decide)
      · refine OGo.st (fun _ k => XS.icmpYes X0.here hx rfl (pc0 := 19) (pc' := 26) rfl (hb hby d1_19) rfl (feq hc19).2 (by decide) (by decide) k) ?_
        show OGo p e below s _ _ _ (s₁.setTop (mkF m 26 #[.val (.int p0)] []))
        refine OGo.st (fun _ k => XS.iloadN X0.here hx rfl (hb hby d1_26) rfl k) ?_
        show OGo p e below s _ _ _ (s₁.setTop (mkF m 27 #[.val (.int p0)] [(.int p0)]))
        refine OGo.st (fun _ k => XS.iconst X0.here hx rfl (hb hby d1_27) k) ?_
        show OGo p e below s _ _ _ (s₁.setTop (mkF m 28 #[.val (.int p0)] [(.int (3 : Int32)), (.int p0)]))
        by_cases hc28 : p0 = (3 : Int32)
        · refine OGo.st (fun _ k => XS.icmpNo X0.here hx rfl (hb hby d1_28) rfl (teq hc28).2 k) ?_
          show OGo p e below s _ _ _ (s₁.setTop (mkF m 31 #[.val (.int p0)] []))
          obtain ⟨T4, X4, e4, st4⟩ := getS2 X0 hx hZ hown (host := "") (Or.inl (hw _ (List.mem_of_getElem? (i := 8) rfl))) Via.refl e0 S_STRING (g := (mkF m 31 #[.val (.int p0)] [])) rfl (hb hby d1_31)
          refine OGo.st st4 ?_
          show OGo p e below s _ _ _ (T4.setTop (mkF m 34 #[.val (.int p0)] [(.ref w_STRING)]))
          exact oretA X4 hx Bd.notSynchronized Bd.returns rfl rfl (hb hby d1_34) e4 ⟨(congrArg (fun z => some (Value.ref z)) (show w_STRING = f1A p0 w_INT w_DOUBLE w_BOOLEAN w_STRING from Eq.symm (by unfold f1A; exact (if_neg hc1).trans ((if_neg hc10).trans ((if_neg hc19).trans (if_pos hc28)))))), N0, rfl⟩ (by decide) (by decide)
        · refine OGo.st (fun _ k => XS.icmpYes X0.here hx rfl (pc0 := 28) (pc' := 35) rfl (hb hby d1_28) rfl (feq hc28).2 (by decide) (by decide) k) ?_
          show OGo p e below s _ _ _ (s₁.setTop (mkF m 35 #[.val (.int p0)] []))
          exact absurd hp (by simp [hc1, hc10, hc19, hc28])
theorem d2_0 : decode prog_56_method_8_code 0 = .ok (.aload_n 1, 1) := by decide +kernel
theorem d2_1 : decode prog_56_method_8_code 1 = .ok (.aload_n 0, 1) := by decide +kernel
theorem d2_2 : decode prog_56_method_8_code 2 = .ok (.if_acmp .eq 17, 3) := by decide +kernel
theorem d2_5 : decode prog_56_method_8_code 5 = .ok (.aload_n 0, 1) := by decide +kernel
theorem d2_6 : decode prog_56_method_8_code 6 = .ok (.getstatic 7, 3) := by decide +kernel
theorem d2_9 : decode prog_56_method_8_code 9 = .ok (.if_acmp .ne 14, 3) := by decide +kernel
theorem d2_12 : decode prog_56_method_8_code 12 = .ok (.aload_n 1, 1) := by decide +kernel
theorem d2_13 : decode prog_56_method_8_code 13 = .ok (.getstatic 3, 3) := by decide +kernel
theorem d2_16 : decode prog_56_method_8_code 16 = .ok (.if_acmp .ne 7, 3) := by decide +kernel
theorem d2_19 : decode prog_56_method_8_code 19 = .ok (.iconst 1, 1) := by decide +kernel
theorem d2_20 : decode prog_56_method_8_code 20 = .ok (.goto 4, 3) := by decide +kernel
theorem d2_23 : decode prog_56_method_8_code 23 = .ok (.iconst 0, 1) := by decide +kernel
theorem d2_24 : decode prog_56_method_8_code 24 = .ok (.ireturn, 1) := by decide +kernel
theorem pn_2 : plainName "com/example/pushout_bench/pushoutbench/graph/AttributeType" = true := by first | (simp [plainName, overriddenIn]; done) | decide +kernel
theorem ef_2 (m : MethodId) (o0 : Addr) (o1 : Value) (hr_o1 : o1.isRef = true) : entryFrame m #[(.ref o0), o1] 2 = mkF m 0 #[.val (.ref o0), .val o1] [] := by rcases ref_cases hr_o1 with rfl | ⟨_, rfl⟩ <;> first | (simp [entryFrame, mkF, argsToLocals, Value.category]; done) | rfl
def f2 (o0 : Addr) (o1 : Value) (w_DOUBLE : Addr) (w_INT : Addr) : Int32 := (if (o1 : Value) = ((.ref o0) : Value) then (1 : Int32) else (if o0 = w_DOUBLE then (if (o1 : Value) = ((.ref w_INT) : Value) then (1 : Int32) else (0 : Int32)) else (0 : Int32)))
def Q2 (Z : State) (o0 : Addr) (o1 : Value) (w_DOUBLE : Addr) (w_INT : Addr) (h0 : Heap) (n0 : Nat) (v : Option Value) (h : Heap) (L : List Loc) : Prop := v = some (.int (f2 o0 o1 w_DOUBLE w_INT)) ∧ Fr n0 L ∧ h = h0
set_option maxRecDepth 65536 in
set_option maxHeartbeats 40000000 in
theorem rm2 (l : Launch) (Z : State) (a0 : Array Value) (hw : ∀ d ∈ tables_1, d.before a0 Z = true) (ws : List Jvm.Cond) (o0 : Addr) (o1 : Value) (w_DOUBLE : Addr) (w_INT : Addr) (h0 : Heap) (n0 : Nat) (Z0 : n0 ≤ h0.size) (S_DOUBLE : Sta Z h0 "com/example/pushout_bench/pushoutbench/graph/AttributeType" "DOUBLE" "Lcom/example/pushout_bench/pushoutbench/graph/AttributeType;" (.ref w_DOUBLE)) (S_INT : Sta Z h0 "com/example/pushout_bench/pushoutbench/graph/AttributeType" "INT" "Lcom/example/pushout_bench/pushoutbench/graph/AttributeType;" (.ref w_INT)) (hr_o1 : o1.isRef = true) :
    MetFree l (⟨"com/example/pushout_bench/pushoutbench/graph/AttributeType", "accepts", "(Lcom/example/pushout_bench/pushoutbench/graph/AttributeType;)Z"⟩ : MethodName) (head1 (Jvm.Cond.code (⟨"com/example/pushout_bench/pushoutbench/graph/AttributeType", "accepts", "(Lcom/example/pushout_bench/pushoutbench/graph/AttributeType;)Z"⟩ : MethodName) prog_56_method_8_code 2 (some .boolean) :: ws) ({ frames := 0, cells := 0, slots := 0, locals := 0 } : Room)) (fun a U => a = #[(.ref o0), o1] ∧ Z.Warmed39 U.vm ∧ U.heap = h0) (fun _ _ _ _ _ => True) (fun _ U o U' => ∃ v L, o = .returned v ∧ Q2 Z o0 o1 w_DOUBLE w_INT h0 n0 v U'.heap L ∧ FrameEnd U o U' L ({ frames := 0, cells := 0, slots := 0, locals := 0 } : Room).cells ({ frames := 0, cells := 0, slots := 0, locals := 0 } : Room).slots) := by
  refine MetFree.of_bodySF (plainFor_of_name pn_2) hisR ?_
  intro p e s m args below meth c s₁ Bd hml0 hP hK
  obtain ⟨rfl, hZ, hh⟩ := hP
  have hx := Bd.exec
  have hby := Bd.bytes
  have hml : c.maxLocals = 2 := hml0
  have hown : s.vm.findClass "com/example/pushout_bench/pushoutbench/graph/AttributeType" = some m.cls := findClass_of_methodNamed Bd.named
  have hnm := (name_of_methodNamed Bd.named Bd.method).1
  have X0 : Stand p l e ({ frames := 0, cells := 0, slots := 0, locals := 0 } : Room) s m #[(.ref o0), o1] below meth c s₁ [] 0 0 := Stand.of_body Bd
  have e0 : s₁.heap = h0 := by rw [← hh, Bd.state]; rfl
  have N0 := Fr.nil n0
  show OGo p e below s (Q2 Z o0 o1 w_DOUBLE w_INT h0 n0) ({ frames := 0, cells := 0, slots := 0, locals := 0 } : Room).cells ({ frames := 0, cells := 0, slots := 0, locals := 0 } : Room).slots _
  refine OGo.st (fun _ k => castTop (ef_2 m o0 o1 hr_o1) k) ?_
  show OGo p e below s _ _ _ (s₁.setTop (mkF m 0 #[.val (.ref o0), .val o1] []))
  refine OGo.st (fun _ k => XS.aloadN X0.here hx rfl (hb hby d2_0) rfl hr_o1 k) ?_
  show OGo p e below s _ _ _ (s₁.setTop (mkF m 1 #[.val (.ref o0), .val o1] [o1]))
  refine OGo.st (fun _ k => XS.aloadN X0.here hx rfl (hb hby d2_1) rfl rfl k) ?_
  show OGo p e below s _ _ _ (s₁.setTop (mkF m 2 #[.val (.ref o0), .val o1] [(.ref o0), o1]))
  by_cases hc2 : (o1 : Value) = ((.ref o0) : Value)
  · refine OGo.st (fun _ k => Jvm.RoadKit.acmp (g := (mkF m 2 #[.val (.ref o0), .val o1] [(.ref o0), o1])) X0 hx rfl hr_o1 rfl (pc0 := 2) (pc' := 19) (same := true) rfl (hb hby d2_2) rfl (decide_eq_true hc2) (by decide) (by decide) k) ?_
    show OGo p e below s _ _ _ (s₁.setTop (mkF m 19 #[.val (.ref o0), .val o1] []))
    refine OGo.st (fun _ k => XS.iconst X0.here hx rfl (hb hby d2_19) k) ?_
    show OGo p e below s _ _ _ (s₁.setTop (mkF m 20 #[.val (.ref o0), .val o1] [(.int (1 : Int32))]))
    refine OGo.st (fun _ k => XS.goto X0.here hx rfl (pc0 := 20) (pc' := 24) rfl (hb hby d2_20) (by decide) (by decide) k) ?_
    show OGo p e below s _ _ _ (s₁.setTop (mkF m 24 #[.val (.ref o0), .val o1] [(.int (1 : Int32))]))
    exact oretN X0 hx Bd.notSynchronized (t := .boolean) Bd.returns (by simp) (hb hby d2_24) (z' := (1 : Int32)) (by decide) e0 ⟨(congrArg (fun z => some (Value.int z)) (show (1 : Int32) = f2 o0 o1 w_DOUBLE w_INT from Eq.symm (by unfold f2; exact if_pos hc2))), N0, rfl⟩ (by decide) (by decide)
  · refine OGo.st (fun _ k => Jvm.RoadKit.acmp (g := (mkF m 2 #[.val (.ref o0), .val o1] [(.ref o0), o1])) X0 hx rfl hr_o1 rfl (pc0 := 2) (pc' := 5) (same := false) rfl (hb hby d2_2) rfl (decide_eq_false hc2) (by decide) (by decide) k) ?_
    show OGo p e below s _ _ _ (s₁.setTop (mkF m 5 #[.val (.ref o0), .val o1] []))
    refine OGo.st (fun _ k => XS.aloadN X0.here hx rfl (hb hby d2_5) rfl rfl k) ?_
    show OGo p e below s _ _ _ (s₁.setTop (mkF m 6 #[.val (.ref o0), .val o1] [(.ref o0)]))
    obtain ⟨T1, X1, e1, st1⟩ := getS2 X0 hx hZ hown (host := "") (Or.inl (hw _ (List.mem_of_getElem? (i := 15) rfl))) Via.refl e0 S_DOUBLE (g := (mkF m 6 #[.val (.ref o0), .val o1] [(.ref o0)])) rfl (hb hby d2_6)
    refine OGo.st st1 ?_
    show OGo p e below s _ _ _ (T1.setTop (mkF m 9 #[.val (.ref o0), .val o1] [(.ref w_DOUBLE), (.ref o0)]))
    by_cases hc9 : o0 = w_DOUBLE
    · refine OGo.st (fun _ k => Jvm.RoadKit.acmp (g := (mkF m 9 #[.val (.ref o0), .val o1] [(.ref w_DOUBLE), (.ref o0)])) X1 hx rfl rfl rfl (pc0 := 9) (pc' := 12) (same := true) rfl (hb hby d2_9) rfl (decide_eq_true (congrArg Value.ref hc9)) (by decide) (by decide) k) ?_
      show OGo p e below s _ _ _ (T1.setTop (mkF m 12 #[.val (.ref o0), .val o1] []))
      refine OGo.st (fun _ k => XS.aloadN X1.here hx rfl (hb hby d2_12) rfl hr_o1 k) ?_
      show OGo p e below s _ _ _ (T1.setTop (mkF m 13 #[.val (.ref o0), .val o1] [o1]))
      obtain ⟨T2, X2, e2, st2⟩ := getS2 X1 hx hZ hown (host := "") (Or.inl (hw _ (List.mem_of_getElem? (i := 20) rfl))) Via.refl e1 S_INT (g := (mkF m 13 #[.val (.ref o0), .val o1] [o1])) rfl (hb hby d2_13)
      refine OGo.st st2 ?_
      show OGo p e below s _ _ _ (T2.setTop (mkF m 16 #[.val (.ref o0), .val o1] [(.ref w_INT), o1]))
      by_cases hc16 : (o1 : Value) = ((.ref w_INT) : Value)
      · refine OGo.st (fun _ k => Jvm.RoadKit.acmp (g := (mkF m 16 #[.val (.ref o0), .val o1] [(.ref w_INT), o1])) X2 hx rfl hr_o1 rfl (pc0 := 16) (pc' := 19) (same := true) rfl (hb hby d2_16) rfl (decide_eq_true hc16) (by decide) (by decide) k) ?_
        show OGo p e below s _ _ _ (T2.setTop (mkF m 19 #[.val (.ref o0), .val o1] []))
        refine OGo.st (fun _ k => XS.iconst X2.here hx rfl (hb hby d2_19) k) ?_
        show OGo p e below s _ _ _ (T2.setTop (mkF m 20 #[.val (.ref o0), .val o1] [(.int (1 : Int32))]))
        refine OGo.st (fun _ k => XS.goto X2.here hx rfl (pc0 := 20) (pc' := 24) rfl (hb hby d2_20) (by decide) (by decide) k) ?_
        show OGo p e below s _ _ _ (T2.setTop (mkF m 24 #[.val (.ref o0), .val o1] [(.int (1 : Int32))]))
        exact oretN X2 hx Bd.notSynchronized (t := .boolean) Bd.returns (by simp) (hb hby d2_24) (z' := (1 : Int32)) (by decide) e2 ⟨(congrArg (fun z => some (Value.int z)) (show (1 : Int32) = f2 o0 o1 w_DOUBLE w_INT from Eq.symm (by unfold f2; exact (if_neg hc2).trans ((if_pos hc9).trans (if_pos hc16))))), N0, rfl⟩ (by decide) (by decide)
      · refine OGo.st (fun _ k => Jvm.RoadKit.acmp (g := (mkF m 16 #[.val (.ref o0), .val o1] [(.ref w_INT), o1])) X2 hx rfl hr_o1 rfl (pc0 := 16) (pc' := 23) (same := false) rfl (hb hby d2_16) rfl (decide_eq_false hc16) (by decide) (by decide) k) ?_
        show OGo p e below s _ _ _ (T2.setTop (mkF m 23 #[.val (.ref o0), .val o1] []))
        refine OGo.st (fun _ k => XS.iconst X2.here hx rfl (hb hby d2_23) k) ?_
        show OGo p e below s _ _ _ (T2.setTop (mkF m 24 #[.val (.ref o0), .val o1] [(.int (0 : Int32))]))
        exact oretN X2 hx Bd.notSynchronized (t := .boolean) Bd.returns (by simp) (hb hby d2_24) (z' := (0 : Int32)) (by decide) e2 ⟨(congrArg (fun z => some (Value.int z)) (show (0 : Int32) = f2 o0 o1 w_DOUBLE w_INT from Eq.symm (by unfold f2; exact (if_neg hc2).trans ((if_pos hc9).trans (if_neg hc16))))), N0, rfl⟩ (by decide) (by decide)
    · refine OGo.st (fun _ k => Jvm.RoadKit.acmp (g := (mkF m 9 #[.val (.ref o0), .val o1] [(.ref w_DOUBLE), (.ref o0)])) X1 hx rfl rfl rfl (pc0 := 9) (pc' := 23) (same := false) rfl (hb hby d2_9) rfl (decide_eq_false fun q => hc9 (Value.ref.inj q)) (by decide) (by decide) k) ?_
      show OGo p e below s _ _ _ (T1.setTop (mkF m 23 #[.val (.ref o0), .val o1] []))
      refine OGo.st (fun _ k => XS.iconst X1.here hx rfl (hb hby d2_23) k) ?_
      show OGo p e below s _ _ _ (T1.setTop (mkF m 24 #[.val (.ref o0), .val o1] [(.int (0 : Int32))]))
      exact oretN X1 hx Bd.notSynchronized (t := .boolean) Bd.returns (by simp) (hb hby d2_24) (z' := (0 : Int32)) (by decide) e1 ⟨(congrArg (fun z => some (Value.int z)) (show (0 : Int32) = f2 o0 o1 w_DOUBLE w_INT from Eq.symm (by unfold f2; exact (if_neg hc2).trans (if_neg hc9)))), N0, rfl⟩ (by decide) (by decide)
theorem own_i (a : Int32) : ((a &&& (2147483647 : Int32)) % (4 : Int32)) = 0 ∨ ((a &&& (2147483647 : Int32)) % (4 : Int32)) = 1 ∨ ((a &&& (2147483647 : Int32)) % (4 : Int32)) = 2 ∨ ((a &&& (2147483647 : Int32)) % (4 : Int32)) = 3 := by
  have e := Jvm.Kit.i32_mask a 2147483647 (k := 31) (by decide) (by decide)
  have r := Jvm.Kit.i32_rem_nonneg (x := a &&& 2147483647) (y := 4) (by omega)
  have h4 : (4 : Int32).toInt = 4 := by decide
  have h0 : (0 : Int32).toInt = 0 := by decide
  have h1 : (1 : Int32).toInt = 1 := by decide
  have h2 : (2 : Int32).toInt = 2 := by decide
  have h3 : (3 : Int32).toInt = 3 := by decide
  simp only [← Int32.toInt_inj, r, h4, h0, h1, h2, h3]
  omega
theorem own_exa {Z : State} {h : Heap} {p0 : Int32} {w0 w1 w2 w3 : Addr} (hp : p0 = 0 ∨ p0 = 1 ∨ p0 = 2 ∨ p0 = 3) (E0 : Exa Z h w0 "com/example/pushout_bench/pushoutbench/graph/AttributeType") (E1 : Exa Z h w1 "com/example/pushout_bench/pushoutbench/graph/AttributeType") (E2 : Exa Z h w2 "com/example/pushout_bench/pushoutbench/graph/AttributeType") (E3 : Exa Z h w3 "com/example/pushout_bench/pushoutbench/graph/AttributeType") : Exa Z h (f1A p0 w0 w1 w2 w3) "com/example/pushout_bench/pushoutbench/graph/AttributeType" := by
  unfold f1A
  split
  · assumption
  · split
    · assumption
    · split
      · assumption
      · split
        · assumption
        · simp_all
theorem pn_0 : plainName "com/example/pushout_bench/pushoutbench/graph/AttributeTypeAcceptsPinLaw" = true := by first | (simp [plainName, overriddenIn]; done) | decide +kernel
theorem pd_0_0 : parseMethodDescriptor "(I)Lcom/example/pushout_bench/pushoutbench/graph/AttributeType;" = some ⟨[.int], some (.object "com/example/pushout_bench/pushoutbench/graph/AttributeType")⟩ := by decide +kernel
theorem pd_0_1 : parseMethodDescriptor "(Lcom/example/pushout_bench/pushoutbench/graph/AttributeType;)Z" = some ⟨[(.object "com/example/pushout_bench/pushoutbench/graph/AttributeType")], some .boolean⟩ := by decide +kernel
theorem ef_0 (m : MethodId) (p0 : Int32) (p1 : Int32) : entryFrame m #[(.int p0), (.int p1)] maxLocals = mkF m 0 #[.val (.int p0), .val (.int p1), .unset, .unset, .unset, .unset, .unset] [] := by first | (simp [entryFrame, mkF, argsToLocals, Value.category, maxLocals]; done) | rfl
def f0_66 (p0 : Int32) (p1 : Int32) (w_INT : Addr) (w_DOUBLE : Addr) (w_BOOLEAN : Addr) (w_STRING : Addr) (j66_0 : Int32) : Int32 := (if (f2 (f1A ((p0 &&& (2147483647 : Int32)) % (4 : Int32)) w_INT w_DOUBLE w_BOOLEAN w_STRING) (f1 ((p1 &&& (2147483647 : Int32)) % (5 : Int32)) w_INT w_DOUBLE w_BOOLEAN w_STRING) w_DOUBLE w_INT) = j66_0 then (1 : Int32) else (0 : Int32))
def f0 (p0 : Int32) (p1 : Int32) (w_INT : Addr) (w_DOUBLE : Addr) (w_BOOLEAN : Addr) (w_STRING : Addr) : Int32 := (if ((p1 &&& (2147483647 : Int32)) % (5 : Int32)) = (4 : Int32) then (f0_66 p0 p1 w_INT w_DOUBLE w_BOOLEAN w_STRING (0 : Int32)) else (if ((p0 &&& (2147483647 : Int32)) % (4 : Int32)) = ((p1 &&& (2147483647 : Int32)) % (5 : Int32)) then (f0_66 p0 p1 w_INT w_DOUBLE w_BOOLEAN w_STRING (1 : Int32)) else (if ((p0 &&& (2147483647 : Int32)) % (4 : Int32)) = (1 : Int32) then (if ((p1 &&& (2147483647 : Int32)) % (5 : Int32)) = (0 : Int32) then (f0_66 p0 p1 w_INT w_DOUBLE w_BOOLEAN w_STRING (1 : Int32)) else (f0_66 p0 p1 w_INT w_DOUBLE w_BOOLEAN w_STRING (0 : Int32))) else (f0_66 p0 p1 w_INT w_DOUBLE w_BOOLEAN w_STRING (0 : Int32)))))
def Q0 (Z : State) (p0 : Int32) (p1 : Int32) (w_INT : Addr) (w_DOUBLE : Addr) (w_BOOLEAN : Addr) (w_STRING : Addr) (h0 : Heap) (n0 : Nat) (v : Option Value) (h : Heap) (L : List Loc) : Prop := v = some (.int (f0 p0 p1 w_INT w_DOUBLE w_BOOLEAN w_STRING)) ∧ Fr n0 L
set_option maxRecDepth 65536 in
set_option maxHeartbeats 40000000 in
theorem rm0 (l : Launch) (Z : State) (a0 : Array Value) (hw : ∀ d ∈ tables_1, d.before a0 Z = true) (ws : List Jvm.Cond) (p0 : Int32) (p1 : Int32) (w_INT : Addr) (w_DOUBLE : Addr) (w_BOOLEAN : Addr) (w_STRING : Addr) (h0 : Heap) (n0 : Nat) (Z0 : n0 ≤ h0.size) (S_INT : Sta Z h0 "com/example/pushout_bench/pushoutbench/graph/AttributeType" "INT" "Lcom/example/pushout_bench/pushoutbench/graph/AttributeType;" (.ref w_INT)) (S_DOUBLE : Sta Z h0 "com/example/pushout_bench/pushoutbench/graph/AttributeType" "DOUBLE" "Lcom/example/pushout_bench/pushoutbench/graph/AttributeType;" (.ref w_DOUBLE)) (S_BOOLEAN : Sta Z h0 "com/example/pushout_bench/pushoutbench/graph/AttributeType" "BOOLEAN" "Lcom/example/pushout_bench/pushoutbench/graph/AttributeType;" (.ref w_BOOLEAN)) (S_STRING : Sta Z h0 "com/example/pushout_bench/pushoutbench/graph/AttributeType" "STRING" "Lcom/example/pushout_bench/pushoutbench/graph/AttributeType;" (.ref w_STRING)) (E_INT : Exa Z h0 w_INT "com/example/pushout_bench/pushoutbench/graph/AttributeType") (E_DOUBLE : Exa Z h0 w_DOUBLE "com/example/pushout_bench/pushoutbench/graph/AttributeType") (E_BOOLEAN : Exa Z h0 w_BOOLEAN "com/example/pushout_bench/pushoutbench/graph/AttributeType") (E_STRING : Exa Z h0 w_STRING "com/example/pushout_bench/pushoutbench/graph/AttributeType") :
    MetFree l x (head1 (Jvm.Cond.code x code maxLocals ret :: ws) room_1) (fun a U => a = #[(.int p0), (.int p1)] ∧ Z.Warmed39 U.vm ∧ U.heap = h0) (fun _ _ _ _ _ => True) (fun _ U o U' => ∃ v L, o = .returned v ∧ Q0 Z p0 p1 w_INT w_DOUBLE w_BOOLEAN w_STRING h0 n0 v U'.heap L ∧ FrameEnd U o U' L room_1.cells room_1.slots) := by
  refine MetFree.of_bodySF (plainFor_of_name pn_0) hisR ?_
  intro p e s m args below meth c s₁ Bd hml0 hP hK
  obtain ⟨rfl, hZ, hh⟩ := hP
  have hx := Bd.exec
  have hby := Bd.bytes
  have hml : c.maxLocals = 7 := hml0
  have hown : s.vm.findClass "com/example/pushout_bench/pushoutbench/graph/AttributeTypeAcceptsPinLaw" = some m.cls := findClass_of_methodNamed Bd.named
  have hnm := (name_of_methodNamed Bd.named Bd.method).1
  have X0 : Stand p l e room_1 s m #[(.int p0), (.int p1)] below meth c s₁ [] 0 0 := Stand.of_body Bd
  have e0 : s₁.heap = h0 := by rw [← hh, Bd.state]; rfl
  have N0 := Fr.nil n0
  show OGo p e below s (Q0 Z p0 p1 w_INT w_DOUBLE w_BOOLEAN w_STRING h0 n0) room_1.cells room_1.slots _
  refine OGo.st (fun _ k => castTop (ef_0 m p0 p1) k) ?_
  show OGo p e below s _ _ _ (s₁.setTop (mkF m 0 #[.val (.int p0), .val (.int p1), .unset, .unset, .unset, .unset, .unset] []))
  refine OGo.st (fun _ k => XS.iloadN X0.here hx rfl (hb hby at_0) rfl k) ?_
  show OGo p e below s _ _ _ (s₁.setTop (mkF m 1 #[.val (.int p0), .val (.int p1), .unset, .unset, .unset, .unset, .unset] [(.int p0)]))
  refine OGo.st (fun _ k => X0.ldcInt hx hown (mvT hZ (hw _ (List.mem_of_getElem? (i := 0) rfl))) (g := (mkF m 1 #[.val (.int p0), .val (.int p1), .unset, .unset, .unset, .unset, .unset] [(.int p0)])) rfl (hb hby at_1) _ k) ?_
  show OGo p e below s _ _ _ (s₁.setTop (mkF m 3 #[.val (.int p0), .val (.int p1), .unset, .unset, .unset, .unset, .unset] [(.int (2147483647 : Int32)), (.int p0)]))
  refine OGo.st (fun _ k => XS.iand X0.here hx rfl (hb hby at_3) rfl k) ?_
  show OGo p e below s _ _ _ (s₁.setTop (mkF m 4 #[.val (.int p0), .val (.int p1), .unset, .unset, .unset, .unset, .unset] [(.int (p0 &&& (2147483647 : Int32)))]))
  refine OGo.st (fun _ k => XS.iconst X0.here hx rfl (hb hby at_4) k) ?_
  show OGo p e below s _ _ _ (s₁.setTop (mkF m 5 #[.val (.int p0), .val (.int p1), .unset, .unset, .unset, .unset, .unset] [(.int (4 : Int32)), (.int (p0 &&& (2147483647 : Int32)))]))
  refine OGo.st (fun _ k => iremM X0 hx rfl (hb hby at_5) rfl (by decide) k) ?_
  show OGo p e below s _ _ _ (s₁.setTop (mkF m 6 #[.val (.int p0), .val (.int p1), .unset, .unset, .unset, .unset, .unset] [(.int ((p0 &&& (2147483647 : Int32)) % (4 : Int32)))]))
  refine OGo.st (fun _ k => XS.istoreN X0.here hx rfl (hb hby at_6) rfl (l' := #[.val (.int p0), .val (.int p1), .val (.int ((p0 &&& (2147483647 : Int32)) % (4 : Int32))), .unset, .unset, .unset, .unset]) rfl k) ?_
  show OGo p e below s _ _ _ (s₁.setTop (mkF m 7 #[.val (.int p0), .val (.int p1), .val (.int ((p0 &&& (2147483647 : Int32)) % (4 : Int32))), .unset, .unset, .unset, .unset] []))
  refine OGo.st (fun _ k => XS.iloadN X0.here hx rfl (hb hby at_7) rfl k) ?_
  show OGo p e below s _ _ _ (s₁.setTop (mkF m 8 #[.val (.int p0), .val (.int p1), .val (.int ((p0 &&& (2147483647 : Int32)) % (4 : Int32))), .unset, .unset, .unset, .unset] [(.int p1)]))
  refine OGo.st (fun _ k => X0.ldcInt hx hown (mvT hZ (hw _ (List.mem_of_getElem? (i := 0) rfl))) (g := (mkF m 8 #[.val (.int p0), .val (.int p1), .val (.int ((p0 &&& (2147483647 : Int32)) % (4 : Int32))), .unset, .unset, .unset, .unset] [(.int p1)])) rfl (hb hby at_8) _ k) ?_
  show OGo p e below s _ _ _ (s₁.setTop (mkF m 10 #[.val (.int p0), .val (.int p1), .val (.int ((p0 &&& (2147483647 : Int32)) % (4 : Int32))), .unset, .unset, .unset, .unset] [(.int (2147483647 : Int32)), (.int p1)]))
  refine OGo.st (fun _ k => XS.iand X0.here hx rfl (hb hby at_10) rfl k) ?_
  show OGo p e below s _ _ _ (s₁.setTop (mkF m 11 #[.val (.int p0), .val (.int p1), .val (.int ((p0 &&& (2147483647 : Int32)) % (4 : Int32))), .unset, .unset, .unset, .unset] [(.int (p1 &&& (2147483647 : Int32)))]))
  refine OGo.st (fun _ k => XS.iconst X0.here hx rfl (hb hby at_11) k) ?_
  show OGo p e below s _ _ _ (s₁.setTop (mkF m 12 #[.val (.int p0), .val (.int p1), .val (.int ((p0 &&& (2147483647 : Int32)) % (4 : Int32))), .unset, .unset, .unset, .unset] [(.int (5 : Int32)), (.int (p1 &&& (2147483647 : Int32)))]))
  refine OGo.st (fun _ k => iremM X0 hx rfl (hb hby at_12) rfl (by decide) k) ?_
  show OGo p e below s _ _ _ (s₁.setTop (mkF m 13 #[.val (.int p0), .val (.int p1), .val (.int ((p0 &&& (2147483647 : Int32)) % (4 : Int32))), .unset, .unset, .unset, .unset] [(.int ((p1 &&& (2147483647 : Int32)) % (5 : Int32)))]))
  refine OGo.st (fun _ k => XS.istoreN X0.here hx rfl (hb hby at_13) rfl (l' := #[.val (.int p0), .val (.int p1), .val (.int ((p0 &&& (2147483647 : Int32)) % (4 : Int32))), .val (.int ((p1 &&& (2147483647 : Int32)) % (5 : Int32))), .unset, .unset, .unset]) rfl k) ?_
  show OGo p e below s _ _ _ (s₁.setTop (mkF m 14 #[.val (.int p0), .val (.int p1), .val (.int ((p0 &&& (2147483647 : Int32)) % (4 : Int32))), .val (.int ((p1 &&& (2147483647 : Int32)) % (5 : Int32))), .unset, .unset, .unset] []))
  refine OGo.st (fun _ k => XS.iloadN X0.here hx rfl (hb hby at_14) rfl k) ?_
  show OGo p e below s _ _ _ (s₁.setTop (mkF m 15 #[.val (.int p0), .val (.int p1), .val (.int ((p0 &&& (2147483647 : Int32)) % (4 : Int32))), .val (.int ((p1 &&& (2147483647 : Int32)) % (5 : Int32))), .unset, .unset, .unset] [(.int ((p0 &&& (2147483647 : Int32)) % (4 : Int32)))]))
  obtain ⟨_, _, ⟨T1, L1, k1, n1⟩, -, X1, ⟨Lc1, hQ1, l1, y1, z1⟩, st1⟩ := Jvm.LawKit.callS X0 hx (y := (⟨"com/example/pushout_bench/pushoutbench/graph/AttributeTypeAcceptsPinLaw", "pick", "(I)Lcom/example/pushout_bench/pushoutbench/graph/AttributeType;"⟩ : MethodName)) hown (mvT hZ (hw _ (List.mem_of_getElem? (i := 1) rfl))) (mvT hZ (hw _ (List.mem_of_getElem? (i := 2) rfl))) (mvT hZ (hw _ (List.mem_of_getElem? (i := 3) rfl))) (mvT hZ (hw _ (List.mem_of_getElem? (i := 4) rfl))) (by decide) (backOf (W := 0) (rm1A l Z a0 hw [] ((p0 &&& (2147483647 : Int32)) % (4 : Int32)) w_INT w_DOUBLE w_BOOLEAN w_STRING h0 n0 Z0 S_INT S_DOUBLE S_BOOLEAN S_STRING (own_i _)) hZ (hw _ (List.mem_of_getElem? (i := 4) rfl)) (hw _ (List.mem_of_getElem? (i := 3) rfl)) (by decide) (by decide)) (g := (mkF m 15 #[.val (.int p0), .val (.int p1), .val (.int ((p0 &&& (2147483647 : Int32)) % (4 : Int32))), .val (.int ((p1 &&& (2147483647 : Int32)) % (5 : Int32))), .unset, .unset, .unset] [(.int ((p0 &&& (2147483647 : Int32)) % (4 : Int32)))])) rfl (by rw [hml]; rfl) (argsL := [(.int ((p0 &&& (2147483647 : Int32)) % (4 : Int32)))]) (rest := []) (lenOf pd_0_0 rfl) rfl (by show 2 * 0 + _ ≤ _; exact Nat.le_of_eq rfl) (hb hby at_15) (fun _ _ => ⟨rfl, e0, (by decide : 0 + 0 ≤ _), (by decide : 0 + 0 ≤ _)⟩)
  dsimp only [Pt.U, Pt.locs, Pt.cells, Pt.slots] at X1 l1 y1 z1 st1 hQ1
  subst l1 y1 z1
  obtain ⟨rfl, N1q, e1⟩ := hQ1
  have N1 := Fr.app N0 N1q
  refine OGo.st st1 ?_
  show OGo p e below s _ _ _ (T1.setTop (mkF m 18 #[.val (.int p0), .val (.int p1), .val (.int ((p0 &&& (2147483647 : Int32)) % (4 : Int32))), .val (.int ((p1 &&& (2147483647 : Int32)) % (5 : Int32))), .unset, .unset, .unset] [(.ref (f1A ((p0 &&& (2147483647 : Int32)) % (4 : Int32)) w_INT w_DOUBLE w_BOOLEAN w_STRING))]))
  have E_recv : Exa Z h0 (f1A ((p0 &&& (2147483647 : Int32)) % (4 : Int32)) w_INT w_DOUBLE w_BOOLEAN w_STRING) "com/example/pushout_bench/pushoutbench/graph/AttributeType" := own_exa (own_i _) E_INT E_DOUBLE E_BOOLEAN E_STRING
  refine OGo.st (fun _ k => XS.astore X1.here hx rfl (hb hby at_18) rfl rfl (l' := #[.val (.int p0), .val (.int p1), .val (.int ((p0 &&& (2147483647 : Int32)) % (4 : Int32))), .val (.int ((p1 &&& (2147483647 : Int32)) % (5 : Int32))), .val (.ref (f1A ((p0 &&& (2147483647 : Int32)) % (4 : Int32)) w_INT w_DOUBLE w_BOOLEAN w_STRING)), .unset, .unset]) rfl k) ?_
  show OGo p e below s _ _ _ (T1.setTop (mkF m 20 #[.val (.int p0), .val (.int p1), .val (.int ((p0 &&& (2147483647 : Int32)) % (4 : Int32))), .val (.int ((p1 &&& (2147483647 : Int32)) % (5 : Int32))), .val (.ref (f1A ((p0 &&& (2147483647 : Int32)) % (4 : Int32)) w_INT w_DOUBLE w_BOOLEAN w_STRING)), .unset, .unset] []))
  refine OGo.st (fun _ k => XS.iloadN X1.here hx rfl (hb hby at_20) rfl k) ?_
  show OGo p e below s _ _ _ (T1.setTop (mkF m 21 #[.val (.int p0), .val (.int p1), .val (.int ((p0 &&& (2147483647 : Int32)) % (4 : Int32))), .val (.int ((p1 &&& (2147483647 : Int32)) % (5 : Int32))), .val (.ref (f1A ((p0 &&& (2147483647 : Int32)) % (4 : Int32)) w_INT w_DOUBLE w_BOOLEAN w_STRING)), .unset, .unset] [(.int ((p1 &&& (2147483647 : Int32)) % (5 : Int32)))]))
  obtain ⟨_, _, ⟨T2, L2, k2, n2⟩, -, X2, ⟨Lc2, hQ2, l2, y2, z2⟩, st2⟩ := Jvm.LawKit.callS X1 hx (y := (⟨"com/example/pushout_bench/pushoutbench/graph/AttributeTypeAcceptsPinLaw", "pick", "(I)Lcom/example/pushout_bench/pushoutbench/graph/AttributeType;"⟩ : MethodName)) hown (mvT hZ (hw _ (List.mem_of_getElem? (i := 1) rfl))) (mvT hZ (hw _ (List.mem_of_getElem? (i := 2) rfl))) (mvT hZ (hw _ (List.mem_of_getElem? (i := 3) rfl))) (mvT hZ (hw _ (List.mem_of_getElem? (i := 4) rfl))) (by decide) (backOf (W := 0) (rm1 l Z a0 hw [] ((p1 &&& (2147483647 : Int32)) % (5 : Int32)) w_INT w_DOUBLE w_BOOLEAN w_STRING h0 n0 Z0 S_INT S_DOUBLE S_BOOLEAN S_STRING) hZ (hw _ (List.mem_of_getElem? (i := 4) rfl)) (hw _ (List.mem_of_getElem? (i := 3) rfl)) (by decide) (by decide)) (g := (mkF m 21 #[.val (.int p0), .val (.int p1), .val (.int ((p0 &&& (2147483647 : Int32)) % (4 : Int32))), .val (.int ((p1 &&& (2147483647 : Int32)) % (5 : Int32))), .val (.ref (f1A ((p0 &&& (2147483647 : Int32)) % (4 : Int32)) w_INT w_DOUBLE w_BOOLEAN w_STRING)), .unset, .unset] [(.int ((p1 &&& (2147483647 : Int32)) % (5 : Int32)))])) rfl (by rw [hml]; rfl) (argsL := [(.int ((p1 &&& (2147483647 : Int32)) % (5 : Int32)))]) (rest := []) (lenOf pd_0_0 rfl) rfl (by show 2 * 0 + _ ≤ _; exact Nat.le_of_eq rfl) (hb hby at_21) (fun _ _ => ⟨rfl, e1, (by decide : 0 + 0 ≤ _), (by decide : 0 + 0 ≤ _)⟩)
  dsimp only [Pt.U, Pt.locs, Pt.cells, Pt.slots] at X2 l2 y2 z2 st2 hQ2
  subst l2 y2 z2
  obtain ⟨rfl, N2q, e2⟩ := hQ2
  have N2 := Fr.app N1 N2q
  refine OGo.st st2 ?_
  show OGo p e below s _ _ _ (T2.setTop (mkF m 24 #[.val (.int p0), .val (.int p1), .val (.int ((p0 &&& (2147483647 : Int32)) % (4 : Int32))), .val (.int ((p1 &&& (2147483647 : Int32)) % (5 : Int32))), .val (.ref (f1A ((p0 &&& (2147483647 : Int32)) % (4 : Int32)) w_INT w_DOUBLE w_BOOLEAN w_STRING)), .unset, .unset] [(f1 ((p1 &&& (2147483647 : Int32)) % (5 : Int32)) w_INT w_DOUBLE w_BOOLEAN w_STRING)]))
  refine OGo.st (fun _ k => XS.astore X2.here hx rfl (hb hby at_24) rfl (f1_isRef ((p1 &&& (2147483647 : Int32)) % (5 : Int32)) w_INT w_DOUBLE w_BOOLEAN w_STRING) (l' := #[.val (.int p0), .val (.int p1), .val (.int ((p0 &&& (2147483647 : Int32)) % (4 : Int32))), .val (.int ((p1 &&& (2147483647 : Int32)) % (5 : Int32))), .val (.ref (f1A ((p0 &&& (2147483647 : Int32)) % (4 : Int32)) w_INT w_DOUBLE w_BOOLEAN w_STRING)), .val (f1 ((p1 &&& (2147483647 : Int32)) % (5 : Int32)) w_INT w_DOUBLE w_BOOLEAN w_STRING), .unset]) (by rcases ref_cases (f1_isRef ((p1 &&& (2147483647 : Int32)) % (5 : Int32)) w_INT w_DOUBLE w_BOOLEAN w_STRING) with q | ⟨_, q⟩ <;> rw [q] <;> rfl) k) ?_
  show OGo p e below s _ _ _ (T2.setTop (mkF m 26 #[.val (.int p0), .val (.int p1), .val (.int ((p0 &&& (2147483647 : Int32)) % (4 : Int32))), .val (.int ((p1 &&& (2147483647 : Int32)) % (5 : Int32))), .val (.ref (f1A ((p0 &&& (2147483647 : Int32)) % (4 : Int32)) w_INT w_DOUBLE w_BOOLEAN w_STRING)), .val (f1 ((p1 &&& (2147483647 : Int32)) % (5 : Int32)) w_INT w_DOUBLE w_BOOLEAN w_STRING), .unset] []))
  refine OGo.st (fun _ k => XS.iloadN X2.here hx rfl (hb hby at_26) rfl k) ?_
  show OGo p e below s _ _ _ (T2.setTop (mkF m 27 #[.val (.int p0), .val (.int p1), .val (.int ((p0 &&& (2147483647 : Int32)) % (4 : Int32))), .val (.int ((p1 &&& (2147483647 : Int32)) % (5 : Int32))), .val (.ref (f1A ((p0 &&& (2147483647 : Int32)) % (4 : Int32)) w_INT w_DOUBLE w_BOOLEAN w_STRING)), .val (f1 ((p1 &&& (2147483647 : Int32)) % (5 : Int32)) w_INT w_DOUBLE w_BOOLEAN w_STRING), .unset] [(.int ((p1 &&& (2147483647 : Int32)) % (5 : Int32)))]))
  refine OGo.st (fun _ k => XS.iconst X2.here hx rfl (hb hby at_27) k) ?_
  show OGo p e below s _ _ _ (T2.setTop (mkF m 28 #[.val (.int p0), .val (.int p1), .val (.int ((p0 &&& (2147483647 : Int32)) % (4 : Int32))), .val (.int ((p1 &&& (2147483647 : Int32)) % (5 : Int32))), .val (.ref (f1A ((p0 &&& (2147483647 : Int32)) % (4 : Int32)) w_INT w_DOUBLE w_BOOLEAN w_STRING)), .val (f1 ((p1 &&& (2147483647 : Int32)) % (5 : Int32)) w_INT w_DOUBLE w_BOOLEAN w_STRING), .unset] [(.int (4 : Int32)), (.int ((p1 &&& (2147483647 : Int32)) % (5 : Int32)))]))
  have hj66 : ∀ (j66_0 : Int32) (hf66_0 : f0 p0 p1 w_INT w_DOUBLE w_BOOLEAN w_STRING = f0_66 p0 p1 w_INT w_DOUBLE w_BOOLEAN w_STRING j66_0), OGo p e below s (Q0 Z p0 p1 w_INT w_DOUBLE w_BOOLEAN w_STRING h0 n0) room_1.cells room_1.slots (T2.setTop (mkF m 66 #[.val (.int p0), .val (.int p1), .val (.int ((p0 &&& (2147483647 : Int32)) % (4 : Int32))), .val (.int ((p1 &&& (2147483647 : Int32)) % (5 : Int32))), .val (.ref (f1A ((p0 &&& (2147483647 : Int32)) % (4 : Int32)) w_INT w_DOUBLE w_BOOLEAN w_STRING)), .val (f1 ((p1 &&& (2147483647 : Int32)) % (5 : Int32)) w_INT w_DOUBLE w_BOOLEAN w_STRING), .val (.int j66_0)] [])) := by
    intro j66_0 hf66_0
    refine OGo.st (fun _ k => XS.aload X2.here hx rfl (hb hby at_66) rfl rfl k) ?_
    show OGo p e below s _ _ _ (T2.setTop (mkF m 68 #[.val (.int p0), .val (.int p1), .val (.int ((p0 &&& (2147483647 : Int32)) % (4 : Int32))), .val (.int ((p1 &&& (2147483647 : Int32)) % (5 : Int32))), .val (.ref (f1A ((p0 &&& (2147483647 : Int32)) % (4 : Int32)) w_INT w_DOUBLE w_BOOLEAN w_STRING)), .val (f1 ((p1 &&& (2147483647 : Int32)) % (5 : Int32)) w_INT w_DOUBLE w_BOOLEAN w_STRING), .val (.int j66_0)] [(.ref (f1A ((p0 &&& (2147483647 : Int32)) % (4 : Int32)) w_INT w_DOUBLE w_BOOLEAN w_STRING))]))
    refine OGo.st (fun _ k => XS.aload X2.here hx rfl (hb hby at_68) rfl (f1_isRef ((p1 &&& (2147483647 : Int32)) % (5 : Int32)) w_INT w_DOUBLE w_BOOLEAN w_STRING) k) ?_
    show OGo p e below s _ _ _ (T2.setTop (mkF m 70 #[.val (.int p0), .val (.int p1), .val (.int ((p0 &&& (2147483647 : Int32)) % (4 : Int32))), .val (.int ((p1 &&& (2147483647 : Int32)) % (5 : Int32))), .val (.ref (f1A ((p0 &&& (2147483647 : Int32)) % (4 : Int32)) w_INT w_DOUBLE w_BOOLEAN w_STRING)), .val (f1 ((p1 &&& (2147483647 : Int32)) % (5 : Int32)) w_INT w_DOUBLE w_BOOLEAN w_STRING), .val (.int j66_0)] [(f1 ((p1 &&& (2147483647 : Int32)) % (5 : Int32)) w_INT w_DOUBLE w_BOOLEAN w_STRING), (.ref (f1A ((p0 &&& (2147483647 : Int32)) % (4 : Int32)) w_INT w_DOUBLE w_BOOLEAN w_STRING))]))
    obtain ⟨cq4, kq4, q4a, q4b, q4c⟩ := isOf hZ e2 E_recv
    obtain ⟨_, _, ⟨T4, L4, k4, n4⟩, -, X4, ⟨Lc4, hQ4, l4, y4, z4⟩, st4⟩ := X2.virtualBack hx (y := (⟨"com/example/pushout_bench/pushoutbench/graph/AttributeType", "accepts", "(Lcom/example/pushout_bench/pushoutbench/graph/AttributeType;)Z"⟩ : MethodName)) (z := (⟨"com/example/pushout_bench/pushoutbench/graph/AttributeType", "accepts", "(Lcom/example/pushout_bench/pushoutbench/graph/AttributeType;)Z"⟩ : MethodName)) hown (mvT hZ (hw _ (List.mem_of_getElem? (i := 10) rfl))) (mvT hZ (hw _ (List.mem_of_getElem? (i := 11) rfl))) (notFace_of_selects (args := #[]) (mvT hZ (hw _ (List.mem_of_getElem? (i := 13) rfl)))) (mvT hZ (hw _ (List.mem_of_getElem? (i := 13) rfl))) (mvT hZ (hw _ (List.mem_of_getElem? (i := 12) rfl))) (by decide) (backOf (W := 0) (rm2 l Z a0 hw [] (f1A ((p0 &&& (2147483647 : Int32)) % (4 : Int32)) w_INT w_DOUBLE w_BOOLEAN w_STRING) (f1 ((p1 &&& (2147483647 : Int32)) % (5 : Int32)) w_INT w_DOUBLE w_BOOLEAN w_STRING) w_DOUBLE w_INT h0 n0 Z0 S_DOUBLE S_INT (f1_isRef ((p1 &&& (2147483647 : Int32)) % (5 : Int32)) w_INT w_DOUBLE w_BOOLEAN w_STRING)) hZ (hw _ (List.mem_of_getElem? (i := 14) rfl)) (hw _ (List.mem_of_getElem? (i := 6) rfl)) (by decide) (by decide)) q4a q4c (g := (mkF m 70 #[.val (.int p0), .val (.int p1), .val (.int ((p0 &&& (2147483647 : Int32)) % (4 : Int32))), .val (.int ((p1 &&& (2147483647 : Int32)) % (5 : Int32))), .val (.ref (f1A ((p0 &&& (2147483647 : Int32)) % (4 : Int32)) w_INT w_DOUBLE w_BOOLEAN w_STRING)), .val (f1 ((p1 &&& (2147483647 : Int32)) % (5 : Int32)) w_INT w_DOUBLE w_BOOLEAN w_STRING), .val (.int j66_0)] [(f1 ((p1 &&& (2147483647 : Int32)) % (5 : Int32)) w_INT w_DOUBLE w_BOOLEAN w_STRING), (.ref (f1A ((p0 &&& (2147483647 : Int32)) % (4 : Int32)) w_INT w_DOUBLE w_BOOLEAN w_STRING))])) rfl (by rw [hml]; rfl) (Steps.refl _) (argsL := [(f1 ((p1 &&& (2147483647 : Int32)) % (5 : Int32)) w_INT w_DOUBLE w_BOOLEAN w_STRING)]) (rest := []) (lenOf pd_0_1 rfl) rfl (by show 2 * 0 + _ ≤ _; exact Nat.le_of_eq rfl) (hb hby at_70) (fun _ _ => ⟨rfl, e2, (by decide : 0 + 0 ≤ _), (by decide : 0 + 0 ≤ _)⟩)
    dsimp only [Pt.U, Pt.locs, Pt.cells, Pt.slots] at X4 l4 y4 z4 st4 hQ4
    subst l4 y4 z4
    obtain ⟨rfl, N4q, e4⟩ := hQ4
    have N4 := Fr.app N2 N4q
    refine OGo.st (fun _ k => st4.trans k) ?_
    show OGo p e below s _ _ _ (T4.setTop (mkF m 73 #[.val (.int p0), .val (.int p1), .val (.int ((p0 &&& (2147483647 : Int32)) % (4 : Int32))), .val (.int ((p1 &&& (2147483647 : Int32)) % (5 : Int32))), .val (.ref (f1A ((p0 &&& (2147483647 : Int32)) % (4 : Int32)) w_INT w_DOUBLE w_BOOLEAN w_STRING)), .val (f1 ((p1 &&& (2147483647 : Int32)) % (5 : Int32)) w_INT w_DOUBLE w_BOOLEAN w_STRING), .val (.int j66_0)] [(.int (f2 (f1A ((p0 &&& (2147483647 : Int32)) % (4 : Int32)) w_INT w_DOUBLE w_BOOLEAN w_STRING) (f1 ((p1 &&& (2147483647 : Int32)) % (5 : Int32)) w_INT w_DOUBLE w_BOOLEAN w_STRING) w_DOUBLE w_INT))]))
    refine OGo.st (fun _ k => XS.iload X4.here hx rfl (hb hby at_73) rfl k) ?_
    show OGo p e below s _ _ _ (T4.setTop (mkF m 75 #[.val (.int p0), .val (.int p1), .val (.int ((p0 &&& (2147483647 : Int32)) % (4 : Int32))), .val (.int ((p1 &&& (2147483647 : Int32)) % (5 : Int32))), .val (.ref (f1A ((p0 &&& (2147483647 : Int32)) % (4 : Int32)) w_INT w_DOUBLE w_BOOLEAN w_STRING)), .val (f1 ((p1 &&& (2147483647 : Int32)) % (5 : Int32)) w_INT w_DOUBLE w_BOOLEAN w_STRING), .val (.int j66_0)] [(.int j66_0), (.int (f2 (f1A ((p0 &&& (2147483647 : Int32)) % (4 : Int32)) w_INT w_DOUBLE w_BOOLEAN w_STRING) (f1 ((p1 &&& (2147483647 : Int32)) % (5 : Int32)) w_INT w_DOUBLE w_BOOLEAN w_STRING) w_DOUBLE w_INT))]))
    by_cases hc75 : (f2 (f1A ((p0 &&& (2147483647 : Int32)) % (4 : Int32)) w_INT w_DOUBLE w_BOOLEAN w_STRING) (f1 ((p1 &&& (2147483647 : Int32)) % (5 : Int32)) w_INT w_DOUBLE w_BOOLEAN w_STRING) w_DOUBLE w_INT) = j66_0
    · refine OGo.st (fun _ k => XS.icmpNo X4.here hx rfl (hb hby at_75) rfl (teq hc75).2 k) ?_
      show OGo p e below s _ _ _ (T4.setTop (mkF m 78 #[.val (.int p0), .val (.int p1), .val (.int ((p0 &&& (2147483647 : Int32)) % (4 : Int32))), .val (.int ((p1 &&& (2147483647 : Int32)) % (5 : Int32))), .val (.ref (f1A ((p0 &&& (2147483647 : Int32)) % (4 : Int32)) w_INT w_DOUBLE w_BOOLEAN w_STRING)), .val (f1 ((p1 &&& (2147483647 : Int32)) % (5 : Int32)) w_INT w_DOUBLE w_BOOLEAN w_STRING), .val (.int j66_0)] []))
      refine OGo.st (fun _ k => XS.iconst X4.here hx rfl (hb hby at_78) k) ?_
      show OGo p e below s _ _ _ (T4.setTop (mkF m 79 #[.val (.int p0), .val (.int p1), .val (.int ((p0 &&& (2147483647 : Int32)) % (4 : Int32))), .val (.int ((p1 &&& (2147483647 : Int32)) % (5 : Int32))), .val (.ref (f1A ((p0 &&& (2147483647 : Int32)) % (4 : Int32)) w_INT w_DOUBLE w_BOOLEAN w_STRING)), .val (f1 ((p1 &&& (2147483647 : Int32)) % (5 : Int32)) w_INT w_DOUBLE w_BOOLEAN w_STRING), .val (.int j66_0)] [(.int (1 : Int32))]))
      refine OGo.st (fun _ k => XS.goto X4.here hx rfl (pc0 := 79) (pc' := 83) rfl (hb hby at_79) (by decide) (by decide) k) ?_
      show OGo p e below s _ _ _ (T4.setTop (mkF m 83 #[.val (.int p0), .val (.int p1), .val (.int ((p0 &&& (2147483647 : Int32)) % (4 : Int32))), .val (.int ((p1 &&& (2147483647 : Int32)) % (5 : Int32))), .val (.ref (f1A ((p0 &&& (2147483647 : Int32)) % (4 : Int32)) w_INT w_DOUBLE w_BOOLEAN w_STRING)), .val (f1 ((p1 &&& (2147483647 : Int32)) % (5 : Int32)) w_INT w_DOUBLE w_BOOLEAN w_STRING), .val (.int j66_0)] [(.int (1 : Int32))]))
      exact oretN X4 hx Bd.notSynchronized (t := .boolean) Bd.returns (by simp) (hb hby at_83) (z' := (1 : Int32)) (by decide) e4 ⟨(congrArg (fun z => some (Value.int z)) (show (1 : Int32) = f0 p0 p1 w_INT w_DOUBLE w_BOOLEAN w_STRING from Eq.symm (hf66_0.trans (by unfold f0_66; exact if_pos hc75)))), N4⟩ (by decide) (by decide)
    · refine OGo.st (fun _ k => XS.icmpYes X4.here hx rfl (pc0 := 75) (pc' := 82) rfl (hb hby at_75) rfl (feq hc75).2 (by decide) (by decide) k) ?_
      show OGo p e below s _ _ _ (T4.setTop (mkF m 82 #[.val (.int p0), .val (.int p1), .val (.int ((p0 &&& (2147483647 : Int32)) % (4 : Int32))), .val (.int ((p1 &&& (2147483647 : Int32)) % (5 : Int32))), .val (.ref (f1A ((p0 &&& (2147483647 : Int32)) % (4 : Int32)) w_INT w_DOUBLE w_BOOLEAN w_STRING)), .val (f1 ((p1 &&& (2147483647 : Int32)) % (5 : Int32)) w_INT w_DOUBLE w_BOOLEAN w_STRING), .val (.int j66_0)] []))
      refine OGo.st (fun _ k => XS.iconst X4.here hx rfl (hb hby at_82) k) ?_
      show OGo p e below s _ _ _ (T4.setTop (mkF m 83 #[.val (.int p0), .val (.int p1), .val (.int ((p0 &&& (2147483647 : Int32)) % (4 : Int32))), .val (.int ((p1 &&& (2147483647 : Int32)) % (5 : Int32))), .val (.ref (f1A ((p0 &&& (2147483647 : Int32)) % (4 : Int32)) w_INT w_DOUBLE w_BOOLEAN w_STRING)), .val (f1 ((p1 &&& (2147483647 : Int32)) % (5 : Int32)) w_INT w_DOUBLE w_BOOLEAN w_STRING), .val (.int j66_0)] [(.int (0 : Int32))]))
      exact oretN X4 hx Bd.notSynchronized (t := .boolean) Bd.returns (by simp) (hb hby at_83) (z' := (0 : Int32)) (by decide) e4 ⟨(congrArg (fun z => some (Value.int z)) (show (0 : Int32) = f0 p0 p1 w_INT w_DOUBLE w_BOOLEAN w_STRING from Eq.symm (hf66_0.trans (by unfold f0_66; exact if_neg hc75)))), N4⟩ (by decide) (by decide)
  by_cases hc28 : ((p1 &&& (2147483647 : Int32)) % (5 : Int32)) = (4 : Int32)
  · refine OGo.st (fun _ k => XS.icmpNo X2.here hx rfl (hb hby at_28) rfl (teq hc28).2 k) ?_
    show OGo p e below s _ _ _ (T2.setTop (mkF m 31 #[.val (.int p0), .val (.int p1), .val (.int ((p0 &&& (2147483647 : Int32)) % (4 : Int32))), .val (.int ((p1 &&& (2147483647 : Int32)) % (5 : Int32))), .val (.ref (f1A ((p0 &&& (2147483647 : Int32)) % (4 : Int32)) w_INT w_DOUBLE w_BOOLEAN w_STRING)), .val (f1 ((p1 &&& (2147483647 : Int32)) % (5 : Int32)) w_INT w_DOUBLE w_BOOLEAN w_STRING), .unset] []))
    refine OGo.st (fun _ k => XS.iconst X2.here hx rfl (hb hby at_31) k) ?_
    show OGo p e below s _ _ _ (T2.setTop (mkF m 32 #[.val (.int p0), .val (.int p1), .val (.int ((p0 &&& (2147483647 : Int32)) % (4 : Int32))), .val (.int ((p1 &&& (2147483647 : Int32)) % (5 : Int32))), .val (.ref (f1A ((p0 &&& (2147483647 : Int32)) % (4 : Int32)) w_INT w_DOUBLE w_BOOLEAN w_STRING)), .val (f1 ((p1 &&& (2147483647 : Int32)) % (5 : Int32)) w_INT w_DOUBLE w_BOOLEAN w_STRING), .unset] [(.int (0 : Int32))]))
    refine OGo.st (fun _ k => XS.istore X2.here hx rfl (hb hby at_32) rfl (l' := #[.val (.int p0), .val (.int p1), .val (.int ((p0 &&& (2147483647 : Int32)) % (4 : Int32))), .val (.int ((p1 &&& (2147483647 : Int32)) % (5 : Int32))), .val (.ref (f1A ((p0 &&& (2147483647 : Int32)) % (4 : Int32)) w_INT w_DOUBLE w_BOOLEAN w_STRING)), .val (f1 ((p1 &&& (2147483647 : Int32)) % (5 : Int32)) w_INT w_DOUBLE w_BOOLEAN w_STRING), .val (.int (0 : Int32))]) rfl k) ?_
    show OGo p e below s _ _ _ (T2.setTop (mkF m 34 #[.val (.int p0), .val (.int p1), .val (.int ((p0 &&& (2147483647 : Int32)) % (4 : Int32))), .val (.int ((p1 &&& (2147483647 : Int32)) % (5 : Int32))), .val (.ref (f1A ((p0 &&& (2147483647 : Int32)) % (4 : Int32)) w_INT w_DOUBLE w_BOOLEAN w_STRING)), .val (f1 ((p1 &&& (2147483647 : Int32)) % (5 : Int32)) w_INT w_DOUBLE w_BOOLEAN w_STRING), .val (.int (0 : Int32))] []))
    refine OGo.st (fun _ k => XS.goto X2.here hx rfl (pc0 := 34) (pc' := 66) rfl (hb hby at_34) (by decide) (by decide) k) ?_
    show OGo p e below s _ _ _ (T2.setTop (mkF m 66 #[.val (.int p0), .val (.int p1), .val (.int ((p0 &&& (2147483647 : Int32)) % (4 : Int32))), .val (.int ((p1 &&& (2147483647 : Int32)) % (5 : Int32))), .val (.ref (f1A ((p0 &&& (2147483647 : Int32)) % (4 : Int32)) w_INT w_DOUBLE w_BOOLEAN w_STRING)), .val (f1 ((p1 &&& (2147483647 : Int32)) % (5 : Int32)) w_INT w_DOUBLE w_BOOLEAN w_STRING), .val (.int (0 : Int32))] []))
    exact hj66 (0 : Int32) (by unfold f0; exact if_pos hc28)
  · refine OGo.st (fun _ k => XS.icmpYes X2.here hx rfl (pc0 := 28) (pc' := 37) rfl (hb hby at_28) rfl (feq hc28).2 (by decide) (by decide) k) ?_
    show OGo p e below s _ _ _ (T2.setTop (mkF m 37 #[.val (.int p0), .val (.int p1), .val (.int ((p0 &&& (2147483647 : Int32)) % (4 : Int32))), .val (.int ((p1 &&& (2147483647 : Int32)) % (5 : Int32))), .val (.ref (f1A ((p0 &&& (2147483647 : Int32)) % (4 : Int32)) w_INT w_DOUBLE w_BOOLEAN w_STRING)), .val (f1 ((p1 &&& (2147483647 : Int32)) % (5 : Int32)) w_INT w_DOUBLE w_BOOLEAN w_STRING), .unset] []))
    refine OGo.st (fun _ k => XS.iloadN X2.here hx rfl (hb hby at_37) rfl k) ?_
    show OGo p e below s _ _ _ (T2.setTop (mkF m 38 #[.val (.int p0), .val (.int p1), .val (.int ((p0 &&& (2147483647 : Int32)) % (4 : Int32))), .val (.int ((p1 &&& (2147483647 : Int32)) % (5 : Int32))), .val (.ref (f1A ((p0 &&& (2147483647 : Int32)) % (4 : Int32)) w_INT w_DOUBLE w_BOOLEAN w_STRING)), .val (f1 ((p1 &&& (2147483647 : Int32)) % (5 : Int32)) w_INT w_DOUBLE w_BOOLEAN w_STRING), .unset] [(.int ((p0 &&& (2147483647 : Int32)) % (4 : Int32)))]))
    refine OGo.st (fun _ k => XS.iloadN X2.here hx rfl (hb hby at_38) rfl k) ?_
    show OGo p e below s _ _ _ (T2.setTop (mkF m 39 #[.val (.int p0), .val (.int p1), .val (.int ((p0 &&& (2147483647 : Int32)) % (4 : Int32))), .val (.int ((p1 &&& (2147483647 : Int32)) % (5 : Int32))), .val (.ref (f1A ((p0 &&& (2147483647 : Int32)) % (4 : Int32)) w_INT w_DOUBLE w_BOOLEAN w_STRING)), .val (f1 ((p1 &&& (2147483647 : Int32)) % (5 : Int32)) w_INT w_DOUBLE w_BOOLEAN w_STRING), .unset] [(.int ((p1 &&& (2147483647 : Int32)) % (5 : Int32))), (.int ((p0 &&& (2147483647 : Int32)) % (4 : Int32)))]))
    by_cases hc39 : ((p0 &&& (2147483647 : Int32)) % (4 : Int32)) = ((p1 &&& (2147483647 : Int32)) % (5 : Int32))
    · refine OGo.st (fun _ k => XS.icmpNo X2.here hx rfl (hb hby at_39) rfl (teq hc39).2 k) ?_
      show OGo p e below s _ _ _ (T2.setTop (mkF m 42 #[.val (.int p0), .val (.int p1), .val (.int ((p0 &&& (2147483647 : Int32)) % (4 : Int32))), .val (.int ((p1 &&& (2147483647 : Int32)) % (5 : Int32))), .val (.ref (f1A ((p0 &&& (2147483647 : Int32)) % (4 : Int32)) w_INT w_DOUBLE w_BOOLEAN w_STRING)), .val (f1 ((p1 &&& (2147483647 : Int32)) % (5 : Int32)) w_INT w_DOUBLE w_BOOLEAN w_STRING), .unset] []))
      refine OGo.st (fun _ k => XS.iconst X2.here hx rfl (hb hby at_42) k) ?_
      show OGo p e below s _ _ _ (T2.setTop (mkF m 43 #[.val (.int p0), .val (.int p1), .val (.int ((p0 &&& (2147483647 : Int32)) % (4 : Int32))), .val (.int ((p1 &&& (2147483647 : Int32)) % (5 : Int32))), .val (.ref (f1A ((p0 &&& (2147483647 : Int32)) % (4 : Int32)) w_INT w_DOUBLE w_BOOLEAN w_STRING)), .val (f1 ((p1 &&& (2147483647 : Int32)) % (5 : Int32)) w_INT w_DOUBLE w_BOOLEAN w_STRING), .unset] [(.int (1 : Int32))]))
      refine OGo.st (fun _ k => XS.istore X2.here hx rfl (hb hby at_43) rfl (l' := #[.val (.int p0), .val (.int p1), .val (.int ((p0 &&& (2147483647 : Int32)) % (4 : Int32))), .val (.int ((p1 &&& (2147483647 : Int32)) % (5 : Int32))), .val (.ref (f1A ((p0 &&& (2147483647 : Int32)) % (4 : Int32)) w_INT w_DOUBLE w_BOOLEAN w_STRING)), .val (f1 ((p1 &&& (2147483647 : Int32)) % (5 : Int32)) w_INT w_DOUBLE w_BOOLEAN w_STRING), .val (.int (1 : Int32))]) rfl k) ?_
      show OGo p e below s _ _ _ (T2.setTop (mkF m 45 #[.val (.int p0), .val (.int p1), .val (.int ((p0 &&& (2147483647 : Int32)) % (4 : Int32))), .val (.int ((p1 &&& (2147483647 : Int32)) % (5 : Int32))), .val (.ref (f1A ((p0 &&& (2147483647 : Int32)) % (4 : Int32)) w_INT w_DOUBLE w_BOOLEAN w_STRING)), .val (f1 ((p1 &&& (2147483647 : Int32)) % (5 : Int32)) w_INT w_DOUBLE w_BOOLEAN w_STRING), .val (.int (1 : Int32))] []))
      refine OGo.st (fun _ k => XS.goto X2.here hx rfl (pc0 := 45) (pc' := 66) rfl (hb hby at_45) (by decide) (by decide) k) ?_
      show OGo p e below s _ _ _ (T2.setTop (mkF m 66 #[.val (.int p0), .val (.int p1), .val (.int ((p0 &&& (2147483647 : Int32)) % (4 : Int32))), .val (.int ((p1 &&& (2147483647 : Int32)) % (5 : Int32))), .val (.ref (f1A ((p0 &&& (2147483647 : Int32)) % (4 : Int32)) w_INT w_DOUBLE w_BOOLEAN w_STRING)), .val (f1 ((p1 &&& (2147483647 : Int32)) % (5 : Int32)) w_INT w_DOUBLE w_BOOLEAN w_STRING), .val (.int (1 : Int32))] []))
      exact hj66 (1 : Int32) (by unfold f0; exact (if_neg hc28).trans (if_pos hc39))
    · refine OGo.st (fun _ k => XS.icmpYes X2.here hx rfl (pc0 := 39) (pc' := 48) rfl (hb hby at_39) rfl (feq hc39).2 (by decide) (by decide) k) ?_
      show OGo p e below s _ _ _ (T2.setTop (mkF m 48 #[.val (.int p0), .val (.int p1), .val (.int ((p0 &&& (2147483647 : Int32)) % (4 : Int32))), .val (.int ((p1 &&& (2147483647 : Int32)) % (5 : Int32))), .val (.ref (f1A ((p0 &&& (2147483647 : Int32)) % (4 : Int32)) w_INT w_DOUBLE w_BOOLEAN w_STRING)), .val (f1 ((p1 &&& (2147483647 : Int32)) % (5 : Int32)) w_INT w_DOUBLE w_BOOLEAN w_STRING), .unset] []))
      refine OGo.st (fun _ k => XS.iloadN X2.here hx rfl (hb hby at_48) rfl k) ?_
      show OGo p e below s _ _ _ (T2.setTop (mkF m 49 #[.val (.int p0), .val (.int p1), .val (.int ((p0 &&& (2147483647 : Int32)) % (4 : Int32))), .val (.int ((p1 &&& (2147483647 : Int32)) % (5 : Int32))), .val (.ref (f1A ((p0 &&& (2147483647 : Int32)) % (4 : Int32)) w_INT w_DOUBLE w_BOOLEAN w_STRING)), .val (f1 ((p1 &&& (2147483647 : Int32)) % (5 : Int32)) w_INT w_DOUBLE w_BOOLEAN w_STRING), .unset] [(.int ((p0 &&& (2147483647 : Int32)) % (4 : Int32)))]))
      refine OGo.st (fun _ k => XS.iconst X2.here hx rfl (hb hby at_49) k) ?_
      show OGo p e below s _ _ _ (T2.setTop (mkF m 50 #[.val (.int p0), .val (.int p1), .val (.int ((p0 &&& (2147483647 : Int32)) % (4 : Int32))), .val (.int ((p1 &&& (2147483647 : Int32)) % (5 : Int32))), .val (.ref (f1A ((p0 &&& (2147483647 : Int32)) % (4 : Int32)) w_INT w_DOUBLE w_BOOLEAN w_STRING)), .val (f1 ((p1 &&& (2147483647 : Int32)) % (5 : Int32)) w_INT w_DOUBLE w_BOOLEAN w_STRING), .unset] [(.int (1 : Int32)), (.int ((p0 &&& (2147483647 : Int32)) % (4 : Int32)))]))
      by_cases hc50 : ((p0 &&& (2147483647 : Int32)) % (4 : Int32)) = (1 : Int32)
      · refine OGo.st (fun _ k => XS.icmpNo X2.here hx rfl (hb hby at_50) rfl (teq hc50).2 k) ?_
        show OGo p e below s _ _ _ (T2.setTop (mkF m 53 #[.val (.int p0), .val (.int p1), .val (.int ((p0 &&& (2147483647 : Int32)) % (4 : Int32))), .val (.int ((p1 &&& (2147483647 : Int32)) % (5 : Int32))), .val (.ref (f1A ((p0 &&& (2147483647 : Int32)) % (4 : Int32)) w_INT w_DOUBLE w_BOOLEAN w_STRING)), .val (f1 ((p1 &&& (2147483647 : Int32)) % (5 : Int32)) w_INT w_DOUBLE w_BOOLEAN w_STRING), .unset] []))
        refine OGo.st (fun _ k => XS.iloadN X2.here hx rfl (hb hby at_53) rfl k) ?_
        show OGo p e below s _ _ _ (T2.setTop (mkF m 54 #[.val (.int p0), .val (.int p1), .val (.int ((p0 &&& (2147483647 : Int32)) % (4 : Int32))), .val (.int ((p1 &&& (2147483647 : Int32)) % (5 : Int32))), .val (.ref (f1A ((p0 &&& (2147483647 : Int32)) % (4 : Int32)) w_INT w_DOUBLE w_BOOLEAN w_STRING)), .val (f1 ((p1 &&& (2147483647 : Int32)) % (5 : Int32)) w_INT w_DOUBLE w_BOOLEAN w_STRING), .unset] [(.int ((p1 &&& (2147483647 : Int32)) % (5 : Int32)))]))
        by_cases hc54 : ((p1 &&& (2147483647 : Int32)) % (5 : Int32)) = (0 : Int32)
        · refine OGo.st (fun _ k => XS.ifNo X2.here hx rfl (hb hby at_54) rfl ((if0 _ _).trans (teq hc54).2) k) ?_
          show OGo p e below s _ _ _ (T2.setTop (mkF m 57 #[.val (.int p0), .val (.int p1), .val (.int ((p0 &&& (2147483647 : Int32)) % (4 : Int32))), .val (.int ((p1 &&& (2147483647 : Int32)) % (5 : Int32))), .val (.ref (f1A ((p0 &&& (2147483647 : Int32)) % (4 : Int32)) w_INT w_DOUBLE w_BOOLEAN w_STRING)), .val (f1 ((p1 &&& (2147483647 : Int32)) % (5 : Int32)) w_INT w_DOUBLE w_BOOLEAN w_STRING), .unset] []))
          refine OGo.st (fun _ k => XS.iconst X2.here hx rfl (hb hby at_57) k) ?_
          show OGo p e below s _ _ _ (T2.setTop (mkF m 58 #[.val (.int p0), .val (.int p1), .val (.int ((p0 &&& (2147483647 : Int32)) % (4 : Int32))), .val (.int ((p1 &&& (2147483647 : Int32)) % (5 : Int32))), .val (.ref (f1A ((p0 &&& (2147483647 : Int32)) % (4 : Int32)) w_INT w_DOUBLE w_BOOLEAN w_STRING)), .val (f1 ((p1 &&& (2147483647 : Int32)) % (5 : Int32)) w_INT w_DOUBLE w_BOOLEAN w_STRING), .unset] [(.int (1 : Int32))]))
          refine OGo.st (fun _ k => XS.istore X2.here hx rfl (hb hby at_58) rfl (l' := #[.val (.int p0), .val (.int p1), .val (.int ((p0 &&& (2147483647 : Int32)) % (4 : Int32))), .val (.int ((p1 &&& (2147483647 : Int32)) % (5 : Int32))), .val (.ref (f1A ((p0 &&& (2147483647 : Int32)) % (4 : Int32)) w_INT w_DOUBLE w_BOOLEAN w_STRING)), .val (f1 ((p1 &&& (2147483647 : Int32)) % (5 : Int32)) w_INT w_DOUBLE w_BOOLEAN w_STRING), .val (.int (1 : Int32))]) rfl k) ?_
          show OGo p e below s _ _ _ (T2.setTop (mkF m 60 #[.val (.int p0), .val (.int p1), .val (.int ((p0 &&& (2147483647 : Int32)) % (4 : Int32))), .val (.int ((p1 &&& (2147483647 : Int32)) % (5 : Int32))), .val (.ref (f1A ((p0 &&& (2147483647 : Int32)) % (4 : Int32)) w_INT w_DOUBLE w_BOOLEAN w_STRING)), .val (f1 ((p1 &&& (2147483647 : Int32)) % (5 : Int32)) w_INT w_DOUBLE w_BOOLEAN w_STRING), .val (.int (1 : Int32))] []))
          refine OGo.st (fun _ k => XS.goto X2.here hx rfl (pc0 := 60) (pc' := 66) rfl (hb hby at_60) (by decide) (by decide) k) ?_
          show OGo p e below s _ _ _ (T2.setTop (mkF m 66 #[.val (.int p0), .val (.int p1), .val (.int ((p0 &&& (2147483647 : Int32)) % (4 : Int32))), .val (.int ((p1 &&& (2147483647 : Int32)) % (5 : Int32))), .val (.ref (f1A ((p0 &&& (2147483647 : Int32)) % (4 : Int32)) w_INT w_DOUBLE w_BOOLEAN w_STRING)), .val (f1 ((p1 &&& (2147483647 : Int32)) % (5 : Int32)) w_INT w_DOUBLE w_BOOLEAN w_STRING), .val (.int (1 : Int32))] []))
          exact hj66 (1 : Int32) (by unfold f0; exact (if_neg hc28).trans ((if_neg hc39).trans ((if_pos hc50).trans (if_pos hc54))))
        · refine OGo.st (fun _ k => XS.ifYes X2.here hx rfl (pc0 := 54) (pc' := 63) rfl (hb hby at_54) rfl ((if0 _ _).trans (feq hc54).2) (by decide) (by decide) k) ?_
          show OGo p e below s _ _ _ (T2.setTop (mkF m 63 #[.val (.int p0), .val (.int p1), .val (.int ((p0 &&& (2147483647 : Int32)) % (4 : Int32))), .val (.int ((p1 &&& (2147483647 : Int32)) % (5 : Int32))), .val (.ref (f1A ((p0 &&& (2147483647 : Int32)) % (4 : Int32)) w_INT w_DOUBLE w_BOOLEAN w_STRING)), .val (f1 ((p1 &&& (2147483647 : Int32)) % (5 : Int32)) w_INT w_DOUBLE w_BOOLEAN w_STRING), .unset] []))
          refine OGo.st (fun _ k => XS.iconst X2.here hx rfl (hb hby at_63) k) ?_
          show OGo p e below s _ _ _ (T2.setTop (mkF m 64 #[.val (.int p0), .val (.int p1), .val (.int ((p0 &&& (2147483647 : Int32)) % (4 : Int32))), .val (.int ((p1 &&& (2147483647 : Int32)) % (5 : Int32))), .val (.ref (f1A ((p0 &&& (2147483647 : Int32)) % (4 : Int32)) w_INT w_DOUBLE w_BOOLEAN w_STRING)), .val (f1 ((p1 &&& (2147483647 : Int32)) % (5 : Int32)) w_INT w_DOUBLE w_BOOLEAN w_STRING), .unset] [(.int (0 : Int32))]))
          refine OGo.st (fun _ k => XS.istore X2.here hx rfl (hb hby at_64) rfl (l' := #[.val (.int p0), .val (.int p1), .val (.int ((p0 &&& (2147483647 : Int32)) % (4 : Int32))), .val (.int ((p1 &&& (2147483647 : Int32)) % (5 : Int32))), .val (.ref (f1A ((p0 &&& (2147483647 : Int32)) % (4 : Int32)) w_INT w_DOUBLE w_BOOLEAN w_STRING)), .val (f1 ((p1 &&& (2147483647 : Int32)) % (5 : Int32)) w_INT w_DOUBLE w_BOOLEAN w_STRING), .val (.int (0 : Int32))]) rfl k) ?_
          show OGo p e below s _ _ _ (T2.setTop (mkF m 66 #[.val (.int p0), .val (.int p1), .val (.int ((p0 &&& (2147483647 : Int32)) % (4 : Int32))), .val (.int ((p1 &&& (2147483647 : Int32)) % (5 : Int32))), .val (.ref (f1A ((p0 &&& (2147483647 : Int32)) % (4 : Int32)) w_INT w_DOUBLE w_BOOLEAN w_STRING)), .val (f1 ((p1 &&& (2147483647 : Int32)) % (5 : Int32)) w_INT w_DOUBLE w_BOOLEAN w_STRING), .val (.int (0 : Int32))] []))
          exact hj66 (0 : Int32) (by unfold f0; exact (if_neg hc28).trans ((if_neg hc39).trans ((if_pos hc50).trans (if_neg hc54))))
      · refine OGo.st (fun _ k => XS.icmpYes X2.here hx rfl (pc0 := 50) (pc' := 63) rfl (hb hby at_50) rfl (feq hc50).2 (by decide) (by decide) k) ?_
        show OGo p e below s _ _ _ (T2.setTop (mkF m 63 #[.val (.int p0), .val (.int p1), .val (.int ((p0 &&& (2147483647 : Int32)) % (4 : Int32))), .val (.int ((p1 &&& (2147483647 : Int32)) % (5 : Int32))), .val (.ref (f1A ((p0 &&& (2147483647 : Int32)) % (4 : Int32)) w_INT w_DOUBLE w_BOOLEAN w_STRING)), .val (f1 ((p1 &&& (2147483647 : Int32)) % (5 : Int32)) w_INT w_DOUBLE w_BOOLEAN w_STRING), .unset] []))
        refine OGo.st (fun _ k => XS.iconst X2.here hx rfl (hb hby at_63) k) ?_
        show OGo p e below s _ _ _ (T2.setTop (mkF m 64 #[.val (.int p0), .val (.int p1), .val (.int ((p0 &&& (2147483647 : Int32)) % (4 : Int32))), .val (.int ((p1 &&& (2147483647 : Int32)) % (5 : Int32))), .val (.ref (f1A ((p0 &&& (2147483647 : Int32)) % (4 : Int32)) w_INT w_DOUBLE w_BOOLEAN w_STRING)), .val (f1 ((p1 &&& (2147483647 : Int32)) % (5 : Int32)) w_INT w_DOUBLE w_BOOLEAN w_STRING), .unset] [(.int (0 : Int32))]))
        refine OGo.st (fun _ k => XS.istore X2.here hx rfl (hb hby at_64) rfl (l' := #[.val (.int p0), .val (.int p1), .val (.int ((p0 &&& (2147483647 : Int32)) % (4 : Int32))), .val (.int ((p1 &&& (2147483647 : Int32)) % (5 : Int32))), .val (.ref (f1A ((p0 &&& (2147483647 : Int32)) % (4 : Int32)) w_INT w_DOUBLE w_BOOLEAN w_STRING)), .val (f1 ((p1 &&& (2147483647 : Int32)) % (5 : Int32)) w_INT w_DOUBLE w_BOOLEAN w_STRING), .val (.int (0 : Int32))]) rfl k) ?_
        show OGo p e below s _ _ _ (T2.setTop (mkF m 66 #[.val (.int p0), .val (.int p1), .val (.int ((p0 &&& (2147483647 : Int32)) % (4 : Int32))), .val (.int ((p1 &&& (2147483647 : Int32)) % (5 : Int32))), .val (.ref (f1A ((p0 &&& (2147483647 : Int32)) % (4 : Int32)) w_INT w_DOUBLE w_BOOLEAN w_STRING)), .val (f1 ((p1 &&& (2147483647 : Int32)) % (5 : Int32)) w_INT w_DOUBLE w_BOOLEAN w_STRING), .val (.int (0 : Int32))] []))
        exact hj66 (0 : Int32) (by unfold f0; exact (if_neg hc28).trans ((if_neg hc39).trans (if_neg hc50)))
theorem own_j (a : Int32) : ((a &&& (2147483647 : Int32)) % (5 : Int32)) = 0 ∨ ((a &&& (2147483647 : Int32)) % (5 : Int32)) = 1 ∨ ((a &&& (2147483647 : Int32)) % (5 : Int32)) = 2 ∨ ((a &&& (2147483647 : Int32)) % (5 : Int32)) = 3 ∨ ((a &&& (2147483647 : Int32)) % (5 : Int32)) = 4 := by
  have e := Jvm.Kit.i32_mask a 2147483647 (k := 31) (by decide) (by decide)
  have r := Jvm.Kit.i32_rem_nonneg (x := a &&& 2147483647) (y := 5) (by omega)
  have h5 : (5 : Int32).toInt = 5 := by decide
  have h0 : (0 : Int32).toInt = 0 := by decide
  have h1 : (1 : Int32).toInt = 1 := by decide
  have h2 : (2 : Int32).toInt = 2 := by decide
  have h3 : (3 : Int32).toInt = 3 := by decide
  have h4 : (4 : Int32).toInt = 4 := by decide
  simp only [← Int32.toInt_inj, r, h5, h0, h1, h2, h3, h4]
  omega
theorem own_plain (p0 p1 : Int32) (w0 w1 w2 w3 : Addr) (h01 : w0 ≠ w1) (h02 : w0 ≠ w2) (h03 : w0 ≠ w3) (h12 : w1 ≠ w2) (h13 : w1 ≠ w3) (h23 : w2 ≠ w3) : f0 p0 p1 w0 w1 w2 w3 = 1 := by
  unfold f0 f0_66
  have hi := own_i p0
  have hj := own_j p1
  generalize (p0 &&& (2147483647 : Int32)) % (4 : Int32) = i at *
  generalize (p1 &&& (2147483647 : Int32)) % (5 : Int32) = j at *
  have s10 := Ne.symm h01; have s20 := Ne.symm h02; have s30 := Ne.symm h03; have s21 := Ne.symm h12; have s31 := Ne.symm h13; have s32 := Ne.symm h23
  rcases hi with rfl | rfl | rfl | rfl <;> rcases hj with rfl | rfl | rfl | rfl | rfl <;> simp [f1, f1A, f2, *]
set_option maxRecDepth 65536 in
set_option maxHeartbeats 40000000 in
theorem comes_1 {Post : Tables → Env → Array Value → State → Outcome → State → Prop} (hpost : ∀ tb e args s v u, (limb_1_1.after args s (.returned v) u = true ∧ limb_1_2.after args s (.returned v) u = true ∧ True) → FrameEnd s (.returned v) u (Jvm.fieldLocs frame_1_writes args s ++ Jvm.arrayLocs frame_1_arrays args s ++ Jvm.staticLocs frame_1_statics s) 0 0 → Post tb e args s (.returned v) u) :
    ArmFor flags0 classFile x code maxLocals ret World_1 tables_1 room_1 Calls_1 rest_1 Pre_1 Post := by
  intro l hfl _ _ p e ha hc hk s m args below hf hA hF happ hP
  obtain ⟨hcalls, hrest, hpre⟩ := hP
  obtain ⟨-, -, -, hnamed, -, -, -, hat⟩ := (Spec.applies_iff hf).mp happ
  obtain ⟨hg, hn⟩ := and_e (Cond.before_iff.mp (show (Jvm.Cond.and given_1 narrow_1).before args s = true from hpre))
  obtain ⟨gv1, gv2⟩ := and_e hg
  obtain ⟨gv3, gv4⟩ := and_e gv2
  obtain ⟨w0, w1, rfl⟩ : ∃ w0 w1 : Value, args = #[w0, w1] := by
    have hs : args.size = 2 := by simpa [Cond.value, given_1] using gv1
    obtain ⟨L⟩ := args
    match L, hs with
    | [w0, w1], _ => exact ⟨w0, w1, rfl⟩
  have hw := fun d (hd : d ∈ tables_1) => atoms_spec (ws := Jvm.Cond.code x code maxLocals ret :: tables_1) hat d (List.mem_cons_of_mem _ hd)
  have hfit : Fit s := fun {y c} hc i hi => by
    obtain ⟨ha, rfl⟩ := Array.getElem?_eq_some_iff.mp hc
    have q := List.all_eq_true.mp ((Array.all_eq_true_iff_forall_mem.mp hF) _ (Array.getElem_mem ha)) i (List.mem_range.mpr hi)
    simpa [Array.getElem?_eq_getElem hi] using q
  obtain ⟨i0, ei0⟩ := is_v gv3
  obtain rfl : w0 = (.int i0) := Option.some.inj ei0
  obtain ⟨i1, ei1⟩ := is_v gv4
  obtain rfl : w1 = (.int i1) := Option.some.inj ei1
  obtain ⟨nv1, nv2⟩ := and_e hn
  obtain ⟨nv3, nv4⟩ := and_e nv2
  obtain ⟨nv5, nv6⟩ := and_e nv4
  obtain ⟨nv7, nv8⟩ := and_e nv6
  obtain ⟨nv9, nv10⟩ := and_e nv8
  obtain ⟨nv11, nv12⟩ := and_e nv10
  obtain ⟨nv13, nv14⟩ := and_e nv12
  obtain ⟨w_INT, ev_INT⟩ := exa_v nv1
  have S_INT : Sta s s.heap "com/example/pushout_bench/pushoutbench/graph/AttributeType" "INT" "Lcom/example/pushout_bench/pushoutbench/graph/AttributeType;" (.ref w_INT) := Sta.start ev_INT (Or.inr ⟨(hw _ (List.mem_of_getElem? (i := 6) rfl)), (hw _ (List.mem_of_getElem? (i := 7) rfl))⟩)
  have E_INT : Exa s s.heap w_INT "com/example/pushout_bench/pushoutbench/graph/AttributeType" := Exa.start ev_INT nv1
  obtain ⟨w_STRING, ev_STRING⟩ := exa_v nv3
  have S_STRING : Sta s s.heap "com/example/pushout_bench/pushoutbench/graph/AttributeType" "STRING" "Lcom/example/pushout_bench/pushoutbench/graph/AttributeType;" (.ref w_STRING) := Sta.start ev_STRING (Or.inr ⟨(hw _ (List.mem_of_getElem? (i := 6) rfl)), (hw _ (List.mem_of_getElem? (i := 9) rfl))⟩)
  have E_STRING : Exa s s.heap w_STRING "com/example/pushout_bench/pushoutbench/graph/AttributeType" := Exa.start ev_STRING nv3
  obtain ⟨w_DOUBLE, ev_DOUBLE⟩ := exa_v nv9
  have S_DOUBLE : Sta s s.heap "com/example/pushout_bench/pushoutbench/graph/AttributeType" "DOUBLE" "Lcom/example/pushout_bench/pushoutbench/graph/AttributeType;" (.ref w_DOUBLE) := Sta.start ev_DOUBLE (Or.inr ⟨(hw _ (List.mem_of_getElem? (i := 6) rfl)), (hw _ (List.mem_of_getElem? (i := 16) rfl))⟩)
  have E_DOUBLE : Exa s s.heap w_DOUBLE "com/example/pushout_bench/pushoutbench/graph/AttributeType" := Exa.start ev_DOUBLE nv9
  obtain ⟨w_BOOLEAN, ev_BOOLEAN⟩ := exa_v nv13
  have S_BOOLEAN : Sta s s.heap "com/example/pushout_bench/pushoutbench/graph/AttributeType" "BOOLEAN" "Lcom/example/pushout_bench/pushoutbench/graph/AttributeType;" (.ref w_BOOLEAN) := Sta.start ev_BOOLEAN (Or.inr ⟨(hw _ (List.mem_of_getElem? (i := 6) rfl)), (hw _ (List.mem_of_getElem? (i := 18) rfl))⟩)
  have E_BOOLEAN : Exa s s.heap w_BOOLEAN "com/example/pushout_bench/pushoutbench/graph/AttributeType" := Exa.start ev_BOOLEAN nv13
  have O_STRING_ordinal : Fld s s.heap w_STRING "java/lang/Enum" "ordinal" "I" (.int (3 : Int32)) := ofld_eq nv5 ev_STRING
  have O_INT_ordinal : Fld s s.heap w_INT "java/lang/Enum" "ordinal" "I" (.int (0 : Int32)) := ofld_eq nv7 ev_INT
  have O_DOUBLE_ordinal : Fld s s.heap w_DOUBLE "java/lang/Enum" "ordinal" "I" (.int (1 : Int32)) := ofld_eq nv11 ev_DOUBLE
  have O_BOOLEAN_ordinal : Fld s s.heap w_BOOLEAN "java/lang/Enum" "ordinal" "I" (.int (2 : Int32)) := ofld_eq nv14 ev_BOOLEAN
  have ne_INT_DOUBLE : w_INT ≠ w_DOUBLE := O_INT_ordinal.ne O_DOUBLE_ordinal (by decide)
  have ne_INT_BOOLEAN : w_INT ≠ w_BOOLEAN := O_INT_ordinal.ne O_BOOLEAN_ordinal (by decide)
  have ne_INT_STRING : w_INT ≠ w_STRING := O_INT_ordinal.ne O_STRING_ordinal (by decide)
  have ne_DOUBLE_BOOLEAN : w_DOUBLE ≠ w_BOOLEAN := O_DOUBLE_ordinal.ne O_BOOLEAN_ordinal (by decide)
  have ne_DOUBLE_STRING : w_DOUBLE ≠ w_STRING := O_DOUBLE_ordinal.ne O_STRING_ordinal (by decide)
  have ne_BOOLEAN_STRING : w_BOOLEAN ≠ w_STRING := O_BOOLEAN_ordinal.ne O_STRING_ordinal (by decide)
  have hpl := own_plain i0 i1 w_INT w_DOUBLE w_BOOLEAN w_STRING ne_INT_DOUBLE ne_INT_BOOLEAN ne_INT_STRING ne_DOUBLE_BOOLEAN ne_DOUBLE_STRING ne_BOOLEAN_STRING
  obtain ⟨n, o, h1, h2, h3, _, L, rfl, ⟨rfl, N⟩, hq⟩ := rm0 l s _ hw tables_1 i0 i1 w_INT w_DOUBLE w_BOOLEAN w_STRING s.heap s.heap.size (Nat.le_refl _) S_INT S_DOUBLE S_BOOLEAN S_STRING E_INT E_DOUBLE E_BOOLEAN E_STRING p e ha hc hk s m _ below hf ((Spec.applies_iff_loose hf).mp happ).1 ⟨rfl, State.Warmed39.refl s, rfl⟩ trivial
  refine ⟨n, _, h1, h2, h3, hpost _ _ _ _ _ _ ⟨Cond.after_iff.mpr rfl, Cond.after_iff.mpr (eq_i res_at (Term.int_eval (1)) (congrArg Value.int hpl)), trivial⟩ ⟨hq.1, hq.2.1, (hq.2.2.sift fun y hy => Or.inr (N y hy)).mono (by decide) (by decide)⟩⟩
theorem main_1_1 : Claimed_1_1 := comes_1 fun _ _ _ _ _ _ h hF => ⟨h.1, hF⟩
theorem main_1_2 : Claimed_1_2 := comes_1 fun _ _ _ _ _ _ h hF => ⟨h.2.1, hF⟩
end Jvm.Pilot.@@N@@
namespace Jvm.Pilot.@@N@@
open Jvm Jvm.ClassFile Sem Op Lib Jvm.Free Jvm.Stand Jvm.Pilot.@@N@@.Jvm.D
/-! MADE BY PROGRAM (witnessworld.py) out of the Statement's table words and the real class files: 12 classes; the members and pool entries that the words name. The judged class is class 1, her method 2. -/
namespace start1
open Jvm.ClassFile
def u (s : String) : CpInfo := .utf8 (stringToUtf16 s)
/-- a pool by its gaps: so many unusable entries, then the entry; so many at the end -/
def gap : Nat → List CpInfo → List CpInfo
  | 0, r => r
  | n + 1, r => .unusable :: gap n r
def poolList (es : List (Nat × CpInfo)) (last : Nat) : List CpInfo := es.foldr (fun e r => gap e.1 (e.2 :: r)) (gap last [])
def pool (es : List (Nat × CpInfo)) (last : Nat) : Array CpInfo := ⟨poolList es last⟩
def fileOf (pool : Array CpInfo) (this : Nat) (attrs : Array Attribute := #[]) (ms : Array MethodInfo := #[]) (fl : Nat := 33) (sup : Nat := 0) (ifs : Array Nat := #[]) (fds : Array FieldInfo := #[]) : ClassFile where
  minorVersion := 0
  majorVersion := 65
  constantPool := pool
  accessFlags := fl
  thisClass := this
  superClass := sup
  interfaces := ifs
  fields := fds
  methods := ms
  attributes := attrs
def plain (name : String) (sup : Option ClassId) : Class where
  name := name
  kind := .ordinary
  loader := none
  accessFlags := 33
  super := sup
  interfaces := #[]
  cf := none
  fields := #[]
  methods := #[]
  instanceTypes := #[]
  staticTypes := #[]
  resolved := #[]
  callSites := []
  init := .initialized
  statics := none
  mirror := none

def pool0 : Array CpInfo := pool [(5, u "<init>"), (0, u "()V"), (1, .class_ 10), (1, u "java/lang/Object")] 113

def k0m0 : Method := { name := "<init>", desc := "()V", sig := { parameters := [], returnType := none }, accessFlags := 1, code := none }
/-- java/lang/Object -/
def k0 : Class := { plain "java/lang/Object" none with
  accessFlags := 33
  interfaces := #[]
  cf := some (fileOf pool0 8 #[] #[{ accessFlags := 1, nameIndex := 5, descriptorIndex := 6, attributes := #[] }] 33 0 #[] #[])
  fields := #[]
  methods := #[k0m0]
  instanceTypes := #[]
  staticTypes := #[]
  resolved := Array.replicate 124 none
  statics := none }

def pool1 : Array CpInfo := pool [(2, .class_ 4), (1, u "java/lang/Object"), (0, u "<init>"), (0, u "()V"), (0, .fieldref 8 9), (0, .class_ 10), (0, .nameAndType 11 12), (0, u "com/example/pushout_bench/pushoutbench/graph/AttributeType"), (0, u "INT"), (0, u "Lcom/example/pushout_bench/pushoutbench/graph/AttributeType;"), (0, .fieldref 8 14), (0, .nameAndType 15 12), (0, u "DOUBLE"), (0, .fieldref 8 17), (0, .nameAndType 18 12), (0, u "BOOLEAN"), (0, .fieldref 8 20), (0, .nameAndType 21 12), (0, u "STRING"), (0, .integer 2147483647), (0, .methodref 24 25), (0, .class_ 26), (0, .nameAndType 27 28), (0, u "com/example/pushout_bench/pushoutbench/graph/AttributeTypeAcceptsPinLaw"), (0, u "pick"), (0, u "(I)Lcom/example/pushout_bench/pushoutbench/graph/AttributeType;"), (0, .methodref 8 30), (0, .nameAndType 31 32), (0, u "accepts"), (0, u "(Lcom/example/pushout_bench/pushoutbench/graph/AttributeType;)Z"), (3, u "law"), (0, u "(II)Z")] 2

def k1m0 : Method := { name := "<init>", desc := "()V", sig := { parameters := [], returnType := none }, accessFlags := 1, code := none }
def k1c1 : Code := { maxStack := 2, maxLocals := 1, code := method_2_code, exceptionTable := #[], attributes := #[] }
def k1m1 : Method := { name := "pick", desc := "(I)Lcom/example/pushout_bench/pushoutbench/graph/AttributeType;", sig := { parameters := [.int], returnType := some (.object "com/example/pushout_bench/pushoutbench/graph/AttributeType") }, accessFlags := 10, code := some k1c1 }
def k1c2 : Code := { maxStack := 2, maxLocals := 7, code := code, exceptionTable := #[], attributes := #[] }
def k1m2 : Method := { name := "law", desc := "(II)Z", sig := { parameters := [.int, .int], returnType := some .boolean }, accessFlags := 9, code := some k1c2 }
/-- com/example/pushout_bench/pushoutbench/graph/AttributeTypeAcceptsPinLaw -/
def k1 : Class := { plain "com/example/pushout_bench/pushoutbench/graph/AttributeTypeAcceptsPinLaw" (some 0) with
  accessFlags := 49
  interfaces := #[]
  cf := some (fileOf pool1 24 #[] #[{ accessFlags := 1, nameIndex := 5, descriptorIndex := 6, attributes := #[] }, { accessFlags := 10, nameIndex := 27, descriptorIndex := 28, attributes := #[] }, { accessFlags := 9, nameIndex := 36, descriptorIndex := 37, attributes := #[] }] 49 2 #[] #[])
  fields := #[]
  methods := #[k1m0, k1m1, k1m2]
  instanceTypes := #[]
  staticTypes := #[]
  resolved := Array.replicate 40 none
  statics := none }

def pool2 : Array CpInfo := pool [(1, .class_ 2), (0, u "java/lang/constant/Constable"), (0, .class_ 4), (0, u "java/lang/Object")] 6

/-- java/lang/constant/Constable -/
def k2 : Class := { plain "java/lang/constant/Constable" (some 0) with
  accessFlags := 1537
  interfaces := #[]
  cf := some (fileOf pool2 1 #[] #[] 1537 3 #[] #[])
  fields := #[]
  methods := #[]
  instanceTypes := #[]
  staticTypes := #[]
  resolved := Array.replicate 11 none
  statics := none }

def pool3 : Array CpInfo := pool [(1, .class_ 2), (0, u "java/lang/Comparable"), (0, .class_ 4), (0, u "java/lang/Object")] 7

/-- java/lang/Comparable -/
def k3 : Class := { plain "java/lang/Comparable" (some 0) with
  accessFlags := 1537
  interfaces := #[]
  cf := some (fileOf pool3 1 #[] #[] 1537 3 #[] #[])
  fields := #[]
  methods := #[]
  instanceTypes := #[]
  staticTypes := #[]
  resolved := Array.replicate 12 none
  statics := none }

def pool4 : Array CpInfo := pool [(1, .class_ 2), (0, u "java/io/Serializable"), (0, .class_ 4), (0, u "java/lang/Object")] 2

/-- java/io/Serializable -/
def k4 : Class := { plain "java/io/Serializable" (some 0) with
  accessFlags := 1537
  interfaces := #[]
  cf := some (fileOf pool4 1 #[] #[] 1537 3 #[] #[])
  fields := #[]
  methods := #[]
  instanceTypes := #[]
  staticTypes := #[]
  resolved := Array.replicate 7 none
  statics := none }

def pool5 : Array CpInfo := pool [(2, .class_ 4), (1, u "java/lang/Enum"), (0, u "name"), (0, u "Ljava/lang/String;"), (2, u "ordinal"), (0, u "I"), (1, .class_ 14), (1, u "java/lang/Object"), (4, u "hash"), (86, .class_ 108), (1, u "java/lang/Enum$EnumDesc"), (2, .class_ 112), (0, u "java/lang/constant/Constable"), (0, .class_ 114), (0, u "java/lang/Comparable"), (0, .class_ 116), (0, u "java/io/Serializable")] 87

/-- java/lang/Enum -/
def k5 : Class := { plain "java/lang/Enum" (some 0) with
  accessFlags := 1057
  interfaces := #[2, 3, 4]
  cf := some (fileOf pool5 2 #[.nestMembers #[106]] #[] 1057 12 #[111, 113, 115] #[{ accessFlags := 18, nameIndex := 5, descriptorIndex := 6, attributes := #[] }, { accessFlags := 18, nameIndex := 9, descriptorIndex := 10, attributes := #[] }, { accessFlags := 2, nameIndex := 19, descriptorIndex := 10, attributes := #[] }])
  fields := #[{ name := "name", type := (.object "java/lang/String"), accessFlags := 18, slot := 0, constantValue := 0 }, { name := "ordinal", type := .int, accessFlags := 18, slot := 1, constantValue := 0 }, { name := "hash", type := .int, accessFlags := 2, slot := 2, constantValue := 0 }]
  methods := #[]
  instanceTypes := #[(.object "java/lang/String"), .int, .int]
  staticTypes := #[]
  resolved := Array.replicate 204 none
  statics := none }

def pool6 : Array CpInfo := pool [(1, .class_ 2), (0, u "com/example/pushout_bench/pushoutbench/graph/AttributeType"), (0, .fieldref 1 4), (0, .nameAndType 5 6), (0, u "INT"), (0, u "Lcom/example/pushout_bench/pushoutbench/graph/AttributeType;"), (0, .fieldref 1 8), (0, .nameAndType 9 6), (0, u "DOUBLE"), (2, u "BOOLEAN"), (2, u "STRING"), (2, u "$VALUES"), (0, u "[Lcom/example/pushout_bench/pushoutbench/graph/AttributeType;"), (6, .class_ 28), (1, u "java/lang/Enum"), (8, u "name"), (0, u "Ljava/lang/String;"), (30, u "accepts"), (0, u "(Lcom/example/pushout_bench/pushoutbench/graph/AttributeType;)Z"), (67, u "INT_TEXT"), (0, u "Ljava/util/regex/Pattern;"), (22, u "DOUBLE_TEXT")] 92

def k6c0 : Code := { maxStack := 2, maxLocals := 2, code := prog_56_method_8_code, exceptionTable := #[], attributes := #[] }
def k6m0 : Method := { name := "accepts", desc := "(Lcom/example/pushout_bench/pushoutbench/graph/AttributeType;)Z", sig := { parameters := [(.object "com/example/pushout_bench/pushoutbench/graph/AttributeType")], returnType := some .boolean }, accessFlags := 1, code := some k6c0 }
/-- com/example/pushout_bench/pushoutbench/graph/AttributeType -/
def k6 : Class := { plain "com/example/pushout_bench/pushoutbench/graph/AttributeType" (some 5) with
  accessFlags := 16433
  interfaces := #[]
  cf := some (fileOf pool6 1 #[] #[{ accessFlags := 1, nameIndex := 69, descriptorIndex := 70, attributes := #[] }] 16433 26 #[] #[{ accessFlags := 16409, nameIndex := 5, descriptorIndex := 6, attributes := #[] }, { accessFlags := 16409, nameIndex := 9, descriptorIndex := 6, attributes := #[] }, { accessFlags := 16409, nameIndex := 12, descriptorIndex := 6, attributes := #[] }, { accessFlags := 16409, nameIndex := 15, descriptorIndex := 6, attributes := #[] }, { accessFlags := 26, nameIndex := 138, descriptorIndex := 139, attributes := #[] }, { accessFlags := 26, nameIndex := 162, descriptorIndex := 139, attributes := #[] }, { accessFlags := 18, nameIndex := 37, descriptorIndex := 38, attributes := #[] }, { accessFlags := 4122, nameIndex := 18, descriptorIndex := 19, attributes := #[] }])
  fields := #[{ name := "INT", type := (.object "com/example/pushout_bench/pushoutbench/graph/AttributeType"), accessFlags := 16409, slot := 0, constantValue := 0 }, { name := "DOUBLE", type := (.object "com/example/pushout_bench/pushoutbench/graph/AttributeType"), accessFlags := 16409, slot := 1, constantValue := 0 }, { name := "BOOLEAN", type := (.object "com/example/pushout_bench/pushoutbench/graph/AttributeType"), accessFlags := 16409, slot := 2, constantValue := 0 }, { name := "STRING", type := (.object "com/example/pushout_bench/pushoutbench/graph/AttributeType"), accessFlags := 16409, slot := 3, constantValue := 0 }, { name := "INT_TEXT", type := (.object "java/util/regex/Pattern"), accessFlags := 26, slot := 4, constantValue := 0 }, { name := "DOUBLE_TEXT", type := (.object "java/util/regex/Pattern"), accessFlags := 26, slot := 5, constantValue := 0 }, { name := "name", type := (.object "java/lang/String"), accessFlags := 18, slot := 3, constantValue := 0 }, { name := "$VALUES", type := (.array (.object "com/example/pushout_bench/pushoutbench/graph/AttributeType")), accessFlags := 4122, slot := 6, constantValue := 0 }]
  methods := #[k6m0]
  instanceTypes := #[(.object "java/lang/String"), .int, .int, (.object "java/lang/String")]
  staticTypes := #[(.object "com/example/pushout_bench/pushoutbench/graph/AttributeType"), (.object "com/example/pushout_bench/pushoutbench/graph/AttributeType"), (.object "com/example/pushout_bench/pushoutbench/graph/AttributeType"), (.object "com/example/pushout_bench/pushoutbench/graph/AttributeType"), (.object "java/util/regex/Pattern"), (.object "java/util/regex/Pattern"), (.array (.object "com/example/pushout_bench/pushoutbench/graph/AttributeType"))]
  resolved := Array.replicate 255 none
  statics := some 0 }

def pool7 : Array CpInfo := pool [(1, u "java/lang/Cloneable"), (0, .class_ 1), (0, u "java/lang/Object"), (0, .class_ 3)] 3

/-- java/lang/Cloneable -/
def k7 : Class := { plain "java/lang/Cloneable" (some 0) with
  accessFlags := 1537
  interfaces := #[]
  cf := some (fileOf pool7 2 #[] #[] 1537 4 #[] #[])
  fields := #[]
  methods := #[]
  instanceTypes := #[]
  staticTypes := #[]
  resolved := Array.replicate 8 none
  statics := none }

/-- the primitive byte -/
def k8 : Class := { plain "byte" none with kind := .primitive 'B', accessFlags := 0x411 }
/-- [B -/
def k9 : Class := { plain "[B" (some 0) with kind := .array 8 .byte, interfaces := #[7, 4], accessFlags := 1041 }

/-- the primitive int -/
def k10 : Class := { plain "int" none with kind := .primitive 'I', accessFlags := 0x411 }
/-- [I -/
def k11 : Class := { plain "[I" (some 0) with kind := .array 10 .int, interfaces := #[7, 4], accessFlags := 1041 }

def heap : Heap := #[{ cls := 6, slots := #[.ref 1, .ref 2, .ref 3, .ref 4, .null, .null, .null], vm := .statics 6 },
  { cls := 6, slots := #[.null, .int 0, .int 0, .null], vm := .none },
  { cls := 6, slots := #[.null, .int 1, .int 0, .null], vm := .none },
  { cls := 6, slots := #[.null, .int 2, .int 0, .null], vm := .none },
  { cls := 6, slots := #[.null, .int 3, .int 0, .null], vm := .none }]
def classes : Array Class := #[k0, k1, k2, k3, k4, k5, k6, k7, k8, k9, k10, k11]
def interned : List (Array UInt16 × Addr) := []
def slotsUsed : Nat := 23
def theMethod : MethodId := ⟨1, 2⟩
def args0 : Array Value := #[.int 7, .int 7]
def aboutOver (below : List Frame) : State where
  vm := { classes := classes, interned := interned.toArray }
  heap := heap
  slotsUsed := slotsUsed
  threads := #[{ frames := .invoking theMethod args0 :: below }]
def below0 : List Frame := [.native { method := ⟨0, 0⟩, args := #[] }]
def about1 : State := aboutOver below0
def p0 : Program := .bare "" "" ""
def e0 : Env := launch0.env 0 0 0
theorem w_frames : about1.frames = Frame.invoking theMethod args0 :: below0 := rfl
set_option maxRecDepth 65536 in
theorem w_args : argsFit about1.vm theMethod args0 = true := by decide +kernel
set_option maxRecDepth 65536 in
theorem w_heap : heapFits about1 = true := by decide +kernel
set_option maxRecDepth 65536 in
theorem w_runnable : about1.curStatus? = some .runnable := by decide +kernel
set_option maxRecDepth 65536 in
theorem w_alone : about1.alone = true := by decide +kernel
set_option maxRecDepth 65536 in
theorem w_named : about1.methodNamed? x = some theMethod := by decide +kernel
set_option maxRecDepth 65536 in
theorem w_hears : about1.hears theMethod below0 = true := by decide +kernel
set_option maxRecDepth 65536 in
theorem w_ripe : about1.ripe theMethod args0 below0 = true := by decide +kernel
theorem w_running : about1.status = .running := rfl
set_option maxRecDepth 65536 in
theorem w_room : about1.hasRoom e0.platform room_1 = true :=
  launch0.hasRoom_least _ room_1 (by decide +kernel) (by decide +kernel) (by decide +kernel) (by decide +kernel) (by decide +kernel) (by decide +kernel)
theorem allAtoms_all (ts : List Jvm.Cond) (a : Array Jvm.Value) (st : Jvm.State) : (allAtoms ts).before a st = ts.all (fun c => c.before a st) := by
  induction ts with
  | nil => rfl
  | cons c t ih =>
    show (Jvm.Cond.and c (allAtoms t)).before a st = _
    rw [Jvm.Cond.before_and, ih, List.all_cons]
def words1 : List Jvm.Cond := Jvm.Cond.code x code maxLocals ret :: tables_1
/-- a 'code' word, met by the world's own term for the bytes: nothing is compared byte by byte -/
theorem code_word {y : MethodName} {bytes : ByteArray} {mx : Nat} {rt : Option FieldType} {a : Array Value} {s : State} {m : MethodId} {meth : Method} {c : Code} (h1 : s.methodNamed? y = some m) (h2 : s.vm.method? m = some meth) (h3 : meth.code = some c) (h4 : c.code = bytes)
    (h5 : (c.maxLocals == mx && c.exceptionTable.isEmpty && decide (c.maxStack ≤ mostOperands) && decide (meth.sig.returnType = rt) && !meth.locks && decide (parseMethodDescriptor y.desc = some meth.sig)) = true) : (Jvm.Cond.code y bytes mx rt).before a s = true := by
  simp only [Bool.and_eq_true, beq_iff_eq, Bool.not_eq_true', decide_eq_true_eq] at h5
  obtain ⟨⟨⟨⟨⟨g1, g2⟩, g3⟩, g4⟩, g5⟩, g6⟩ := h5
  simp [Cond.before, Cond.holds, Cond.value, h1, h2, h3, h4, g1, g2, g3, g4, g5, g6]
def isCode : Jvm.Cond → Bool
  | .code _ _ _ _ => true
  | _ => false
theorem all_split {L : List Jvm.Cond} {P : Jvm.Cond → Bool} (h1 : L.all (fun c => isCode c || P c) = true) (h2 : ∀ c ∈ L.filter isCode, P c = true) : L.all P = true := by
  refine List.all_eq_true.mpr fun c hc => ?_
  have h := List.all_eq_true.mp h1 c hc
  rcases Bool.eq_false_or_eq_true (isCode c) with hi | hi
  · exact h2 c (List.mem_filter.mpr ⟨hc, hi⟩)
  · simpa [hi] using h
set_option maxRecDepth 65536 in
theorem w_c0 : (Jvm.Cond.code x code maxLocals ret).before args0 about1 = true := code_word (m := ⟨1, 2⟩) (meth := k1m2) (c := k1c2) (by decide +kernel) rfl rfl rfl (by decide +kernel)
set_option maxRecDepth 65536 in
theorem w_c1 : (Jvm.Cond.code ({ cls := "com/example/pushout_bench/pushoutbench/graph/AttributeTypeAcceptsPinLaw", name := "pick", desc := "(I)Lcom/example/pushout_bench/pushoutbench/graph/AttributeType;" } : Jvm.MethodName) method_2_code (1 : Nat) (Option.some (Jvm.ClassFile.FieldType.object "com/example/pushout_bench/pushoutbench/graph/AttributeType"))).before args0 about1 = true := code_word (m := ⟨1, 1⟩) (meth := k1m1) (c := k1c1) (by decide +kernel) rfl rfl rfl (by decide +kernel)
set_option maxRecDepth 65536 in
theorem w_c2 : (Jvm.Cond.code ({ cls := "com/example/pushout_bench/pushoutbench/graph/AttributeType", name := "accepts", desc := "(Lcom/example/pushout_bench/pushoutbench/graph/AttributeType;)Z" } : Jvm.MethodName) prog_56_method_8_code (2 : Nat) (Option.some Jvm.ClassFile.FieldType.boolean)).before args0 about1 = true := code_word (m := ⟨6, 0⟩) (meth := k6m0) (c := k6c0) (by decide +kernel) rfl rfl rfl (by decide +kernel)
def codes1 : List Jvm.Cond := [Jvm.Cond.code x code maxLocals ret, Jvm.Cond.code ({ cls := "com/example/pushout_bench/pushoutbench/graph/AttributeTypeAcceptsPinLaw", name := "pick", desc := "(I)Lcom/example/pushout_bench/pushoutbench/graph/AttributeType;" } : Jvm.MethodName) method_2_code (1 : Nat) (Option.some (Jvm.ClassFile.FieldType.object "com/example/pushout_bench/pushoutbench/graph/AttributeType")), Jvm.Cond.code ({ cls := "com/example/pushout_bench/pushoutbench/graph/AttributeType", name := "accepts", desc := "(Lcom/example/pushout_bench/pushoutbench/graph/AttributeType;)Z" } : Jvm.MethodName) prog_56_method_8_code (2 : Nat) (Option.some Jvm.ClassFile.FieldType.boolean)]
set_option maxRecDepth 65536 in
theorem codes_eq : words1.filter isCode = codes1 := rfl
theorem w_codes : ∀ c ∈ words1.filter isCode, c.before args0 about1 = true := by
  rw [codes_eq]
  intro c hc
  simp only [codes1, List.mem_cons, List.not_mem_nil, or_false] at hc
  rcases hc with rfl | rfl | rfl
  · exact w_c0
  · exact w_c1
  · exact w_c2
set_option maxRecDepth 65536 in
theorem w_t1 : words1.all (fun c => isCode c || c.before args0 about1) = true := by decide +kernel
theorem w_tables : (allAtoms (Jvm.Cond.code x code maxLocals ret :: tables_1)).before args0 about1 = true := by
  rw [allAtoms_all]
  show words1.all (fun c => c.before args0 about1) = true
  refine all_split ?_ w_codes
  rw [w_t1]
set_option maxRecDepth 65536 in
theorem w_case : (Jvm.Cond.and given_1 narrow_1).before args0 about1 = true := by decide +kernel
theorem w_applies : (headSpec (Jvm.Cond.code x code maxLocals ret :: tables_1) room_1).applies x e0.platform about1 = true :=
  (Spec.applies_iff w_frames).mpr ⟨w_running, w_runnable, w_alone, w_named, w_hears, w_ripe, w_room, w_tables⟩
theorem atStart : AtStart classFile x code maxLocals ret World_1 tables_1 room_1 Calls_1 rest_1 Pre_1 launch0 p0 e0 about1 theMethod args0 below0 :=
  ⟨lists_1, trivial, launch0.admits_env _ _ _, launch0.least_env, fairChoices_fair.cas, fairChoices_fair.clock, w_frames, w_args, w_heap, w_applies, trivial, trivial, w_case⟩
end start1
theorem witness_1 : WitnessClaimed_1 := ⟨start1.p0, start1.e0, start1.about1, start1.theMethod, start1.args0, start1.below0, start1.atStart⟩
end Jvm.Pilot.@@N@@
