import JvmDerived
import JvmDerived.Pilot.@@N@@Statement
import JvmDerived.Pilot.@@N@@Code
set_option linter.unusedVariables false
set_option linter.unusedSimpArgs false
@@BLOCK:NumsL.lean.txt@@
namespace Jvm.RoadKit
open Sem ClassFile Op Lib Jvm.Stand Jvm.Free Jvm.LawKit
section Own
variable {p : Program} {l : Launch} {e : Env} {R : Room} {s : State} {m : MethodId} {args : Array Value} {below : List Frame} {meth : Method} {c : Code} {T : State} {locs : List Loc} {cells slots : Nat}
/-- from t the run ends in a return of which Q holds -/
def OGo (p : Program) (e : Env) (below : List Frame) (s : State) (Q : Option Value → Heap → List Loc → Prop) (C N : Nat) (t : State) : Prop :=
  ∃ s₂ o, Steps p.tables e below t s₂ ∧ s₂.status = .running ∧ Ended s₂ below o ∧ ∃ v L, o = .returned v ∧ Q v s₂.heap L ∧ FrameEnd s o s₂ L C N
theorem OGo.st {Q : Option Value → Heap → List Loc → Prop} {C N : Nat} {t t' : State} (k : ∀ target, Steps p.tables e below t' target → Steps p.tables e below t target) (h : OGo p e below s Q C N t') : OGo p e below s Q C N t := by
  obtain ⟨s₂, o, a, r⟩ := h; exact ⟨s₂, o, k _ a, r⟩
theorem oretW {Q : Option Value → Heap → List Loc → Prop} {C N : Nat} (X : Stand p l e R s m args below meth c T locs cells slots) (hx : p.tables.exec = Jvm.exec) (hlk : meth.locks = false) {pc : Nat} {Ls : Array Slot} {w : Value} {t : FieldType} {i : Instr} {rest : List Value} (hret : meth.sig.returnType = some t) (hn : narrow t w = w)
    (hi : (i = .ireturn ∧ (t = .int ∨ t = .boolean ∨ t = .byte ∨ t = .char ∨ t = .short) ∧ ∃ z, w = .int z) ∨ (i = .lreturn ∧ t = .long ∧ ∃ z, w = .long z) ∨ (i = .dreturn ∧ t = .double ∧ ∃ z, w = .double z) ∨ (i = .freturn ∧ t = .float ∧ ∃ z, w = .float z) ∨ (i = .areturn ∧ t.isReference = true ∧ w.isRef = true))
    (hd : decode c.code pc = .ok (i, 1)) {h : Heap} (hh : T.heap = h) (hq : Q (some w) h locs) (hC : cells ≤ C) (hN : slots ≤ N) : OGo p e below s Q C N (T.setTop (mkF m pc Ls (w :: rest))) := by
  obtain ⟨fs, hr, hrun, hended, hW, hsame⟩ := X.leave (v := some w) (fun h => by rw [hret] at h; cases h) hlk
  exact ⟨_, _, retOut X hx hret hn hi hd hr, hrun, hended, _, _, rfl, hh ▸ hq, ⟨_, rfl⟩, hW, hsame.mono hC hN⟩
theorem oretI {Q : Option Value → Heap → List Loc → Prop} {C N : Nat} (X : Stand p l e R s m args below meth c T locs cells slots) (hx : p.tables.exec = Jvm.exec) (hlk : meth.locks = false) {pc : Nat} {Ls : Array Slot} {z : Int32} {rest : List Value} (hret : meth.sig.returnType = some .int)
    (hd : decode c.code pc = .ok (.ireturn, 1)) {h : Heap} (hh : T.heap = h) (hq : Q (some (.int z)) h locs) (hC : cells ≤ C) (hN : slots ≤ N) : OGo p e below s Q C N (T.setTop (mkF m pc Ls (.int z :: rest))) :=
  oretW X hx hlk hret rfl (Or.inl ⟨rfl, Or.inl rfl, _, rfl⟩) hd hh hq hC hN
theorem oretJ {Q : Option Value → Heap → List Loc → Prop} {C N : Nat} (X : Stand p l e R s m args below meth c T locs cells slots) (hx : p.tables.exec = Jvm.exec) (hlk : meth.locks = false) {pc : Nat} {Ls : Array Slot} {z : Int64} {rest : List Value} (hret : meth.sig.returnType = some .long)
    (hd : decode c.code pc = .ok (.lreturn, 1)) {h : Heap} (hh : T.heap = h) (hq : Q (some (.long z)) h locs) (hC : cells ≤ C) (hN : slots ≤ N) : OGo p e below s Q C N (T.setTop (mkF m pc Ls (.long z :: rest))) :=
  oretW X hx hlk hret rfl (Or.inr (Or.inl ⟨rfl, rfl, _, rfl⟩)) hd hh hq hC hN
theorem onarR {t : FieldType} {w : Value} (ht : t.isReference = true) (hw : w.isRef = true) : narrow t w = w := by
  cases t <;> first | (cases ht; done) | (cases w <;> first | rfl | (cases hw; done))
theorem ofitR {t : FieldType} {w : Value} (ht : t.isReference = true) (hw : w.isRef = true) : fits t w = true := by
  cases t <;> first | (cases ht; done) | (cases w <;> first | rfl | (cases hw; done))
theorem oretA {Q : Option Value → Heap → List Loc → Prop} {C N : Nat} (X : Stand p l e R s m args below meth c T locs cells slots) (hx : p.tables.exec = Jvm.exec) (hlk : meth.locks = false) {pc : Nat} {Ls : Array Slot} {w : Value} {t : FieldType} {rest : List Value} (hret : meth.sig.returnType = some t) (ht : t.isReference = true) (hw : w.isRef = true)
    (hd : decode c.code pc = .ok (.areturn, 1)) {h : Heap} (hh : T.heap = h) (hq : Q (some w) h locs) (hC : cells ≤ C) (hN : slots ≤ N) : OGo p e below s Q C N (T.setTop (mkF m pc Ls (w :: rest))) :=
  oretW X hx hlk hret (onarR ht hw) (Or.inr (Or.inr (Or.inr (Or.inr ⟨rfl, ht, hw⟩)))) hd hh hq hC hN
theorem oretN {Q : Option Value → Heap → List Loc → Prop} {C N : Nat} (X : Stand p l e R s m args below meth c T locs cells slots) (hx : p.tables.exec = Jvm.exec) (hlk : meth.locks = false) {pc : Nat} {Ls : Array Slot} {z z' : Int32} {t : FieldType} {rest : List Value} (hret : meth.sig.returnType = some t) (ht : t = .boolean ∨ t = .byte ∨ t = .char ∨ t = .short)
    (hd : decode c.code pc = .ok (.ireturn, 1)) (hz : nar t z = z') {h : Heap} (hh : T.heap = h) (hq : Q (some (.int z')) h locs) (hC : cells ≤ C) (hN : slots ≤ N) : OGo p e below s Q C N (T.setTop (mkF m pc Ls (.int z :: rest))) := by
  subst hz
  obtain ⟨fs, hr, hrun, hended, hW, hsame⟩ := X.leave (v := some (.int (nar t z))) (fun h => by rw [hret] at h; cases h) hlk
  exact ⟨_, _, retN X hx hret ht hd hr, hrun, hended, _, _, rfl, hh ▸ hq, ⟨_, rfl⟩, hW, hsame.mono hC hN⟩
theorem oret0 {Q : Option Value → Heap → List Loc → Prop} {C N : Nat} (X : Stand p l e R s m args below meth c T locs cells slots) (hx : p.tables.exec = Jvm.exec) (hlk : meth.locks = false) {pc : Nat} {Ls : Array Slot} (hret : meth.sig.returnType = none)
    (hd : decode c.code pc = .ok (.return_, 1)) {h : Heap} (hh : T.heap = h) (hq : Q none h locs) (hC : cells ≤ C) (hN : slots ≤ N) : OGo p e below s Q C N (T.setTop (mkF m pc Ls [])) := by
  obtain ⟨fs, hr, hrun, hended, hW, hsame⟩ := X.leave (v := none) (fun _ => rfl) hlk
  exact ⟨_, _, X.returnOut hx hret hd hr, hrun, hended, _, _, rfl, hh ▸ hq, ⟨_, rfl⟩, hW, hsame.mono hC hN⟩
theorem olrem {tb : Tables} [Ours tb] {target : State} {g : JFrame} (h : At T m c below) (hx : tb.exec = Jvm.exec) (hg : g.method = m) {x y : Int64} {rest : List Value} (hd : decode c.code g.pc = .ok (.lrem, 1)) (hs : g.stack = .long y :: .long x :: rest) (hy : y ≠ 0)
    (hr : Steps tb e below (T.setTop { g with pc := g.pc + 1, stack := .long (x % y) :: rest }) target) : Steps tb e below (T.setTop g) target :=
  XS.lrem h hx hg hd hs hy (by rw [lrem_mod]; exact hr)
theorem olc_lt (x y : Int64) : lcmpW x y < 0 ↔ x < y := by rw [lcW]; exact lc_lt x y
theorem olc_gt (x y : Int64) : 0 < lcmpW x y ↔ y < x := by rw [lcW]; exact lc_gt x y
theorem olc_eq (x y : Int64) : lcmpW x y = 0 ↔ x = y := by rw [lcW]; exact lc_eq x y
theorem onilP {v : Int} : ∀ q ∈ ([] : List (Int × Int)), q.1 ≠ v := fun _ q => nomatch q
theorem oconsP {v a b : Int} {l : List (Int × Int)} (h : a ≠ v) (t : ∀ q ∈ l, q.1 ≠ v) : ∀ q ∈ (a, b) :: l, q.1 ≠ v := fun q hq => (List.mem_cons.mp hq).elim (fun u => by rw [u]; exact h) (t q)
theorem oint_ne {z k : Int32} {K : Int} (h : ¬ z = k) (hk : k.toInt = K) : K ≠ z.toInt := fun q => h (Int32.toInt_inj.mp (by rw [hk, q]))
theorem ofld_eq {Z : State} {t : Term} {C n d : String} {a : Addr} {k : Int32} (h : (Cond.eq (Term.field t C n d) (Term.int k)).value args Z none Z [] = some true) (ev : t.eval args Z none [] Z = some (.ref a)) : Fld Z Z.heap a C n d (.int k) := by
  apply Fld.start
  have q := fld_at (args := args) (first := Z) (o := none) (idx := []) (s := Z) (C := C) (n := n) (dd := d) ev
  simp only [Cond.value, q, Term.int_eval] at h
  cases hv : Z.fieldOf? a C n d with
  | none => simp [hv] at h
  | some v => cases v <;> simp [hv] at h <;> simp [h]
section Imp
variable {E a b : Int32}
theorem oLL (h : E < a) (k : a.toInt ≤ b.toInt) : E < b := by rw [Int32.lt_iff_toInt_lt] at *; omega
theorem oLnG (h : E < a) (k : a.toInt ≤ b.toInt + 1) : ¬ b < E := by rw [Int32.lt_iff_toInt_lt] at *; omega
theorem oLnE (h : E < a) (k : a.toInt ≤ b.toInt) : ¬ E = b := fun q => by subst q; rw [Int32.lt_iff_toInt_lt] at h; omega
theorem oGG (h : a < E) (k : b.toInt ≤ a.toInt) : b < E := by rw [Int32.lt_iff_toInt_lt] at *; omega
theorem oGnL (h : a < E) (k : b.toInt ≤ a.toInt + 1) : ¬ E < b := by rw [Int32.lt_iff_toInt_lt] at *; omega
theorem oGnE (h : a < E) (k : b.toInt ≤ a.toInt) : ¬ E = b := fun q => by subst q; rw [Int32.lt_iff_toInt_lt] at h; omega
theorem onLnL (h : ¬ E < a) (k : b.toInt ≤ a.toInt) : ¬ E < b := by rw [Int32.lt_iff_toInt_lt] at *; omega
theorem onLG (h : ¬ E < a) (k : b.toInt < a.toInt) : b < E := by rw [Int32.lt_iff_toInt_lt] at *; omega
theorem onLnE (h : ¬ E < a) (k : b.toInt < a.toInt) : ¬ E = b := fun q => by subst q; rw [Int32.lt_iff_toInt_lt] at h; omega
theorem onGnG (h : ¬ a < E) (k : a.toInt ≤ b.toInt) : ¬ b < E := by rw [Int32.lt_iff_toInt_lt] at *; omega
theorem onGL (h : ¬ a < E) (k : a.toInt < b.toInt) : E < b := by rw [Int32.lt_iff_toInt_lt] at *; omega
theorem onGnE (h : ¬ a < E) (k : a.toInt < b.toInt) : ¬ E = b := fun q => by subst q; rw [Int32.lt_iff_toInt_lt] at h; omega
end Imp
end Own
end Jvm.RoadKit
namespace Jvm.Pilot.@@N@@
open Jvm Jvm.ClassFile Sem Op Lib Jvm.Free Jvm.Stand Jvm.LawKit Jvm.RoadKit Bundle Jvm.Pilot.@@N@@.Jvm.D

theorem d1_0 : decode method_2_code 0 = .ok (.iload_n 0, 1) := by decide +kernel
theorem d1_1 : decode method_2_code 1 = .ok (.ifCond .ne 6, 3) := by decide +kernel
theorem d1_4 : decode method_2_code 4 = .ok (.bipush 34, 2) := by decide +kernel
theorem d1_6 : decode method_2_code 6 = .ok (.ireturn, 1) := by decide +kernel
theorem d1_7 : decode method_2_code 7 = .ok (.iload_n 0, 1) := by decide +kernel
theorem d1_8 : decode method_2_code 8 = .ok (.iconst 1, 1) := by decide +kernel
theorem d1_9 : decode method_2_code 9 = .ok (.if_icmp .ne 6, 3) := by decide +kernel
theorem d1_12 : decode method_2_code 12 = .ok (.bipush 116, 2) := by decide +kernel
theorem d1_14 : decode method_2_code 14 = .ok (.ireturn, 1) := by decide +kernel
theorem d1_15 : decode method_2_code 15 = .ok (.iload_n 0, 1) := by decide +kernel
theorem d1_16 : decode method_2_code 16 = .ok (.iconst 2, 1) := by decide +kernel
theorem d1_17 : decode method_2_code 17 = .ok (.if_icmp .ne 6, 3) := by decide +kernel
theorem d1_20 : decode method_2_code 20 = .ok (.bipush 102, 2) := by decide +kernel
theorem d1_22 : decode method_2_code 22 = .ok (.ireturn, 1) := by decide +kernel
theorem d1_23 : decode method_2_code 23 = .ok (.iload_n 0, 1) := by decide +kernel
theorem d1_24 : decode method_2_code 24 = .ok (.iconst 3, 1) := by decide +kernel
theorem d1_25 : decode method_2_code 25 = .ok (.if_icmp .ne 6, 3) := by decide +kernel
theorem d1_28 : decode method_2_code 28 = .ok (.bipush 110, 2) := by decide +kernel
theorem d1_30 : decode method_2_code 30 = .ok (.ireturn, 1) := by decide +kernel
theorem d1_31 : decode method_2_code 31 = .ok (.iload_n 0, 1) := by decide +kernel
theorem d1_32 : decode method_2_code 32 = .ok (.iconst 4, 1) := by decide +kernel
theorem d1_33 : decode method_2_code 33 = .ok (.if_icmp .ne 6, 3) := by decide +kernel
theorem d1_36 : decode method_2_code 36 = .ok (.bipush 91, 2) := by decide +kernel
theorem d1_38 : decode method_2_code 38 = .ok (.ireturn, 1) := by decide +kernel
theorem d1_39 : decode method_2_code 39 = .ok (.iload_n 0, 1) := by decide +kernel
theorem d1_40 : decode method_2_code 40 = .ok (.iconst 5, 1) := by decide +kernel
theorem d1_41 : decode method_2_code 41 = .ok (.if_icmp .ne 6, 3) := by decide +kernel
theorem d1_44 : decode method_2_code 44 = .ok (.bipush 123, 2) := by decide +kernel
theorem d1_46 : decode method_2_code 46 = .ok (.ireturn, 1) := by decide +kernel
theorem d1_47 : decode method_2_code 47 = .ok (.iload_n 1, 1) := by decide +kernel
theorem d1_48 : decode method_2_code 48 = .ok (.ireturn, 1) := by decide +kernel
theorem pn_1 : plainName "com/example/evbind/evbind/KindOfPinLaw" = true := by first | (simp [plainName, overriddenIn]; done) | decide +kernel
theorem ef_1 (m : MethodId) (p0 : Int32) (p1 : Int32) : entryFrame m #[(.int p0), (.int p1)] 2 = mkF m 0 #[.val (.int p0), .val (.int p1)] [] := by first | (simp [entryFrame, mkF, argsToLocals, Value.category]; done) | rfl
def f1 (p0 : Int32) (p1 : Int32) : Int32 := (if p0 = (0 : Int32) then (34 : Int32) else (if p0 = (1 : Int32) then (116 : Int32) else (if p0 = (2 : Int32) then (102 : Int32) else (if p0 = (3 : Int32) then (110 : Int32) else (if p0 = (4 : Int32) then (91 : Int32) else (if p0 = (5 : Int32) then (123 : Int32) else p1))))))
def Q1 (Z : State) (p0 : Int32) (p1 : Int32) (h0 : Heap) (n0 : Nat) (v : Option Value) (h : Heap) (L : List Loc) : Prop := v = some (.int (f1 p0 p1)) ∧ Fr n0 L ∧ h = h0
set_option maxRecDepth 65536 in
set_option maxHeartbeats 40000000 in
theorem rm1 (l : Launch) (Z : State) (a0 : Array Value) (hw : ∀ d ∈ tables_1, d.before a0 Z = true) (ws : List Jvm.Cond) (p0 : Int32) (p1 : Int32) (h0 : Heap) (n0 : Nat) (Z0 : n0 ≤ h0.size) :
    MetFree l (⟨"com/example/evbind/evbind/KindOfPinLaw", "pick", "(II)I"⟩ : MethodName) (head1 (Jvm.Cond.code (⟨"com/example/evbind/evbind/KindOfPinLaw", "pick", "(II)I"⟩ : MethodName) method_2_code 2 (some .int) :: ws) ({ frames := 0, cells := 0, slots := 0, locals := 0 } : Room)) (fun a U => a = #[(.int p0), (.int p1)] ∧ Z.Warmed39 U.vm ∧ U.heap = h0) (fun _ _ _ _ _ => True) (fun _ U o U' => ∃ v L, o = .returned v ∧ Q1 Z p0 p1 h0 n0 v U'.heap L ∧ FrameEnd U o U' L ({ frames := 0, cells := 0, slots := 0, locals := 0 } : Room).cells ({ frames := 0, cells := 0, slots := 0, locals := 0 } : Room).slots) := by
  refine MetFree.of_bodySF (plainFor_of_name pn_1) hisR ?_
  intro p e s m args below meth c s₁ Bd hml0 hP hK
  obtain ⟨rfl, hZ, hh⟩ := hP
  have hx := Bd.exec
  have hby := Bd.bytes
  have hml : c.maxLocals = 2 := hml0
  have hown : s.vm.findClass "com/example/evbind/evbind/KindOfPinLaw" = some m.cls := findClass_of_methodNamed Bd.named
  have hnm := (name_of_methodNamed Bd.named Bd.method).1
  have X0 : Stand p l e ({ frames := 0, cells := 0, slots := 0, locals := 0 } : Room) s m #[(.int p0), (.int p1)] below meth c s₁ [] 0 0 := Stand.of_body Bd
  have e0 : s₁.heap = h0 := by rw [← hh, Bd.state]; rfl
  have N0 := Fr.nil n0
  show OGo p e below s (Q1 Z p0 p1 h0 n0) ({ frames := 0, cells := 0, slots := 0, locals := 0 } : Room).cells ({ frames := 0, cells := 0, slots := 0, locals := 0 } : Room).slots _
  refine OGo.st (fun _ k => castTop (ef_1 m p0 p1) k) ?_
  show OGo p e below s _ _ _ (s₁.setTop (mkF m 0 #[.val (.int p0), .val (.int p1)] []))
  refine OGo.st (fun _ k => XS.iloadN X0.here hx rfl (hb hby d1_0) rfl k) ?_
  show OGo p e below s _ _ _ (s₁.setTop (mkF m 1 #[.val (.int p0), .val (.int p1)] [(.int p0)]))
  by_cases hc1 : p0 = (0 : Int32)
  · refine OGo.st (fun _ k => XS.ifNo X0.here hx rfl (hb hby d1_1) rfl ((if0 _ _).trans (teq hc1).2) k) ?_
    show OGo p e below s _ _ _ (s₁.setTop (mkF m 4 #[.val (.int p0), .val (.int p1)] []))
    refine OGo.st (fun _ k => XS.bipush X0.here hx rfl (hb hby d1_4) k) ?_
    show OGo p e below s _ _ _ (s₁.setTop (mkF m 6 #[.val (.int p0), .val (.int p1)] [(.int (34 : Int32))]))
    exact oretI X0 hx Bd.notSynchronized Bd.returns (hb hby d1_6) e0 ⟨(congrArg (fun z => some (Value.int z)) (show (34 : Int32) = f1 p0 p1 from Eq.symm (by unfold f1; exact if_pos hc1))), N0, rfl⟩ (by decide) (by decide)
  · refine OGo.st (fun _ k => XS.ifYes X0.here hx rfl (pc0 := 1) (pc' := 7) rfl (hb hby d1_1) rfl ((if0 _ _).trans (feq hc1).2) (by decide) (by decide) k) ?_
    show OGo p e below s _ _ _ (s₁.setTop (mkF m 7 #[.val (.int p0), .val (.int p1)] []))
    refine OGo.st (fun _ k => XS.iloadN X0.here hx rfl (hb hby d1_7) rfl k) ?_
    show OGo p e below s _ _ _ (s₁.setTop (mkF m 8 #[.val (.int p0), .val (.int p1)] [(.int p0)]))
    refine OGo.st (fun _ k => XS.iconst X0.here hx rfl (hb hby d1_8) k) ?_
    show OGo p e below s _ _ _ (s₁.setTop (mkF m 9 #[.val (.int p0), .val (.int p1)] [(.int (1 : Int32)), (.int p0)]))
    by_cases hc9 : p0 = (1 : Int32)
    · refine OGo.st (fun _ k => XS.icmpNo X0.here hx rfl (hb hby d1_9) rfl (teq hc9).2 k) ?_
      show OGo p e below s _ _ _ (s₁.setTop (mkF m 12 #[.val (.int p0), .val (.int p1)] []))
      refine OGo.st (fun _ k => XS.bipush X0.here hx rfl (hb hby d1_12) k) ?_
      show OGo p e below s _ _ _ (s₁.setTop (mkF m 14 #[.val (.int p0), .val (.int p1)] [(.int (116 : Int32))]))
      exact oretI X0 hx Bd.notSynchronized Bd.returns (hb hby d1_14) e0 ⟨(congrArg (fun z => some (Value.int z)) (show (116 : Int32) = f1 p0 p1 from Eq.symm (by unfold f1; exact (if_neg hc1).trans (if_pos hc9)))), N0, rfl⟩ (by decide) (by decide)
    · refine OGo.st (fun _ k => XS.icmpYes X0.here hx rfl (pc0 := 9) (pc' := 15) rfl (hb hby d1_9) rfl (feq hc9).2 (by decide) (by decide) k) ?_
      show OGo p e below s _ _ _ (s₁.setTop (mkF m 15 #[.val (.int p0), .val (.int p1)] []))
      refine OGo.st (fun _ k => XS.iloadN X0.here hx rfl (hb hby d1_15) rfl k) ?_
      show OGo p e below s _ _ _ (s₁.setTop (mkF m 16 #[.val (.int p0), .val (.int p1)] [(.int p0)]))
      refine OGo.st (fun _ k => XS.iconst X0.here hx rfl (hb hby d1_16) k) ?_
      show OGo p e below s _ _ _ (s₁.setTop (mkF m 17 #[.val (.int p0), .val (.int p1)] [(.int (2 : Int32)), (.int p0)]))
      by_cases hc17 : p0 = (2 : Int32)
      · refine OGo.st (fun _ k => XS.icmpNo X0.here hx rfl (hb hby d1_17) rfl (teq hc17).2 k) ?_
        show OGo p e below s _ _ _ (s₁.setTop (mkF m 20 #[.val (.int p0), .val (.int p1)] []))
        refine OGo.st (fun _ k => XS.bipush X0.here hx rfl (hb hby d1_20) k) ?_
        show OGo p e below s _ _ _ (s₁.setTop (mkF m 22 #[.val (.int p0), .val (.int p1)] [(.int (102 : Int32))]))
        exact oretI X0 hx Bd.notSynchronized Bd.returns (hb hby d1_22) e0 ⟨(congrArg (fun z => some (Value.int z)) (show (102 : Int32) = f1 p0 p1 from Eq.symm (by unfold f1; exact (if_neg hc1).trans ((if_neg hc9).trans (if_pos hc17))))), N0, rfl⟩ (by decide) (by decide)
      · refine OGo.st (fun _ k => XS.icmpYes X0.here hx rfl (pc0 := 17) (pc' := 23) rfl (hb hby d1_17) rfl (feq hc17).2 (by decide) (by decide) k) ?_
        show OGo p e below s _ _ _ (s₁.setTop (mkF m 23 #[.val (.int p0), .val (.int p1)] []))
        refine OGo.st (fun _ k => XS.iloadN X0.here hx rfl (hb hby d1_23) rfl k) ?_
        show OGo p e below s _ _ _ (s₁.setTop (mkF m 24 #[.val (.int p0), .val (.int p1)] [(.int p0)]))
        refine OGo.st (fun _ k => XS.iconst X0.here hx rfl (hb hby d1_24) k) ?_
        show OGo p e below s _ _ _ (s₁.setTop (mkF m 25 #[.val (.int p0), .val (.int p1)] [(.int (3 : Int32)), (.int p0)]))
        by_cases hc25 : p0 = (3 : Int32)
        · refine OGo.st (fun _ k => XS.icmpNo X0.here hx rfl (hb hby d1_25) rfl (teq hc25).2 k) ?_
          show OGo p e below s _ _ _ (s₁.setTop (mkF m 28 #[.val (.int p0), .val (.int p1)] []))
          refine OGo.st (fun _ k => XS.bipush X0.here hx rfl (hb hby d1_28) k) ?_
          show OGo p e below s _ _ _ (s₁.setTop (mkF m 30 #[.val (.int p0), .val (.int p1)] [(.int (110 : Int32))]))
          exact oretI X0 hx Bd.notSynchronized Bd.returns (hb hby d1_30) e0 ⟨(congrArg (fun z => some (Value.int z)) (show (110 : Int32) = f1 p0 p1 from Eq.symm (by unfold f1; exact (if_neg hc1).trans ((if_neg hc9).trans ((if_neg hc17).trans (if_pos hc25)))))), N0, rfl⟩ (by decide) (by decide)
        · refine OGo.st (fun _ k => XS.icmpYes X0.here hx rfl (pc0 := 25) (pc' := 31) rfl (hb hby d1_25) rfl (feq hc25).2 (by decide) (by decide) k) ?_
          show OGo p e below s _ _ _ (s₁.setTop (mkF m 31 #[.val (.int p0), .val (.int p1)] []))
          refine OGo.st (fun _ k => XS.iloadN X0.here hx rfl (hb hby d1_31) rfl k) ?_
          show OGo p e below s _ _ _ (s₁.setTop (mkF m 32 #[.val (.int p0), .val (.int p1)] [(.int p0)]))
          refine OGo.st (fun _ k => XS.iconst X0.here hx rfl (hb hby d1_32) k) ?_
          show OGo p e below s _ _ _ (s₁.setTop (mkF m 33 #[.val (.int p0), .val (.int p1)] [(.int (4 : Int32)), (.int p0)]))
          by_cases hc33 : p0 = (4 : Int32)
          · refine OGo.st (fun _ k => XS.icmpNo X0.here hx rfl (hb hby d1_33) rfl (teq hc33).2 k) ?_
            show OGo p e below s _ _ _ (s₁.setTop (mkF m 36 #[.val (.int p0), .val (.int p1)] []))
            refine OGo.st (fun _ k => XS.bipush X0.here hx rfl (hb hby d1_36) k) ?_
            show OGo p e below s _ _ _ (s₁.setTop (mkF m 38 #[.val (.int p0), .val (.int p1)] [(.int (91 : Int32))]))
            exact oretI X0 hx Bd.notSynchronized Bd.returns (hb hby d1_38) e0 ⟨(congrArg (fun z => some (Value.int z)) (show (91 : Int32) = f1 p0 p1 from Eq.symm (by unfold f1; exact (if_neg hc1).trans ((if_neg hc9).trans ((if_neg hc17).trans ((if_neg hc25).trans (if_pos hc33))))))), N0, rfl⟩ (by decide) (by decide)
          · refine OGo.st (fun _ k => XS.icmpYes X0.here hx rfl (pc0 := 33) (pc' := 39) rfl (hb hby d1_33) rfl (feq hc33).2 (by decide) (by decide) k) ?_
            show OGo p e below s _ _ _ (s₁.setTop (mkF m 39 #[.val (.int p0), .val (.int p1)] []))
            refine OGo.st (fun _ k => XS.iloadN X0.here hx rfl (hb hby d1_39) rfl k) ?_
            show OGo p e below s _ _ _ (s₁.setTop (mkF m 40 #[.val (.int p0), .val (.int p1)] [(.int p0)]))
            refine OGo.st (fun _ k => XS.iconst X0.here hx rfl (hb hby d1_40) k) ?_
            show OGo p e below s _ _ _ (s₁.setTop (mkF m 41 #[.val (.int p0), .val (.int p1)] [(.int (5 : Int32)), (.int p0)]))
            by_cases hc41 : p0 = (5 : Int32)
            · refine OGo.st (fun _ k => XS.icmpNo X0.here hx rfl (hb hby d1_41) rfl (teq hc41).2 k) ?_
              show OGo p e below s _ _ _ (s₁.setTop (mkF m 44 #[.val (.int p0), .val (.int p1)] []))
              refine OGo.st (fun _ k => XS.bipush X0.here hx rfl (hb hby d1_44) k) ?_
              show OGo p e below s _ _ _ (s₁.setTop (mkF m 46 #[.val (.int p0), .val (.int p1)] [(.int (123 : Int32))]))
              exact oretI X0 hx Bd.notSynchronized Bd.returns (hb hby d1_46) e0 ⟨(congrArg (fun z => some (Value.int z)) (show (123 : Int32) = f1 p0 p1 from Eq.symm (by unfold f1; exact (if_neg hc1).trans ((if_neg hc9).trans ((if_neg hc17).trans ((if_neg hc25).trans ((if_neg hc33).trans (if_pos hc41)))))))), N0, rfl⟩ (by decide) (by decide)
            · refine OGo.st (fun _ k => XS.icmpYes X0.here hx rfl (pc0 := 41) (pc' := 47) rfl (hb hby d1_41) rfl (feq hc41).2 (by decide) (by decide) k) ?_
              show OGo p e below s _ _ _ (s₁.setTop (mkF m 47 #[.val (.int p0), .val (.int p1)] []))
              refine OGo.st (fun _ k => XS.iloadN X0.here hx rfl (hb hby d1_47) rfl k) ?_
              show OGo p e below s _ _ _ (s₁.setTop (mkF m 48 #[.val (.int p0), .val (.int p1)] [(.int p1)]))
              exact oretI X0 hx Bd.notSynchronized Bd.returns (hb hby d1_48) e0 ⟨(congrArg (fun z => some (Value.int z)) (show p1 = f1 p0 p1 from Eq.symm (by unfold f1; exact (if_neg hc1).trans ((if_neg hc9).trans ((if_neg hc17).trans ((if_neg hc25).trans ((if_neg hc33).trans (if_neg hc41)))))))), N0, rfl⟩ (by decide) (by decide)
theorem d2_0 : decode prog_26_method_4_code 0 = .ok (.iload_n 0, 1) := by decide +kernel
theorem d2_1 : decode prog_26_method_4_code 1 = .ok (.lookupswitch 95 #[(34, 59), (91, 83), (102, 71), (110, 77), (116, 65), (123, 89)], 59) := by decide +kernel
theorem d2_60 : decode prog_26_method_4_code 60 = .ok (.getstatic 3, 3) := by decide +kernel
theorem d2_63 : decode prog_26_method_4_code 63 = .ok (.goto 36, 3) := by decide +kernel
theorem d2_66 : decode prog_26_method_4_code 66 = .ok (.getstatic 10, 3) := by decide +kernel
theorem d2_69 : decode prog_26_method_4_code 69 = .ok (.goto 30, 3) := by decide +kernel
theorem d2_72 : decode prog_26_method_4_code 72 = .ok (.getstatic 13, 3) := by decide +kernel
theorem d2_75 : decode prog_26_method_4_code 75 = .ok (.goto 24, 3) := by decide +kernel
theorem d2_78 : decode prog_26_method_4_code 78 = .ok (.getstatic 16, 3) := by decide +kernel
theorem d2_81 : decode prog_26_method_4_code 81 = .ok (.goto 18, 3) := by decide +kernel
theorem d2_84 : decode prog_26_method_4_code 84 = .ok (.getstatic 19, 3) := by decide +kernel
theorem d2_87 : decode prog_26_method_4_code 87 = .ok (.goto 12, 3) := by decide +kernel
theorem d2_90 : decode prog_26_method_4_code 90 = .ok (.getstatic 22, 3) := by decide +kernel
theorem d2_93 : decode prog_26_method_4_code 93 = .ok (.goto 6, 3) := by decide +kernel
theorem d2_96 : decode prog_26_method_4_code 96 = .ok (.getstatic 7, 3) := by decide +kernel
theorem d2_99 : decode prog_26_method_4_code 99 = .ok (.areturn, 1) := by decide +kernel
theorem pn_2 : plainName "com/example/evbind/evbind/JsonSyntax$Kind" = true := by first | (simp [plainName, overriddenIn]; done) | decide +kernel
theorem ef_2 (m : MethodId) (p0 : Int32) : entryFrame m #[(.int p0)] 1 = mkF m 0 #[.val (.int p0)] [] := by first | (simp [entryFrame, mkF, argsToLocals, Value.category]; done) | rfl
def f2 (p0 : Int32) (w_STRING : Addr) (w_TRUE : Addr) (w_FALSE : Addr) (w_NULL : Addr) (w_ARRAY : Addr) (w_OBJECT : Addr) (w_NUMBER : Addr) : Addr := (if p0 = (34 : Int32) then w_STRING else (if p0 = (91 : Int32) then w_ARRAY else (if p0 = (102 : Int32) then w_FALSE else (if p0 = (110 : Int32) then w_NULL else (if p0 = (116 : Int32) then w_TRUE else (if p0 = (123 : Int32) then w_OBJECT else w_NUMBER))))))
def Q2 (Z : State) (p0 : Int32) (w_STRING : Addr) (w_TRUE : Addr) (w_FALSE : Addr) (w_NULL : Addr) (w_ARRAY : Addr) (w_OBJECT : Addr) (w_NUMBER : Addr) (h0 : Heap) (n0 : Nat) (v : Option Value) (h : Heap) (L : List Loc) : Prop := v = some (.ref (f2 p0 w_STRING w_TRUE w_FALSE w_NULL w_ARRAY w_OBJECT w_NUMBER)) ∧ Fr n0 L ∧ h = h0
set_option maxRecDepth 65536 in
set_option maxHeartbeats 40000000 in
theorem rm2 (l : Launch) (Z : State) (a0 : Array Value) (hw : ∀ d ∈ tables_1, d.before a0 Z = true) (ws : List Jvm.Cond) (p0 : Int32) (w_STRING : Addr) (w_TRUE : Addr) (w_FALSE : Addr) (w_NULL : Addr) (w_ARRAY : Addr) (w_OBJECT : Addr) (w_NUMBER : Addr) (h0 : Heap) (n0 : Nat) (Z0 : n0 ≤ h0.size) (S_STRING : Sta Z h0 "com/example/evbind/evbind/JsonSyntax$Kind" "STRING" "Lcom/example/evbind/evbind/JsonSyntax$Kind;" (.ref w_STRING)) (S_TRUE : Sta Z h0 "com/example/evbind/evbind/JsonSyntax$Kind" "TRUE" "Lcom/example/evbind/evbind/JsonSyntax$Kind;" (.ref w_TRUE)) (S_FALSE : Sta Z h0 "com/example/evbind/evbind/JsonSyntax$Kind" "FALSE" "Lcom/example/evbind/evbind/JsonSyntax$Kind;" (.ref w_FALSE)) (S_NULL : Sta Z h0 "com/example/evbind/evbind/JsonSyntax$Kind" "NULL" "Lcom/example/evbind/evbind/JsonSyntax$Kind;" (.ref w_NULL)) (S_ARRAY : Sta Z h0 "com/example/evbind/evbind/JsonSyntax$Kind" "ARRAY" "Lcom/example/evbind/evbind/JsonSyntax$Kind;" (.ref w_ARRAY)) (S_OBJECT : Sta Z h0 "com/example/evbind/evbind/JsonSyntax$Kind" "OBJECT" "Lcom/example/evbind/evbind/JsonSyntax$Kind;" (.ref w_OBJECT)) (S_NUMBER : Sta Z h0 "com/example/evbind/evbind/JsonSyntax$Kind" "NUMBER" "Lcom/example/evbind/evbind/JsonSyntax$Kind;" (.ref w_NUMBER)) :
    MetFree l (⟨"com/example/evbind/evbind/JsonSyntax$Kind", "of", "(I)Lcom/example/evbind/evbind/JsonSyntax$Kind;"⟩ : MethodName) (head1 (Jvm.Cond.code (⟨"com/example/evbind/evbind/JsonSyntax$Kind", "of", "(I)Lcom/example/evbind/evbind/JsonSyntax$Kind;"⟩ : MethodName) prog_26_method_4_code 1 (some (.object "com/example/evbind/evbind/JsonSyntax$Kind")) :: ws) ({ frames := 0, cells := 0, slots := 0, locals := 0 } : Room)) (fun a U => a = #[(.int p0)] ∧ Z.Warmed39 U.vm ∧ U.heap = h0) (fun _ _ _ _ _ => True) (fun _ U o U' => ∃ v L, o = .returned v ∧ Q2 Z p0 w_STRING w_TRUE w_FALSE w_NULL w_ARRAY w_OBJECT w_NUMBER h0 n0 v U'.heap L ∧ FrameEnd U o U' L ({ frames := 0, cells := 0, slots := 0, locals := 0 } : Room).cells ({ frames := 0, cells := 0, slots := 0, locals := 0 } : Room).slots) := by
  refine MetFree.of_bodySF (plainFor_of_name pn_2) hisR ?_
  intro p e s m args below meth c s₁ Bd hml0 hP hK
  obtain ⟨rfl, hZ, hh⟩ := hP
  have hx := Bd.exec
  have hby := Bd.bytes
  have hml : c.maxLocals = 1 := hml0
  have hown : s.vm.findClass "com/example/evbind/evbind/JsonSyntax$Kind" = some m.cls := findClass_of_methodNamed Bd.named
  have hnm := (name_of_methodNamed Bd.named Bd.method).1
  have X0 : Stand p l e ({ frames := 0, cells := 0, slots := 0, locals := 0 } : Room) s m #[(.int p0)] below meth c s₁ [] 0 0 := Stand.of_body Bd
  have e0 : s₁.heap = h0 := by rw [← hh, Bd.state]; rfl
  have N0 := Fr.nil n0
  show OGo p e below s (Q2 Z p0 w_STRING w_TRUE w_FALSE w_NULL w_ARRAY w_OBJECT w_NUMBER h0 n0) ({ frames := 0, cells := 0, slots := 0, locals := 0 } : Room).cells ({ frames := 0, cells := 0, slots := 0, locals := 0 } : Room).slots _
  refine OGo.st (fun _ k => castTop (ef_2 m p0) k) ?_
  show OGo p e below s _ _ _ (s₁.setTop (mkF m 0 #[.val (.int p0)] []))
  refine OGo.st (fun _ k => XS.iloadN X0.here hx rfl (hb hby d2_0) rfl k) ?_
  show OGo p e below s _ _ _ (s₁.setTop (mkF m 1 #[.val (.int p0)] [(.int p0)]))
  by_cases hc1 : p0 = (34 : Int32)
  · refine OGo.st (fun _ k => X0.lookupswitchHit hx (g := (mkF m 1 #[.val (.int p0)] [(.int p0)])) rfl rfl (hb hby d2_1) (by decide) (a := 34) (off := 59) (by rw [hc1]; rfl) (by show (0 : Int) ≤ ((1 : Nat) : Int) + 59; decide) _ k) ?_
    show OGo p e below s _ _ _ (s₁.setTop (mkF m 60 #[.val (.int p0)] []))
    obtain ⟨T1, X1, e1, st1⟩ := getS2 X0 hx hZ hown (host := "") (Or.inl (hw _ (List.mem_of_getElem? (i := 21) rfl))) Via.refl e0 S_STRING (g := (mkF m 60 #[.val (.int p0)] [])) rfl (hb hby d2_60)
    refine OGo.st st1 ?_
    show OGo p e below s _ _ _ (T1.setTop (mkF m 63 #[.val (.int p0)] [(.ref w_STRING)]))
    refine OGo.st (fun _ k => XS.goto X1.here hx rfl (pc0 := 63) (pc' := 99) rfl (hb hby d2_63) (by decide) (by decide) k) ?_
    show OGo p e below s _ _ _ (T1.setTop (mkF m 99 #[.val (.int p0)] [(.ref w_STRING)]))
    exact oretA X1 hx Bd.notSynchronized Bd.returns rfl rfl (hb hby d2_99) e1 ⟨(congrArg (fun z => some (Value.ref z)) (show w_STRING = f2 p0 w_STRING w_TRUE w_FALSE w_NULL w_ARRAY w_OBJECT w_NUMBER from Eq.symm (by unfold f2; exact if_pos hc1))), N0, rfl⟩ (by decide) (by decide)
  · by_cases hc1_2 : p0 = (91 : Int32)
    · refine OGo.st (fun _ k => X0.lookupswitchHit hx (g := (mkF m 1 #[.val (.int p0)] [(.int p0)])) rfl rfl (hb hby d2_1) (by decide) (a := 91) (off := 83) (by rw [hc1_2]; rfl) (by show (0 : Int) ≤ ((1 : Nat) : Int) + 83; decide) _ k) ?_
      show OGo p e below s _ _ _ (s₁.setTop (mkF m 84 #[.val (.int p0)] []))
      obtain ⟨T2, X2, e2, st2⟩ := getS2 X0 hx hZ hown (host := "") (Or.inl (hw _ (List.mem_of_getElem? (i := 18) rfl))) Via.refl e0 S_ARRAY (g := (mkF m 84 #[.val (.int p0)] [])) rfl (hb hby d2_84)
      refine OGo.st st2 ?_
      show OGo p e below s _ _ _ (T2.setTop (mkF m 87 #[.val (.int p0)] [(.ref w_ARRAY)]))
      refine OGo.st (fun _ k => XS.goto X2.here hx rfl (pc0 := 87) (pc' := 99) rfl (hb hby d2_87) (by decide) (by decide) k) ?_
      show OGo p e below s _ _ _ (T2.setTop (mkF m 99 #[.val (.int p0)] [(.ref w_ARRAY)]))
      exact oretA X2 hx Bd.notSynchronized Bd.returns rfl rfl (hb hby d2_99) e2 ⟨(congrArg (fun z => some (Value.ref z)) (show w_ARRAY = f2 p0 w_STRING w_TRUE w_FALSE w_NULL w_ARRAY w_OBJECT w_NUMBER from Eq.symm (by unfold f2; exact (if_neg hc1).trans (if_pos hc1_2)))), N0, rfl⟩ (by decide) (by decide)
    · by_cases hc1_3 : p0 = (102 : Int32)
      · refine OGo.st (fun _ k => X0.lookupswitchHit hx (g := (mkF m 1 #[.val (.int p0)] [(.int p0)])) rfl rfl (hb hby d2_1) (by decide) (a := 102) (off := 71) (by rw [hc1_3]; rfl) (by show (0 : Int) ≤ ((1 : Nat) : Int) + 71; decide) _ k) ?_
        show OGo p e below s _ _ _ (s₁.setTop (mkF m 72 #[.val (.int p0)] []))
        obtain ⟨T3, X3, e3, st3⟩ := getS2 X0 hx hZ hown (host := "") (Or.inl (hw _ (List.mem_of_getElem? (i := 28) rfl))) Via.refl e0 S_FALSE (g := (mkF m 72 #[.val (.int p0)] [])) rfl (hb hby d2_72)
        refine OGo.st st3 ?_
        show OGo p e below s _ _ _ (T3.setTop (mkF m 75 #[.val (.int p0)] [(.ref w_FALSE)]))
        refine OGo.st (fun _ k => XS.goto X3.here hx rfl (pc0 := 75) (pc' := 99) rfl (hb hby d2_75) (by decide) (by decide) k) ?_
        show OGo p e below s _ _ _ (T3.setTop (mkF m 99 #[.val (.int p0)] [(.ref w_FALSE)]))
        exact oretA X3 hx Bd.notSynchronized Bd.returns rfl rfl (hb hby d2_99) e3 ⟨(congrArg (fun z => some (Value.ref z)) (show w_FALSE = f2 p0 w_STRING w_TRUE w_FALSE w_NULL w_ARRAY w_OBJECT w_NUMBER from Eq.symm (by unfold f2; exact (if_neg hc1).trans ((if_neg hc1_2).trans (if_pos hc1_3))))), N0, rfl⟩ (by decide) (by decide)
      · by_cases hc1_4 : p0 = (110 : Int32)
        · refine OGo.st (fun _ k => X0.lookupswitchHit hx (g := (mkF m 1 #[.val (.int p0)] [(.int p0)])) rfl rfl (hb hby d2_1) (by decide) (a := 110) (off := 77) (by rw [hc1_4]; rfl) (by show (0 : Int) ≤ ((1 : Nat) : Int) + 77; decide) _ k) ?_
          show OGo p e below s _ _ _ (s₁.setTop (mkF m 78 #[.val (.int p0)] []))
          obtain ⟨T4, X4, e4, st4⟩ := getS2 X0 hx hZ hown (host := "") (Or.inl (hw _ (List.mem_of_getElem? (i := 8) rfl))) Via.refl e0 S_NULL (g := (mkF m 78 #[.val (.int p0)] [])) rfl (hb hby d2_78)
          refine OGo.st st4 ?_
          show OGo p e below s _ _ _ (T4.setTop (mkF m 81 #[.val (.int p0)] [(.ref w_NULL)]))
          refine OGo.st (fun _ k => XS.goto X4.here hx rfl (pc0 := 81) (pc' := 99) rfl (hb hby d2_81) (by decide) (by decide) k) ?_
          show OGo p e below s _ _ _ (T4.setTop (mkF m 99 #[.val (.int p0)] [(.ref w_NULL)]))
          exact oretA X4 hx Bd.notSynchronized Bd.returns rfl rfl (hb hby d2_99) e4 ⟨(congrArg (fun z => some (Value.ref z)) (show w_NULL = f2 p0 w_STRING w_TRUE w_FALSE w_NULL w_ARRAY w_OBJECT w_NUMBER from Eq.symm (by unfold f2; exact (if_neg hc1).trans ((if_neg hc1_2).trans ((if_neg hc1_3).trans (if_pos hc1_4)))))), N0, rfl⟩ (by decide) (by decide)
        · by_cases hc1_5 : p0 = (116 : Int32)
          · refine OGo.st (fun _ k => X0.lookupswitchHit hx (g := (mkF m 1 #[.val (.int p0)] [(.int p0)])) rfl rfl (hb hby d2_1) (by decide) (a := 116) (off := 65) (by rw [hc1_5]; rfl) (by show (0 : Int) ≤ ((1 : Nat) : Int) + 65; decide) _ k) ?_
            show OGo p e below s _ _ _ (s₁.setTop (mkF m 66 #[.val (.int p0)] []))
            obtain ⟨T5, X5, e5, st5⟩ := getS2 X0 hx hZ hown (host := "") (Or.inl (hw _ (List.mem_of_getElem? (i := 17) rfl))) Via.refl e0 S_TRUE (g := (mkF m 66 #[.val (.int p0)] [])) rfl (hb hby d2_66)
            refine OGo.st st5 ?_
            show OGo p e below s _ _ _ (T5.setTop (mkF m 69 #[.val (.int p0)] [(.ref w_TRUE)]))
            refine OGo.st (fun _ k => XS.goto X5.here hx rfl (pc0 := 69) (pc' := 99) rfl (hb hby d2_69) (by decide) (by decide) k) ?_
            show OGo p e below s _ _ _ (T5.setTop (mkF m 99 #[.val (.int p0)] [(.ref w_TRUE)]))
            exact oretA X5 hx Bd.notSynchronized Bd.returns rfl rfl (hb hby d2_99) e5 ⟨(congrArg (fun z => some (Value.ref z)) (show w_TRUE = f2 p0 w_STRING w_TRUE w_FALSE w_NULL w_ARRAY w_OBJECT w_NUMBER from Eq.symm (by unfold f2; exact (if_neg hc1).trans ((if_neg hc1_2).trans ((if_neg hc1_3).trans ((if_neg hc1_4).trans (if_pos hc1_5))))))), N0, rfl⟩ (by decide) (by decide)
          · by_cases hc1_6 : p0 = (123 : Int32)
            · refine OGo.st (fun _ k => X0.lookupswitchHit hx (g := (mkF m 1 #[.val (.int p0)] [(.int p0)])) rfl rfl (hb hby d2_1) (by decide) (a := 123) (off := 89) (by rw [hc1_6]; rfl) (by show (0 : Int) ≤ ((1 : Nat) : Int) + 89; decide) _ k) ?_
              show OGo p e below s _ _ _ (s₁.setTop (mkF m 90 #[.val (.int p0)] []))
              obtain ⟨T6, X6, e6, st6⟩ := getS2 X0 hx hZ hown (host := "") (Or.inl (hw _ (List.mem_of_getElem? (i := 22) rfl))) Via.refl e0 S_OBJECT (g := (mkF m 90 #[.val (.int p0)] [])) rfl (hb hby d2_90)
              refine OGo.st st6 ?_
              show OGo p e below s _ _ _ (T6.setTop (mkF m 93 #[.val (.int p0)] [(.ref w_OBJECT)]))
              refine OGo.st (fun _ k => XS.goto X6.here hx rfl (pc0 := 93) (pc' := 99) rfl (hb hby d2_93) (by decide) (by decide) k) ?_
              show OGo p e below s _ _ _ (T6.setTop (mkF m 99 #[.val (.int p0)] [(.ref w_OBJECT)]))
              exact oretA X6 hx Bd.notSynchronized Bd.returns rfl rfl (hb hby d2_99) e6 ⟨(congrArg (fun z => some (Value.ref z)) (show w_OBJECT = f2 p0 w_STRING w_TRUE w_FALSE w_NULL w_ARRAY w_OBJECT w_NUMBER from Eq.symm (by unfold f2; exact (if_neg hc1).trans ((if_neg hc1_2).trans ((if_neg hc1_3).trans ((if_neg hc1_4).trans ((if_neg hc1_5).trans (if_pos hc1_6)))))))), N0, rfl⟩ (by decide) (by decide)
            · refine OGo.st (fun _ k => X0.lookupswitchMiss hx (g := (mkF m 1 #[.val (.int p0)] [(.int p0)])) rfl rfl (hb hby d2_1) (by decide) (find_miss (oconsP (oint_ne (K := 34) hc1 (by decide)) (oconsP (oint_ne (K := 91) hc1_2 (by decide)) (oconsP (oint_ne (K := 102) hc1_3 (by decide)) (oconsP (oint_ne (K := 110) hc1_4 (by decide)) (oconsP (oint_ne (K := 116) hc1_5 (by decide)) (oconsP (oint_ne (K := 123) hc1_6 (by decide)) onilP))))))) (by show (0 : Int) ≤ ((1 : Nat) : Int) + 95; decide) _ k) ?_
              show OGo p e below s _ _ _ (s₁.setTop (mkF m 96 #[.val (.int p0)] []))
              obtain ⟨T7, X7, e7, st7⟩ := getS2 X0 hx hZ hown (host := "") (Or.inl (hw _ (List.mem_of_getElem? (i := 25) rfl))) Via.refl e0 S_NUMBER (g := (mkF m 96 #[.val (.int p0)] [])) rfl (hb hby d2_96)
              refine OGo.st st7 ?_
              show OGo p e below s _ _ _ (T7.setTop (mkF m 99 #[.val (.int p0)] [(.ref w_NUMBER)]))
              exact oretA X7 hx Bd.notSynchronized Bd.returns rfl rfl (hb hby d2_99) e7 ⟨(congrArg (fun z => some (Value.ref z)) (show w_NUMBER = f2 p0 w_STRING w_TRUE w_FALSE w_NULL w_ARRAY w_OBJECT w_NUMBER from Eq.symm (by unfold f2; exact (if_neg hc1).trans ((if_neg hc1_2).trans ((if_neg hc1_3).trans ((if_neg hc1_4).trans ((if_neg hc1_5).trans (if_neg hc1_6)))))))), N0, rfl⟩ (by decide) (by decide)
theorem pn_0 : plainName "com/example/evbind/evbind/KindOfPinLaw" = true := by first | (simp [plainName, overriddenIn]; done) | decide +kernel
theorem pd_0_0 : parseMethodDescriptor "(II)I" = some ⟨[.int, .int], some .int⟩ := by decide +kernel
theorem pd_0_1 : parseMethodDescriptor "(I)Lcom/example/evbind/evbind/JsonSyntax$Kind;" = some ⟨[.int], some (.object "com/example/evbind/evbind/JsonSyntax$Kind")⟩ := by decide +kernel
theorem ef_0 (m : MethodId) (p0 : Int32) (p1 : Int32) : entryFrame m #[(.int p0), (.int p1)] maxLocals = mkF m 0 #[.val (.int p0), .val (.int p1), .unset, .unset, .unset] [] := by first | (simp [entryFrame, mkF, argsToLocals, Value.category, maxLocals]; done) | rfl
def f0_61 (p0 : Int32) (p1 : Int32) (w_STRING : Addr) (w_TRUE : Addr) (w_FALSE : Addr) (w_NULL : Addr) (w_ARRAY : Addr) (w_OBJECT : Addr) (w_NUMBER : Addr) (j61_0 : Int32) : Int32 := (if (f2 (f1 (p1 &&& (7 : Int32)) p0) w_STRING w_TRUE w_FALSE w_NULL w_ARRAY w_OBJECT w_NUMBER) = w_STRING then (if (f1 (p1 &&& (7 : Int32)) p0) = (34 : Int32) then (1 : Int32) else (0 : Int32)) else (if (f2 (f1 (p1 &&& (7 : Int32)) p0) w_STRING w_TRUE w_FALSE w_NULL w_ARRAY w_OBJECT w_NUMBER) = w_TRUE then (if (f1 (p1 &&& (7 : Int32)) p0) = (116 : Int32) then (1 : Int32) else (0 : Int32)) else (if (f2 (f1 (p1 &&& (7 : Int32)) p0) w_STRING w_TRUE w_FALSE w_NULL w_ARRAY w_OBJECT w_NUMBER) = w_FALSE then (if (f1 (p1 &&& (7 : Int32)) p0) = (102 : Int32) then (1 : Int32) else (0 : Int32)) else (if (f2 (f1 (p1 &&& (7 : Int32)) p0) w_STRING w_TRUE w_FALSE w_NULL w_ARRAY w_OBJECT w_NUMBER) = w_NULL then (if (f1 (p1 &&& (7 : Int32)) p0) = (110 : Int32) then (1 : Int32) else (0 : Int32)) else (if (f2 (f1 (p1 &&& (7 : Int32)) p0) w_STRING w_TRUE w_FALSE w_NULL w_ARRAY w_OBJECT w_NUMBER) = w_ARRAY then (if (f1 (p1 &&& (7 : Int32)) p0) = (91 : Int32) then (1 : Int32) else (0 : Int32)) else (if (f2 (f1 (p1 &&& (7 : Int32)) p0) w_STRING w_TRUE w_FALSE w_NULL w_ARRAY w_OBJECT w_NUMBER) = w_OBJECT then (if (f1 (p1 &&& (7 : Int32)) p0) = (123 : Int32) then (1 : Int32) else (0 : Int32)) else (if (f2 (f1 (p1 &&& (7 : Int32)) p0) w_STRING w_TRUE w_FALSE w_NULL w_ARRAY w_OBJECT w_NUMBER) = w_NUMBER then (if j61_0 = (0 : Int32) then (1 : Int32) else (0 : Int32)) else (0 : Int32))))))))
def f0 (p0 : Int32) (p1 : Int32) (w_STRING : Addr) (w_TRUE : Addr) (w_FALSE : Addr) (w_NULL : Addr) (w_ARRAY : Addr) (w_OBJECT : Addr) (w_NUMBER : Addr) : Int32 := (if (f1 (p1 &&& (7 : Int32)) p0) = (34 : Int32) then (f0_61 p0 p1 w_STRING w_TRUE w_FALSE w_NULL w_ARRAY w_OBJECT w_NUMBER (1 : Int32)) else (if (f1 (p1 &&& (7 : Int32)) p0) = (116 : Int32) then (f0_61 p0 p1 w_STRING w_TRUE w_FALSE w_NULL w_ARRAY w_OBJECT w_NUMBER (1 : Int32)) else (if (f1 (p1 &&& (7 : Int32)) p0) = (102 : Int32) then (f0_61 p0 p1 w_STRING w_TRUE w_FALSE w_NULL w_ARRAY w_OBJECT w_NUMBER (1 : Int32)) else (if (f1 (p1 &&& (7 : Int32)) p0) = (110 : Int32) then (f0_61 p0 p1 w_STRING w_TRUE w_FALSE w_NULL w_ARRAY w_OBJECT w_NUMBER (1 : Int32)) else (if (f1 (p1 &&& (7 : Int32)) p0) = (91 : Int32) then (f0_61 p0 p1 w_STRING w_TRUE w_FALSE w_NULL w_ARRAY w_OBJECT w_NUMBER (1 : Int32)) else (if (f1 (p1 &&& (7 : Int32)) p0) = (123 : Int32) then (f0_61 p0 p1 w_STRING w_TRUE w_FALSE w_NULL w_ARRAY w_OBJECT w_NUMBER (1 : Int32)) else (f0_61 p0 p1 w_STRING w_TRUE w_FALSE w_NULL w_ARRAY w_OBJECT w_NUMBER (0 : Int32))))))))
def Q0 (Z : State) (p0 : Int32) (p1 : Int32) (w_STRING : Addr) (w_TRUE : Addr) (w_FALSE : Addr) (w_NULL : Addr) (w_ARRAY : Addr) (w_OBJECT : Addr) (w_NUMBER : Addr) (h0 : Heap) (n0 : Nat) (v : Option Value) (h : Heap) (L : List Loc) : Prop := v = some (.int (f0 p0 p1 w_STRING w_TRUE w_FALSE w_NULL w_ARRAY w_OBJECT w_NUMBER)) ∧ Fr n0 L
set_option maxRecDepth 65536 in
set_option maxHeartbeats 40000000 in
theorem rm0 (l : Launch) (Z : State) (a0 : Array Value) (hw : ∀ d ∈ tables_1, d.before a0 Z = true) (ws : List Jvm.Cond) (p0 : Int32) (p1 : Int32) (w_STRING : Addr) (w_TRUE : Addr) (w_FALSE : Addr) (w_NULL : Addr) (w_ARRAY : Addr) (w_OBJECT : Addr) (w_NUMBER : Addr) (h0 : Heap) (n0 : Nat) (Z0 : n0 ≤ h0.size) (S_STRING : Sta Z h0 "com/example/evbind/evbind/JsonSyntax$Kind" "STRING" "Lcom/example/evbind/evbind/JsonSyntax$Kind;" (.ref w_STRING)) (S_TRUE : Sta Z h0 "com/example/evbind/evbind/JsonSyntax$Kind" "TRUE" "Lcom/example/evbind/evbind/JsonSyntax$Kind;" (.ref w_TRUE)) (S_FALSE : Sta Z h0 "com/example/evbind/evbind/JsonSyntax$Kind" "FALSE" "Lcom/example/evbind/evbind/JsonSyntax$Kind;" (.ref w_FALSE)) (S_NULL : Sta Z h0 "com/example/evbind/evbind/JsonSyntax$Kind" "NULL" "Lcom/example/evbind/evbind/JsonSyntax$Kind;" (.ref w_NULL)) (S_ARRAY : Sta Z h0 "com/example/evbind/evbind/JsonSyntax$Kind" "ARRAY" "Lcom/example/evbind/evbind/JsonSyntax$Kind;" (.ref w_ARRAY)) (S_OBJECT : Sta Z h0 "com/example/evbind/evbind/JsonSyntax$Kind" "OBJECT" "Lcom/example/evbind/evbind/JsonSyntax$Kind;" (.ref w_OBJECT)) (S_NUMBER : Sta Z h0 "com/example/evbind/evbind/JsonSyntax$Kind" "NUMBER" "Lcom/example/evbind/evbind/JsonSyntax$Kind;" (.ref w_NUMBER)) :
    MetFree l x (head1 (Jvm.Cond.code x code maxLocals ret :: ws) room_1) (fun a U => a = #[(.int p0), (.int p1)] ∧ Z.Warmed39 U.vm ∧ U.heap = h0) (fun _ _ _ _ _ => True) (fun _ U o U' => ∃ v L, o = .returned v ∧ Q0 Z p0 p1 w_STRING w_TRUE w_FALSE w_NULL w_ARRAY w_OBJECT w_NUMBER h0 n0 v U'.heap L ∧ FrameEnd U o U' L room_1.cells room_1.slots) := by
  refine MetFree.of_bodySF (plainFor_of_name pn_0) hisR ?_
  intro p e s m args below meth c s₁ Bd hml0 hP hK
  obtain ⟨rfl, hZ, hh⟩ := hP
  have hx := Bd.exec
  have hby := Bd.bytes
  have hml : c.maxLocals = 5 := hml0
  have hown : s.vm.findClass "com/example/evbind/evbind/KindOfPinLaw" = some m.cls := findClass_of_methodNamed Bd.named
  have hnm := (name_of_methodNamed Bd.named Bd.method).1
  have X0 : Stand p l e room_1 s m #[(.int p0), (.int p1)] below meth c s₁ [] 0 0 := Stand.of_body Bd
  have e0 : s₁.heap = h0 := by rw [← hh, Bd.state]; rfl
  have N0 := Fr.nil n0
  show OGo p e below s (Q0 Z p0 p1 w_STRING w_TRUE w_FALSE w_NULL w_ARRAY w_OBJECT w_NUMBER h0 n0) room_1.cells room_1.slots _
  refine OGo.st (fun _ k => castTop (ef_0 m p0 p1) k) ?_
  show OGo p e below s _ _ _ (s₁.setTop (mkF m 0 #[.val (.int p0), .val (.int p1), .unset, .unset, .unset] []))
  refine OGo.st (fun _ k => XS.iloadN X0.here hx rfl (hb hby at_0) rfl k) ?_
  show OGo p e below s _ _ _ (s₁.setTop (mkF m 1 #[.val (.int p0), .val (.int p1), .unset, .unset, .unset] [(.int p1)]))
  refine OGo.st (fun _ k => XS.bipush X0.here hx rfl (hb hby at_1) k) ?_
  show OGo p e below s _ _ _ (s₁.setTop (mkF m 3 #[.val (.int p0), .val (.int p1), .unset, .unset, .unset] [(.int (7 : Int32)), (.int p1)]))
  refine OGo.st (fun _ k => XS.iand X0.here hx rfl (hb hby at_3) rfl k) ?_
  show OGo p e below s _ _ _ (s₁.setTop (mkF m 4 #[.val (.int p0), .val (.int p1), .unset, .unset, .unset] [(.int (p1 &&& (7 : Int32)))]))
  refine OGo.st (fun _ k => XS.iloadN X0.here hx rfl (hb hby at_4) rfl k) ?_
  show OGo p e below s _ _ _ (s₁.setTop (mkF m 5 #[.val (.int p0), .val (.int p1), .unset, .unset, .unset] [(.int p0), (.int (p1 &&& (7 : Int32)))]))
  obtain ⟨_, _, ⟨T1, L1, k1, n1⟩, -, X1, ⟨Lc1, hQ1, l1, y1, z1⟩, st1⟩ := Jvm.LawKit.callS X0 hx (y := (⟨"com/example/evbind/evbind/KindOfPinLaw", "pick", "(II)I"⟩ : MethodName)) hown (mvT hZ (hw _ (List.mem_of_getElem? (i := 0) rfl))) (mvT hZ (hw _ (List.mem_of_getElem? (i := 1) rfl))) (mvT hZ (hw _ (List.mem_of_getElem? (i := 2) rfl))) (mvT hZ (hw _ (List.mem_of_getElem? (i := 3) rfl))) (by decide) (backOf (W := 0) (rm1 l Z a0 hw [] (p1 &&& (7 : Int32)) p0 h0 n0 Z0) hZ (hw _ (List.mem_of_getElem? (i := 3) rfl)) (hw _ (List.mem_of_getElem? (i := 2) rfl)) (by decide) (by decide)) (g := (mkF m 5 #[.val (.int p0), .val (.int p1), .unset, .unset, .unset] [(.int p0), (.int (p1 &&& (7 : Int32)))])) rfl (by rw [hml]; rfl) (argsL := [(.int (p1 &&& (7 : Int32))), (.int p0)]) (rest := []) (lenOf pd_0_0 rfl) rfl (by show 2 * 0 + _ ≤ _; exact Nat.le_of_eq rfl) (hb hby at_5) (fun _ _ => ⟨rfl, e0, (by decide : 0 + 0 ≤ _), (by decide : 0 + 0 ≤ _)⟩)
  dsimp only [Pt.U, Pt.locs, Pt.cells, Pt.slots] at X1 l1 y1 z1 st1 hQ1
  subst l1 y1 z1
  obtain ⟨rfl, N1q, e1⟩ := hQ1
  have N1 := Fr.app N0 N1q
  refine OGo.st st1 ?_
  show OGo p e below s _ _ _ (T1.setTop (mkF m 8 #[.val (.int p0), .val (.int p1), .unset, .unset, .unset] [(.int (f1 (p1 &&& (7 : Int32)) p0))]))
  refine OGo.st (fun _ k => XS.istoreN X1.here hx rfl (hb hby at_8) rfl (l' := #[.val (.int p0), .val (.int p1), .val (.int (f1 (p1 &&& (7 : Int32)) p0)), .unset, .unset]) rfl k) ?_
  show OGo p e below s _ _ _ (T1.setTop (mkF m 9 #[.val (.int p0), .val (.int p1), .val (.int (f1 (p1 &&& (7 : Int32)) p0)), .unset, .unset] []))
  refine OGo.st (fun _ k => XS.iloadN X1.here hx rfl (hb hby at_9) rfl k) ?_
  show OGo p e below s _ _ _ (T1.setTop (mkF m 10 #[.val (.int p0), .val (.int p1), .val (.int (f1 (p1 &&& (7 : Int32)) p0)), .unset, .unset] [(.int (f1 (p1 &&& (7 : Int32)) p0))]))
  obtain ⟨_, _, ⟨T2, L2, k2, n2⟩, -, X2, ⟨Lc2, hQ2, l2, y2, z2⟩, st2⟩ := Jvm.LawKit.callS X1 hx (y := (⟨"com/example/evbind/evbind/JsonSyntax$Kind", "of", "(I)Lcom/example/evbind/evbind/JsonSyntax$Kind;"⟩ : MethodName)) hown (mvT hZ (hw _ (List.mem_of_getElem? (i := 4) rfl))) (mvT hZ (hw _ (List.mem_of_getElem? (i := 5) rfl))) (mvT hZ (hw _ (List.mem_of_getElem? (i := 6) rfl))) (mvT hZ (hw _ (List.mem_of_getElem? (i := 7) rfl))) (by decide) (backOf (W := 0) (rm2 l Z a0 hw [] (f1 (p1 &&& (7 : Int32)) p0) w_STRING w_TRUE w_FALSE w_NULL w_ARRAY w_OBJECT w_NUMBER h0 n0 Z0 S_STRING S_TRUE S_FALSE S_NULL S_ARRAY S_OBJECT S_NUMBER) hZ (hw _ (List.mem_of_getElem? (i := 7) rfl)) (hw _ (List.mem_of_getElem? (i := 6) rfl)) (by decide) (by decide)) (g := (mkF m 10 #[.val (.int p0), .val (.int p1), .val (.int (f1 (p1 &&& (7 : Int32)) p0)), .unset, .unset] [(.int (f1 (p1 &&& (7 : Int32)) p0))])) rfl (by rw [hml]; rfl) (argsL := [(.int (f1 (p1 &&& (7 : Int32)) p0))]) (rest := []) (lenOf pd_0_1 rfl) rfl (by show 2 * 0 + _ ≤ _; exact Nat.le_of_eq rfl) (hb hby at_10) (fun _ _ => ⟨rfl, e1, (by decide : 0 + 0 ≤ _), (by decide : 0 + 0 ≤ _)⟩)
  dsimp only [Pt.U, Pt.locs, Pt.cells, Pt.slots] at X2 l2 y2 z2 st2 hQ2
  subst l2 y2 z2
  obtain ⟨rfl, N2q, e2⟩ := hQ2
  have N2 := Fr.app N1 N2q
  refine OGo.st st2 ?_
  show OGo p e below s _ _ _ (T2.setTop (mkF m 13 #[.val (.int p0), .val (.int p1), .val (.int (f1 (p1 &&& (7 : Int32)) p0)), .unset, .unset] [(.ref (f2 (f1 (p1 &&& (7 : Int32)) p0) w_STRING w_TRUE w_FALSE w_NULL w_ARRAY w_OBJECT w_NUMBER))]))
  refine OGo.st (fun _ k => XS.astoreN X2.here hx rfl (hb hby at_13) rfl rfl (l' := #[.val (.int p0), .val (.int p1), .val (.int (f1 (p1 &&& (7 : Int32)) p0)), .val (.ref (f2 (f1 (p1 &&& (7 : Int32)) p0) w_STRING w_TRUE w_FALSE w_NULL w_ARRAY w_OBJECT w_NUMBER)), .unset]) rfl k) ?_
  show OGo p e below s _ _ _ (T2.setTop (mkF m 14 #[.val (.int p0), .val (.int p1), .val (.int (f1 (p1 &&& (7 : Int32)) p0)), .val (.ref (f2 (f1 (p1 &&& (7 : Int32)) p0) w_STRING w_TRUE w_FALSE w_NULL w_ARRAY w_OBJECT w_NUMBER)), .unset] []))
  refine OGo.st (fun _ k => XS.aloadN X2.here hx rfl (hb hby at_14) rfl rfl k) ?_
  show OGo p e below s _ _ _ (T2.setTop (mkF m 15 #[.val (.int p0), .val (.int p1), .val (.int (f1 (p1 &&& (7 : Int32)) p0)), .val (.ref (f2 (f1 (p1 &&& (7 : Int32)) p0) w_STRING w_TRUE w_FALSE w_NULL w_ARRAY w_OBJECT w_NUMBER)), .unset] [(.ref (f2 (f1 (p1 &&& (7 : Int32)) p0) w_STRING w_TRUE w_FALSE w_NULL w_ARRAY w_OBJECT w_NUMBER))]))
  refine OGo.st (fun _ k => XS.ifnonnullYes X2.here hx rfl (pc0 := 15) (pc' := 20) rfl (hb hby at_15) rfl (by decide) (by decide) k) ?_
  show OGo p e below s _ _ _ (T2.setTop (mkF m 20 #[.val (.int p0), .val (.int p1), .val (.int (f1 (p1 &&& (7 : Int32)) p0)), .val (.ref (f2 (f1 (p1 &&& (7 : Int32)) p0) w_STRING w_TRUE w_FALSE w_NULL w_ARRAY w_OBJECT w_NUMBER)), .unset] []))
  refine OGo.st (fun _ k => XS.iloadN X2.here hx rfl (hb hby at_20) rfl k) ?_
  show OGo p e below s _ _ _ (T2.setTop (mkF m 21 #[.val (.int p0), .val (.int p1), .val (.int (f1 (p1 &&& (7 : Int32)) p0)), .val (.ref (f2 (f1 (p1 &&& (7 : Int32)) p0) w_STRING w_TRUE w_FALSE w_NULL w_ARRAY w_OBJECT w_NUMBER)), .unset] [(.int (f1 (p1 &&& (7 : Int32)) p0))]))
  refine OGo.st (fun _ k => XS.bipush X2.here hx rfl (hb hby at_21) k) ?_
  show OGo p e below s _ _ _ (T2.setTop (mkF m 23 #[.val (.int p0), .val (.int p1), .val (.int (f1 (p1 &&& (7 : Int32)) p0)), .val (.ref (f2 (f1 (p1 &&& (7 : Int32)) p0) w_STRING w_TRUE w_FALSE w_NULL w_ARRAY w_OBJECT w_NUMBER)), .unset] [(.int (34 : Int32)), (.int (f1 (p1 &&& (7 : Int32)) p0))]))
  have hj61 : ∀ (j61_0 : Int32) (hf61_0 : f0 p0 p1 w_STRING w_TRUE w_FALSE w_NULL w_ARRAY w_OBJECT w_NUMBER = f0_61 p0 p1 w_STRING w_TRUE w_FALSE w_NULL w_ARRAY w_OBJECT w_NUMBER j61_0), OGo p e below s (Q0 Z p0 p1 w_STRING w_TRUE w_FALSE w_NULL w_ARRAY w_OBJECT w_NUMBER h0 n0) room_1.cells room_1.slots (T2.setTop (mkF m 61 #[.val (.int p0), .val (.int p1), .val (.int (f1 (p1 &&& (7 : Int32)) p0)), .val (.ref (f2 (f1 (p1 &&& (7 : Int32)) p0) w_STRING w_TRUE w_FALSE w_NULL w_ARRAY w_OBJECT w_NUMBER)), .unset] [(.int j61_0)])) := by
    intro j61_0 hf61_0
    refine OGo.st (fun _ k => XS.istore X2.here hx rfl (hb hby at_61) rfl (l' := #[.val (.int p0), .val (.int p1), .val (.int (f1 (p1 &&& (7 : Int32)) p0)), .val (.ref (f2 (f1 (p1 &&& (7 : Int32)) p0) w_STRING w_TRUE w_FALSE w_NULL w_ARRAY w_OBJECT w_NUMBER)), .val (.int j61_0)]) rfl k) ?_
    show OGo p e below s _ _ _ (T2.setTop (mkF m 63 #[.val (.int p0), .val (.int p1), .val (.int (f1 (p1 &&& (7 : Int32)) p0)), .val (.ref (f2 (f1 (p1 &&& (7 : Int32)) p0) w_STRING w_TRUE w_FALSE w_NULL w_ARRAY w_OBJECT w_NUMBER)), .val (.int j61_0)] []))
    refine OGo.st (fun _ k => XS.aloadN X2.here hx rfl (hb hby at_63) rfl rfl k) ?_
    show OGo p e below s _ _ _ (T2.setTop (mkF m 64 #[.val (.int p0), .val (.int p1), .val (.int (f1 (p1 &&& (7 : Int32)) p0)), .val (.ref (f2 (f1 (p1 &&& (7 : Int32)) p0) w_STRING w_TRUE w_FALSE w_NULL w_ARRAY w_OBJECT w_NUMBER)), .val (.int j61_0)] [(.ref (f2 (f1 (p1 &&& (7 : Int32)) p0) w_STRING w_TRUE w_FALSE w_NULL w_ARRAY w_OBJECT w_NUMBER))]))
    obtain ⟨T4, X4, e4, st4⟩ := getS2 X2 hx hZ hown (host := "") (Or.inl (hw _ (List.mem_of_getElem? (i := 10) rfl))) Via.refl e2 S_STRING (g := (mkF m 64 #[.val (.int p0), .val (.int p1), .val (.int (f1 (p1 &&& (7 : Int32)) p0)), .val (.ref (f2 (f1 (p1 &&& (7 : Int32)) p0) w_STRING w_TRUE w_FALSE w_NULL w_ARRAY w_OBJECT w_NUMBER)), .val (.int j61_0)] [(.ref (f2 (f1 (p1 &&& (7 : Int32)) p0) w_STRING w_TRUE w_FALSE w_NULL w_ARRAY w_OBJECT w_NUMBER))])) rfl (hb hby at_64)
    refine OGo.st st4 ?_
    show OGo p e below s _ _ _ (T4.setTop (mkF m 67 #[.val (.int p0), .val (.int p1), .val (.int (f1 (p1 &&& (7 : Int32)) p0)), .val (.ref (f2 (f1 (p1 &&& (7 : Int32)) p0) w_STRING w_TRUE w_FALSE w_NULL w_ARRAY w_OBJECT w_NUMBER)), .val (.int j61_0)] [(.ref w_STRING), (.ref (f2 (f1 (p1 &&& (7 : Int32)) p0) w_STRING w_TRUE w_FALSE w_NULL w_ARRAY w_OBJECT w_NUMBER))]))
    by_cases hc67 : (f2 (f1 (p1 &&& (7 : Int32)) p0) w_STRING w_TRUE w_FALSE w_NULL w_ARRAY w_OBJECT w_NUMBER) = w_STRING
    · refine OGo.st (fun _ k => Jvm.RoadKit.acmp (g := (mkF m 67 #[.val (.int p0), .val (.int p1), .val (.int (f1 (p1 &&& (7 : Int32)) p0)), .val (.ref (f2 (f1 (p1 &&& (7 : Int32)) p0) w_STRING w_TRUE w_FALSE w_NULL w_ARRAY w_OBJECT w_NUMBER)), .val (.int j61_0)] [(.ref w_STRING), (.ref (f2 (f1 (p1 &&& (7 : Int32)) p0) w_STRING w_TRUE w_FALSE w_NULL w_ARRAY w_OBJECT w_NUMBER))])) X4 hx rfl rfl rfl (pc0 := 67) (pc' := 70) (same := true) rfl (hb hby at_67) rfl (decide_eq_true (congrArg Value.ref hc67)) (by decide) (by decide) k) ?_
      show OGo p e below s _ _ _ (T4.setTop (mkF m 70 #[.val (.int p0), .val (.int p1), .val (.int (f1 (p1 &&& (7 : Int32)) p0)), .val (.ref (f2 (f1 (p1 &&& (7 : Int32)) p0) w_STRING w_TRUE w_FALSE w_NULL w_ARRAY w_OBJECT w_NUMBER)), .val (.int j61_0)] []))
      refine OGo.st (fun _ k => XS.iloadN X4.here hx rfl (hb hby at_70) rfl k) ?_
      show OGo p e below s _ _ _ (T4.setTop (mkF m 71 #[.val (.int p0), .val (.int p1), .val (.int (f1 (p1 &&& (7 : Int32)) p0)), .val (.ref (f2 (f1 (p1 &&& (7 : Int32)) p0) w_STRING w_TRUE w_FALSE w_NULL w_ARRAY w_OBJECT w_NUMBER)), .val (.int j61_0)] [(.int (f1 (p1 &&& (7 : Int32)) p0))]))
      refine OGo.st (fun _ k => XS.bipush X4.here hx rfl (hb hby at_71) k) ?_
      show OGo p e below s _ _ _ (T4.setTop (mkF m 73 #[.val (.int p0), .val (.int p1), .val (.int (f1 (p1 &&& (7 : Int32)) p0)), .val (.ref (f2 (f1 (p1 &&& (7 : Int32)) p0) w_STRING w_TRUE w_FALSE w_NULL w_ARRAY w_OBJECT w_NUMBER)), .val (.int j61_0)] [(.int (34 : Int32)), (.int (f1 (p1 &&& (7 : Int32)) p0))]))
      by_cases hc73 : (f1 (p1 &&& (7 : Int32)) p0) = (34 : Int32)
      · refine OGo.st (fun _ k => XS.icmpNo X4.here hx rfl (hb hby at_73) rfl (teq hc73).2 k) ?_
        show OGo p e below s _ _ _ (T4.setTop (mkF m 76 #[.val (.int p0), .val (.int p1), .val (.int (f1 (p1 &&& (7 : Int32)) p0)), .val (.ref (f2 (f1 (p1 &&& (7 : Int32)) p0) w_STRING w_TRUE w_FALSE w_NULL w_ARRAY w_OBJECT w_NUMBER)), .val (.int j61_0)] []))
        refine OGo.st (fun _ k => XS.iconst X4.here hx rfl (hb hby at_76) k) ?_
        show OGo p e below s _ _ _ (T4.setTop (mkF m 77 #[.val (.int p0), .val (.int p1), .val (.int (f1 (p1 &&& (7 : Int32)) p0)), .val (.ref (f2 (f1 (p1 &&& (7 : Int32)) p0) w_STRING w_TRUE w_FALSE w_NULL w_ARRAY w_OBJECT w_NUMBER)), .val (.int j61_0)] [(.int (1 : Int32))]))
        refine OGo.st (fun _ k => XS.goto X4.here hx rfl (pc0 := 77) (pc' := 81) rfl (hb hby at_77) (by decide) (by decide) k) ?_
        show OGo p e below s _ _ _ (T4.setTop (mkF m 81 #[.val (.int p0), .val (.int p1), .val (.int (f1 (p1 &&& (7 : Int32)) p0)), .val (.ref (f2 (f1 (p1 &&& (7 : Int32)) p0) w_STRING w_TRUE w_FALSE w_NULL w_ARRAY w_OBJECT w_NUMBER)), .val (.int j61_0)] [(.int (1 : Int32))]))
        exact oretN X4 hx Bd.notSynchronized (t := .boolean) Bd.returns (by simp) (hb hby at_81) (z' := (1 : Int32)) (by decide) e4 ⟨(congrArg (fun z => some (Value.int z)) (show (1 : Int32) = f0 p0 p1 w_STRING w_TRUE w_FALSE w_NULL w_ARRAY w_OBJECT w_NUMBER from Eq.symm (hf61_0.trans (by unfold f0_61; exact (if_pos hc67).trans (if_pos hc73))))), N2⟩ (by decide) (by decide)
      · refine OGo.st (fun _ k => XS.icmpYes X4.here hx rfl (pc0 := 73) (pc' := 80) rfl (hb hby at_73) rfl (feq hc73).2 (by decide) (by decide) k) ?_
        show OGo p e below s _ _ _ (T4.setTop (mkF m 80 #[.val (.int p0), .val (.int p1), .val (.int (f1 (p1 &&& (7 : Int32)) p0)), .val (.ref (f2 (f1 (p1 &&& (7 : Int32)) p0) w_STRING w_TRUE w_FALSE w_NULL w_ARRAY w_OBJECT w_NUMBER)), .val (.int j61_0)] []))
        refine OGo.st (fun _ k => XS.iconst X4.here hx rfl (hb hby at_80) k) ?_
        show OGo p e below s _ _ _ (T4.setTop (mkF m 81 #[.val (.int p0), .val (.int p1), .val (.int (f1 (p1 &&& (7 : Int32)) p0)), .val (.ref (f2 (f1 (p1 &&& (7 : Int32)) p0) w_STRING w_TRUE w_FALSE w_NULL w_ARRAY w_OBJECT w_NUMBER)), .val (.int j61_0)] [(.int (0 : Int32))]))
        exact oretN X4 hx Bd.notSynchronized (t := .boolean) Bd.returns (by simp) (hb hby at_81) (z' := (0 : Int32)) (by decide) e4 ⟨(congrArg (fun z => some (Value.int z)) (show (0 : Int32) = f0 p0 p1 w_STRING w_TRUE w_FALSE w_NULL w_ARRAY w_OBJECT w_NUMBER from Eq.symm (hf61_0.trans (by unfold f0_61; exact (if_pos hc67).trans (if_neg hc73))))), N2⟩ (by decide) (by decide)
    · refine OGo.st (fun _ k => Jvm.RoadKit.acmp (g := (mkF m 67 #[.val (.int p0), .val (.int p1), .val (.int (f1 (p1 &&& (7 : Int32)) p0)), .val (.ref (f2 (f1 (p1 &&& (7 : Int32)) p0) w_STRING w_TRUE w_FALSE w_NULL w_ARRAY w_OBJECT w_NUMBER)), .val (.int j61_0)] [(.ref w_STRING), (.ref (f2 (f1 (p1 &&& (7 : Int32)) p0) w_STRING w_TRUE w_FALSE w_NULL w_ARRAY w_OBJECT w_NUMBER))])) X4 hx rfl rfl rfl (pc0 := 67) (pc' := 82) (same := false) rfl (hb hby at_67) rfl (decide_eq_false fun q => hc67 (Value.ref.inj q)) (by decide) (by decide) k) ?_
      show OGo p e below s _ _ _ (T4.setTop (mkF m 82 #[.val (.int p0), .val (.int p1), .val (.int (f1 (p1 &&& (7 : Int32)) p0)), .val (.ref (f2 (f1 (p1 &&& (7 : Int32)) p0) w_STRING w_TRUE w_FALSE w_NULL w_ARRAY w_OBJECT w_NUMBER)), .val (.int j61_0)] []))
      refine OGo.st (fun _ k => XS.aloadN X4.here hx rfl (hb hby at_82) rfl rfl k) ?_
      show OGo p e below s _ _ _ (T4.setTop (mkF m 83 #[.val (.int p0), .val (.int p1), .val (.int (f1 (p1 &&& (7 : Int32)) p0)), .val (.ref (f2 (f1 (p1 &&& (7 : Int32)) p0) w_STRING w_TRUE w_FALSE w_NULL w_ARRAY w_OBJECT w_NUMBER)), .val (.int j61_0)] [(.ref (f2 (f1 (p1 &&& (7 : Int32)) p0) w_STRING w_TRUE w_FALSE w_NULL w_ARRAY w_OBJECT w_NUMBER))]))
      obtain ⟨T5, X5, e5, st5⟩ := getS2 X4 hx hZ hown (host := "") (Or.inl (hw _ (List.mem_of_getElem? (i := 12) rfl))) Via.refl e4 S_TRUE (g := (mkF m 83 #[.val (.int p0), .val (.int p1), .val (.int (f1 (p1 &&& (7 : Int32)) p0)), .val (.ref (f2 (f1 (p1 &&& (7 : Int32)) p0) w_STRING w_TRUE w_FALSE w_NULL w_ARRAY w_OBJECT w_NUMBER)), .val (.int j61_0)] [(.ref (f2 (f1 (p1 &&& (7 : Int32)) p0) w_STRING w_TRUE w_FALSE w_NULL w_ARRAY w_OBJECT w_NUMBER))])) rfl (hb hby at_83)
      refine OGo.st st5 ?_
      show OGo p e below s _ _ _ (T5.setTop (mkF m 86 #[.val (.int p0), .val (.int p1), .val (.int (f1 (p1 &&& (7 : Int32)) p0)), .val (.ref (f2 (f1 (p1 &&& (7 : Int32)) p0) w_STRING w_TRUE w_FALSE w_NULL w_ARRAY w_OBJECT w_NUMBER)), .val (.int j61_0)] [(.ref w_TRUE), (.ref (f2 (f1 (p1 &&& (7 : Int32)) p0) w_STRING w_TRUE w_FALSE w_NULL w_ARRAY w_OBJECT w_NUMBER))]))
      by_cases hc86 : (f2 (f1 (p1 &&& (7 : Int32)) p0) w_STRING w_TRUE w_FALSE w_NULL w_ARRAY w_OBJECT w_NUMBER) = w_TRUE
      · refine OGo.st (fun _ k => Jvm.RoadKit.acmp (g := (mkF m 86 #[.val (.int p0), .val (.int p1), .val (.int (f1 (p1 &&& (7 : Int32)) p0)), .val (.ref (f2 (f1 (p1 &&& (7 : Int32)) p0) w_STRING w_TRUE w_FALSE w_NULL w_ARRAY w_OBJECT w_NUMBER)), .val (.int j61_0)] [(.ref w_TRUE), (.ref (f2 (f1 (p1 &&& (7 : Int32)) p0) w_STRING w_TRUE w_FALSE w_NULL w_ARRAY w_OBJECT w_NUMBER))])) X5 hx rfl rfl rfl (pc0 := 86) (pc' := 89) (same := true) rfl (hb hby at_86) rfl (decide_eq_true (congrArg Value.ref hc86)) (by decide) (by decide) k) ?_
        show OGo p e below s _ _ _ (T5.setTop (mkF m 89 #[.val (.int p0), .val (.int p1), .val (.int (f1 (p1 &&& (7 : Int32)) p0)), .val (.ref (f2 (f1 (p1 &&& (7 : Int32)) p0) w_STRING w_TRUE w_FALSE w_NULL w_ARRAY w_OBJECT w_NUMBER)), .val (.int j61_0)] []))
        refine OGo.st (fun _ k => XS.iloadN X5.here hx rfl (hb hby at_89) rfl k) ?_
        show OGo p e below s _ _ _ (T5.setTop (mkF m 90 #[.val (.int p0), .val (.int p1), .val (.int (f1 (p1 &&& (7 : Int32)) p0)), .val (.ref (f2 (f1 (p1 &&& (7 : Int32)) p0) w_STRING w_TRUE w_FALSE w_NULL w_ARRAY w_OBJECT w_NUMBER)), .val (.int j61_0)] [(.int (f1 (p1 &&& (7 : Int32)) p0))]))
        refine OGo.st (fun _ k => XS.bipush X5.here hx rfl (hb hby at_90) k) ?_
        show OGo p e below s _ _ _ (T5.setTop (mkF m 92 #[.val (.int p0), .val (.int p1), .val (.int (f1 (p1 &&& (7 : Int32)) p0)), .val (.ref (f2 (f1 (p1 &&& (7 : Int32)) p0) w_STRING w_TRUE w_FALSE w_NULL w_ARRAY w_OBJECT w_NUMBER)), .val (.int j61_0)] [(.int (116 : Int32)), (.int (f1 (p1 &&& (7 : Int32)) p0))]))
        by_cases hc92 : (f1 (p1 &&& (7 : Int32)) p0) = (116 : Int32)
        · refine OGo.st (fun _ k => XS.icmpNo X5.here hx rfl (hb hby at_92) rfl (teq hc92).2 k) ?_
          show OGo p e below s _ _ _ (T5.setTop (mkF m 95 #[.val (.int p0), .val (.int p1), .val (.int (f1 (p1 &&& (7 : Int32)) p0)), .val (.ref (f2 (f1 (p1 &&& (7 : Int32)) p0) w_STRING w_TRUE w_FALSE w_NULL w_ARRAY w_OBJECT w_NUMBER)), .val (.int j61_0)] []))
          refine OGo.st (fun _ k => XS.iconst X5.here hx rfl (hb hby at_95) k) ?_
          show OGo p e below s _ _ _ (T5.setTop (mkF m 96 #[.val (.int p0), .val (.int p1), .val (.int (f1 (p1 &&& (7 : Int32)) p0)), .val (.ref (f2 (f1 (p1 &&& (7 : Int32)) p0) w_STRING w_TRUE w_FALSE w_NULL w_ARRAY w_OBJECT w_NUMBER)), .val (.int j61_0)] [(.int (1 : Int32))]))
          refine OGo.st (fun _ k => XS.goto X5.here hx rfl (pc0 := 96) (pc' := 100) rfl (hb hby at_96) (by decide) (by decide) k) ?_
          show OGo p e below s _ _ _ (T5.setTop (mkF m 100 #[.val (.int p0), .val (.int p1), .val (.int (f1 (p1 &&& (7 : Int32)) p0)), .val (.ref (f2 (f1 (p1 &&& (7 : Int32)) p0) w_STRING w_TRUE w_FALSE w_NULL w_ARRAY w_OBJECT w_NUMBER)), .val (.int j61_0)] [(.int (1 : Int32))]))
          exact oretN X5 hx Bd.notSynchronized (t := .boolean) Bd.returns (by simp) (hb hby at_100) (z' := (1 : Int32)) (by decide) e5 ⟨(congrArg (fun z => some (Value.int z)) (show (1 : Int32) = f0 p0 p1 w_STRING w_TRUE w_FALSE w_NULL w_ARRAY w_OBJECT w_NUMBER from Eq.symm (hf61_0.trans (by unfold f0_61; exact (if_neg hc67).trans ((if_pos hc86).trans (if_pos hc92)))))), N2⟩ (by decide) (by decide)
        · refine OGo.st (fun _ k => XS.icmpYes X5.here hx rfl (pc0 := 92) (pc' := 99) rfl (hb hby at_92) rfl (feq hc92).2 (by decide) (by decide) k) ?_
          show OGo p e below s _ _ _ (T5.setTop (mkF m 99 #[.val (.int p0), .val (.int p1), .val (.int (f1 (p1 &&& (7 : Int32)) p0)), .val (.ref (f2 (f1 (p1 &&& (7 : Int32)) p0) w_STRING w_TRUE w_FALSE w_NULL w_ARRAY w_OBJECT w_NUMBER)), .val (.int j61_0)] []))
          refine OGo.st (fun _ k => XS.iconst X5.here hx rfl (hb hby at_99) k) ?_
          show OGo p e below s _ _ _ (T5.setTop (mkF m 100 #[.val (.int p0), .val (.int p1), .val (.int (f1 (p1 &&& (7 : Int32)) p0)), .val (.ref (f2 (f1 (p1 &&& (7 : Int32)) p0) w_STRING w_TRUE w_FALSE w_NULL w_ARRAY w_OBJECT w_NUMBER)), .val (.int j61_0)] [(.int (0 : Int32))]))
          exact oretN X5 hx Bd.notSynchronized (t := .boolean) Bd.returns (by simp) (hb hby at_100) (z' := (0 : Int32)) (by decide) e5 ⟨(congrArg (fun z => some (Value.int z)) (show (0 : Int32) = f0 p0 p1 w_STRING w_TRUE w_FALSE w_NULL w_ARRAY w_OBJECT w_NUMBER from Eq.symm (hf61_0.trans (by unfold f0_61; exact (if_neg hc67).trans ((if_pos hc86).trans (if_neg hc92)))))), N2⟩ (by decide) (by decide)
      · refine OGo.st (fun _ k => Jvm.RoadKit.acmp (g := (mkF m 86 #[.val (.int p0), .val (.int p1), .val (.int (f1 (p1 &&& (7 : Int32)) p0)), .val (.ref (f2 (f1 (p1 &&& (7 : Int32)) p0) w_STRING w_TRUE w_FALSE w_NULL w_ARRAY w_OBJECT w_NUMBER)), .val (.int j61_0)] [(.ref w_TRUE), (.ref (f2 (f1 (p1 &&& (7 : Int32)) p0) w_STRING w_TRUE w_FALSE w_NULL w_ARRAY w_OBJECT w_NUMBER))])) X5 hx rfl rfl rfl (pc0 := 86) (pc' := 101) (same := false) rfl (hb hby at_86) rfl (decide_eq_false fun q => hc86 (Value.ref.inj q)) (by decide) (by decide) k) ?_
        show OGo p e below s _ _ _ (T5.setTop (mkF m 101 #[.val (.int p0), .val (.int p1), .val (.int (f1 (p1 &&& (7 : Int32)) p0)), .val (.ref (f2 (f1 (p1 &&& (7 : Int32)) p0) w_STRING w_TRUE w_FALSE w_NULL w_ARRAY w_OBJECT w_NUMBER)), .val (.int j61_0)] []))
        refine OGo.st (fun _ k => XS.aloadN X5.here hx rfl (hb hby at_101) rfl rfl k) ?_
        show OGo p e below s _ _ _ (T5.setTop (mkF m 102 #[.val (.int p0), .val (.int p1), .val (.int (f1 (p1 &&& (7 : Int32)) p0)), .val (.ref (f2 (f1 (p1 &&& (7 : Int32)) p0) w_STRING w_TRUE w_FALSE w_NULL w_ARRAY w_OBJECT w_NUMBER)), .val (.int j61_0)] [(.ref (f2 (f1 (p1 &&& (7 : Int32)) p0) w_STRING w_TRUE w_FALSE w_NULL w_ARRAY w_OBJECT w_NUMBER))]))
        obtain ⟨T6, X6, e6, st6⟩ := getS2 X5 hx hZ hown (host := "") (Or.inl (hw _ (List.mem_of_getElem? (i := 14) rfl))) Via.refl e5 S_FALSE (g := (mkF m 102 #[.val (.int p0), .val (.int p1), .val (.int (f1 (p1 &&& (7 : Int32)) p0)), .val (.ref (f2 (f1 (p1 &&& (7 : Int32)) p0) w_STRING w_TRUE w_FALSE w_NULL w_ARRAY w_OBJECT w_NUMBER)), .val (.int j61_0)] [(.ref (f2 (f1 (p1 &&& (7 : Int32)) p0) w_STRING w_TRUE w_FALSE w_NULL w_ARRAY w_OBJECT w_NUMBER))])) rfl (hb hby at_102)
        refine OGo.st st6 ?_
        show OGo p e below s _ _ _ (T6.setTop (mkF m 105 #[.val (.int p0), .val (.int p1), .val (.int (f1 (p1 &&& (7 : Int32)) p0)), .val (.ref (f2 (f1 (p1 &&& (7 : Int32)) p0) w_STRING w_TRUE w_FALSE w_NULL w_ARRAY w_OBJECT w_NUMBER)), .val (.int j61_0)] [(.ref w_FALSE), (.ref (f2 (f1 (p1 &&& (7 : Int32)) p0) w_STRING w_TRUE w_FALSE w_NULL w_ARRAY w_OBJECT w_NUMBER))]))
        by_cases hc105 : (f2 (f1 (p1 &&& (7 : Int32)) p0) w_STRING w_TRUE w_FALSE w_NULL w_ARRAY w_OBJECT w_NUMBER) = w_FALSE
        · refine OGo.st (fun _ k => Jvm.RoadKit.acmp (g := (mkF m 105 #[.val (.int p0), .val (.int p1), .val (.int (f1 (p1 &&& (7 : Int32)) p0)), .val (.ref (f2 (f1 (p1 &&& (7 : Int32)) p0) w_STRING w_TRUE w_FALSE w_NULL w_ARRAY w_OBJECT w_NUMBER)), .val (.int j61_0)] [(.ref w_FALSE), (.ref (f2 (f1 (p1 &&& (7 : Int32)) p0) w_STRING w_TRUE w_FALSE w_NULL w_ARRAY w_OBJECT w_NUMBER))])) X6 hx rfl rfl rfl (pc0 := 105) (pc' := 108) (same := true) rfl (hb hby at_105) rfl (decide_eq_true (congrArg Value.ref hc105)) (by decide) (by decide) k) ?_
          show OGo p e below s _ _ _ (T6.setTop (mkF m 108 #[.val (.int p0), .val (.int p1), .val (.int (f1 (p1 &&& (7 : Int32)) p0)), .val (.ref (f2 (f1 (p1 &&& (7 : Int32)) p0) w_STRING w_TRUE w_FALSE w_NULL w_ARRAY w_OBJECT w_NUMBER)), .val (.int j61_0)] []))
          refine OGo.st (fun _ k => XS.iloadN X6.here hx rfl (hb hby at_108) rfl k) ?_
          show OGo p e below s _ _ _ (T6.setTop (mkF m 109 #[.val (.int p0), .val (.int p1), .val (.int (f1 (p1 &&& (7 : Int32)) p0)), .val (.ref (f2 (f1 (p1 &&& (7 : Int32)) p0) w_STRING w_TRUE w_FALSE w_NULL w_ARRAY w_OBJECT w_NUMBER)), .val (.int j61_0)] [(.int (f1 (p1 &&& (7 : Int32)) p0))]))
          refine OGo.st (fun _ k => XS.bipush X6.here hx rfl (hb hby at_109) k) ?_
          show OGo p e below s _ _ _ (T6.setTop (mkF m 111 #[.val (.int p0), .val (.int p1), .val (.int (f1 (p1 &&& (7 : Int32)) p0)), .val (.ref (f2 (f1 (p1 &&& (7 : Int32)) p0) w_STRING w_TRUE w_FALSE w_NULL w_ARRAY w_OBJECT w_NUMBER)), .val (.int j61_0)] [(.int (102 : Int32)), (.int (f1 (p1 &&& (7 : Int32)) p0))]))
          by_cases hc111 : (f1 (p1 &&& (7 : Int32)) p0) = (102 : Int32)
          · refine OGo.st (fun _ k => XS.icmpNo X6.here hx rfl (hb hby at_111) rfl (teq hc111).2 k) ?_
            show OGo p e below s _ _ _ (T6.setTop (mkF m 114 #[.val (.int p0), .val (.int p1), .val (.int (f1 (p1 &&& (7 : Int32)) p0)), .val (.ref (f2 (f1 (p1 &&& (7 : Int32)) p0) w_STRING w_TRUE w_FALSE w_NULL w_ARRAY w_OBJECT w_NUMBER)), .val (.int j61_0)] []))
            refine OGo.st (fun _ k => XS.iconst X6.here hx rfl (hb hby at_114) k) ?_
            show OGo p e below s _ _ _ (T6.setTop (mkF m 115 #[.val (.int p0), .val (.int p1), .val (.int (f1 (p1 &&& (7 : Int32)) p0)), .val (.ref (f2 (f1 (p1 &&& (7 : Int32)) p0) w_STRING w_TRUE w_FALSE w_NULL w_ARRAY w_OBJECT w_NUMBER)), .val (.int j61_0)] [(.int (1 : Int32))]))
            refine OGo.st (fun _ k => XS.goto X6.here hx rfl (pc0 := 115) (pc' := 119) rfl (hb hby at_115) (by decide) (by decide) k) ?_
            show OGo p e below s _ _ _ (T6.setTop (mkF m 119 #[.val (.int p0), .val (.int p1), .val (.int (f1 (p1 &&& (7 : Int32)) p0)), .val (.ref (f2 (f1 (p1 &&& (7 : Int32)) p0) w_STRING w_TRUE w_FALSE w_NULL w_ARRAY w_OBJECT w_NUMBER)), .val (.int j61_0)] [(.int (1 : Int32))]))
            exact oretN X6 hx Bd.notSynchronized (t := .boolean) Bd.returns (by simp) (hb hby at_119) (z' := (1 : Int32)) (by decide) e6 ⟨(congrArg (fun z => some (Value.int z)) (show (1 : Int32) = f0 p0 p1 w_STRING w_TRUE w_FALSE w_NULL w_ARRAY w_OBJECT w_NUMBER from Eq.symm (hf61_0.trans (by unfold f0_61; exact (if_neg hc67).trans ((if_neg hc86).trans ((if_pos hc105).trans (if_pos hc111))))))), N2⟩ (by decide) (by decide)
          · refine OGo.st (fun _ k => XS.icmpYes X6.here hx rfl (pc0 := 111) (pc' := 118) rfl (hb hby at_111) rfl (feq hc111).2 (by decide) (by decide) k) ?_
            show OGo p e below s _ _ _ (T6.setTop (mkF m 118 #[.val (.int p0), .val (.int p1), .val (.int (f1 (p1 &&& (7 : Int32)) p0)), .val (.ref (f2 (f1 (p1 &&& (7 : Int32)) p0) w_STRING w_TRUE w_FALSE w_NULL w_ARRAY w_OBJECT w_NUMBER)), .val (.int j61_0)] []))
            refine OGo.st (fun _ k => XS.iconst X6.here hx rfl (hb hby at_118) k) ?_
            show OGo p e below s _ _ _ (T6.setTop (mkF m 119 #[.val (.int p0), .val (.int p1), .val (.int (f1 (p1 &&& (7 : Int32)) p0)), .val (.ref (f2 (f1 (p1 &&& (7 : Int32)) p0) w_STRING w_TRUE w_FALSE w_NULL w_ARRAY w_OBJECT w_NUMBER)), .val (.int j61_0)] [(.int (0 : Int32))]))
            exact oretN X6 hx Bd.notSynchronized (t := .boolean) Bd.returns (by simp) (hb hby at_119) (z' := (0 : Int32)) (by decide) e6 ⟨(congrArg (fun z => some (Value.int z)) (show (0 : Int32) = f0 p0 p1 w_STRING w_TRUE w_FALSE w_NULL w_ARRAY w_OBJECT w_NUMBER from Eq.symm (hf61_0.trans (by unfold f0_61; exact (if_neg hc67).trans ((if_neg hc86).trans ((if_pos hc105).trans (if_neg hc111))))))), N2⟩ (by decide) (by decide)
        · refine OGo.st (fun _ k => Jvm.RoadKit.acmp (g := (mkF m 105 #[.val (.int p0), .val (.int p1), .val (.int (f1 (p1 &&& (7 : Int32)) p0)), .val (.ref (f2 (f1 (p1 &&& (7 : Int32)) p0) w_STRING w_TRUE w_FALSE w_NULL w_ARRAY w_OBJECT w_NUMBER)), .val (.int j61_0)] [(.ref w_FALSE), (.ref (f2 (f1 (p1 &&& (7 : Int32)) p0) w_STRING w_TRUE w_FALSE w_NULL w_ARRAY w_OBJECT w_NUMBER))])) X6 hx rfl rfl rfl (pc0 := 105) (pc' := 120) (same := false) rfl (hb hby at_105) rfl (decide_eq_false fun q => hc105 (Value.ref.inj q)) (by decide) (by decide) k) ?_
          show OGo p e below s _ _ _ (T6.setTop (mkF m 120 #[.val (.int p0), .val (.int p1), .val (.int (f1 (p1 &&& (7 : Int32)) p0)), .val (.ref (f2 (f1 (p1 &&& (7 : Int32)) p0) w_STRING w_TRUE w_FALSE w_NULL w_ARRAY w_OBJECT w_NUMBER)), .val (.int j61_0)] []))
          refine OGo.st (fun _ k => XS.aloadN X6.here hx rfl (hb hby at_120) rfl rfl k) ?_
          show OGo p e below s _ _ _ (T6.setTop (mkF m 121 #[.val (.int p0), .val (.int p1), .val (.int (f1 (p1 &&& (7 : Int32)) p0)), .val (.ref (f2 (f1 (p1 &&& (7 : Int32)) p0) w_STRING w_TRUE w_FALSE w_NULL w_ARRAY w_OBJECT w_NUMBER)), .val (.int j61_0)] [(.ref (f2 (f1 (p1 &&& (7 : Int32)) p0) w_STRING w_TRUE w_FALSE w_NULL w_ARRAY w_OBJECT w_NUMBER))]))
          obtain ⟨T7, X7, e7, st7⟩ := getS2 X6 hx hZ hown (host := "") (Or.inl (hw _ (List.mem_of_getElem? (i := 16) rfl))) Via.refl e6 S_NULL (g := (mkF m 121 #[.val (.int p0), .val (.int p1), .val (.int (f1 (p1 &&& (7 : Int32)) p0)), .val (.ref (f2 (f1 (p1 &&& (7 : Int32)) p0) w_STRING w_TRUE w_FALSE w_NULL w_ARRAY w_OBJECT w_NUMBER)), .val (.int j61_0)] [(.ref (f2 (f1 (p1 &&& (7 : Int32)) p0) w_STRING w_TRUE w_FALSE w_NULL w_ARRAY w_OBJECT w_NUMBER))])) rfl (hb hby at_121)
          refine OGo.st st7 ?_
          show OGo p e below s _ _ _ (T7.setTop (mkF m 124 #[.val (.int p0), .val (.int p1), .val (.int (f1 (p1 &&& (7 : Int32)) p0)), .val (.ref (f2 (f1 (p1 &&& (7 : Int32)) p0) w_STRING w_TRUE w_FALSE w_NULL w_ARRAY w_OBJECT w_NUMBER)), .val (.int j61_0)] [(.ref w_NULL), (.ref (f2 (f1 (p1 &&& (7 : Int32)) p0) w_STRING w_TRUE w_FALSE w_NULL w_ARRAY w_OBJECT w_NUMBER))]))
          by_cases hc124 : (f2 (f1 (p1 &&& (7 : Int32)) p0) w_STRING w_TRUE w_FALSE w_NULL w_ARRAY w_OBJECT w_NUMBER) = w_NULL
          · refine OGo.st (fun _ k => Jvm.RoadKit.acmp (g := (mkF m 124 #[.val (.int p0), .val (.int p1), .val (.int (f1 (p1 &&& (7 : Int32)) p0)), .val (.ref (f2 (f1 (p1 &&& (7 : Int32)) p0) w_STRING w_TRUE w_FALSE w_NULL w_ARRAY w_OBJECT w_NUMBER)), .val (.int j61_0)] [(.ref w_NULL), (.ref (f2 (f1 (p1 &&& (7 : Int32)) p0) w_STRING w_TRUE w_FALSE w_NULL w_ARRAY w_OBJECT w_NUMBER))])) X7 hx rfl rfl rfl (pc0 := 124) (pc' := 127) (same := true) rfl (hb hby at_124) rfl (decide_eq_true (congrArg Value.ref hc124)) (by decide) (by decide) k) ?_
            show OGo p e below s _ _ _ (T7.setTop (mkF m 127 #[.val (.int p0), .val (.int p1), .val (.int (f1 (p1 &&& (7 : Int32)) p0)), .val (.ref (f2 (f1 (p1 &&& (7 : Int32)) p0) w_STRING w_TRUE w_FALSE w_NULL w_ARRAY w_OBJECT w_NUMBER)), .val (.int j61_0)] []))
            refine OGo.st (fun _ k => XS.iloadN X7.here hx rfl (hb hby at_127) rfl k) ?_
            show OGo p e below s _ _ _ (T7.setTop (mkF m 128 #[.val (.int p0), .val (.int p1), .val (.int (f1 (p1 &&& (7 : Int32)) p0)), .val (.ref (f2 (f1 (p1 &&& (7 : Int32)) p0) w_STRING w_TRUE w_FALSE w_NULL w_ARRAY w_OBJECT w_NUMBER)), .val (.int j61_0)] [(.int (f1 (p1 &&& (7 : Int32)) p0))]))
            refine OGo.st (fun _ k => XS.bipush X7.here hx rfl (hb hby at_128) k) ?_
            show OGo p e below s _ _ _ (T7.setTop (mkF m 130 #[.val (.int p0), .val (.int p1), .val (.int (f1 (p1 &&& (7 : Int32)) p0)), .val (.ref (f2 (f1 (p1 &&& (7 : Int32)) p0) w_STRING w_TRUE w_FALSE w_NULL w_ARRAY w_OBJECT w_NUMBER)), .val (.int j61_0)] [(.int (110 : Int32)), (.int (f1 (p1 &&& (7 : Int32)) p0))]))
            by_cases hc130 : (f1 (p1 &&& (7 : Int32)) p0) = (110 : Int32)
            · refine OGo.st (fun _ k => XS.icmpNo X7.here hx rfl (hb hby at_130) rfl (teq hc130).2 k) ?_
              show OGo p e below s _ _ _ (T7.setTop (mkF m 133 #[.val (.int p0), .val (.int p1), .val (.int (f1 (p1 &&& (7 : Int32)) p0)), .val (.ref (f2 (f1 (p1 &&& (7 : Int32)) p0) w_STRING w_TRUE w_FALSE w_NULL w_ARRAY w_OBJECT w_NUMBER)), .val (.int j61_0)] []))
              refine OGo.st (fun _ k => XS.iconst X7.here hx rfl (hb hby at_133) k) ?_
              show OGo p e below s _ _ _ (T7.setTop (mkF m 134 #[.val (.int p0), .val (.int p1), .val (.int (f1 (p1 &&& (7 : Int32)) p0)), .val (.ref (f2 (f1 (p1 &&& (7 : Int32)) p0) w_STRING w_TRUE w_FALSE w_NULL w_ARRAY w_OBJECT w_NUMBER)), .val (.int j61_0)] [(.int (1 : Int32))]))
              refine OGo.st (fun _ k => XS.goto X7.here hx rfl (pc0 := 134) (pc' := 138) rfl (hb hby at_134) (by decide) (by decide) k) ?_
              show OGo p e below s _ _ _ (T7.setTop (mkF m 138 #[.val (.int p0), .val (.int p1), .val (.int (f1 (p1 &&& (7 : Int32)) p0)), .val (.ref (f2 (f1 (p1 &&& (7 : Int32)) p0) w_STRING w_TRUE w_FALSE w_NULL w_ARRAY w_OBJECT w_NUMBER)), .val (.int j61_0)] [(.int (1 : Int32))]))
              exact oretN X7 hx Bd.notSynchronized (t := .boolean) Bd.returns (by simp) (hb hby at_138) (z' := (1 : Int32)) (by decide) e7 ⟨(congrArg (fun z => some (Value.int z)) (show (1 : Int32) = f0 p0 p1 w_STRING w_TRUE w_FALSE w_NULL w_ARRAY w_OBJECT w_NUMBER from Eq.symm (hf61_0.trans (by unfold f0_61; exact (if_neg hc67).trans ((if_neg hc86).trans ((if_neg hc105).trans ((if_pos hc124).trans (if_pos hc130)))))))), N2⟩ (by decide) (by decide)
            · refine OGo.st (fun _ k => XS.icmpYes X7.here hx rfl (pc0 := 130) (pc' := 137) rfl (hb hby at_130) rfl (feq hc130).2 (by decide) (by decide) k) ?_
              show OGo p e below s _ _ _ (T7.setTop (mkF m 137 #[.val (.int p0), .val (.int p1), .val (.int (f1 (p1 &&& (7 : Int32)) p0)), .val (.ref (f2 (f1 (p1 &&& (7 : Int32)) p0) w_STRING w_TRUE w_FALSE w_NULL w_ARRAY w_OBJECT w_NUMBER)), .val (.int j61_0)] []))
              refine OGo.st (fun _ k => XS.iconst X7.here hx rfl (hb hby at_137) k) ?_
              show OGo p e below s _ _ _ (T7.setTop (mkF m 138 #[.val (.int p0), .val (.int p1), .val (.int (f1 (p1 &&& (7 : Int32)) p0)), .val (.ref (f2 (f1 (p1 &&& (7 : Int32)) p0) w_STRING w_TRUE w_FALSE w_NULL w_ARRAY w_OBJECT w_NUMBER)), .val (.int j61_0)] [(.int (0 : Int32))]))
              exact oretN X7 hx Bd.notSynchronized (t := .boolean) Bd.returns (by simp) (hb hby at_138) (z' := (0 : Int32)) (by decide) e7 ⟨(congrArg (fun z => some (Value.int z)) (show (0 : Int32) = f0 p0 p1 w_STRING w_TRUE w_FALSE w_NULL w_ARRAY w_OBJECT w_NUMBER from Eq.symm (hf61_0.trans (by unfold f0_61; exact (if_neg hc67).trans ((if_neg hc86).trans ((if_neg hc105).trans ((if_pos hc124).trans (if_neg hc130)))))))), N2⟩ (by decide) (by decide)
          · refine OGo.st (fun _ k => Jvm.RoadKit.acmp (g := (mkF m 124 #[.val (.int p0), .val (.int p1), .val (.int (f1 (p1 &&& (7 : Int32)) p0)), .val (.ref (f2 (f1 (p1 &&& (7 : Int32)) p0) w_STRING w_TRUE w_FALSE w_NULL w_ARRAY w_OBJECT w_NUMBER)), .val (.int j61_0)] [(.ref w_NULL), (.ref (f2 (f1 (p1 &&& (7 : Int32)) p0) w_STRING w_TRUE w_FALSE w_NULL w_ARRAY w_OBJECT w_NUMBER))])) X7 hx rfl rfl rfl (pc0 := 124) (pc' := 139) (same := false) rfl (hb hby at_124) rfl (decide_eq_false fun q => hc124 (Value.ref.inj q)) (by decide) (by decide) k) ?_
            show OGo p e below s _ _ _ (T7.setTop (mkF m 139 #[.val (.int p0), .val (.int p1), .val (.int (f1 (p1 &&& (7 : Int32)) p0)), .val (.ref (f2 (f1 (p1 &&& (7 : Int32)) p0) w_STRING w_TRUE w_FALSE w_NULL w_ARRAY w_OBJECT w_NUMBER)), .val (.int j61_0)] []))
            refine OGo.st (fun _ k => XS.aloadN X7.here hx rfl (hb hby at_139) rfl rfl k) ?_
            show OGo p e below s _ _ _ (T7.setTop (mkF m 140 #[.val (.int p0), .val (.int p1), .val (.int (f1 (p1 &&& (7 : Int32)) p0)), .val (.ref (f2 (f1 (p1 &&& (7 : Int32)) p0) w_STRING w_TRUE w_FALSE w_NULL w_ARRAY w_OBJECT w_NUMBER)), .val (.int j61_0)] [(.ref (f2 (f1 (p1 &&& (7 : Int32)) p0) w_STRING w_TRUE w_FALSE w_NULL w_ARRAY w_OBJECT w_NUMBER))]))
            obtain ⟨T8, X8, e8, st8⟩ := getS2 X7 hx hZ hown (host := "") (Or.inl (hw _ (List.mem_of_getElem? (i := 20) rfl))) Via.refl e7 S_ARRAY (g := (mkF m 140 #[.val (.int p0), .val (.int p1), .val (.int (f1 (p1 &&& (7 : Int32)) p0)), .val (.ref (f2 (f1 (p1 &&& (7 : Int32)) p0) w_STRING w_TRUE w_FALSE w_NULL w_ARRAY w_OBJECT w_NUMBER)), .val (.int j61_0)] [(.ref (f2 (f1 (p1 &&& (7 : Int32)) p0) w_STRING w_TRUE w_FALSE w_NULL w_ARRAY w_OBJECT w_NUMBER))])) rfl (hb hby at_140)
            refine OGo.st st8 ?_
            show OGo p e below s _ _ _ (T8.setTop (mkF m 143 #[.val (.int p0), .val (.int p1), .val (.int (f1 (p1 &&& (7 : Int32)) p0)), .val (.ref (f2 (f1 (p1 &&& (7 : Int32)) p0) w_STRING w_TRUE w_FALSE w_NULL w_ARRAY w_OBJECT w_NUMBER)), .val (.int j61_0)] [(.ref w_ARRAY), (.ref (f2 (f1 (p1 &&& (7 : Int32)) p0) w_STRING w_TRUE w_FALSE w_NULL w_ARRAY w_OBJECT w_NUMBER))]))
            by_cases hc143 : (f2 (f1 (p1 &&& (7 : Int32)) p0) w_STRING w_TRUE w_FALSE w_NULL w_ARRAY w_OBJECT w_NUMBER) = w_ARRAY
            · refine OGo.st (fun _ k => Jvm.RoadKit.acmp (g := (mkF m 143 #[.val (.int p0), .val (.int p1), .val (.int (f1 (p1 &&& (7 : Int32)) p0)), .val (.ref (f2 (f1 (p1 &&& (7 : Int32)) p0) w_STRING w_TRUE w_FALSE w_NULL w_ARRAY w_OBJECT w_NUMBER)), .val (.int j61_0)] [(.ref w_ARRAY), (.ref (f2 (f1 (p1 &&& (7 : Int32)) p0) w_STRING w_TRUE w_FALSE w_NULL w_ARRAY w_OBJECT w_NUMBER))])) X8 hx rfl rfl rfl (pc0 := 143) (pc' := 146) (same := true) rfl (hb hby at_143) rfl (decide_eq_true (congrArg Value.ref hc143)) (by decide) (by decide) k) ?_
              show OGo p e below s _ _ _ (T8.setTop (mkF m 146 #[.val (.int p0), .val (.int p1), .val (.int (f1 (p1 &&& (7 : Int32)) p0)), .val (.ref (f2 (f1 (p1 &&& (7 : Int32)) p0) w_STRING w_TRUE w_FALSE w_NULL w_ARRAY w_OBJECT w_NUMBER)), .val (.int j61_0)] []))
              refine OGo.st (fun _ k => XS.iloadN X8.here hx rfl (hb hby at_146) rfl k) ?_
              show OGo p e below s _ _ _ (T8.setTop (mkF m 147 #[.val (.int p0), .val (.int p1), .val (.int (f1 (p1 &&& (7 : Int32)) p0)), .val (.ref (f2 (f1 (p1 &&& (7 : Int32)) p0) w_STRING w_TRUE w_FALSE w_NULL w_ARRAY w_OBJECT w_NUMBER)), .val (.int j61_0)] [(.int (f1 (p1 &&& (7 : Int32)) p0))]))
              refine OGo.st (fun _ k => XS.bipush X8.here hx rfl (hb hby at_147) k) ?_
              show OGo p e below s _ _ _ (T8.setTop (mkF m 149 #[.val (.int p0), .val (.int p1), .val (.int (f1 (p1 &&& (7 : Int32)) p0)), .val (.ref (f2 (f1 (p1 &&& (7 : Int32)) p0) w_STRING w_TRUE w_FALSE w_NULL w_ARRAY w_OBJECT w_NUMBER)), .val (.int j61_0)] [(.int (91 : Int32)), (.int (f1 (p1 &&& (7 : Int32)) p0))]))
              by_cases hc149 : (f1 (p1 &&& (7 : Int32)) p0) = (91 : Int32)
              · refine OGo.st (fun _ k => XS.icmpNo X8.here hx rfl (hb hby at_149) rfl (teq hc149).2 k) ?_
                show OGo p e below s _ _ _ (T8.setTop (mkF m 152 #[.val (.int p0), .val (.int p1), .val (.int (f1 (p1 &&& (7 : Int32)) p0)), .val (.ref (f2 (f1 (p1 &&& (7 : Int32)) p0) w_STRING w_TRUE w_FALSE w_NULL w_ARRAY w_OBJECT w_NUMBER)), .val (.int j61_0)] []))
                refine OGo.st (fun _ k => XS.iconst X8.here hx rfl (hb hby at_152) k) ?_
                show OGo p e below s _ _ _ (T8.setTop (mkF m 153 #[.val (.int p0), .val (.int p1), .val (.int (f1 (p1 &&& (7 : Int32)) p0)), .val (.ref (f2 (f1 (p1 &&& (7 : Int32)) p0) w_STRING w_TRUE w_FALSE w_NULL w_ARRAY w_OBJECT w_NUMBER)), .val (.int j61_0)] [(.int (1 : Int32))]))
                refine OGo.st (fun _ k => XS.goto X8.here hx rfl (pc0 := 153) (pc' := 157) rfl (hb hby at_153) (by decide) (by decide) k) ?_
                show OGo p e below s _ _ _ (T8.setTop (mkF m 157 #[.val (.int p0), .val (.int p1), .val (.int (f1 (p1 &&& (7 : Int32)) p0)), .val (.ref (f2 (f1 (p1 &&& (7 : Int32)) p0) w_STRING w_TRUE w_FALSE w_NULL w_ARRAY w_OBJECT w_NUMBER)), .val (.int j61_0)] [(.int (1 : Int32))]))
                exact oretN X8 hx Bd.notSynchronized (t := .boolean) Bd.returns (by simp) (hb hby at_157) (z' := (1 : Int32)) (by decide) e8 ⟨(congrArg (fun z => some (Value.int z)) (show (1 : Int32) = f0 p0 p1 w_STRING w_TRUE w_FALSE w_NULL w_ARRAY w_OBJECT w_NUMBER from Eq.symm (hf61_0.trans (by unfold f0_61; exact (if_neg hc67).trans ((if_neg hc86).trans ((if_neg hc105).trans ((if_neg hc124).trans ((if_pos hc143).trans (if_pos hc149))))))))), N2⟩ (by decide) (by decide)
              · refine OGo.st (fun _ k => XS.icmpYes X8.here hx rfl (pc0 := 149) (pc' := 156) rfl (hb hby at_149) rfl (feq hc149).2 (by decide) (by decide) k) ?_
                show OGo p e below s _ _ _ (T8.setTop (mkF m 156 #[.val (.int p0), .val (.int p1), .val (.int (f1 (p1 &&& (7 : Int32)) p0)), .val (.ref (f2 (f1 (p1 &&& (7 : Int32)) p0) w_STRING w_TRUE w_FALSE w_NULL w_ARRAY w_OBJECT w_NUMBER)), .val (.int j61_0)] []))
                refine OGo.st (fun _ k => XS.iconst X8.here hx rfl (hb hby at_156) k) ?_
                show OGo p e below s _ _ _ (T8.setTop (mkF m 157 #[.val (.int p0), .val (.int p1), .val (.int (f1 (p1 &&& (7 : Int32)) p0)), .val (.ref (f2 (f1 (p1 &&& (7 : Int32)) p0) w_STRING w_TRUE w_FALSE w_NULL w_ARRAY w_OBJECT w_NUMBER)), .val (.int j61_0)] [(.int (0 : Int32))]))
                exact oretN X8 hx Bd.notSynchronized (t := .boolean) Bd.returns (by simp) (hb hby at_157) (z' := (0 : Int32)) (by decide) e8 ⟨(congrArg (fun z => some (Value.int z)) (show (0 : Int32) = f0 p0 p1 w_STRING w_TRUE w_FALSE w_NULL w_ARRAY w_OBJECT w_NUMBER from Eq.symm (hf61_0.trans (by unfold f0_61; exact (if_neg hc67).trans ((if_neg hc86).trans ((if_neg hc105).trans ((if_neg hc124).trans ((if_pos hc143).trans (if_neg hc149))))))))), N2⟩ (by decide) (by decide)
            · refine OGo.st (fun _ k => Jvm.RoadKit.acmp (g := (mkF m 143 #[.val (.int p0), .val (.int p1), .val (.int (f1 (p1 &&& (7 : Int32)) p0)), .val (.ref (f2 (f1 (p1 &&& (7 : Int32)) p0) w_STRING w_TRUE w_FALSE w_NULL w_ARRAY w_OBJECT w_NUMBER)), .val (.int j61_0)] [(.ref w_ARRAY), (.ref (f2 (f1 (p1 &&& (7 : Int32)) p0) w_STRING w_TRUE w_FALSE w_NULL w_ARRAY w_OBJECT w_NUMBER))])) X8 hx rfl rfl rfl (pc0 := 143) (pc' := 158) (same := false) rfl (hb hby at_143) rfl (decide_eq_false fun q => hc143 (Value.ref.inj q)) (by decide) (by decide) k) ?_
              show OGo p e below s _ _ _ (T8.setTop (mkF m 158 #[.val (.int p0), .val (.int p1), .val (.int (f1 (p1 &&& (7 : Int32)) p0)), .val (.ref (f2 (f1 (p1 &&& (7 : Int32)) p0) w_STRING w_TRUE w_FALSE w_NULL w_ARRAY w_OBJECT w_NUMBER)), .val (.int j61_0)] []))
              refine OGo.st (fun _ k => XS.aloadN X8.here hx rfl (hb hby at_158) rfl rfl k) ?_
              show OGo p e below s _ _ _ (T8.setTop (mkF m 159 #[.val (.int p0), .val (.int p1), .val (.int (f1 (p1 &&& (7 : Int32)) p0)), .val (.ref (f2 (f1 (p1 &&& (7 : Int32)) p0) w_STRING w_TRUE w_FALSE w_NULL w_ARRAY w_OBJECT w_NUMBER)), .val (.int j61_0)] [(.ref (f2 (f1 (p1 &&& (7 : Int32)) p0) w_STRING w_TRUE w_FALSE w_NULL w_ARRAY w_OBJECT w_NUMBER))]))
              obtain ⟨T9, X9, e9, st9⟩ := getS2 X8 hx hZ hown (host := "") (Or.inl (hw _ (List.mem_of_getElem? (i := 24) rfl))) Via.refl e8 S_OBJECT (g := (mkF m 159 #[.val (.int p0), .val (.int p1), .val (.int (f1 (p1 &&& (7 : Int32)) p0)), .val (.ref (f2 (f1 (p1 &&& (7 : Int32)) p0) w_STRING w_TRUE w_FALSE w_NULL w_ARRAY w_OBJECT w_NUMBER)), .val (.int j61_0)] [(.ref (f2 (f1 (p1 &&& (7 : Int32)) p0) w_STRING w_TRUE w_FALSE w_NULL w_ARRAY w_OBJECT w_NUMBER))])) rfl (hb hby at_159)
              refine OGo.st st9 ?_
              show OGo p e below s _ _ _ (T9.setTop (mkF m 162 #[.val (.int p0), .val (.int p1), .val (.int (f1 (p1 &&& (7 : Int32)) p0)), .val (.ref (f2 (f1 (p1 &&& (7 : Int32)) p0) w_STRING w_TRUE w_FALSE w_NULL w_ARRAY w_OBJECT w_NUMBER)), .val (.int j61_0)] [(.ref w_OBJECT), (.ref (f2 (f1 (p1 &&& (7 : Int32)) p0) w_STRING w_TRUE w_FALSE w_NULL w_ARRAY w_OBJECT w_NUMBER))]))
              by_cases hc162 : (f2 (f1 (p1 &&& (7 : Int32)) p0) w_STRING w_TRUE w_FALSE w_NULL w_ARRAY w_OBJECT w_NUMBER) = w_OBJECT
              · refine OGo.st (fun _ k => Jvm.RoadKit.acmp (g := (mkF m 162 #[.val (.int p0), .val (.int p1), .val (.int (f1 (p1 &&& (7 : Int32)) p0)), .val (.ref (f2 (f1 (p1 &&& (7 : Int32)) p0) w_STRING w_TRUE w_FALSE w_NULL w_ARRAY w_OBJECT w_NUMBER)), .val (.int j61_0)] [(.ref w_OBJECT), (.ref (f2 (f1 (p1 &&& (7 : Int32)) p0) w_STRING w_TRUE w_FALSE w_NULL w_ARRAY w_OBJECT w_NUMBER))])) X9 hx rfl rfl rfl (pc0 := 162) (pc' := 165) (same := true) rfl (hb hby at_162) rfl (decide_eq_true (congrArg Value.ref hc162)) (by decide) (by decide) k) ?_
                show OGo p e below s _ _ _ (T9.setTop (mkF m 165 #[.val (.int p0), .val (.int p1), .val (.int (f1 (p1 &&& (7 : Int32)) p0)), .val (.ref (f2 (f1 (p1 &&& (7 : Int32)) p0) w_STRING w_TRUE w_FALSE w_NULL w_ARRAY w_OBJECT w_NUMBER)), .val (.int j61_0)] []))
                refine OGo.st (fun _ k => XS.iloadN X9.here hx rfl (hb hby at_165) rfl k) ?_
                show OGo p e below s _ _ _ (T9.setTop (mkF m 166 #[.val (.int p0), .val (.int p1), .val (.int (f1 (p1 &&& (7 : Int32)) p0)), .val (.ref (f2 (f1 (p1 &&& (7 : Int32)) p0) w_STRING w_TRUE w_FALSE w_NULL w_ARRAY w_OBJECT w_NUMBER)), .val (.int j61_0)] [(.int (f1 (p1 &&& (7 : Int32)) p0))]))
                refine OGo.st (fun _ k => XS.bipush X9.here hx rfl (hb hby at_166) k) ?_
                show OGo p e below s _ _ _ (T9.setTop (mkF m 168 #[.val (.int p0), .val (.int p1), .val (.int (f1 (p1 &&& (7 : Int32)) p0)), .val (.ref (f2 (f1 (p1 &&& (7 : Int32)) p0) w_STRING w_TRUE w_FALSE w_NULL w_ARRAY w_OBJECT w_NUMBER)), .val (.int j61_0)] [(.int (123 : Int32)), (.int (f1 (p1 &&& (7 : Int32)) p0))]))
                by_cases hc168 : (f1 (p1 &&& (7 : Int32)) p0) = (123 : Int32)
                · refine OGo.st (fun _ k => XS.icmpNo X9.here hx rfl (hb hby at_168) rfl (teq hc168).2 k) ?_
                  show OGo p e below s _ _ _ (T9.setTop (mkF m 171 #[.val (.int p0), .val (.int p1), .val (.int (f1 (p1 &&& (7 : Int32)) p0)), .val (.ref (f2 (f1 (p1 &&& (7 : Int32)) p0) w_STRING w_TRUE w_FALSE w_NULL w_ARRAY w_OBJECT w_NUMBER)), .val (.int j61_0)] []))
                  refine OGo.st (fun _ k => XS.iconst X9.here hx rfl (hb hby at_171) k) ?_
                  show OGo p e below s _ _ _ (T9.setTop (mkF m 172 #[.val (.int p0), .val (.int p1), .val (.int (f1 (p1 &&& (7 : Int32)) p0)), .val (.ref (f2 (f1 (p1 &&& (7 : Int32)) p0) w_STRING w_TRUE w_FALSE w_NULL w_ARRAY w_OBJECT w_NUMBER)), .val (.int j61_0)] [(.int (1 : Int32))]))
                  refine OGo.st (fun _ k => XS.goto X9.here hx rfl (pc0 := 172) (pc' := 176) rfl (hb hby at_172) (by decide) (by decide) k) ?_
                  show OGo p e below s _ _ _ (T9.setTop (mkF m 176 #[.val (.int p0), .val (.int p1), .val (.int (f1 (p1 &&& (7 : Int32)) p0)), .val (.ref (f2 (f1 (p1 &&& (7 : Int32)) p0) w_STRING w_TRUE w_FALSE w_NULL w_ARRAY w_OBJECT w_NUMBER)), .val (.int j61_0)] [(.int (1 : Int32))]))
                  exact oretN X9 hx Bd.notSynchronized (t := .boolean) Bd.returns (by simp) (hb hby at_176) (z' := (1 : Int32)) (by decide) e9 ⟨(congrArg (fun z => some (Value.int z)) (show (1 : Int32) = f0 p0 p1 w_STRING w_TRUE w_FALSE w_NULL w_ARRAY w_OBJECT w_NUMBER from Eq.symm (hf61_0.trans (by unfold f0_61; exact (if_neg hc67).trans ((if_neg hc86).trans ((if_neg hc105).trans ((if_neg hc124).trans ((if_neg hc143).trans ((if_pos hc162).trans (if_pos hc168)))))))))), N2⟩ (by decide) (by decide)
                · refine OGo.st (fun _ k => XS.icmpYes X9.here hx rfl (pc0 := 168) (pc' := 175) rfl (hb hby at_168) rfl (feq hc168).2 (by decide) (by decide) k) ?_
                  show OGo p e below s _ _ _ (T9.setTop (mkF m 175 #[.val (.int p0), .val (.int p1), .val (.int (f1 (p1 &&& (7 : Int32)) p0)), .val (.ref (f2 (f1 (p1 &&& (7 : Int32)) p0) w_STRING w_TRUE w_FALSE w_NULL w_ARRAY w_OBJECT w_NUMBER)), .val (.int j61_0)] []))
                  refine OGo.st (fun _ k => XS.iconst X9.here hx rfl (hb hby at_175) k) ?_
                  show OGo p e below s _ _ _ (T9.setTop (mkF m 176 #[.val (.int p0), .val (.int p1), .val (.int (f1 (p1 &&& (7 : Int32)) p0)), .val (.ref (f2 (f1 (p1 &&& (7 : Int32)) p0) w_STRING w_TRUE w_FALSE w_NULL w_ARRAY w_OBJECT w_NUMBER)), .val (.int j61_0)] [(.int (0 : Int32))]))
                  exact oretN X9 hx Bd.notSynchronized (t := .boolean) Bd.returns (by simp) (hb hby at_176) (z' := (0 : Int32)) (by decide) e9 ⟨(congrArg (fun z => some (Value.int z)) (show (0 : Int32) = f0 p0 p1 w_STRING w_TRUE w_FALSE w_NULL w_ARRAY w_OBJECT w_NUMBER from Eq.symm (hf61_0.trans (by unfold f0_61; exact (if_neg hc67).trans ((if_neg hc86).trans ((if_neg hc105).trans ((if_neg hc124).trans ((if_neg hc143).trans ((if_pos hc162).trans (if_neg hc168)))))))))), N2⟩ (by decide) (by decide)
              · refine OGo.st (fun _ k => Jvm.RoadKit.acmp (g := (mkF m 162 #[.val (.int p0), .val (.int p1), .val (.int (f1 (p1 &&& (7 : Int32)) p0)), .val (.ref (f2 (f1 (p1 &&& (7 : Int32)) p0) w_STRING w_TRUE w_FALSE w_NULL w_ARRAY w_OBJECT w_NUMBER)), .val (.int j61_0)] [(.ref w_OBJECT), (.ref (f2 (f1 (p1 &&& (7 : Int32)) p0) w_STRING w_TRUE w_FALSE w_NULL w_ARRAY w_OBJECT w_NUMBER))])) X9 hx rfl rfl rfl (pc0 := 162) (pc' := 177) (same := false) rfl (hb hby at_162) rfl (decide_eq_false fun q => hc162 (Value.ref.inj q)) (by decide) (by decide) k) ?_
                show OGo p e below s _ _ _ (T9.setTop (mkF m 177 #[.val (.int p0), .val (.int p1), .val (.int (f1 (p1 &&& (7 : Int32)) p0)), .val (.ref (f2 (f1 (p1 &&& (7 : Int32)) p0) w_STRING w_TRUE w_FALSE w_NULL w_ARRAY w_OBJECT w_NUMBER)), .val (.int j61_0)] []))
                refine OGo.st (fun _ k => XS.aloadN X9.here hx rfl (hb hby at_177) rfl rfl k) ?_
                show OGo p e below s _ _ _ (T9.setTop (mkF m 178 #[.val (.int p0), .val (.int p1), .val (.int (f1 (p1 &&& (7 : Int32)) p0)), .val (.ref (f2 (f1 (p1 &&& (7 : Int32)) p0) w_STRING w_TRUE w_FALSE w_NULL w_ARRAY w_OBJECT w_NUMBER)), .val (.int j61_0)] [(.ref (f2 (f1 (p1 &&& (7 : Int32)) p0) w_STRING w_TRUE w_FALSE w_NULL w_ARRAY w_OBJECT w_NUMBER))]))
                obtain ⟨T10, X10, e10, st10⟩ := getS2 X9 hx hZ hown (host := "") (Or.inl (hw _ (List.mem_of_getElem? (i := 27) rfl))) Via.refl e9 S_NUMBER (g := (mkF m 178 #[.val (.int p0), .val (.int p1), .val (.int (f1 (p1 &&& (7 : Int32)) p0)), .val (.ref (f2 (f1 (p1 &&& (7 : Int32)) p0) w_STRING w_TRUE w_FALSE w_NULL w_ARRAY w_OBJECT w_NUMBER)), .val (.int j61_0)] [(.ref (f2 (f1 (p1 &&& (7 : Int32)) p0) w_STRING w_TRUE w_FALSE w_NULL w_ARRAY w_OBJECT w_NUMBER))])) rfl (hb hby at_178)
                refine OGo.st st10 ?_
                show OGo p e below s _ _ _ (T10.setTop (mkF m 181 #[.val (.int p0), .val (.int p1), .val (.int (f1 (p1 &&& (7 : Int32)) p0)), .val (.ref (f2 (f1 (p1 &&& (7 : Int32)) p0) w_STRING w_TRUE w_FALSE w_NULL w_ARRAY w_OBJECT w_NUMBER)), .val (.int j61_0)] [(.ref w_NUMBER), (.ref (f2 (f1 (p1 &&& (7 : Int32)) p0) w_STRING w_TRUE w_FALSE w_NULL w_ARRAY w_OBJECT w_NUMBER))]))
                by_cases hc181 : (f2 (f1 (p1 &&& (7 : Int32)) p0) w_STRING w_TRUE w_FALSE w_NULL w_ARRAY w_OBJECT w_NUMBER) = w_NUMBER
                · refine OGo.st (fun _ k => Jvm.RoadKit.acmp (g := (mkF m 181 #[.val (.int p0), .val (.int p1), .val (.int (f1 (p1 &&& (7 : Int32)) p0)), .val (.ref (f2 (f1 (p1 &&& (7 : Int32)) p0) w_STRING w_TRUE w_FALSE w_NULL w_ARRAY w_OBJECT w_NUMBER)), .val (.int j61_0)] [(.ref w_NUMBER), (.ref (f2 (f1 (p1 &&& (7 : Int32)) p0) w_STRING w_TRUE w_FALSE w_NULL w_ARRAY w_OBJECT w_NUMBER))])) X10 hx rfl rfl rfl (pc0 := 181) (pc' := 184) (same := true) rfl (hb hby at_181) rfl (decide_eq_true (congrArg Value.ref hc181)) (by decide) (by decide) k) ?_
                  show OGo p e below s _ _ _ (T10.setTop (mkF m 184 #[.val (.int p0), .val (.int p1), .val (.int (f1 (p1 &&& (7 : Int32)) p0)), .val (.ref (f2 (f1 (p1 &&& (7 : Int32)) p0) w_STRING w_TRUE w_FALSE w_NULL w_ARRAY w_OBJECT w_NUMBER)), .val (.int j61_0)] []))
                  refine OGo.st (fun _ k => XS.iload X10.here hx rfl (hb hby at_184) rfl k) ?_
                  show OGo p e below s _ _ _ (T10.setTop (mkF m 186 #[.val (.int p0), .val (.int p1), .val (.int (f1 (p1 &&& (7 : Int32)) p0)), .val (.ref (f2 (f1 (p1 &&& (7 : Int32)) p0) w_STRING w_TRUE w_FALSE w_NULL w_ARRAY w_OBJECT w_NUMBER)), .val (.int j61_0)] [(.int j61_0)]))
                  by_cases hc186 : j61_0 = (0 : Int32)
                  · refine OGo.st (fun _ k => XS.ifNo X10.here hx rfl (hb hby at_186) rfl ((if0 _ _).trans (teq hc186).2) k) ?_
                    show OGo p e below s _ _ _ (T10.setTop (mkF m 189 #[.val (.int p0), .val (.int p1), .val (.int (f1 (p1 &&& (7 : Int32)) p0)), .val (.ref (f2 (f1 (p1 &&& (7 : Int32)) p0) w_STRING w_TRUE w_FALSE w_NULL w_ARRAY w_OBJECT w_NUMBER)), .val (.int j61_0)] []))
                    refine OGo.st (fun _ k => XS.iconst X10.here hx rfl (hb hby at_189) k) ?_
                    show OGo p e below s _ _ _ (T10.setTop (mkF m 190 #[.val (.int p0), .val (.int p1), .val (.int (f1 (p1 &&& (7 : Int32)) p0)), .val (.ref (f2 (f1 (p1 &&& (7 : Int32)) p0) w_STRING w_TRUE w_FALSE w_NULL w_ARRAY w_OBJECT w_NUMBER)), .val (.int j61_0)] [(.int (1 : Int32))]))
                    refine OGo.st (fun _ k => XS.goto X10.here hx rfl (pc0 := 190) (pc' := 194) rfl (hb hby at_190) (by decide) (by decide) k) ?_
                    show OGo p e below s _ _ _ (T10.setTop (mkF m 194 #[.val (.int p0), .val (.int p1), .val (.int (f1 (p1 &&& (7 : Int32)) p0)), .val (.ref (f2 (f1 (p1 &&& (7 : Int32)) p0) w_STRING w_TRUE w_FALSE w_NULL w_ARRAY w_OBJECT w_NUMBER)), .val (.int j61_0)] [(.int (1 : Int32))]))
                    exact oretN X10 hx Bd.notSynchronized (t := .boolean) Bd.returns (by simp) (hb hby at_194) (z' := (1 : Int32)) (by decide) e10 ⟨(congrArg (fun z => some (Value.int z)) (show (1 : Int32) = f0 p0 p1 w_STRING w_TRUE w_FALSE w_NULL w_ARRAY w_OBJECT w_NUMBER from Eq.symm (hf61_0.trans (by unfold f0_61; exact (if_neg hc67).trans ((if_neg hc86).trans ((if_neg hc105).trans ((if_neg hc124).trans ((if_neg hc143).trans ((if_neg hc162).trans ((if_pos hc181).trans (if_pos hc186))))))))))), N2⟩ (by decide) (by decide)
                  · refine OGo.st (fun _ k => XS.ifYes X10.here hx rfl (pc0 := 186) (pc' := 193) rfl (hb hby at_186) rfl ((if0 _ _).trans (feq hc186).2) (by decide) (by decide) k) ?_
                    show OGo p e below s _ _ _ (T10.setTop (mkF m 193 #[.val (.int p0), .val (.int p1), .val (.int (f1 (p1 &&& (7 : Int32)) p0)), .val (.ref (f2 (f1 (p1 &&& (7 : Int32)) p0) w_STRING w_TRUE w_FALSE w_NULL w_ARRAY w_OBJECT w_NUMBER)), .val (.int j61_0)] []))
                    refine OGo.st (fun _ k => XS.iconst X10.here hx rfl (hb hby at_193) k) ?_
                    show OGo p e below s _ _ _ (T10.setTop (mkF m 194 #[.val (.int p0), .val (.int p1), .val (.int (f1 (p1 &&& (7 : Int32)) p0)), .val (.ref (f2 (f1 (p1 &&& (7 : Int32)) p0) w_STRING w_TRUE w_FALSE w_NULL w_ARRAY w_OBJECT w_NUMBER)), .val (.int j61_0)] [(.int (0 : Int32))]))
                    exact oretN X10 hx Bd.notSynchronized (t := .boolean) Bd.returns (by simp) (hb hby at_194) (z' := (0 : Int32)) (by decide) e10 ⟨(congrArg (fun z => some (Value.int z)) (show (0 : Int32) = f0 p0 p1 w_STRING w_TRUE w_FALSE w_NULL w_ARRAY w_OBJECT w_NUMBER from Eq.symm (hf61_0.trans (by unfold f0_61; exact (if_neg hc67).trans ((if_neg hc86).trans ((if_neg hc105).trans ((if_neg hc124).trans ((if_neg hc143).trans ((if_neg hc162).trans ((if_pos hc181).trans (if_neg hc186))))))))))), N2⟩ (by decide) (by decide)
                · refine OGo.st (fun _ k => Jvm.RoadKit.acmp (g := (mkF m 181 #[.val (.int p0), .val (.int p1), .val (.int (f1 (p1 &&& (7 : Int32)) p0)), .val (.ref (f2 (f1 (p1 &&& (7 : Int32)) p0) w_STRING w_TRUE w_FALSE w_NULL w_ARRAY w_OBJECT w_NUMBER)), .val (.int j61_0)] [(.ref w_NUMBER), (.ref (f2 (f1 (p1 &&& (7 : Int32)) p0) w_STRING w_TRUE w_FALSE w_NULL w_ARRAY w_OBJECT w_NUMBER))])) X10 hx rfl rfl rfl (pc0 := 181) (pc' := 195) (same := false) rfl (hb hby at_181) rfl (decide_eq_false fun q => hc181 (Value.ref.inj q)) (by decide) (by decide) k) ?_
                  show OGo p e below s _ _ _ (T10.setTop (mkF m 195 #[.val (.int p0), .val (.int p1), .val (.int (f1 (p1 &&& (7 : Int32)) p0)), .val (.ref (f2 (f1 (p1 &&& (7 : Int32)) p0) w_STRING w_TRUE w_FALSE w_NULL w_ARRAY w_OBJECT w_NUMBER)), .val (.int j61_0)] []))
                  refine OGo.st (fun _ k => XS.iconst X10.here hx rfl (hb hby at_195) k) ?_
                  show OGo p e below s _ _ _ (T10.setTop (mkF m 196 #[.val (.int p0), .val (.int p1), .val (.int (f1 (p1 &&& (7 : Int32)) p0)), .val (.ref (f2 (f1 (p1 &&& (7 : Int32)) p0) w_STRING w_TRUE w_FALSE w_NULL w_ARRAY w_OBJECT w_NUMBER)), .val (.int j61_0)] [(.int (0 : Int32))]))
                  exact oretN X10 hx Bd.notSynchronized (t := .boolean) Bd.returns (by simp) (hb hby at_196) (z' := (0 : Int32)) (by decide) e10 ⟨(congrArg (fun z => some (Value.int z)) (show (0 : Int32) = f0 p0 p1 w_STRING w_TRUE w_FALSE w_NULL w_ARRAY w_OBJECT w_NUMBER from Eq.symm (hf61_0.trans (by unfold f0_61; exact (if_neg hc67).trans ((if_neg hc86).trans ((if_neg hc105).trans ((if_neg hc124).trans ((if_neg hc143).trans ((if_neg hc162).trans (if_neg hc181)))))))))), N2⟩ (by decide) (by decide)
  by_cases hc23 : (f1 (p1 &&& (7 : Int32)) p0) = (34 : Int32)
  · refine OGo.st (fun _ k => XS.icmpYes X2.here hx rfl (pc0 := 23) (pc' := 56) rfl (hb hby at_23) rfl (teq hc23).1 (by decide) (by decide) k) ?_
    show OGo p e below s _ _ _ (T2.setTop (mkF m 56 #[.val (.int p0), .val (.int p1), .val (.int (f1 (p1 &&& (7 : Int32)) p0)), .val (.ref (f2 (f1 (p1 &&& (7 : Int32)) p0) w_STRING w_TRUE w_FALSE w_NULL w_ARRAY w_OBJECT w_NUMBER)), .unset] []))
    refine OGo.st (fun _ k => XS.iconst X2.here hx rfl (hb hby at_56) k) ?_
    show OGo p e below s _ _ _ (T2.setTop (mkF m 57 #[.val (.int p0), .val (.int p1), .val (.int (f1 (p1 &&& (7 : Int32)) p0)), .val (.ref (f2 (f1 (p1 &&& (7 : Int32)) p0) w_STRING w_TRUE w_FALSE w_NULL w_ARRAY w_OBJECT w_NUMBER)), .unset] [(.int (1 : Int32))]))
    refine OGo.st (fun _ k => XS.goto X2.here hx rfl (pc0 := 57) (pc' := 61) rfl (hb hby at_57) (by decide) (by decide) k) ?_
    show OGo p e below s _ _ _ (T2.setTop (mkF m 61 #[.val (.int p0), .val (.int p1), .val (.int (f1 (p1 &&& (7 : Int32)) p0)), .val (.ref (f2 (f1 (p1 &&& (7 : Int32)) p0) w_STRING w_TRUE w_FALSE w_NULL w_ARRAY w_OBJECT w_NUMBER)), .unset] [(.int (1 : Int32))]))
    exact hj61 (1 : Int32) (by unfold f0; exact if_pos hc23)
  · refine OGo.st (fun _ k => XS.icmpNo X2.here hx rfl (hb hby at_23) rfl (feq hc23).1 k) ?_
    show OGo p e below s _ _ _ (T2.setTop (mkF m 26 #[.val (.int p0), .val (.int p1), .val (.int (f1 (p1 &&& (7 : Int32)) p0)), .val (.ref (f2 (f1 (p1 &&& (7 : Int32)) p0) w_STRING w_TRUE w_FALSE w_NULL w_ARRAY w_OBJECT w_NUMBER)), .unset] []))
    refine OGo.st (fun _ k => XS.iloadN X2.here hx rfl (hb hby at_26) rfl k) ?_
    show OGo p e below s _ _ _ (T2.setTop (mkF m 27 #[.val (.int p0), .val (.int p1), .val (.int (f1 (p1 &&& (7 : Int32)) p0)), .val (.ref (f2 (f1 (p1 &&& (7 : Int32)) p0) w_STRING w_TRUE w_FALSE w_NULL w_ARRAY w_OBJECT w_NUMBER)), .unset] [(.int (f1 (p1 &&& (7 : Int32)) p0))]))
    refine OGo.st (fun _ k => XS.bipush X2.here hx rfl (hb hby at_27) k) ?_
    show OGo p e below s _ _ _ (T2.setTop (mkF m 29 #[.val (.int p0), .val (.int p1), .val (.int (f1 (p1 &&& (7 : Int32)) p0)), .val (.ref (f2 (f1 (p1 &&& (7 : Int32)) p0) w_STRING w_TRUE w_FALSE w_NULL w_ARRAY w_OBJECT w_NUMBER)), .unset] [(.int (116 : Int32)), (.int (f1 (p1 &&& (7 : Int32)) p0))]))
    by_cases hc29 : (f1 (p1 &&& (7 : Int32)) p0) = (116 : Int32)
    · refine OGo.st (fun _ k => XS.icmpYes X2.here hx rfl (pc0 := 29) (pc' := 56) rfl (hb hby at_29) rfl (teq hc29).1 (by decide) (by decide) k) ?_
      show OGo p e below s _ _ _ (T2.setTop (mkF m 56 #[.val (.int p0), .val (.int p1), .val (.int (f1 (p1 &&& (7 : Int32)) p0)), .val (.ref (f2 (f1 (p1 &&& (7 : Int32)) p0) w_STRING w_TRUE w_FALSE w_NULL w_ARRAY w_OBJECT w_NUMBER)), .unset] []))
      refine OGo.st (fun _ k => XS.iconst X2.here hx rfl (hb hby at_56) k) ?_
      show OGo p e below s _ _ _ (T2.setTop (mkF m 57 #[.val (.int p0), .val (.int p1), .val (.int (f1 (p1 &&& (7 : Int32)) p0)), .val (.ref (f2 (f1 (p1 &&& (7 : Int32)) p0) w_STRING w_TRUE w_FALSE w_NULL w_ARRAY w_OBJECT w_NUMBER)), .unset] [(.int (1 : Int32))]))
      refine OGo.st (fun _ k => XS.goto X2.here hx rfl (pc0 := 57) (pc' := 61) rfl (hb hby at_57) (by decide) (by decide) k) ?_
      show OGo p e below s _ _ _ (T2.setTop (mkF m 61 #[.val (.int p0), .val (.int p1), .val (.int (f1 (p1 &&& (7 : Int32)) p0)), .val (.ref (f2 (f1 (p1 &&& (7 : Int32)) p0) w_STRING w_TRUE w_FALSE w_NULL w_ARRAY w_OBJECT w_NUMBER)), .unset] [(.int (1 : Int32))]))
      exact hj61 (1 : Int32) (by unfold f0; exact (if_neg hc23).trans (if_pos hc29))
    · refine OGo.st (fun _ k => XS.icmpNo X2.here hx rfl (hb hby at_29) rfl (feq hc29).1 k) ?_
      show OGo p e below s _ _ _ (T2.setTop (mkF m 32 #[.val (.int p0), .val (.int p1), .val (.int (f1 (p1 &&& (7 : Int32)) p0)), .val (.ref (f2 (f1 (p1 &&& (7 : Int32)) p0) w_STRING w_TRUE w_FALSE w_NULL w_ARRAY w_OBJECT w_NUMBER)), .unset] []))
      refine OGo.st (fun _ k => XS.iloadN X2.here hx rfl (hb hby at_32) rfl k) ?_
      show OGo p e below s _ _ _ (T2.setTop (mkF m 33 #[.val (.int p0), .val (.int p1), .val (.int (f1 (p1 &&& (7 : Int32)) p0)), .val (.ref (f2 (f1 (p1 &&& (7 : Int32)) p0) w_STRING w_TRUE w_FALSE w_NULL w_ARRAY w_OBJECT w_NUMBER)), .unset] [(.int (f1 (p1 &&& (7 : Int32)) p0))]))
      refine OGo.st (fun _ k => XS.bipush X2.here hx rfl (hb hby at_33) k) ?_
      show OGo p e below s _ _ _ (T2.setTop (mkF m 35 #[.val (.int p0), .val (.int p1), .val (.int (f1 (p1 &&& (7 : Int32)) p0)), .val (.ref (f2 (f1 (p1 &&& (7 : Int32)) p0) w_STRING w_TRUE w_FALSE w_NULL w_ARRAY w_OBJECT w_NUMBER)), .unset] [(.int (102 : Int32)), (.int (f1 (p1 &&& (7 : Int32)) p0))]))
      by_cases hc35 : (f1 (p1 &&& (7 : Int32)) p0) = (102 : Int32)
      · refine OGo.st (fun _ k => XS.icmpYes X2.here hx rfl (pc0 := 35) (pc' := 56) rfl (hb hby at_35) rfl (teq hc35).1 (by decide) (by decide) k) ?_
        show OGo p e below s _ _ _ (T2.setTop (mkF m 56 #[.val (.int p0), .val (.int p1), .val (.int (f1 (p1 &&& (7 : Int32)) p0)), .val (.ref (f2 (f1 (p1 &&& (7 : Int32)) p0) w_STRING w_TRUE w_FALSE w_NULL w_ARRAY w_OBJECT w_NUMBER)), .unset] []))
        refine OGo.st (fun _ k => XS.iconst X2.here hx rfl (hb hby at_56) k) ?_
        show OGo p e below s _ _ _ (T2.setTop (mkF m 57 #[.val (.int p0), .val (.int p1), .val (.int (f1 (p1 &&& (7 : Int32)) p0)), .val (.ref (f2 (f1 (p1 &&& (7 : Int32)) p0) w_STRING w_TRUE w_FALSE w_NULL w_ARRAY w_OBJECT w_NUMBER)), .unset] [(.int (1 : Int32))]))
        refine OGo.st (fun _ k => XS.goto X2.here hx rfl (pc0 := 57) (pc' := 61) rfl (hb hby at_57) (by decide) (by decide) k) ?_
        show OGo p e below s _ _ _ (T2.setTop (mkF m 61 #[.val (.int p0), .val (.int p1), .val (.int (f1 (p1 &&& (7 : Int32)) p0)), .val (.ref (f2 (f1 (p1 &&& (7 : Int32)) p0) w_STRING w_TRUE w_FALSE w_NULL w_ARRAY w_OBJECT w_NUMBER)), .unset] [(.int (1 : Int32))]))
        exact hj61 (1 : Int32) (by unfold f0; exact (if_neg hc23).trans ((if_neg hc29).trans (if_pos hc35)))
      · refine OGo.st (fun _ k => XS.icmpNo X2.here hx rfl (hb hby at_35) rfl (feq hc35).1 k) ?_
        show OGo p e below s _ _ _ (T2.setTop (mkF m 38 #[.val (.int p0), .val (.int p1), .val (.int (f1 (p1 &&& (7 : Int32)) p0)), .val (.ref (f2 (f1 (p1 &&& (7 : Int32)) p0) w_STRING w_TRUE w_FALSE w_NULL w_ARRAY w_OBJECT w_NUMBER)), .unset] []))
        refine OGo.st (fun _ k => XS.iloadN X2.here hx rfl (hb hby at_38) rfl k) ?_
        show OGo p e below s _ _ _ (T2.setTop (mkF m 39 #[.val (.int p0), .val (.int p1), .val (.int (f1 (p1 &&& (7 : Int32)) p0)), .val (.ref (f2 (f1 (p1 &&& (7 : Int32)) p0) w_STRING w_TRUE w_FALSE w_NULL w_ARRAY w_OBJECT w_NUMBER)), .unset] [(.int (f1 (p1 &&& (7 : Int32)) p0))]))
        refine OGo.st (fun _ k => XS.bipush X2.here hx rfl (hb hby at_39) k) ?_
        show OGo p e below s _ _ _ (T2.setTop (mkF m 41 #[.val (.int p0), .val (.int p1), .val (.int (f1 (p1 &&& (7 : Int32)) p0)), .val (.ref (f2 (f1 (p1 &&& (7 : Int32)) p0) w_STRING w_TRUE w_FALSE w_NULL w_ARRAY w_OBJECT w_NUMBER)), .unset] [(.int (110 : Int32)), (.int (f1 (p1 &&& (7 : Int32)) p0))]))
        by_cases hc41 : (f1 (p1 &&& (7 : Int32)) p0) = (110 : Int32)
        · refine OGo.st (fun _ k => XS.icmpYes X2.here hx rfl (pc0 := 41) (pc' := 56) rfl (hb hby at_41) rfl (teq hc41).1 (by decide) (by decide) k) ?_
          show OGo p e below s _ _ _ (T2.setTop (mkF m 56 #[.val (.int p0), .val (.int p1), .val (.int (f1 (p1 &&& (7 : Int32)) p0)), .val (.ref (f2 (f1 (p1 &&& (7 : Int32)) p0) w_STRING w_TRUE w_FALSE w_NULL w_ARRAY w_OBJECT w_NUMBER)), .unset] []))
          refine OGo.st (fun _ k => XS.iconst X2.here hx rfl (hb hby at_56) k) ?_
          show OGo p e below s _ _ _ (T2.setTop (mkF m 57 #[.val (.int p0), .val (.int p1), .val (.int (f1 (p1 &&& (7 : Int32)) p0)), .val (.ref (f2 (f1 (p1 &&& (7 : Int32)) p0) w_STRING w_TRUE w_FALSE w_NULL w_ARRAY w_OBJECT w_NUMBER)), .unset] [(.int (1 : Int32))]))
          refine OGo.st (fun _ k => XS.goto X2.here hx rfl (pc0 := 57) (pc' := 61) rfl (hb hby at_57) (by decide) (by decide) k) ?_
          show OGo p e below s _ _ _ (T2.setTop (mkF m 61 #[.val (.int p0), .val (.int p1), .val (.int (f1 (p1 &&& (7 : Int32)) p0)), .val (.ref (f2 (f1 (p1 &&& (7 : Int32)) p0) w_STRING w_TRUE w_FALSE w_NULL w_ARRAY w_OBJECT w_NUMBER)), .unset] [(.int (1 : Int32))]))
          exact hj61 (1 : Int32) (by unfold f0; exact (if_neg hc23).trans ((if_neg hc29).trans ((if_neg hc35).trans (if_pos hc41))))
        · refine OGo.st (fun _ k => XS.icmpNo X2.here hx rfl (hb hby at_41) rfl (feq hc41).1 k) ?_
          show OGo p e below s _ _ _ (T2.setTop (mkF m 44 #[.val (.int p0), .val (.int p1), .val (.int (f1 (p1 &&& (7 : Int32)) p0)), .val (.ref (f2 (f1 (p1 &&& (7 : Int32)) p0) w_STRING w_TRUE w_FALSE w_NULL w_ARRAY w_OBJECT w_NUMBER)), .unset] []))
          refine OGo.st (fun _ k => XS.iloadN X2.here hx rfl (hb hby at_44) rfl k) ?_
          show OGo p e below s _ _ _ (T2.setTop (mkF m 45 #[.val (.int p0), .val (.int p1), .val (.int (f1 (p1 &&& (7 : Int32)) p0)), .val (.ref (f2 (f1 (p1 &&& (7 : Int32)) p0) w_STRING w_TRUE w_FALSE w_NULL w_ARRAY w_OBJECT w_NUMBER)), .unset] [(.int (f1 (p1 &&& (7 : Int32)) p0))]))
          refine OGo.st (fun _ k => XS.bipush X2.here hx rfl (hb hby at_45) k) ?_
          show OGo p e below s _ _ _ (T2.setTop (mkF m 47 #[.val (.int p0), .val (.int p1), .val (.int (f1 (p1 &&& (7 : Int32)) p0)), .val (.ref (f2 (f1 (p1 &&& (7 : Int32)) p0) w_STRING w_TRUE w_FALSE w_NULL w_ARRAY w_OBJECT w_NUMBER)), .unset] [(.int (91 : Int32)), (.int (f1 (p1 &&& (7 : Int32)) p0))]))
          by_cases hc47 : (f1 (p1 &&& (7 : Int32)) p0) = (91 : Int32)
          · refine OGo.st (fun _ k => XS.icmpYes X2.here hx rfl (pc0 := 47) (pc' := 56) rfl (hb hby at_47) rfl (teq hc47).1 (by decide) (by decide) k) ?_
            show OGo p e below s _ _ _ (T2.setTop (mkF m 56 #[.val (.int p0), .val (.int p1), .val (.int (f1 (p1 &&& (7 : Int32)) p0)), .val (.ref (f2 (f1 (p1 &&& (7 : Int32)) p0) w_STRING w_TRUE w_FALSE w_NULL w_ARRAY w_OBJECT w_NUMBER)), .unset] []))
            refine OGo.st (fun _ k => XS.iconst X2.here hx rfl (hb hby at_56) k) ?_
            show OGo p e below s _ _ _ (T2.setTop (mkF m 57 #[.val (.int p0), .val (.int p1), .val (.int (f1 (p1 &&& (7 : Int32)) p0)), .val (.ref (f2 (f1 (p1 &&& (7 : Int32)) p0) w_STRING w_TRUE w_FALSE w_NULL w_ARRAY w_OBJECT w_NUMBER)), .unset] [(.int (1 : Int32))]))
            refine OGo.st (fun _ k => XS.goto X2.here hx rfl (pc0 := 57) (pc' := 61) rfl (hb hby at_57) (by decide) (by decide) k) ?_
            show OGo p e below s _ _ _ (T2.setTop (mkF m 61 #[.val (.int p0), .val (.int p1), .val (.int (f1 (p1 &&& (7 : Int32)) p0)), .val (.ref (f2 (f1 (p1 &&& (7 : Int32)) p0) w_STRING w_TRUE w_FALSE w_NULL w_ARRAY w_OBJECT w_NUMBER)), .unset] [(.int (1 : Int32))]))
            exact hj61 (1 : Int32) (by unfold f0; exact (if_neg hc23).trans ((if_neg hc29).trans ((if_neg hc35).trans ((if_neg hc41).trans (if_pos hc47)))))
          · refine OGo.st (fun _ k => XS.icmpNo X2.here hx rfl (hb hby at_47) rfl (feq hc47).1 k) ?_
            show OGo p e below s _ _ _ (T2.setTop (mkF m 50 #[.val (.int p0), .val (.int p1), .val (.int (f1 (p1 &&& (7 : Int32)) p0)), .val (.ref (f2 (f1 (p1 &&& (7 : Int32)) p0) w_STRING w_TRUE w_FALSE w_NULL w_ARRAY w_OBJECT w_NUMBER)), .unset] []))
            refine OGo.st (fun _ k => XS.iloadN X2.here hx rfl (hb hby at_50) rfl k) ?_
            show OGo p e below s _ _ _ (T2.setTop (mkF m 51 #[.val (.int p0), .val (.int p1), .val (.int (f1 (p1 &&& (7 : Int32)) p0)), .val (.ref (f2 (f1 (p1 &&& (7 : Int32)) p0) w_STRING w_TRUE w_FALSE w_NULL w_ARRAY w_OBJECT w_NUMBER)), .unset] [(.int (f1 (p1 &&& (7 : Int32)) p0))]))
            refine OGo.st (fun _ k => XS.bipush X2.here hx rfl (hb hby at_51) k) ?_
            show OGo p e below s _ _ _ (T2.setTop (mkF m 53 #[.val (.int p0), .val (.int p1), .val (.int (f1 (p1 &&& (7 : Int32)) p0)), .val (.ref (f2 (f1 (p1 &&& (7 : Int32)) p0) w_STRING w_TRUE w_FALSE w_NULL w_ARRAY w_OBJECT w_NUMBER)), .unset] [(.int (123 : Int32)), (.int (f1 (p1 &&& (7 : Int32)) p0))]))
            by_cases hc53 : (f1 (p1 &&& (7 : Int32)) p0) = (123 : Int32)
            · refine OGo.st (fun _ k => XS.icmpNo X2.here hx rfl (hb hby at_53) rfl (teq hc53).2 k) ?_
              show OGo p e below s _ _ _ (T2.setTop (mkF m 56 #[.val (.int p0), .val (.int p1), .val (.int (f1 (p1 &&& (7 : Int32)) p0)), .val (.ref (f2 (f1 (p1 &&& (7 : Int32)) p0) w_STRING w_TRUE w_FALSE w_NULL w_ARRAY w_OBJECT w_NUMBER)), .unset] []))
              refine OGo.st (fun _ k => XS.iconst X2.here hx rfl (hb hby at_56) k) ?_
              show OGo p e below s _ _ _ (T2.setTop (mkF m 57 #[.val (.int p0), .val (.int p1), .val (.int (f1 (p1 &&& (7 : Int32)) p0)), .val (.ref (f2 (f1 (p1 &&& (7 : Int32)) p0) w_STRING w_TRUE w_FALSE w_NULL w_ARRAY w_OBJECT w_NUMBER)), .unset] [(.int (1 : Int32))]))
              refine OGo.st (fun _ k => XS.goto X2.here hx rfl (pc0 := 57) (pc' := 61) rfl (hb hby at_57) (by decide) (by decide) k) ?_
              show OGo p e below s _ _ _ (T2.setTop (mkF m 61 #[.val (.int p0), .val (.int p1), .val (.int (f1 (p1 &&& (7 : Int32)) p0)), .val (.ref (f2 (f1 (p1 &&& (7 : Int32)) p0) w_STRING w_TRUE w_FALSE w_NULL w_ARRAY w_OBJECT w_NUMBER)), .unset] [(.int (1 : Int32))]))
              exact hj61 (1 : Int32) (by unfold f0; exact (if_neg hc23).trans ((if_neg hc29).trans ((if_neg hc35).trans ((if_neg hc41).trans ((if_neg hc47).trans (if_pos hc53))))))
            · refine OGo.st (fun _ k => XS.icmpYes X2.here hx rfl (pc0 := 53) (pc' := 60) rfl (hb hby at_53) rfl (feq hc53).2 (by decide) (by decide) k) ?_
              show OGo p e below s _ _ _ (T2.setTop (mkF m 60 #[.val (.int p0), .val (.int p1), .val (.int (f1 (p1 &&& (7 : Int32)) p0)), .val (.ref (f2 (f1 (p1 &&& (7 : Int32)) p0) w_STRING w_TRUE w_FALSE w_NULL w_ARRAY w_OBJECT w_NUMBER)), .unset] []))
              refine OGo.st (fun _ k => XS.iconst X2.here hx rfl (hb hby at_60) k) ?_
              show OGo p e below s _ _ _ (T2.setTop (mkF m 61 #[.val (.int p0), .val (.int p1), .val (.int (f1 (p1 &&& (7 : Int32)) p0)), .val (.ref (f2 (f1 (p1 &&& (7 : Int32)) p0) w_STRING w_TRUE w_FALSE w_NULL w_ARRAY w_OBJECT w_NUMBER)), .unset] [(.int (0 : Int32))]))
              exact hj61 (0 : Int32) (by unfold f0; exact (if_neg hc23).trans ((if_neg hc29).trans ((if_neg hc35).trans ((if_neg hc41).trans ((if_neg hc47).trans (if_neg hc53))))))
theorem own_plain (p0 p1 : Int32) (w0 w1 w2 w3 w4 w5 w6 : Addr) (h01 : w0 ≠ w1) (h02 : w0 ≠ w2) (h03 : w0 ≠ w3) (h04 : w0 ≠ w4) (h05 : w0 ≠ w5) (h06 : w0 ≠ w6) (h12 : w1 ≠ w2) (h13 : w1 ≠ w3) (h14 : w1 ≠ w4) (h15 : w1 ≠ w5) (h16 : w1 ≠ w6) (h23 : w2 ≠ w3) (h24 : w2 ≠ w4) (h25 : w2 ≠ w5) (h26 : w2 ≠ w6) (h34 : w3 ≠ w4) (h35 : w3 ≠ w5) (h36 : w3 ≠ w6) (h45 : w4 ≠ w5) (h46 : w4 ≠ w6) (h56 : w5 ≠ w6) : f0 p0 p1 w0 w1 w2 w3 w4 w5 w6 = 1 := by
  unfold f0 f0_61
  generalize f1 (p1 &&& (7 : Int32)) p0 = c
  have s01 := Ne.symm h01; have s02 := Ne.symm h02; have s03 := Ne.symm h03; have s04 := Ne.symm h04; have s05 := Ne.symm h05; have s06 := Ne.symm h06; have s12 := Ne.symm h12; have s13 := Ne.symm h13; have s14 := Ne.symm h14; have s15 := Ne.symm h15; have s16 := Ne.symm h16; have s23 := Ne.symm h23; have s24 := Ne.symm h24; have s25 := Ne.symm h25; have s26 := Ne.symm h26; have s34 := Ne.symm h34; have s35 := Ne.symm h35; have s36 := Ne.symm h36; have s45 := Ne.symm h45; have s46 := Ne.symm h46; have s56 := Ne.symm h56
  by_cases c1 : c = (34 : Int32)
  · simp [c1, f2]
  by_cases c2 : c = (116 : Int32)
  · simp [c2, f2, *]
  by_cases c3 : c = (102 : Int32)
  · simp [c3, f2, *]
  by_cases c4 : c = (110 : Int32)
  · simp [c4, f2, *]
  by_cases c5 : c = (91 : Int32)
  · simp [c5, f2, *]
  by_cases c6 : c = (123 : Int32)
  · simp [c6, f2, *]
  simp [c1, c2, c3, c4, c5, c6, f2, *]
set_option maxRecDepth 65536 in
set_option maxHeartbeats 40000000 in
theorem comes_1 {Post : Tables → Env → Array Value → State → Outcome → State → Prop} (hpost : ∀ tb e args s v u, (limb_1_1.after args s (.returned v) u = true ∧ limb_1_2.after args s (.returned v) u = true ∧ True) → FrameEnd s (.returned v) u (Jvm.fieldLocs frame_1_writes args s ++ Jvm.arrayLocs frame_1_arrays args s ++ Jvm.staticLocs frame_1_statics s) 0 0 → Post tb e args s (.returned v) u) :
    ArmFor flags0 classFile x code maxLocals ret World_1 tables_1 room_1 Calls_1 rest_1 Pre_1 Post := by
  intro l hfl _ _ p e ha hc hk s m args below hf hA hF happ hP
  obtain ⟨hcalls, hrest, hpre⟩ := hP
  obtain ⟨-, -, -, hnamed, -, -, -, hat⟩ := (Spec.applies_iff hf).mp happ
  obtain ⟨hg, hn⟩ := and_e (Cond.before_iff.mp (show (Jvm.Cond.and given_1 narrow_1).before args s = true from hpre))
  obtain ⟨gv1, gv2⟩ := and_e hg
  obtain ⟨gv3, gv4⟩ := and_e gv2
  obtain ⟨w0, w1, rfl⟩ : ∃ w0 w1 : Value, args = #[w0, w1] := by
    have hs : args.size = 2 := by simpa [Cond.value, given_1] using gv1
    obtain ⟨L⟩ := args
    match L, hs with
    | [w0, w1], _ => exact ⟨w0, w1, rfl⟩
  have hw := fun d (hd : d ∈ tables_1) => atoms_spec (ws := Jvm.Cond.code x code maxLocals ret :: tables_1) hat d (List.mem_cons_of_mem _ hd)
  have hfit : Fit s := fun {y c} hc i hi => by
    obtain ⟨ha, rfl⟩ := Array.getElem?_eq_some_iff.mp hc
    have q := List.all_eq_true.mp ((Array.all_eq_true_iff_forall_mem.mp hF) _ (Array.getElem_mem ha)) i (List.mem_range.mpr hi)
    simpa [Array.getElem?_eq_getElem hi] using q
  obtain ⟨i0, ei0⟩ := is_v gv3
  obtain rfl : w0 = (.int i0) := Option.some.inj ei0
  obtain ⟨i1, ei1⟩ := is_v gv4
  obtain rfl : w1 = (.int i1) := Option.some.inj ei1
  obtain ⟨nv1, nv2⟩ := and_e hn
  obtain ⟨nv3, nv4⟩ := and_e nv2
  obtain ⟨nv5, nv6⟩ := and_e nv4
  obtain ⟨nv7, nv8⟩ := and_e nv6
  obtain ⟨nv9, nv10⟩ := and_e nv8
  obtain ⟨nv11, nv12⟩ := and_e nv10
  obtain ⟨nv13, nv14⟩ := and_e nv12
  obtain ⟨nv15, nv16⟩ := and_e nv14
  obtain ⟨nv17, nv18⟩ := and_e nv16
  obtain ⟨nv19, nv20⟩ := and_e nv18
  obtain ⟨nv21, nv22⟩ := and_e nv20
  obtain ⟨nv23, nv24⟩ := and_e nv22
  obtain ⟨nv25, nv26⟩ := and_e nv24
  obtain ⟨w_NULL, ev_NULL⟩ := exa_v nv1
  have S_NULL : Sta s s.heap "com/example/evbind/evbind/JsonSyntax$Kind" "NULL" "Lcom/example/evbind/evbind/JsonSyntax$Kind;" (.ref w_NULL) := Sta.start ev_NULL (Or.inr ⟨(hw _ (List.mem_of_getElem? (i := 6) rfl)), (hw _ (List.mem_of_getElem? (i := 9) rfl))⟩)
  have E_NULL : Exa s s.heap w_NULL "com/example/evbind/evbind/JsonSyntax$Kind" := Exa.start ev_NULL nv1
  obtain ⟨w_STRING, ev_STRING⟩ := exa_v nv3
  have S_STRING : Sta s s.heap "com/example/evbind/evbind/JsonSyntax$Kind" "STRING" "Lcom/example/evbind/evbind/JsonSyntax$Kind;" (.ref w_STRING) := Sta.start ev_STRING (Or.inr ⟨(hw _ (List.mem_of_getElem? (i := 6) rfl)), (hw _ (List.mem_of_getElem? (i := 11) rfl))⟩)
  have E_STRING : Exa s s.heap w_STRING "com/example/evbind/evbind/JsonSyntax$Kind" := Exa.start ev_STRING nv3
  obtain ⟨w_TRUE, ev_TRUE⟩ := exa_v nv9
  have S_TRUE : Sta s s.heap "com/example/evbind/evbind/JsonSyntax$Kind" "TRUE" "Lcom/example/evbind/evbind/JsonSyntax$Kind;" (.ref w_TRUE) := Sta.start ev_TRUE (Or.inr ⟨(hw _ (List.mem_of_getElem? (i := 6) rfl)), (hw _ (List.mem_of_getElem? (i := 13) rfl))⟩)
  have E_TRUE : Exa s s.heap w_TRUE "com/example/evbind/evbind/JsonSyntax$Kind" := Exa.start ev_TRUE nv9
  obtain ⟨w_FALSE, ev_FALSE⟩ := exa_v nv13
  have S_FALSE : Sta s s.heap "com/example/evbind/evbind/JsonSyntax$Kind" "FALSE" "Lcom/example/evbind/evbind/JsonSyntax$Kind;" (.ref w_FALSE) := Sta.start ev_FALSE (Or.inr ⟨(hw _ (List.mem_of_getElem? (i := 6) rfl)), (hw _ (List.mem_of_getElem? (i := 15) rfl))⟩)
  have E_FALSE : Exa s s.heap w_FALSE "com/example/evbind/evbind/JsonSyntax$Kind" := Exa.start ev_FALSE nv13
  obtain ⟨w_ARRAY, ev_ARRAY⟩ := exa_v nv17
  have S_ARRAY : Sta s s.heap "com/example/evbind/evbind/JsonSyntax$Kind" "ARRAY" "Lcom/example/evbind/evbind/JsonSyntax$Kind;" (.ref w_ARRAY) := Sta.start ev_ARRAY (Or.inr ⟨(hw _ (List.mem_of_getElem? (i := 6) rfl)), (hw _ (List.mem_of_getElem? (i := 19) rfl))⟩)
  have E_ARRAY : Exa s s.heap w_ARRAY "com/example/evbind/evbind/JsonSyntax$Kind" := Exa.start ev_ARRAY nv17
  obtain ⟨w_OBJECT, ev_OBJECT⟩ := exa_v nv21
  have S_OBJECT : Sta s s.heap "com/example/evbind/evbind/JsonSyntax$Kind" "OBJECT" "Lcom/example/evbind/evbind/JsonSyntax$Kind;" (.ref w_OBJECT) := Sta.start ev_OBJECT (Or.inr ⟨(hw _ (List.mem_of_getElem? (i := 6) rfl)), (hw _ (List.mem_of_getElem? (i := 23) rfl))⟩)
  have E_OBJECT : Exa s s.heap w_OBJECT "com/example/evbind/evbind/JsonSyntax$Kind" := Exa.start ev_OBJECT nv21
  obtain ⟨w_NUMBER, ev_NUMBER⟩ := exa_v nv25
  have S_NUMBER : Sta s s.heap "com/example/evbind/evbind/JsonSyntax$Kind" "NUMBER" "Lcom/example/evbind/evbind/JsonSyntax$Kind;" (.ref w_NUMBER) := Sta.start ev_NUMBER (Or.inr ⟨(hw _ (List.mem_of_getElem? (i := 6) rfl)), (hw _ (List.mem_of_getElem? (i := 26) rfl))⟩)
  have E_NUMBER : Exa s s.heap w_NUMBER "com/example/evbind/evbind/JsonSyntax$Kind" := Exa.start ev_NUMBER nv25
  have O_NULL_ordinal : Fld s s.heap w_NULL "java/lang/Enum" "ordinal" "I" (.int (4 : Int32)) := ofld_eq nv5 ev_NULL
  have O_STRING_ordinal : Fld s s.heap w_STRING "java/lang/Enum" "ordinal" "I" (.int (0 : Int32)) := ofld_eq nv7 ev_STRING
  have O_TRUE_ordinal : Fld s s.heap w_TRUE "java/lang/Enum" "ordinal" "I" (.int (2 : Int32)) := ofld_eq nv11 ev_TRUE
  have O_FALSE_ordinal : Fld s s.heap w_FALSE "java/lang/Enum" "ordinal" "I" (.int (3 : Int32)) := ofld_eq nv15 ev_FALSE
  have O_ARRAY_ordinal : Fld s s.heap w_ARRAY "java/lang/Enum" "ordinal" "I" (.int (5 : Int32)) := ofld_eq nv19 ev_ARRAY
  have O_OBJECT_ordinal : Fld s s.heap w_OBJECT "java/lang/Enum" "ordinal" "I" (.int (6 : Int32)) := ofld_eq nv23 ev_OBJECT
  have O_NUMBER_ordinal : Fld s s.heap w_NUMBER "java/lang/Enum" "ordinal" "I" (.int (1 : Int32)) := ofld_eq nv26 ev_NUMBER
  have ne_STRING_TRUE : w_STRING ≠ w_TRUE := O_STRING_ordinal.ne O_TRUE_ordinal (by decide)
  have ne_STRING_FALSE : w_STRING ≠ w_FALSE := O_STRING_ordinal.ne O_FALSE_ordinal (by decide)
  have ne_STRING_NULL : w_STRING ≠ w_NULL := O_STRING_ordinal.ne O_NULL_ordinal (by decide)
  have ne_STRING_ARRAY : w_STRING ≠ w_ARRAY := O_STRING_ordinal.ne O_ARRAY_ordinal (by decide)
  have ne_STRING_OBJECT : w_STRING ≠ w_OBJECT := O_STRING_ordinal.ne O_OBJECT_ordinal (by decide)
  have ne_STRING_NUMBER : w_STRING ≠ w_NUMBER := O_STRING_ordinal.ne O_NUMBER_ordinal (by decide)
  have ne_TRUE_FALSE : w_TRUE ≠ w_FALSE := O_TRUE_ordinal.ne O_FALSE_ordinal (by decide)
  have ne_TRUE_NULL : w_TRUE ≠ w_NULL := O_TRUE_ordinal.ne O_NULL_ordinal (by decide)
  have ne_TRUE_ARRAY : w_TRUE ≠ w_ARRAY := O_TRUE_ordinal.ne O_ARRAY_ordinal (by decide)
  have ne_TRUE_OBJECT : w_TRUE ≠ w_OBJECT := O_TRUE_ordinal.ne O_OBJECT_ordinal (by decide)
  have ne_TRUE_NUMBER : w_TRUE ≠ w_NUMBER := O_TRUE_ordinal.ne O_NUMBER_ordinal (by decide)
  have ne_FALSE_NULL : w_FALSE ≠ w_NULL := O_FALSE_ordinal.ne O_NULL_ordinal (by decide)
  have ne_FALSE_ARRAY : w_FALSE ≠ w_ARRAY := O_FALSE_ordinal.ne O_ARRAY_ordinal (by decide)
  have ne_FALSE_OBJECT : w_FALSE ≠ w_OBJECT := O_FALSE_ordinal.ne O_OBJECT_ordinal (by decide)
  have ne_FALSE_NUMBER : w_FALSE ≠ w_NUMBER := O_FALSE_ordinal.ne O_NUMBER_ordinal (by decide)
  have ne_NULL_ARRAY : w_NULL ≠ w_ARRAY := O_NULL_ordinal.ne O_ARRAY_ordinal (by decide)
  have ne_NULL_OBJECT : w_NULL ≠ w_OBJECT := O_NULL_ordinal.ne O_OBJECT_ordinal (by decide)
  have ne_NULL_NUMBER : w_NULL ≠ w_NUMBER := O_NULL_ordinal.ne O_NUMBER_ordinal (by decide)
  have ne_ARRAY_OBJECT : w_ARRAY ≠ w_OBJECT := O_ARRAY_ordinal.ne O_OBJECT_ordinal (by decide)
  have ne_ARRAY_NUMBER : w_ARRAY ≠ w_NUMBER := O_ARRAY_ordinal.ne O_NUMBER_ordinal (by decide)
  have ne_OBJECT_NUMBER : w_OBJECT ≠ w_NUMBER := O_OBJECT_ordinal.ne O_NUMBER_ordinal (by decide)
  have hpl := own_plain i0 i1 w_STRING w_TRUE w_FALSE w_NULL w_ARRAY w_OBJECT w_NUMBER ne_STRING_TRUE ne_STRING_FALSE ne_STRING_NULL ne_STRING_ARRAY ne_STRING_OBJECT ne_STRING_NUMBER ne_TRUE_FALSE ne_TRUE_NULL ne_TRUE_ARRAY ne_TRUE_OBJECT ne_TRUE_NUMBER ne_FALSE_NULL ne_FALSE_ARRAY ne_FALSE_OBJECT ne_FALSE_NUMBER ne_NULL_ARRAY ne_NULL_OBJECT ne_NULL_NUMBER ne_ARRAY_OBJECT ne_ARRAY_NUMBER ne_OBJECT_NUMBER
  obtain ⟨n, o, h1, h2, h3, _, L, rfl, ⟨rfl, N⟩, hq⟩ := rm0 l s _ hw tables_1 i0 i1 w_STRING w_TRUE w_FALSE w_NULL w_ARRAY w_OBJECT w_NUMBER s.heap s.heap.size (Nat.le_refl _) S_STRING S_TRUE S_FALSE S_NULL S_ARRAY S_OBJECT S_NUMBER p e ha hc hk s m _ below hf ((Spec.applies_iff_loose hf).mp happ).1 ⟨rfl, State.Warmed39.refl s, rfl⟩ trivial
  refine ⟨n, _, h1, h2, h3, hpost _ _ _ _ _ _ ⟨Cond.after_iff.mpr rfl, Cond.after_iff.mpr (eq_i res_at (Term.int_eval (1)) (congrArg Value.int hpl)), trivial⟩ ⟨hq.1, hq.2.1, (hq.2.2.sift fun y hy => Or.inr (N y hy)).mono (by decide) (by decide)⟩⟩
theorem main_1_1 : Claimed_1_1 := comes_1 fun _ _ _ _ _ _ h hF => ⟨h.1, hF⟩
theorem main_1_2 : Claimed_1_2 := comes_1 fun _ _ _ _ _ _ h hF => ⟨h.2.1, hF⟩
end Jvm.Pilot.@@N@@
namespace Jvm.Pilot.@@N@@
open Jvm Jvm.ClassFile Sem Op Lib Jvm.Free Jvm.Stand Jvm.Pilot.@@N@@.Jvm.D
/-! MADE BY PROGRAM (witnessworld.py) out of the Statement's table words and the real class files: 12 classes; the members and pool entries that the words name. The judged class is class 1, her method 2. -/
namespace start1
open Jvm.ClassFile
def u (s : String) : CpInfo := .utf8 (stringToUtf16 s)
/-- a pool by its gaps: so many unusable entries, then the entry; so many at the end -/
def gap : Nat → List CpInfo → List CpInfo
  | 0, r => r
  | n + 1, r => .unusable :: gap n r
def poolList (es : List (Nat × CpInfo)) (last : Nat) : List CpInfo := es.foldr (fun e r => gap e.1 (e.2 :: r)) (gap last [])
def pool (es : List (Nat × CpInfo)) (last : Nat) : Array CpInfo := ⟨poolList es last⟩
def fileOf (pool : Array CpInfo) (this : Nat) (attrs : Array Attribute := #[]) (ms : Array MethodInfo := #[]) (fl : Nat := 33) (sup : Nat := 0) (ifs : Array Nat := #[]) (fds : Array FieldInfo := #[]) : ClassFile where
  minorVersion := 0
  majorVersion := 65
  constantPool := pool
  accessFlags := fl
  thisClass := this
  superClass := sup
  interfaces := ifs
  fields := fds
  methods := ms
  attributes := attrs
def plain (name : String) (sup : Option ClassId) : Class where
  name := name
  kind := .ordinary
  loader := none
  accessFlags := 33
  super := sup
  interfaces := #[]
  cf := none
  fields := #[]
  methods := #[]
  instanceTypes := #[]
  staticTypes := #[]
  resolved := #[]
  callSites := []
  init := .initialized
  statics := none
  mirror := none

def pool0 : Array CpInfo := pool [(5, u "<init>"), (0, u "()V"), (1, .class_ 10), (1, u "java/lang/Object")] 113

def k0m0 : Method := { name := "<init>", desc := "()V", sig := { parameters := [], returnType := none }, accessFlags := 1, code := none }
/-- java/lang/Object -/
def k0 : Class := { plain "java/lang/Object" none with
  accessFlags := 33
  interfaces := #[]
  cf := some (fileOf pool0 8 #[] #[{ accessFlags := 1, nameIndex := 5, descriptorIndex := 6, attributes := #[] }] 33 0 #[] #[])
  fields := #[]
  methods := #[k0m0]
  instanceTypes := #[]
  staticTypes := #[]
  resolved := Array.replicate 124 none
  statics := none }

def pool1 : Array CpInfo := pool [(2, .class_ 4), (1, u "java/lang/Object"), (0, u "<init>"), (0, u "()V"), (0, .methodref 8 9), (0, .class_ 10), (0, .nameAndType 11 12), (0, u "com/example/evbind/evbind/KindOfPinLaw"), (0, u "pick"), (0, u "(II)I"), (0, .methodref 14 15), (0, .class_ 16), (0, .nameAndType 17 18), (0, u "com/example/evbind/evbind/JsonSyntax$Kind"), (0, u "of"), (0, u "(I)Lcom/example/evbind/evbind/JsonSyntax$Kind;"), (0, .fieldref 14 20), (0, .nameAndType 21 22), (0, u "STRING"), (0, u "Lcom/example/evbind/evbind/JsonSyntax$Kind;"), (0, .fieldref 14 24), (0, .nameAndType 25 22), (0, u "TRUE"), (0, .fieldref 14 27), (0, .nameAndType 28 22), (0, u "FALSE"), (0, .fieldref 14 30), (0, .nameAndType 31 22), (0, u "NULL"), (0, .fieldref 14 33), (0, .nameAndType 34 22), (0, u "ARRAY"), (0, .fieldref 14 36), (0, .nameAndType 37 22), (0, u "OBJECT"), (0, .fieldref 14 39), (0, .nameAndType 40 22), (0, u "NUMBER"), (3, u "law"), (0, u "(II)Z")] 6

def k1m0 : Method := { name := "<init>", desc := "()V", sig := { parameters := [], returnType := none }, accessFlags := 2, code := none }
def k1c1 : Code := { maxStack := 2, maxLocals := 2, code := method_2_code, exceptionTable := #[], attributes := #[] }
def k1m1 : Method := { name := "pick", desc := "(II)I", sig := { parameters := [.int, .int], returnType := some .int }, accessFlags := 10, code := some k1c1 }
def k1c2 : Code := { maxStack := 2, maxLocals := 5, code := code, exceptionTable := #[], attributes := #[] }
def k1m2 : Method := { name := "law", desc := "(II)Z", sig := { parameters := [.int, .int], returnType := some .boolean }, accessFlags := 9, code := some k1c2 }
/-- com/example/evbind/evbind/KindOfPinLaw -/
def k1 : Class := { plain "com/example/evbind/evbind/KindOfPinLaw" (some 0) with
  accessFlags := 49
  interfaces := #[]
  cf := some (fileOf pool1 8 #[] #[{ accessFlags := 2, nameIndex := 5, descriptorIndex := 6, attributes := #[] }, { accessFlags := 10, nameIndex := 11, descriptorIndex := 12, attributes := #[] }, { accessFlags := 9, nameIndex := 44, descriptorIndex := 45, attributes := #[] }] 49 2 #[] #[])
  fields := #[]
  methods := #[k1m0, k1m1, k1m2]
  instanceTypes := #[]
  staticTypes := #[]
  resolved := Array.replicate 52 none
  statics := none }

def pool2 : Array CpInfo := pool [(1, .class_ 2), (0, u "java/lang/constant/Constable"), (0, .class_ 4), (0, u "java/lang/Object")] 6

/-- java/lang/constant/Constable -/
def k2 : Class := { plain "java/lang/constant/Constable" (some 0) with
  accessFlags := 1537
  interfaces := #[]
  cf := some (fileOf pool2 1 #[] #[] 1537 3 #[] #[])
  fields := #[]
  methods := #[]
  instanceTypes := #[]
  staticTypes := #[]
  resolved := Array.replicate 11 none
  statics := none }

def pool3 : Array CpInfo := pool [(1, .class_ 2), (0, u "java/lang/Comparable"), (0, .class_ 4), (0, u "java/lang/Object")] 7

/-- java/lang/Comparable -/
def k3 : Class := { plain "java/lang/Comparable" (some 0) with
  accessFlags := 1537
  interfaces := #[]
  cf := some (fileOf pool3 1 #[] #[] 1537 3 #[] #[])
  fields := #[]
  methods := #[]
  instanceTypes := #[]
  staticTypes := #[]
  resolved := Array.replicate 12 none
  statics := none }

def pool4 : Array CpInfo := pool [(1, .class_ 2), (0, u "java/io/Serializable"), (0, .class_ 4), (0, u "java/lang/Object")] 2

/-- java/io/Serializable -/
def k4 : Class := { plain "java/io/Serializable" (some 0) with
  accessFlags := 1537
  interfaces := #[]
  cf := some (fileOf pool4 1 #[] #[] 1537 3 #[] #[])
  fields := #[]
  methods := #[]
  instanceTypes := #[]
  staticTypes := #[]
  resolved := Array.replicate 7 none
  statics := none }

def pool5 : Array CpInfo := pool [(2, .class_ 4), (1, u "java/lang/Enum"), (0, u "name"), (0, u "Ljava/lang/String;"), (2, u "ordinal"), (0, u "I"), (1, .class_ 14), (1, u "java/lang/Object"), (4, u "hash"), (86, .class_ 108), (1, u "java/lang/Enum$EnumDesc"), (2, .class_ 112), (0, u "java/lang/constant/Constable"), (0, .class_ 114), (0, u "java/lang/Comparable"), (0, .class_ 116), (0, u "java/io/Serializable")] 87

/-- java/lang/Enum -/
def k5 : Class := { plain "java/lang/Enum" (some 0) with
  accessFlags := 1057
  interfaces := #[2, 3, 4]
  cf := some (fileOf pool5 2 #[.nestMembers #[106]] #[] 1057 12 #[111, 113, 115] #[{ accessFlags := 18, nameIndex := 5, descriptorIndex := 6, attributes := #[] }, { accessFlags := 18, nameIndex := 9, descriptorIndex := 10, attributes := #[] }, { accessFlags := 2, nameIndex := 19, descriptorIndex := 10, attributes := #[] }])
  fields := #[{ name := "name", type := (.object "java/lang/String"), accessFlags := 18, slot := 0, constantValue := 0 }, { name := "ordinal", type := .int, accessFlags := 18, slot := 1, constantValue := 0 }, { name := "hash", type := .int, accessFlags := 2, slot := 2, constantValue := 0 }]
  methods := #[]
  instanceTypes := #[(.object "java/lang/String"), .int, .int]
  staticTypes := #[]
  resolved := Array.replicate 204 none
  statics := none }

def pool6 : Array CpInfo := pool [(1, .class_ 2), (0, u "com/example/evbind/evbind/JsonSyntax$Kind"), (0, .fieldref 1 4), (0, .nameAndType 5 6), (0, u "STRING"), (0, u "Lcom/example/evbind/evbind/JsonSyntax$Kind;"), (0, .fieldref 1 8), (0, .nameAndType 9 6), (0, u "NUMBER"), (0, .fieldref 1 11), (0, .nameAndType 12 6), (0, u "TRUE"), (0, .fieldref 1 14), (0, .nameAndType 15 6), (0, u "FALSE"), (0, .fieldref 1 17), (0, .nameAndType 18 6), (0, u "NULL"), (0, .fieldref 1 20), (0, .nameAndType 21 6), (0, u "ARRAY"), (0, .fieldref 1 23), (0, .nameAndType 24 6), (0, u "OBJECT"), (2, u "$VALUES"), (0, u "[Lcom/example/evbind/evbind/JsonSyntax$Kind;"), (6, .class_ 37), (1, u "java/lang/Enum"), (25, u "of"), (0, u "(I)Lcom/example/evbind/evbind/JsonSyntax$Kind;"), (6, .class_ 72), (0, u "com/example/evbind/evbind/JsonSyntax")] 2

def k6c0 : Code := { maxStack := 1, maxLocals := 1, code := prog_26_method_4_code, exceptionTable := #[], attributes := #[] }
def k6m0 : Method := { name := "of", desc := "(I)Lcom/example/evbind/evbind/JsonSyntax$Kind;", sig := { parameters := [.int], returnType := some (.object "com/example/evbind/evbind/JsonSyntax$Kind") }, accessFlags := 8, code := some k6c0 }
/-- com/example/evbind/evbind/JsonSyntax$Kind -/
def k6 : Class := { plain "com/example/evbind/evbind/JsonSyntax$Kind" (some 5) with
  accessFlags := 16432
  interfaces := #[]
  cf := some (fileOf pool6 1 #[.nestHost 71] #[{ accessFlags := 8, nameIndex := 63, descriptorIndex := 64, attributes := #[] }] 16432 35 #[] #[{ accessFlags := 16409, nameIndex := 5, descriptorIndex := 6, attributes := #[] }, { accessFlags := 16409, nameIndex := 9, descriptorIndex := 6, attributes := #[] }, { accessFlags := 16409, nameIndex := 12, descriptorIndex := 6, attributes := #[] }, { accessFlags := 16409, nameIndex := 15, descriptorIndex := 6, attributes := #[] }, { accessFlags := 16409, nameIndex := 18, descriptorIndex := 6, attributes := #[] }, { accessFlags := 16409, nameIndex := 21, descriptorIndex := 6, attributes := #[] }, { accessFlags := 16409, nameIndex := 24, descriptorIndex := 6, attributes := #[] }, { accessFlags := 4122, nameIndex := 27, descriptorIndex := 28, attributes := #[] }])
  fields := #[{ name := "STRING", type := (.object "com/example/evbind/evbind/JsonSyntax$Kind"), accessFlags := 16409, slot := 0, constantValue := 0 }, { name := "NUMBER", type := (.object "com/example/evbind/evbind/JsonSyntax$Kind"), accessFlags := 16409, slot := 1, constantValue := 0 }, { name := "TRUE", type := (.object "com/example/evbind/evbind/JsonSyntax$Kind"), accessFlags := 16409, slot := 2, constantValue := 0 }, { name := "FALSE", type := (.object "com/example/evbind/evbind/JsonSyntax$Kind"), accessFlags := 16409, slot := 3, constantValue := 0 }, { name := "NULL", type := (.object "com/example/evbind/evbind/JsonSyntax$Kind"), accessFlags := 16409, slot := 4, constantValue := 0 }, { name := "ARRAY", type := (.object "com/example/evbind/evbind/JsonSyntax$Kind"), accessFlags := 16409, slot := 5, constantValue := 0 }, { name := "OBJECT", type := (.object "com/example/evbind/evbind/JsonSyntax$Kind"), accessFlags := 16409, slot := 6, constantValue := 0 }, { name := "$VALUES", type := (.array (.object "com/example/evbind/evbind/JsonSyntax$Kind")), accessFlags := 4122, slot := 7, constantValue := 0 }]
  methods := #[k6m0]
  instanceTypes := #[(.object "java/lang/String"), .int, .int]
  staticTypes := #[(.object "com/example/evbind/evbind/JsonSyntax$Kind"), (.object "com/example/evbind/evbind/JsonSyntax$Kind"), (.object "com/example/evbind/evbind/JsonSyntax$Kind"), (.object "com/example/evbind/evbind/JsonSyntax$Kind"), (.object "com/example/evbind/evbind/JsonSyntax$Kind"), (.object "com/example/evbind/evbind/JsonSyntax$Kind"), (.object "com/example/evbind/evbind/JsonSyntax$Kind"), (.array (.object "com/example/evbind/evbind/JsonSyntax$Kind"))]
  resolved := Array.replicate 75 none
  statics := some 0 }

def pool7 : Array CpInfo := pool [(1, u "java/lang/Cloneable"), (0, .class_ 1), (0, u "java/lang/Object"), (0, .class_ 3)] 3

/-- java/lang/Cloneable -/
def k7 : Class := { plain "java/lang/Cloneable" (some 0) with
  accessFlags := 1537
  interfaces := #[]
  cf := some (fileOf pool7 2 #[] #[] 1537 4 #[] #[])
  fields := #[]
  methods := #[]
  instanceTypes := #[]
  staticTypes := #[]
  resolved := Array.replicate 8 none
  statics := none }

/-- the primitive byte -/
def k8 : Class := { plain "byte" none with kind := .primitive 'B', accessFlags := 0x411 }
/-- [B -/
def k9 : Class := { plain "[B" (some 0) with kind := .array 8 .byte, interfaces := #[7, 4], accessFlags := 1041 }

/-- the primitive int -/
def k10 : Class := { plain "int" none with kind := .primitive 'I', accessFlags := 0x411 }
/-- [I -/
def k11 : Class := { plain "[I" (some 0) with kind := .array 10 .int, interfaces := #[7, 4], accessFlags := 1041 }

def heap : Heap := #[{ cls := 6, slots := #[.ref 1, .ref 2, .ref 3, .ref 4, .ref 5, .ref 6, .ref 7, .null], vm := .statics 6 },
  { cls := 6, slots := #[.null, .int 0, .int 0], vm := .none },
  { cls := 6, slots := #[.null, .int 1, .int 0], vm := .none },
  { cls := 6, slots := #[.null, .int 2, .int 0], vm := .none },
  { cls := 6, slots := #[.null, .int 3, .int 0], vm := .none },
  { cls := 6, slots := #[.null, .int 4, .int 0], vm := .none },
  { cls := 6, slots := #[.null, .int 5, .int 0], vm := .none },
  { cls := 6, slots := #[.null, .int 6, .int 0], vm := .none }]
def classes : Array Class := #[k0, k1, k2, k3, k4, k5, k6, k7, k8, k9, k10, k11]
def interned : List (Array UInt16 × Addr) := []
def slotsUsed : Nat := 29
def theMethod : MethodId := ⟨1, 2⟩
def args0 : Array Value := #[.int 7, .int 7]
def aboutOver (below : List Frame) : State where
  vm := { classes := classes, interned := interned.toArray }
  heap := heap
  slotsUsed := slotsUsed
  threads := #[{ frames := .invoking theMethod args0 :: below }]
def below0 : List Frame := [.native { method := ⟨0, 0⟩, args := #[] }]
def about1 : State := aboutOver below0
def p0 : Program := .bare "" "" ""
def e0 : Env := launch0.env 0 0 0
theorem w_frames : about1.frames = Frame.invoking theMethod args0 :: below0 := rfl
set_option maxRecDepth 65536 in
theorem w_args : argsFit about1.vm theMethod args0 = true := by decide +kernel
set_option maxRecDepth 65536 in
theorem w_heap : heapFits about1 = true := by decide +kernel
set_option maxRecDepth 65536 in
theorem w_runnable : about1.curStatus? = some .runnable := by decide +kernel
set_option maxRecDepth 65536 in
theorem w_alone : about1.alone = true := by decide +kernel
set_option maxRecDepth 65536 in
theorem w_named : about1.methodNamed? x = some theMethod := by decide +kernel
set_option maxRecDepth 65536 in
theorem w_hears : about1.hears theMethod below0 = true := by decide +kernel
set_option maxRecDepth 65536 in
theorem w_ripe : about1.ripe theMethod args0 below0 = true := by decide +kernel
theorem w_running : about1.status = .running := rfl
set_option maxRecDepth 65536 in
theorem w_room : about1.hasRoom e0.platform room_1 = true :=
  launch0.hasRoom_least _ room_1 (by decide +kernel) (by decide +kernel) (by decide +kernel) (by decide +kernel) (by decide +kernel) (by decide +kernel)
theorem allAtoms_all (ts : List Jvm.Cond) (a : Array Jvm.Value) (st : Jvm.State) : (allAtoms ts).before a st = ts.all (fun c => c.before a st) := by
  induction ts with
  | nil => rfl
  | cons c t ih =>
    show (Jvm.Cond.and c (allAtoms t)).before a st = _
    rw [Jvm.Cond.before_and, ih, List.all_cons]
def words1 : List Jvm.Cond := Jvm.Cond.code x code maxLocals ret :: tables_1
/-- a 'code' word, met by the world's own term for the bytes: nothing is compared byte by byte -/
theorem code_word {y : MethodName} {bytes : ByteArray} {mx : Nat} {rt : Option FieldType} {a : Array Value} {s : State} {m : MethodId} {meth : Method} {c : Code} (h1 : s.methodNamed? y = some m) (h2 : s.vm.method? m = some meth) (h3 : meth.code = some c) (h4 : c.code = bytes)
    (h5 : (c.maxLocals == mx && c.exceptionTable.isEmpty && decide (c.maxStack ≤ mostOperands) && decide (meth.sig.returnType = rt) && !meth.locks && decide (parseMethodDescriptor y.desc = some meth.sig)) = true) : (Jvm.Cond.code y bytes mx rt).before a s = true := by
  simp only [Bool.and_eq_true, beq_iff_eq, Bool.not_eq_true', decide_eq_true_eq] at h5
  obtain ⟨⟨⟨⟨⟨g1, g2⟩, g3⟩, g4⟩, g5⟩, g6⟩ := h5
  simp [Cond.before, Cond.holds, Cond.value, h1, h2, h3, h4, g1, g2, g3, g4, g5, g6]
def isCode : Jvm.Cond → Bool
  | .code _ _ _ _ => true
  | _ => false
theorem all_split {L : List Jvm.Cond} {P : Jvm.Cond → Bool} (h1 : L.all (fun c => isCode c || P c) = true) (h2 : ∀ c ∈ L.filter isCode, P c = true) : L.all P = true := by
  refine List.all_eq_true.mpr fun c hc => ?_
  have h := List.all_eq_true.mp h1 c hc
  rcases Bool.eq_false_or_eq_true (isCode c) with hi | hi
  · exact h2 c (List.mem_filter.mpr ⟨hc, hi⟩)
  · simpa [hi] using h
set_option maxRecDepth 65536 in
theorem w_c0 : (Jvm.Cond.code x code maxLocals ret).before args0 about1 = true := code_word (m := ⟨1, 2⟩) (meth := k1m2) (c := k1c2) (by decide +kernel) rfl rfl rfl (by decide +kernel)
set_option maxRecDepth 65536 in
theorem w_c1 : (Jvm.Cond.code ({ cls := "com/example/evbind/evbind/KindOfPinLaw", name := "pick", desc := "(II)I" } : Jvm.MethodName) method_2_code (2 : Nat) (Option.some Jvm.ClassFile.FieldType.int)).before args0 about1 = true := code_word (m := ⟨1, 1⟩) (meth := k1m1) (c := k1c1) (by decide +kernel) rfl rfl rfl (by decide +kernel)
set_option maxRecDepth 65536 in
theorem w_c2 : (Jvm.Cond.code ({ cls := "com/example/evbind/evbind/JsonSyntax$Kind", name := "of", desc := "(I)Lcom/example/evbind/evbind/JsonSyntax$Kind;" } : Jvm.MethodName) prog_26_method_4_code (1 : Nat) (Option.some (Jvm.ClassFile.FieldType.object "com/example/evbind/evbind/JsonSyntax$Kind"))).before args0 about1 = true := code_word (m := ⟨6, 0⟩) (meth := k6m0) (c := k6c0) (by decide +kernel) rfl rfl rfl (by decide +kernel)
def codes1 : List Jvm.Cond := [Jvm.Cond.code x code maxLocals ret, Jvm.Cond.code ({ cls := "com/example/evbind/evbind/KindOfPinLaw", name := "pick", desc := "(II)I" } : Jvm.MethodName) method_2_code (2 : Nat) (Option.some Jvm.ClassFile.FieldType.int), Jvm.Cond.code ({ cls := "com/example/evbind/evbind/JsonSyntax$Kind", name := "of", desc := "(I)Lcom/example/evbind/evbind/JsonSyntax$Kind;" } : Jvm.MethodName) prog_26_method_4_code (1 : Nat) (Option.some (Jvm.ClassFile.FieldType.object "com/example/evbind/evbind/JsonSyntax$Kind"))]
set_option maxRecDepth 65536 in
theorem codes_eq : words1.filter isCode = codes1 := rfl
theorem w_codes : ∀ c ∈ words1.filter isCode, c.before args0 about1 = true := by
  rw [codes_eq]
  intro c hc
  simp only [codes1, List.mem_cons, List.not_mem_nil, or_false] at hc
  rcases hc with rfl | rfl | rfl
  · exact w_c0
  · exact w_c1
  · exact w_c2
set_option maxRecDepth 65536 in
theorem w_t1 : (words1.take 24).all (fun c => isCode c || c.before args0 about1) = true := by decide +kernel
set_option maxRecDepth 65536 in
theorem w_t2 : (words1.drop 24).all (fun c => isCode c || c.before args0 about1) = true := by decide +kernel
theorem w_tables : (allAtoms (Jvm.Cond.code x code maxLocals ret :: tables_1)).before args0 about1 = true := by
  rw [allAtoms_all]
  show words1.all (fun c => c.before args0 about1) = true
  refine all_split ?_ w_codes
  rw [← List.take_append_drop 24 words1, List.all_append, w_t1, w_t2]
  rfl
set_option maxRecDepth 65536 in
theorem w_case : (Jvm.Cond.and given_1 narrow_1).before args0 about1 = true := by decide +kernel
theorem w_applies : (headSpec (Jvm.Cond.code x code maxLocals ret :: tables_1) room_1).applies x e0.platform about1 = true :=
  (Spec.applies_iff w_frames).mpr ⟨w_running, w_runnable, w_alone, w_named, w_hears, w_ripe, w_room, w_tables⟩
theorem atStart : AtStart classFile x code maxLocals ret World_1 tables_1 room_1 Calls_1 rest_1 Pre_1 launch0 p0 e0 about1 theMethod args0 below0 :=
  ⟨lists_1, trivial, launch0.admits_env _ _ _, launch0.least_env, fairChoices_fair.cas, fairChoices_fair.clock, w_frames, w_args, w_heap, w_applies, trivial, trivial, w_case⟩
end start1
theorem witness_1 : WitnessClaimed_1 := ⟨start1.p0, start1.e0, start1.about1, start1.theMethod, start1.args0, start1.below0, start1.atStart⟩
end Jvm.Pilot.@@N@@
