import JvmDerived
import JvmDerived.Pilot.@@N@@Statement
import JvmDerived.Pilot.@@N@@Code
set_option linter.unusedVariables false
set_option linter.unusedSimpArgs false
@@BLOCK:NumsL.lean.txt@@
namespace Jvm.RoadKit
open Sem ClassFile Op Lib Jvm.Stand Jvm.Free Jvm.LawKit
section Own
variable {p : Program} {l : Launch} {e : Env} {R : Room} {s : State} {m : MethodId} {args : Array Value} {below : List Frame} {meth : Method} {c : Code} {T : State} {locs : List Loc} {cells slots : Nat}
/-- from t the run ends in a return of which Q holds -/
def OGo (p : Program) (e : Env) (below : List Frame) (s : State) (Q : Option Value → Heap → List Loc → Prop) (C N : Nat) (t : State) : Prop :=
  ∃ s₂ o, Steps p.tables e below t s₂ ∧ s₂.status = .running ∧ Ended s₂ below o ∧ ∃ v L, o = .returned v ∧ Q v s₂.heap L ∧ FrameEnd s o s₂ L C N
theorem OGo.st {Q : Option Value → Heap → List Loc → Prop} {C N : Nat} {t t' : State} (k : ∀ target, Steps p.tables e below t' target → Steps p.tables e below t target) (h : OGo p e below s Q C N t') : OGo p e below s Q C N t := by
  obtain ⟨s₂, o, a, r⟩ := h; exact ⟨s₂, o, k _ a, r⟩
theorem oretW {Q : Option Value → Heap → List Loc → Prop} {C N : Nat} (X : Stand p l e R s m args below meth c T locs cells slots) (hx : p.tables.exec = Jvm.exec) (hlk : meth.locks = false) {pc : Nat} {Ls : Array Slot} {w : Value} {t : FieldType} {i : Instr} {rest : List Value} (hret : meth.sig.returnType = some t) (hn : narrow t w = w)
    (hi : (i = .ireturn ∧ (t = .int ∨ t = .boolean ∨ t = .byte ∨ t = .char ∨ t = .short) ∧ ∃ z, w = .int z) ∨ (i = .lreturn ∧ t = .long ∧ ∃ z, w = .long z) ∨ (i = .dreturn ∧ t = .double ∧ ∃ z, w = .double z) ∨ (i = .freturn ∧ t = .float ∧ ∃ z, w = .float z) ∨ (i = .areturn ∧ t.isReference = true ∧ w.isRef = true))
    (hd : decode c.code pc = .ok (i, 1)) {h : Heap} (hh : T.heap = h) (hq : Q (some w) h locs) (hC : cells ≤ C) (hN : slots ≤ N) : OGo p e below s Q C N (T.setTop (mkF m pc Ls (w :: rest))) := by
  obtain ⟨fs, hr, hrun, hended, hW, hsame⟩ := X.leave (v := some w) (fun h => by rw [hret] at h; cases h) hlk
  exact ⟨_, _, retOut X hx hret hn hi hd hr, hrun, hended, _, _, rfl, hh ▸ hq, ⟨_, rfl⟩, hW, hsame.mono hC hN⟩
theorem oretI {Q : Option Value → Heap → List Loc → Prop} {C N : Nat} (X : Stand p l e R s m args below meth c T locs cells slots) (hx : p.tables.exec = Jvm.exec) (hlk : meth.locks = false) {pc : Nat} {Ls : Array Slot} {z : Int32} {rest : List Value} (hret : meth.sig.returnType = some .int)
    (hd : decode c.code pc = .ok (.ireturn, 1)) {h : Heap} (hh : T.heap = h) (hq : Q (some (.int z)) h locs) (hC : cells ≤ C) (hN : slots ≤ N) : OGo p e below s Q C N (T.setTop (mkF m pc Ls (.int z :: rest))) :=
  oretW X hx hlk hret rfl (Or.inl ⟨rfl, Or.inl rfl, _, rfl⟩) hd hh hq hC hN
theorem oretJ {Q : Option Value → Heap → List Loc → Prop} {C N : Nat} (X : Stand p l e R s m args below meth c T locs cells slots) (hx : p.tables.exec = Jvm.exec) (hlk : meth.locks = false) {pc : Nat} {Ls : Array Slot} {z : Int64} {rest : List Value} (hret : meth.sig.returnType = some .long)
    (hd : decode c.code pc = .ok (.lreturn, 1)) {h : Heap} (hh : T.heap = h) (hq : Q (some (.long z)) h locs) (hC : cells ≤ C) (hN : slots ≤ N) : OGo p e below s Q C N (T.setTop (mkF m pc Ls (.long z :: rest))) :=
  oretW X hx hlk hret rfl (Or.inr (Or.inl ⟨rfl, rfl, _, rfl⟩)) hd hh hq hC hN
theorem onarR {t : FieldType} {w : Value} (ht : t.isReference = true) (hw : w.isRef = true) : narrow t w = w := by
  cases t <;> first | (cases ht; done) | (cases w <;> first | rfl | (cases hw; done))
theorem ofitR {t : FieldType} {w : Value} (ht : t.isReference = true) (hw : w.isRef = true) : fits t w = true := by
  cases t <;> first | (cases ht; done) | (cases w <;> first | rfl | (cases hw; done))
theorem oretA {Q : Option Value → Heap → List Loc → Prop} {C N : Nat} (X : Stand p l e R s m args below meth c T locs cells slots) (hx : p.tables.exec = Jvm.exec) (hlk : meth.locks = false) {pc : Nat} {Ls : Array Slot} {w : Value} {t : FieldType} {rest : List Value} (hret : meth.sig.returnType = some t) (ht : t.isReference = true) (hw : w.isRef = true)
    (hd : decode c.code pc = .ok (.areturn, 1)) {h : Heap} (hh : T.heap = h) (hq : Q (some w) h locs) (hC : cells ≤ C) (hN : slots ≤ N) : OGo p e below s Q C N (T.setTop (mkF m pc Ls (w :: rest))) :=
  oretW X hx hlk hret (onarR ht hw) (Or.inr (Or.inr (Or.inr (Or.inr ⟨rfl, ht, hw⟩)))) hd hh hq hC hN
theorem oretN {Q : Option Value → Heap → List Loc → Prop} {C N : Nat} (X : Stand p l e R s m args below meth c T locs cells slots) (hx : p.tables.exec = Jvm.exec) (hlk : meth.locks = false) {pc : Nat} {Ls : Array Slot} {z z' : Int32} {t : FieldType} {rest : List Value} (hret : meth.sig.returnType = some t) (ht : t = .boolean ∨ t = .byte ∨ t = .char ∨ t = .short)
    (hd : decode c.code pc = .ok (.ireturn, 1)) (hz : nar t z = z') {h : Heap} (hh : T.heap = h) (hq : Q (some (.int z')) h locs) (hC : cells ≤ C) (hN : slots ≤ N) : OGo p e below s Q C N (T.setTop (mkF m pc Ls (.int z :: rest))) := by
  subst hz
  obtain ⟨fs, hr, hrun, hended, hW, hsame⟩ := X.leave (v := some (.int (nar t z))) (fun h => by rw [hret] at h; cases h) hlk
  exact ⟨_, _, retN X hx hret ht hd hr, hrun, hended, _, _, rfl, hh ▸ hq, ⟨_, rfl⟩, hW, hsame.mono hC hN⟩
theorem oret0 {Q : Option Value → Heap → List Loc → Prop} {C N : Nat} (X : Stand p l e R s m args below meth c T locs cells slots) (hx : p.tables.exec = Jvm.exec) (hlk : meth.locks = false) {pc : Nat} {Ls : Array Slot} (hret : meth.sig.returnType = none)
    (hd : decode c.code pc = .ok (.return_, 1)) {h : Heap} (hh : T.heap = h) (hq : Q none h locs) (hC : cells ≤ C) (hN : slots ≤ N) : OGo p e below s Q C N (T.setTop (mkF m pc Ls [])) := by
  obtain ⟨fs, hr, hrun, hended, hW, hsame⟩ := X.leave (v := none) (fun _ => rfl) hlk
  exact ⟨_, _, X.returnOut hx hret hd hr, hrun, hended, _, _, rfl, hh ▸ hq, ⟨_, rfl⟩, hW, hsame.mono hC hN⟩
theorem olrem {tb : Tables} [Ours tb] {target : State} {g : JFrame} (h : At T m c below) (hx : tb.exec = Jvm.exec) (hg : g.method = m) {x y : Int64} {rest : List Value} (hd : decode c.code g.pc = .ok (.lrem, 1)) (hs : g.stack = .long y :: .long x :: rest) (hy : y ≠ 0)
    (hr : Steps tb e below (T.setTop { g with pc := g.pc + 1, stack := .long (x % y) :: rest }) target) : Steps tb e below (T.setTop g) target :=
  XS.lrem h hx hg hd hs hy (by rw [lrem_mod]; exact hr)
theorem olc_lt (x y : Int64) : lcmpW x y < 0 ↔ x < y := by rw [lcW]; exact lc_lt x y
theorem olc_gt (x y : Int64) : 0 < lcmpW x y ↔ y < x := by rw [lcW]; exact lc_gt x y
theorem olc_eq (x y : Int64) : lcmpW x y = 0 ↔ x = y := by rw [lcW]; exact lc_eq x y
theorem onilP {v : Int} : ∀ q ∈ ([] : List (Int × Int)), q.1 ≠ v := fun _ q => nomatch q
theorem oconsP {v a b : Int} {l : List (Int × Int)} (h : a ≠ v) (t : ∀ q ∈ l, q.1 ≠ v) : ∀ q ∈ (a, b) :: l, q.1 ≠ v := fun q hq => (List.mem_cons.mp hq).elim (fun u => by rw [u]; exact h) (t q)
theorem oint_ne {z k : Int32} {K : Int} (h : ¬ z = k) (hk : k.toInt = K) : K ≠ z.toInt := fun q => h (Int32.toInt_inj.mp (by rw [hk, q]))
theorem ofld_eq {Z : State} {t : Term} {C n d : String} {a : Addr} {k : Int32} (h : (Cond.eq (Term.field t C n d) (Term.int k)).value args Z none Z [] = some true) (ev : t.eval args Z none [] Z = some (.ref a)) : Fld Z Z.heap a C n d (.int k) := by
  apply Fld.start
  have q := fld_at (args := args) (first := Z) (o := none) (idx := []) (s := Z) (C := C) (n := n) (dd := d) ev
  simp only [Cond.value, q, Term.int_eval] at h
  cases hv : Z.fieldOf? a C n d with
  | none => simp [hv] at h
  | some v => cases v <;> simp [hv] at h <;> simp [h]
section Imp
variable {E a b : Int32}
theorem oLL (h : E < a) (k : a.toInt ≤ b.toInt) : E < b := by rw [Int32.lt_iff_toInt_lt] at *; omega
theorem oLnG (h : E < a) (k : a.toInt ≤ b.toInt + 1) : ¬ b < E := by rw [Int32.lt_iff_toInt_lt] at *; omega
theorem oLnE (h : E < a) (k : a.toInt ≤ b.toInt) : ¬ E = b := fun q => by subst q; rw [Int32.lt_iff_toInt_lt] at h; omega
theorem oGG (h : a < E) (k : b.toInt ≤ a.toInt) : b < E := by rw [Int32.lt_iff_toInt_lt] at *; omega
theorem oGnL (h : a < E) (k : b.toInt ≤ a.toInt + 1) : ¬ E < b := by rw [Int32.lt_iff_toInt_lt] at *; omega
theorem oGnE (h : a < E) (k : b.toInt ≤ a.toInt) : ¬ E = b := fun q => by subst q; rw [Int32.lt_iff_toInt_lt] at h; omega
theorem onLnL (h : ¬ E < a) (k : b.toInt ≤ a.toInt) : ¬ E < b := by rw [Int32.lt_iff_toInt_lt] at *; omega
theorem onLG (h : ¬ E < a) (k : b.toInt < a.toInt) : b < E := by rw [Int32.lt_iff_toInt_lt] at *; omega
theorem onLnE (h : ¬ E < a) (k : b.toInt < a.toInt) : ¬ E = b := fun q => by subst q; rw [Int32.lt_iff_toInt_lt] at h; omega
theorem onGnG (h : ¬ a < E) (k : a.toInt ≤ b.toInt) : ¬ b < E := by rw [Int32.lt_iff_toInt_lt] at *; omega
theorem onGL (h : ¬ a < E) (k : a.toInt < b.toInt) : E < b := by rw [Int32.lt_iff_toInt_lt] at *; omega
theorem onGnE (h : ¬ a < E) (k : a.toInt < b.toInt) : ¬ E = b := fun q => by subst q; rw [Int32.lt_iff_toInt_lt] at h; omega
end Imp
end Own
end Jvm.RoadKit
namespace Jvm.Pilot.@@N@@
open Jvm Jvm.ClassFile Sem Op Lib Jvm.Free Jvm.Stand Jvm.LawKit Jvm.RoadKit Bundle Jvm.Pilot.@@N@@.Jvm.D

theorem d1_0 : decode prog_9_method_2_code 0 = .ok (.lload_n 0, 1) := by decide +kernel
theorem d1_1 : decode prog_9_method_2_code 1 = .ok (.lconst 1, 1) := by decide +kernel
theorem d1_2 : decode prog_9_method_2_code 2 = .ok (.lcmp, 1) := by decide +kernel
theorem d1_3 : decode prog_9_method_2_code 3 = .ok (.ifCond .lt 15, 3) := by decide +kernel
theorem d1_6 : decode prog_9_method_2_code 6 = .ok (.lload_n 0, 1) := by decide +kernel
theorem d1_7 : decode prog_9_method_2_code 7 = .ok (.ldc2_w 9, 3) := by decide +kernel
theorem d1_10 : decode prog_9_method_2_code 10 = .ok (.lcmp, 1) := by decide +kernel
theorem d1_11 : decode prog_9_method_2_code 11 = .ok (.ifCond .gt 7, 3) := by decide +kernel
theorem d1_14 : decode prog_9_method_2_code 14 = .ok (.iconst 1, 1) := by decide +kernel
theorem d1_15 : decode prog_9_method_2_code 15 = .ok (.goto 4, 3) := by decide +kernel
theorem d1_18 : decode prog_9_method_2_code 18 = .ok (.iconst 0, 1) := by decide +kernel
theorem d1_19 : decode prog_9_method_2_code 19 = .ok (.ireturn, 1) := by decide +kernel
theorem pn_1 : plainName "com/example/sealwright/sealwright/cmw/Indicator" = true := by first | (simp [plainName, overriddenIn]; done) | decide +kernel
theorem ef_1 (m : MethodId) (q0 : Int64) : entryFrame m #[(.long q0)] 2 = mkF m 0 #[.val (.long q0), .second] [] := by first | (simp [entryFrame, mkF, argsToLocals, Value.category]; done) | rfl
def f1 (q0 : Int64) : Int32 := (if q0 < (1 : Int64) then (0 : Int32) else (if (31 : Int64) < q0 then (0 : Int32) else (1 : Int32)))
def Q1 (Z : State) (q0 : Int64) (h0 : Heap) (n0 : Nat) (v : Option Value) (h : Heap) (L : List Loc) : Prop := v = some (.int (f1 q0)) ∧ Fr n0 L ∧ h = h0
set_option maxRecDepth 65536 in
set_option maxHeartbeats 40000000 in
theorem rm1 (l : Launch) (Z : State) (a0 : Array Value) (hw : ∀ d ∈ tables_1, d.before a0 Z = true) (ws : List Jvm.Cond) (q0 : Int64) (h0 : Heap) (n0 : Nat) (Z0 : n0 ≤ h0.size) :
    MetFree l (⟨"com/example/sealwright/sealwright/cmw/Indicator", "valid", "(J)Z"⟩ : MethodName) (head1 (Jvm.Cond.code (⟨"com/example/sealwright/sealwright/cmw/Indicator", "valid", "(J)Z"⟩ : MethodName) prog_9_method_2_code 2 (some .boolean) :: ws) ({ frames := 0, cells := 0, slots := 0, locals := 0 } : Room)) (fun a U => a = #[(.long q0)] ∧ Z.Warmed39 U.vm ∧ U.heap = h0) (fun _ _ _ _ _ => True) (fun _ U o U' => ∃ v L, o = .returned v ∧ Q1 Z q0 h0 n0 v U'.heap L ∧ FrameEnd U o U' L ({ frames := 0, cells := 0, slots := 0, locals := 0 } : Room).cells ({ frames := 0, cells := 0, slots := 0, locals := 0 } : Room).slots) := by
  refine MetFree.of_bodySF (plainFor_of_name pn_1) hisR ?_
  intro p e s m args below meth c s₁ Bd hml0 hP hK
  obtain ⟨rfl, hZ, hh⟩ := hP
  have hx := Bd.exec
  have hby := Bd.bytes
  have hml : c.maxLocals = 2 := hml0
  have hown : s.vm.findClass "com/example/sealwright/sealwright/cmw/Indicator" = some m.cls := findClass_of_methodNamed Bd.named
  have hnm := (name_of_methodNamed Bd.named Bd.method).1
  have X0 : Stand p l e ({ frames := 0, cells := 0, slots := 0, locals := 0 } : Room) s m #[(.long q0)] below meth c s₁ [] 0 0 := Stand.of_body Bd
  have e0 : s₁.heap = h0 := by rw [← hh, Bd.state]; rfl
  have N0 := Fr.nil n0
  show OGo p e below s (Q1 Z q0 h0 n0) ({ frames := 0, cells := 0, slots := 0, locals := 0 } : Room).cells ({ frames := 0, cells := 0, slots := 0, locals := 0 } : Room).slots _
  refine OGo.st (fun _ k => castTop (ef_1 m q0) k) ?_
  show OGo p e below s _ _ _ (s₁.setTop (mkF m 0 #[.val (.long q0), .second] []))
  refine OGo.st (fun _ k => XS.lloadN X0.here hx rfl (hb hby d1_0) rfl k) ?_
  show OGo p e below s _ _ _ (s₁.setTop (mkF m 1 #[.val (.long q0), .second] [(.long q0)]))
  refine OGo.st (fun _ k => XS.lconst X0.here hx rfl (hb hby d1_1) k) ?_
  show OGo p e below s _ _ _ (s₁.setTop (mkF m 2 #[.val (.long q0), .second] [(.long (1 : Int64)), (.long q0)]))
  refine OGo.st (fun _ k => XS.lcmp X0.here hx rfl (hb hby d1_2) rfl k) ?_
  show OGo p e below s _ _ _ (s₁.setTop (mkF m 3 #[.val (.long q0), .second] [(.int (lcmpW q0 (1 : Int64)))]))
  by_cases hc3 : q0 < (1 : Int64)
  · refine OGo.st (fun _ k => XS.ifYes X0.here hx rfl (pc0 := 3) (pc' := 18) rfl (hb hby d1_3) rfl ((if0 _ _).trans (tlt ((olc_lt _ _).mpr hc3)).1) (by decide) (by decide) k) ?_
    show OGo p e below s _ _ _ (s₁.setTop (mkF m 18 #[.val (.long q0), .second] []))
    refine OGo.st (fun _ k => XS.iconst X0.here hx rfl (hb hby d1_18) k) ?_
    show OGo p e below s _ _ _ (s₁.setTop (mkF m 19 #[.val (.long q0), .second] [(.int (0 : Int32))]))
    exact oretN X0 hx Bd.notSynchronized (t := .boolean) Bd.returns (by simp) (hb hby d1_19) (z' := (0 : Int32)) (by decide) e0 ⟨(congrArg (fun z => some (Value.int z)) (show (0 : Int32) = f1 q0 from Eq.symm (by unfold f1; exact if_pos hc3))), N0, rfl⟩ (by decide) (by decide)
  · refine OGo.st (fun _ k => XS.ifNo X0.here hx rfl (hb hby d1_3) rfl ((if0 _ _).trans (flt (fun z => hc3 ((olc_lt _ _).mp z))).1) k) ?_
    show OGo p e below s _ _ _ (s₁.setTop (mkF m 6 #[.val (.long q0), .second] []))
    refine OGo.st (fun _ k => XS.lloadN X0.here hx rfl (hb hby d1_6) rfl k) ?_
    show OGo p e below s _ _ _ (s₁.setTop (mkF m 7 #[.val (.long q0), .second] [(.long q0)]))
    refine OGo.st (fun _ k => X0.ldc2Long hx hown (mvT hZ (hw _ (List.mem_of_getElem? (i := 4) rfl))) (g := (mkF m 7 #[.val (.long q0), .second] [(.long q0)])) rfl (hb hby d1_7) _ k) ?_
    show OGo p e below s _ _ _ (s₁.setTop (mkF m 10 #[.val (.long q0), .second] [(.long (31 : Int64)), (.long q0)]))
    refine OGo.st (fun _ k => XS.lcmp X0.here hx rfl (hb hby d1_10) rfl k) ?_
    show OGo p e below s _ _ _ (s₁.setTop (mkF m 11 #[.val (.long q0), .second] [(.int (lcmpW q0 (31 : Int64)))]))
    by_cases hc11 : (31 : Int64) < q0
    · refine OGo.st (fun _ k => XS.ifYes X0.here hx rfl (pc0 := 11) (pc' := 18) rfl (hb hby d1_11) rfl ((if0 _ _).trans (tlt ((olc_gt _ _).mpr hc11)).2.2.1) (by decide) (by decide) k) ?_
      show OGo p e below s _ _ _ (s₁.setTop (mkF m 18 #[.val (.long q0), .second] []))
      refine OGo.st (fun _ k => XS.iconst X0.here hx rfl (hb hby d1_18) k) ?_
      show OGo p e below s _ _ _ (s₁.setTop (mkF m 19 #[.val (.long q0), .second] [(.int (0 : Int32))]))
      exact oretN X0 hx Bd.notSynchronized (t := .boolean) Bd.returns (by simp) (hb hby d1_19) (z' := (0 : Int32)) (by decide) e0 ⟨(congrArg (fun z => some (Value.int z)) (show (0 : Int32) = f1 q0 from Eq.symm (by unfold f1; exact (if_neg hc3).trans (if_pos hc11)))), N0, rfl⟩ (by decide) (by decide)
    · refine OGo.st (fun _ k => XS.ifNo X0.here hx rfl (hb hby d1_11) rfl ((if0 _ _).trans (flt (fun z => hc11 ((olc_gt _ _).mp z))).2.2.1) k) ?_
      show OGo p e below s _ _ _ (s₁.setTop (mkF m 14 #[.val (.long q0), .second] []))
      refine OGo.st (fun _ k => XS.iconst X0.here hx rfl (hb hby d1_14) k) ?_
      show OGo p e below s _ _ _ (s₁.setTop (mkF m 15 #[.val (.long q0), .second] [(.int (1 : Int32))]))
      refine OGo.st (fun _ k => XS.goto X0.here hx rfl (pc0 := 15) (pc' := 19) rfl (hb hby d1_15) (by decide) (by decide) k) ?_
      show OGo p e below s _ _ _ (s₁.setTop (mkF m 19 #[.val (.long q0), .second] [(.int (1 : Int32))]))
      exact oretN X0 hx Bd.notSynchronized (t := .boolean) Bd.returns (by simp) (hb hby d1_19) (z' := (1 : Int32)) (by decide) e0 ⟨(congrArg (fun z => some (Value.int z)) (show (1 : Int32) = f1 q0 from Eq.symm (by unfold f1; exact (if_neg hc3).trans (if_neg hc11)))), N0, rfl⟩ (by decide) (by decide)
theorem d2_0 : decode method_2_code 0 = .ok (.lload_n 0, 1) := by decide +kernel
theorem d2_1 : decode method_2_code 1 = .ok (.lconst 0, 1) := by decide +kernel
theorem d2_2 : decode method_2_code 2 = .ok (.lcmp, 1) := by decide +kernel
theorem d2_3 : decode method_2_code 3 = .ok (.ifCond .eq 17, 3) := by decide +kernel
theorem d2_6 : decode method_2_code 6 = .ok (.lload_n 0, 1) := by decide +kernel
theorem d2_7 : decode method_2_code 7 = .ok (.ldc2_w 7, 3) := by decide +kernel
theorem d2_10 : decode method_2_code 10 = .ok (.land, 1) := by decide +kernel
theorem d2_11 : decode method_2_code 11 = .ok (.lconst 0, 1) := by decide +kernel
theorem d2_12 : decode method_2_code 12 = .ok (.lcmp, 1) := by decide +kernel
theorem d2_13 : decode method_2_code 13 = .ok (.ifCond .ne 7, 3) := by decide +kernel
theorem d2_16 : decode method_2_code 16 = .ok (.iconst 1, 1) := by decide +kernel
theorem d2_17 : decode method_2_code 17 = .ok (.goto 4, 3) := by decide +kernel
theorem d2_20 : decode method_2_code 20 = .ok (.iconst 0, 1) := by decide +kernel
theorem d2_21 : decode method_2_code 21 = .ok (.ireturn, 1) := by decide +kernel
theorem pn_2 : plainName "com/example/sealwright/sealwright/cmw/IndicatorValidPinLaw" = true := by first | (simp [plainName, overriddenIn]; done) | decide +kernel
theorem ef_2 (m : MethodId) (q0 : Int64) : entryFrame m #[(.long q0)] 2 = mkF m 0 #[.val (.long q0), .second] [] := by first | (simp [entryFrame, mkF, argsToLocals, Value.category]; done) | rfl
def f2 (q0 : Int64) : Int32 := (if q0 = (0 : Int64) then (0 : Int32) else (if (q0 &&& (-32 : Int64)) = (0 : Int64) then (1 : Int32) else (0 : Int32)))
def Q2 (Z : State) (q0 : Int64) (h0 : Heap) (n0 : Nat) (v : Option Value) (h : Heap) (L : List Loc) : Prop := v = some (.int (f2 q0)) ∧ Fr n0 L ∧ h = h0
set_option maxRecDepth 65536 in
set_option maxHeartbeats 40000000 in
theorem rm2 (l : Launch) (Z : State) (a0 : Array Value) (hw : ∀ d ∈ tables_1, d.before a0 Z = true) (ws : List Jvm.Cond) (q0 : Int64) (h0 : Heap) (n0 : Nat) (Z0 : n0 ≤ h0.size) :
    MetFree l (⟨"com/example/sealwright/sealwright/cmw/IndicatorValidPinLaw", "expected", "(J)Z"⟩ : MethodName) (head1 (Jvm.Cond.code (⟨"com/example/sealwright/sealwright/cmw/IndicatorValidPinLaw", "expected", "(J)Z"⟩ : MethodName) method_2_code 2 (some .boolean) :: ws) ({ frames := 0, cells := 0, slots := 0, locals := 0 } : Room)) (fun a U => a = #[(.long q0)] ∧ Z.Warmed39 U.vm ∧ U.heap = h0) (fun _ _ _ _ _ => True) (fun _ U o U' => ∃ v L, o = .returned v ∧ Q2 Z q0 h0 n0 v U'.heap L ∧ FrameEnd U o U' L ({ frames := 0, cells := 0, slots := 0, locals := 0 } : Room).cells ({ frames := 0, cells := 0, slots := 0, locals := 0 } : Room).slots) := by
  refine MetFree.of_bodySF (plainFor_of_name pn_2) hisR ?_
  intro p e s m args below meth c s₁ Bd hml0 hP hK
  obtain ⟨rfl, hZ, hh⟩ := hP
  have hx := Bd.exec
  have hby := Bd.bytes
  have hml : c.maxLocals = 2 := hml0
  have hown : s.vm.findClass "com/example/sealwright/sealwright/cmw/IndicatorValidPinLaw" = some m.cls := findClass_of_methodNamed Bd.named
  have hnm := (name_of_methodNamed Bd.named Bd.method).1
  have X0 : Stand p l e ({ frames := 0, cells := 0, slots := 0, locals := 0 } : Room) s m #[(.long q0)] below meth c s₁ [] 0 0 := Stand.of_body Bd
  have e0 : s₁.heap = h0 := by rw [← hh, Bd.state]; rfl
  have N0 := Fr.nil n0
  show OGo p e below s (Q2 Z q0 h0 n0) ({ frames := 0, cells := 0, slots := 0, locals := 0 } : Room).cells ({ frames := 0, cells := 0, slots := 0, locals := 0 } : Room).slots _
  refine OGo.st (fun _ k => castTop (ef_2 m q0) k) ?_
  show OGo p e below s _ _ _ (s₁.setTop (mkF m 0 #[.val (.long q0), .second] []))
  refine OGo.st (fun _ k => XS.lloadN X0.here hx rfl (hb hby d2_0) rfl k) ?_
  show OGo p e below s _ _ _ (s₁.setTop (mkF m 1 #[.val (.long q0), .second] [(.long q0)]))
  refine OGo.st (fun _ k => XS.lconst X0.here hx rfl (hb hby d2_1) k) ?_
  show OGo p e below s _ _ _ (s₁.setTop (mkF m 2 #[.val (.long q0), .second] [(.long (0 : Int64)), (.long q0)]))
  refine OGo.st (fun _ k => XS.lcmp X0.here hx rfl (hb hby d2_2) rfl k) ?_
  show OGo p e below s _ _ _ (s₁.setTop (mkF m 3 #[.val (.long q0), .second] [(.int (lcmpW q0 (0 : Int64)))]))
  by_cases hc3 : q0 = (0 : Int64)
  · refine OGo.st (fun _ k => XS.ifYes X0.here hx rfl (pc0 := 3) (pc' := 20) rfl (hb hby d2_3) rfl ((if0 _ _).trans (teq ((olc_eq _ _).mpr hc3)).1) (by decide) (by decide) k) ?_
    show OGo p e below s _ _ _ (s₁.setTop (mkF m 20 #[.val (.long q0), .second] []))
    refine OGo.st (fun _ k => XS.iconst X0.here hx rfl (hb hby d2_20) k) ?_
    show OGo p e below s _ _ _ (s₁.setTop (mkF m 21 #[.val (.long q0), .second] [(.int (0 : Int32))]))
    exact oretN X0 hx Bd.notSynchronized (t := .boolean) Bd.returns (by simp) (hb hby d2_21) (z' := (0 : Int32)) (by decide) e0 ⟨(congrArg (fun z => some (Value.int z)) (show (0 : Int32) = f2 q0 from Eq.symm (by unfold f2; exact if_pos hc3))), N0, rfl⟩ (by decide) (by decide)
  · refine OGo.st (fun _ k => XS.ifNo X0.here hx rfl (hb hby d2_3) rfl ((if0 _ _).trans (feq (fun z => hc3 ((olc_eq _ _).mp z))).1) k) ?_
    show OGo p e below s _ _ _ (s₁.setTop (mkF m 6 #[.val (.long q0), .second] []))
    refine OGo.st (fun _ k => XS.lloadN X0.here hx rfl (hb hby d2_6) rfl k) ?_
    show OGo p e below s _ _ _ (s₁.setTop (mkF m 7 #[.val (.long q0), .second] [(.long q0)]))
    refine OGo.st (fun _ k => X0.ldc2Long hx hown (mvT hZ (hw _ (List.mem_of_getElem? (i := 9) rfl))) (g := (mkF m 7 #[.val (.long q0), .second] [(.long q0)])) rfl (hb hby d2_7) _ k) ?_
    show OGo p e below s _ _ _ (s₁.setTop (mkF m 10 #[.val (.long q0), .second] [(.long (-32 : Int64)), (.long q0)]))
    refine OGo.st (fun _ k => XS.land X0.here hx rfl (hb hby d2_10) rfl k) ?_
    show OGo p e below s _ _ _ (s₁.setTop (mkF m 11 #[.val (.long q0), .second] [(.long (q0 &&& (-32 : Int64)))]))
    refine OGo.st (fun _ k => XS.lconst X0.here hx rfl (hb hby d2_11) k) ?_
    show OGo p e below s _ _ _ (s₁.setTop (mkF m 12 #[.val (.long q0), .second] [(.long (0 : Int64)), (.long (q0 &&& (-32 : Int64)))]))
    refine OGo.st (fun _ k => XS.lcmp X0.here hx rfl (hb hby d2_12) rfl k) ?_
    show OGo p e below s _ _ _ (s₁.setTop (mkF m 13 #[.val (.long q0), .second] [(.int (lcmpW (q0 &&& (-32 : Int64)) (0 : Int64)))]))
    by_cases hc13 : (q0 &&& (-32 : Int64)) = (0 : Int64)
    · refine OGo.st (fun _ k => XS.ifNo X0.here hx rfl (hb hby d2_13) rfl ((if0 _ _).trans (teq ((olc_eq _ _).mpr hc13)).2) k) ?_
      show OGo p e below s _ _ _ (s₁.setTop (mkF m 16 #[.val (.long q0), .second] []))
      refine OGo.st (fun _ k => XS.iconst X0.here hx rfl (hb hby d2_16) k) ?_
      show OGo p e below s _ _ _ (s₁.setTop (mkF m 17 #[.val (.long q0), .second] [(.int (1 : Int32))]))
      refine OGo.st (fun _ k => XS.goto X0.here hx rfl (pc0 := 17) (pc' := 21) rfl (hb hby d2_17) (by decide) (by decide) k) ?_
      show OGo p e below s _ _ _ (s₁.setTop (mkF m 21 #[.val (.long q0), .second] [(.int (1 : Int32))]))
      exact oretN X0 hx Bd.notSynchronized (t := .boolean) Bd.returns (by simp) (hb hby d2_21) (z' := (1 : Int32)) (by decide) e0 ⟨(congrArg (fun z => some (Value.int z)) (show (1 : Int32) = f2 q0 from Eq.symm (by unfold f2; exact (if_neg hc3).trans (if_pos hc13)))), N0, rfl⟩ (by decide) (by decide)
    · refine OGo.st (fun _ k => XS.ifYes X0.here hx rfl (pc0 := 13) (pc' := 20) rfl (hb hby d2_13) rfl ((if0 _ _).trans (feq (fun z => hc13 ((olc_eq _ _).mp z))).2) (by decide) (by decide) k) ?_
      show OGo p e below s _ _ _ (s₁.setTop (mkF m 20 #[.val (.long q0), .second] []))
      refine OGo.st (fun _ k => XS.iconst X0.here hx rfl (hb hby d2_20) k) ?_
      show OGo p e below s _ _ _ (s₁.setTop (mkF m 21 #[.val (.long q0), .second] [(.int (0 : Int32))]))
      exact oretN X0 hx Bd.notSynchronized (t := .boolean) Bd.returns (by simp) (hb hby d2_21) (z' := (0 : Int32)) (by decide) e0 ⟨(congrArg (fun z => some (Value.int z)) (show (0 : Int32) = f2 q0 from Eq.symm (by unfold f2; exact (if_neg hc3).trans (if_neg hc13)))), N0, rfl⟩ (by decide) (by decide)
theorem pn_0 : plainName "com/example/sealwright/sealwright/cmw/IndicatorValidPinLaw" = true := by first | (simp [plainName, overriddenIn]; done) | decide +kernel
theorem pd_0_0 : parseMethodDescriptor "(J)Z" = some ⟨[.long], some .boolean⟩ := by decide +kernel
theorem ef_0 (m : MethodId) (q0 : Int64) (p1 : Int32) : entryFrame m #[(.long q0), (.int p1)] maxLocals = mkF m 0 #[.val (.long q0), .second, .val (.int p1), .unset, .unset, .unset, .unset] [] := by first | (simp [entryFrame, mkF, argsToLocals, Value.category, maxLocals]; done) | rfl
def f0_43 (q0 : Int64) (p1 : Int32) (j25_0 : Int32) (j43_0 : Int32) : Int32 := (if j25_0 = (0 : Int32) then (0 : Int32) else (if j43_0 = (0 : Int32) then (0 : Int32) else (1 : Int32)))
def f0_25 (q0 : Int64) (p1 : Int32) (j25_0 : Int32) : Int32 := (if (f1 (((p1 &&& (63 : Int32)) - (16 : Int32)).toInt64)) = (f2 (((p1 &&& (63 : Int32)) - (16 : Int32)).toInt64)) then (f0_43 q0 p1 j25_0 (1 : Int32)) else (f0_43 q0 p1 j25_0 (0 : Int32)))
def f0 (q0 : Int64) (p1 : Int32) : Int32 := (if (f1 q0) = (f2 q0) then (f0_25 q0 p1 (1 : Int32)) else (f0_25 q0 p1 (0 : Int32)))
def Q0 (Z : State) (q0 : Int64) (p1 : Int32) (h0 : Heap) (n0 : Nat) (v : Option Value) (h : Heap) (L : List Loc) : Prop := v = some (.int (f0 q0 p1)) ∧ Fr n0 L
set_option maxRecDepth 65536 in
set_option maxHeartbeats 40000000 in
theorem rm0 (l : Launch) (Z : State) (a0 : Array Value) (hw : ∀ d ∈ tables_1, d.before a0 Z = true) (ws : List Jvm.Cond) (q0 : Int64) (p1 : Int32) (h0 : Heap) (n0 : Nat) (Z0 : n0 ≤ h0.size) :
    MetFree l x (head1 (Jvm.Cond.code x code maxLocals ret :: ws) room_1) (fun a U => a = #[(.long q0), (.int p1)] ∧ Z.Warmed39 U.vm ∧ U.heap = h0) (fun _ _ _ _ _ => True) (fun _ U o U' => ∃ v L, o = .returned v ∧ Q0 Z q0 p1 h0 n0 v U'.heap L ∧ FrameEnd U o U' L room_1.cells room_1.slots) := by
  refine MetFree.of_bodySF (plainFor_of_name pn_0) hisR ?_
  intro p e s m args below meth c s₁ Bd hml0 hP hK
  obtain ⟨rfl, hZ, hh⟩ := hP
  have hx := Bd.exec
  have hby := Bd.bytes
  have hml : c.maxLocals = 7 := hml0
  have hown : s.vm.findClass "com/example/sealwright/sealwright/cmw/IndicatorValidPinLaw" = some m.cls := findClass_of_methodNamed Bd.named
  have hnm := (name_of_methodNamed Bd.named Bd.method).1
  have X0 : Stand p l e room_1 s m #[(.long q0), (.int p1)] below meth c s₁ [] 0 0 := Stand.of_body Bd
  have e0 : s₁.heap = h0 := by rw [← hh, Bd.state]; rfl
  have N0 := Fr.nil n0
  show OGo p e below s (Q0 Z q0 p1 h0 n0) room_1.cells room_1.slots _
  refine OGo.st (fun _ k => castTop (ef_0 m q0 p1) k) ?_
  show OGo p e below s _ _ _ (s₁.setTop (mkF m 0 #[.val (.long q0), .second, .val (.int p1), .unset, .unset, .unset, .unset] []))
  refine OGo.st (fun _ k => XS.iloadN X0.here hx rfl (hb hby at_0) rfl k) ?_
  show OGo p e below s _ _ _ (s₁.setTop (mkF m 1 #[.val (.long q0), .second, .val (.int p1), .unset, .unset, .unset, .unset] [(.int p1)]))
  refine OGo.st (fun _ k => XS.bipush X0.here hx rfl (hb hby at_1) k) ?_
  show OGo p e below s _ _ _ (s₁.setTop (mkF m 3 #[.val (.long q0), .second, .val (.int p1), .unset, .unset, .unset, .unset] [(.int (63 : Int32)), (.int p1)]))
  refine OGo.st (fun _ k => XS.iand X0.here hx rfl (hb hby at_3) rfl k) ?_
  show OGo p e below s _ _ _ (s₁.setTop (mkF m 4 #[.val (.long q0), .second, .val (.int p1), .unset, .unset, .unset, .unset] [(.int (p1 &&& (63 : Int32)))]))
  refine OGo.st (fun _ k => XS.bipush X0.here hx rfl (hb hby at_4) k) ?_
  show OGo p e below s _ _ _ (s₁.setTop (mkF m 6 #[.val (.long q0), .second, .val (.int p1), .unset, .unset, .unset, .unset] [(.int (16 : Int32)), (.int (p1 &&& (63 : Int32)))]))
  refine OGo.st (fun _ k => XS.isub X0.here hx rfl (hb hby at_6) rfl k) ?_
  show OGo p e below s _ _ _ (s₁.setTop (mkF m 7 #[.val (.long q0), .second, .val (.int p1), .unset, .unset, .unset, .unset] [(.int ((p1 &&& (63 : Int32)) - (16 : Int32)))]))
  refine OGo.st (fun _ k => XS.i2l X0.here hx rfl (hb hby at_7) rfl k) ?_
  show OGo p e below s _ _ _ (s₁.setTop (mkF m 8 #[.val (.long q0), .second, .val (.int p1), .unset, .unset, .unset, .unset] [(.long (((p1 &&& (63 : Int32)) - (16 : Int32)).toInt64))]))
  refine OGo.st (fun _ k => XS.lstoreN X0.here hx rfl (hb hby at_8) rfl (l' := #[.val (.long q0), .second, .val (.int p1), .val (.long (((p1 &&& (63 : Int32)) - (16 : Int32)).toInt64)), .second, .unset, .unset]) rfl k) ?_
  show OGo p e below s _ _ _ (s₁.setTop (mkF m 9 #[.val (.long q0), .second, .val (.int p1), .val (.long (((p1 &&& (63 : Int32)) - (16 : Int32)).toInt64)), .second, .unset, .unset] []))
  refine OGo.st (fun _ k => XS.lloadN X0.here hx rfl (hb hby at_9) rfl k) ?_
  show OGo p e below s _ _ _ (s₁.setTop (mkF m 10 #[.val (.long q0), .second, .val (.int p1), .val (.long (((p1 &&& (63 : Int32)) - (16 : Int32)).toInt64)), .second, .unset, .unset] [(.long q0)]))
  obtain ⟨_, _, ⟨T1, L1, k1, n1⟩, -, X1, ⟨Lc1, hQ1, l1, y1, z1⟩, st1⟩ := Jvm.LawKit.callS X0 hx (y := (⟨"com/example/sealwright/sealwright/cmw/Indicator", "valid", "(J)Z"⟩ : MethodName)) hown (mvT hZ (hw _ (List.mem_of_getElem? (i := 0) rfl))) (mvT hZ (hw _ (List.mem_of_getElem? (i := 1) rfl))) (mvT hZ (hw _ (List.mem_of_getElem? (i := 2) rfl))) (mvT hZ (hw _ (List.mem_of_getElem? (i := 3) rfl))) (by decide) (backOf (W := 0) (rm1 l Z a0 hw [] q0 h0 n0 Z0) hZ (hw _ (List.mem_of_getElem? (i := 3) rfl)) (hw _ (List.mem_of_getElem? (i := 2) rfl)) (by decide) (by decide)) (g := (mkF m 10 #[.val (.long q0), .second, .val (.int p1), .val (.long (((p1 &&& (63 : Int32)) - (16 : Int32)).toInt64)), .second, .unset, .unset] [(.long q0)])) rfl (by rw [hml]; rfl) (argsL := [(.long q0)]) (rest := []) (lenOf pd_0_0 rfl) rfl (by show 2 * 0 + _ ≤ _; exact Nat.le_of_eq rfl) (hb hby at_10) (fun _ _ => ⟨rfl, e0, (by decide : 0 + 0 ≤ _), (by decide : 0 + 0 ≤ _)⟩)
  dsimp only [Pt.U, Pt.locs, Pt.cells, Pt.slots] at X1 l1 y1 z1 st1 hQ1
  subst l1 y1 z1
  obtain ⟨rfl, N1q, e1⟩ := hQ1
  have N1 := Fr.app N0 N1q
  refine OGo.st st1 ?_
  show OGo p e below s _ _ _ (T1.setTop (mkF m 13 #[.val (.long q0), .second, .val (.int p1), .val (.long (((p1 &&& (63 : Int32)) - (16 : Int32)).toInt64)), .second, .unset, .unset] [(.int (f1 q0))]))
  refine OGo.st (fun _ k => XS.lloadN X1.here hx rfl (hb hby at_13) rfl k) ?_
  show OGo p e below s _ _ _ (T1.setTop (mkF m 14 #[.val (.long q0), .second, .val (.int p1), .val (.long (((p1 &&& (63 : Int32)) - (16 : Int32)).toInt64)), .second, .unset, .unset] [(.long q0), (.int (f1 q0))]))
  obtain ⟨_, _, ⟨T2, L2, k2, n2⟩, -, X2, ⟨Lc2, hQ2, l2, y2, z2⟩, st2⟩ := Jvm.LawKit.callS X1 hx (y := (⟨"com/example/sealwright/sealwright/cmw/IndicatorValidPinLaw", "expected", "(J)Z"⟩ : MethodName)) hown (mvT hZ (hw _ (List.mem_of_getElem? (i := 5) rfl))) (mvT hZ (hw _ (List.mem_of_getElem? (i := 6) rfl))) (mvT hZ (hw _ (List.mem_of_getElem? (i := 7) rfl))) (mvT hZ (hw _ (List.mem_of_getElem? (i := 8) rfl))) (by decide) (backOf (W := 1) (rm2 l Z a0 hw [] q0 h0 n0 Z0) hZ (hw _ (List.mem_of_getElem? (i := 8) rfl)) (hw _ (List.mem_of_getElem? (i := 7) rfl)) (by decide) (by decide)) (g := (mkF m 14 #[.val (.long q0), .second, .val (.int p1), .val (.long (((p1 &&& (63 : Int32)) - (16 : Int32)).toInt64)), .second, .unset, .unset] [(.long q0), (.int (f1 q0))])) rfl (by rw [hml]; rfl) (argsL := [(.long q0)]) (rest := [(.int (f1 q0))]) (lenOf pd_0_0 rfl) rfl (by show 2 * 0 + _ ≤ _; exact Nat.le_of_eq rfl) (hb hby at_14) (fun _ _ => ⟨rfl, e1, (by decide : 0 + 0 ≤ _), (by decide : 0 + 0 ≤ _)⟩)
  dsimp only [Pt.U, Pt.locs, Pt.cells, Pt.slots] at X2 l2 y2 z2 st2 hQ2
  subst l2 y2 z2
  obtain ⟨rfl, N2q, e2⟩ := hQ2
  have N2 := Fr.app N1 N2q
  refine OGo.st st2 ?_
  show OGo p e below s _ _ _ (T2.setTop (mkF m 17 #[.val (.long q0), .second, .val (.int p1), .val (.long (((p1 &&& (63 : Int32)) - (16 : Int32)).toInt64)), .second, .unset, .unset] [(.int (f2 q0)), (.int (f1 q0))]))
  have hj25 : ∀ (j25_0 : Int32) (hf25_0 : f0 q0 p1 = f0_25 q0 p1 j25_0), OGo p e below s (Q0 Z q0 p1 h0 n0) room_1.cells room_1.slots (T2.setTop (mkF m 25 #[.val (.long q0), .second, .val (.int p1), .val (.long (((p1 &&& (63 : Int32)) - (16 : Int32)).toInt64)), .second, .unset, .unset] [(.int j25_0)])) := by
    intro j25_0 hf25_0
    refine OGo.st (fun _ k => XS.istore X2.here hx rfl (hb hby at_25) rfl (l' := #[.val (.long q0), .second, .val (.int p1), .val (.long (((p1 &&& (63 : Int32)) - (16 : Int32)).toInt64)), .second, .val (.int j25_0), .unset]) rfl k) ?_
    show OGo p e below s _ _ _ (T2.setTop (mkF m 27 #[.val (.long q0), .second, .val (.int p1), .val (.long (((p1 &&& (63 : Int32)) - (16 : Int32)).toInt64)), .second, .val (.int j25_0), .unset] []))
    refine OGo.st (fun _ k => XS.lloadN X2.here hx rfl (hb hby at_27) rfl k) ?_
    show OGo p e below s _ _ _ (T2.setTop (mkF m 28 #[.val (.long q0), .second, .val (.int p1), .val (.long (((p1 &&& (63 : Int32)) - (16 : Int32)).toInt64)), .second, .val (.int j25_0), .unset] [(.long (((p1 &&& (63 : Int32)) - (16 : Int32)).toInt64))]))
    obtain ⟨_, _, ⟨T4, L4, k4, n4⟩, -, X4, ⟨Lc4, hQ4, l4, y4, z4⟩, st4⟩ := Jvm.LawKit.callS X2 hx (y := (⟨"com/example/sealwright/sealwright/cmw/Indicator", "valid", "(J)Z"⟩ : MethodName)) hown (mvT hZ (hw _ (List.mem_of_getElem? (i := 0) rfl))) (mvT hZ (hw _ (List.mem_of_getElem? (i := 1) rfl))) (mvT hZ (hw _ (List.mem_of_getElem? (i := 2) rfl))) (mvT hZ (hw _ (List.mem_of_getElem? (i := 3) rfl))) (by decide) (backOf (W := 0) (rm1 l Z a0 hw [] (((p1 &&& (63 : Int32)) - (16 : Int32)).toInt64) h0 n0 Z0) hZ (hw _ (List.mem_of_getElem? (i := 3) rfl)) (hw _ (List.mem_of_getElem? (i := 2) rfl)) (by decide) (by decide)) (g := (mkF m 28 #[.val (.long q0), .second, .val (.int p1), .val (.long (((p1 &&& (63 : Int32)) - (16 : Int32)).toInt64)), .second, .val (.int j25_0), .unset] [(.long (((p1 &&& (63 : Int32)) - (16 : Int32)).toInt64))])) rfl (by rw [hml]; rfl) (argsL := [(.long (((p1 &&& (63 : Int32)) - (16 : Int32)).toInt64))]) (rest := []) (lenOf pd_0_0 rfl) rfl (by show 2 * 0 + _ ≤ _; exact Nat.le_of_eq rfl) (hb hby at_28) (fun _ _ => ⟨rfl, e2, (by decide : 0 + 0 ≤ _), (by decide : 0 + 0 ≤ _)⟩)
    dsimp only [Pt.U, Pt.locs, Pt.cells, Pt.slots] at X4 l4 y4 z4 st4 hQ4
    subst l4 y4 z4
    obtain ⟨rfl, N4q, e4⟩ := hQ4
    have N4 := Fr.app N2 N4q
    refine OGo.st st4 ?_
    show OGo p e below s _ _ _ (T4.setTop (mkF m 31 #[.val (.long q0), .second, .val (.int p1), .val (.long (((p1 &&& (63 : Int32)) - (16 : Int32)).toInt64)), .second, .val (.int j25_0), .unset] [(.int (f1 (((p1 &&& (63 : Int32)) - (16 : Int32)).toInt64)))]))
    refine OGo.st (fun _ k => XS.lloadN X4.here hx rfl (hb hby at_31) rfl k) ?_
    show OGo p e below s _ _ _ (T4.setTop (mkF m 32 #[.val (.long q0), .second, .val (.int p1), .val (.long (((p1 &&& (63 : Int32)) - (16 : Int32)).toInt64)), .second, .val (.int j25_0), .unset] [(.long (((p1 &&& (63 : Int32)) - (16 : Int32)).toInt64)), (.int (f1 (((p1 &&& (63 : Int32)) - (16 : Int32)).toInt64)))]))
    obtain ⟨_, _, ⟨T5, L5, k5, n5⟩, -, X5, ⟨Lc5, hQ5, l5, y5, z5⟩, st5⟩ := Jvm.LawKit.callS X4 hx (y := (⟨"com/example/sealwright/sealwright/cmw/IndicatorValidPinLaw", "expected", "(J)Z"⟩ : MethodName)) hown (mvT hZ (hw _ (List.mem_of_getElem? (i := 5) rfl))) (mvT hZ (hw _ (List.mem_of_getElem? (i := 6) rfl))) (mvT hZ (hw _ (List.mem_of_getElem? (i := 7) rfl))) (mvT hZ (hw _ (List.mem_of_getElem? (i := 8) rfl))) (by decide) (backOf (W := 1) (rm2 l Z a0 hw [] (((p1 &&& (63 : Int32)) - (16 : Int32)).toInt64) h0 n0 Z0) hZ (hw _ (List.mem_of_getElem? (i := 8) rfl)) (hw _ (List.mem_of_getElem? (i := 7) rfl)) (by decide) (by decide)) (g := (mkF m 32 #[.val (.long q0), .second, .val (.int p1), .val (.long (((p1 &&& (63 : Int32)) - (16 : Int32)).toInt64)), .second, .val (.int j25_0), .unset] [(.long (((p1 &&& (63 : Int32)) - (16 : Int32)).toInt64)), (.int (f1 (((p1 &&& (63 : Int32)) - (16 : Int32)).toInt64)))])) rfl (by rw [hml]; rfl) (argsL := [(.long (((p1 &&& (63 : Int32)) - (16 : Int32)).toInt64))]) (rest := [(.int (f1 (((p1 &&& (63 : Int32)) - (16 : Int32)).toInt64)))]) (lenOf pd_0_0 rfl) rfl (by show 2 * 0 + _ ≤ _; exact Nat.le_of_eq rfl) (hb hby at_32) (fun _ _ => ⟨rfl, e4, (by decide : 0 + 0 ≤ _), (by decide : 0 + 0 ≤ _)⟩)
    dsimp only [Pt.U, Pt.locs, Pt.cells, Pt.slots] at X5 l5 y5 z5 st5 hQ5
    subst l5 y5 z5
    obtain ⟨rfl, N5q, e5⟩ := hQ5
    have N5 := Fr.app N4 N5q
    refine OGo.st st5 ?_
    show OGo p e below s _ _ _ (T5.setTop (mkF m 35 #[.val (.long q0), .second, .val (.int p1), .val (.long (((p1 &&& (63 : Int32)) - (16 : Int32)).toInt64)), .second, .val (.int j25_0), .unset] [(.int (f2 (((p1 &&& (63 : Int32)) - (16 : Int32)).toInt64))), (.int (f1 (((p1 &&& (63 : Int32)) - (16 : Int32)).toInt64)))]))
    have hj43 : ∀ (j43_0 : Int32) (hf43_0 : f0 q0 p1 = f0_43 q0 p1 j25_0 j43_0), OGo p e below s (Q0 Z q0 p1 h0 n0) room_1.cells room_1.slots (T5.setTop (mkF m 43 #[.val (.long q0), .second, .val (.int p1), .val (.long (((p1 &&& (63 : Int32)) - (16 : Int32)).toInt64)), .second, .val (.int j25_0), .unset] [(.int j43_0)])) := by
      intro j43_0 hf43_0
      refine OGo.st (fun _ k => XS.istore X5.here hx rfl (hb hby at_43) rfl (l' := #[.val (.long q0), .second, .val (.int p1), .val (.long (((p1 &&& (63 : Int32)) - (16 : Int32)).toInt64)), .second, .val (.int j25_0), .val (.int j43_0)]) rfl k) ?_
      show OGo p e below s _ _ _ (T5.setTop (mkF m 45 #[.val (.long q0), .second, .val (.int p1), .val (.long (((p1 &&& (63 : Int32)) - (16 : Int32)).toInt64)), .second, .val (.int j25_0), .val (.int j43_0)] []))
      refine OGo.st (fun _ k => XS.iload X5.here hx rfl (hb hby at_45) rfl k) ?_
      show OGo p e below s _ _ _ (T5.setTop (mkF m 47 #[.val (.long q0), .second, .val (.int p1), .val (.long (((p1 &&& (63 : Int32)) - (16 : Int32)).toInt64)), .second, .val (.int j25_0), .val (.int j43_0)] [(.int j25_0)]))
      by_cases hc47 : j25_0 = (0 : Int32)
      · refine OGo.st (fun _ k => XS.ifYes X5.here hx rfl (pc0 := 47) (pc' := 59) rfl (hb hby at_47) rfl ((if0 _ _).trans (teq hc47).1) (by decide) (by decide) k) ?_
        show OGo p e below s _ _ _ (T5.setTop (mkF m 59 #[.val (.long q0), .second, .val (.int p1), .val (.long (((p1 &&& (63 : Int32)) - (16 : Int32)).toInt64)), .second, .val (.int j25_0), .val (.int j43_0)] []))
        refine OGo.st (fun _ k => XS.iconst X5.here hx rfl (hb hby at_59) k) ?_
        show OGo p e below s _ _ _ (T5.setTop (mkF m 60 #[.val (.long q0), .second, .val (.int p1), .val (.long (((p1 &&& (63 : Int32)) - (16 : Int32)).toInt64)), .second, .val (.int j25_0), .val (.int j43_0)] [(.int (0 : Int32))]))
        exact oretN X5 hx Bd.notSynchronized (t := .boolean) Bd.returns (by simp) (hb hby at_60) (z' := (0 : Int32)) (by decide) e5 ⟨(congrArg (fun z => some (Value.int z)) (show (0 : Int32) = f0 q0 p1 from Eq.symm (hf43_0.trans (by unfold f0_43; exact if_pos hc47)))), N5⟩ (by decide) (by decide)
      · refine OGo.st (fun _ k => XS.ifNo X5.here hx rfl (hb hby at_47) rfl ((if0 _ _).trans (feq hc47).1) k) ?_
        show OGo p e below s _ _ _ (T5.setTop (mkF m 50 #[.val (.long q0), .second, .val (.int p1), .val (.long (((p1 &&& (63 : Int32)) - (16 : Int32)).toInt64)), .second, .val (.int j25_0), .val (.int j43_0)] []))
        refine OGo.st (fun _ k => XS.iload X5.here hx rfl (hb hby at_50) rfl k) ?_
        show OGo p e below s _ _ _ (T5.setTop (mkF m 52 #[.val (.long q0), .second, .val (.int p1), .val (.long (((p1 &&& (63 : Int32)) - (16 : Int32)).toInt64)), .second, .val (.int j25_0), .val (.int j43_0)] [(.int j43_0)]))
        by_cases hc52 : j43_0 = (0 : Int32)
        · refine OGo.st (fun _ k => XS.ifYes X5.here hx rfl (pc0 := 52) (pc' := 59) rfl (hb hby at_52) rfl ((if0 _ _).trans (teq hc52).1) (by decide) (by decide) k) ?_
          show OGo p e below s _ _ _ (T5.setTop (mkF m 59 #[.val (.long q0), .second, .val (.int p1), .val (.long (((p1 &&& (63 : Int32)) - (16 : Int32)).toInt64)), .second, .val (.int j25_0), .val (.int j43_0)] []))
          refine OGo.st (fun _ k => XS.iconst X5.here hx rfl (hb hby at_59) k) ?_
          show OGo p e below s _ _ _ (T5.setTop (mkF m 60 #[.val (.long q0), .second, .val (.int p1), .val (.long (((p1 &&& (63 : Int32)) - (16 : Int32)).toInt64)), .second, .val (.int j25_0), .val (.int j43_0)] [(.int (0 : Int32))]))
          exact oretN X5 hx Bd.notSynchronized (t := .boolean) Bd.returns (by simp) (hb hby at_60) (z' := (0 : Int32)) (by decide) e5 ⟨(congrArg (fun z => some (Value.int z)) (show (0 : Int32) = f0 q0 p1 from Eq.symm (hf43_0.trans (by unfold f0_43; exact (if_neg hc47).trans (if_pos hc52))))), N5⟩ (by decide) (by decide)
        · refine OGo.st (fun _ k => XS.ifNo X5.here hx rfl (hb hby at_52) rfl ((if0 _ _).trans (feq hc52).1) k) ?_
          show OGo p e below s _ _ _ (T5.setTop (mkF m 55 #[.val (.long q0), .second, .val (.int p1), .val (.long (((p1 &&& (63 : Int32)) - (16 : Int32)).toInt64)), .second, .val (.int j25_0), .val (.int j43_0)] []))
          refine OGo.st (fun _ k => XS.iconst X5.here hx rfl (hb hby at_55) k) ?_
          show OGo p e below s _ _ _ (T5.setTop (mkF m 56 #[.val (.long q0), .second, .val (.int p1), .val (.long (((p1 &&& (63 : Int32)) - (16 : Int32)).toInt64)), .second, .val (.int j25_0), .val (.int j43_0)] [(.int (1 : Int32))]))
          refine OGo.st (fun _ k => XS.goto X5.here hx rfl (pc0 := 56) (pc' := 60) rfl (hb hby at_56) (by decide) (by decide) k) ?_
          show OGo p e below s _ _ _ (T5.setTop (mkF m 60 #[.val (.long q0), .second, .val (.int p1), .val (.long (((p1 &&& (63 : Int32)) - (16 : Int32)).toInt64)), .second, .val (.int j25_0), .val (.int j43_0)] [(.int (1 : Int32))]))
          exact oretN X5 hx Bd.notSynchronized (t := .boolean) Bd.returns (by simp) (hb hby at_60) (z' := (1 : Int32)) (by decide) e5 ⟨(congrArg (fun z => some (Value.int z)) (show (1 : Int32) = f0 q0 p1 from Eq.symm (hf43_0.trans (by unfold f0_43; exact (if_neg hc47).trans (if_neg hc52))))), N5⟩ (by decide) (by decide)
    by_cases hc35 : (f1 (((p1 &&& (63 : Int32)) - (16 : Int32)).toInt64)) = (f2 (((p1 &&& (63 : Int32)) - (16 : Int32)).toInt64))
    · refine OGo.st (fun _ k => XS.icmpNo X5.here hx rfl (hb hby at_35) rfl (teq hc35).2 k) ?_
      show OGo p e below s _ _ _ (T5.setTop (mkF m 38 #[.val (.long q0), .second, .val (.int p1), .val (.long (((p1 &&& (63 : Int32)) - (16 : Int32)).toInt64)), .second, .val (.int j25_0), .unset] []))
      refine OGo.st (fun _ k => XS.iconst X5.here hx rfl (hb hby at_38) k) ?_
      show OGo p e below s _ _ _ (T5.setTop (mkF m 39 #[.val (.long q0), .second, .val (.int p1), .val (.long (((p1 &&& (63 : Int32)) - (16 : Int32)).toInt64)), .second, .val (.int j25_0), .unset] [(.int (1 : Int32))]))
      refine OGo.st (fun _ k => XS.goto X5.here hx rfl (pc0 := 39) (pc' := 43) rfl (hb hby at_39) (by decide) (by decide) k) ?_
      show OGo p e below s _ _ _ (T5.setTop (mkF m 43 #[.val (.long q0), .second, .val (.int p1), .val (.long (((p1 &&& (63 : Int32)) - (16 : Int32)).toInt64)), .second, .val (.int j25_0), .unset] [(.int (1 : Int32))]))
      exact hj43 (1 : Int32) (hf25_0.trans (by unfold f0_25; exact if_pos hc35))
    · refine OGo.st (fun _ k => XS.icmpYes X5.here hx rfl (pc0 := 35) (pc' := 42) rfl (hb hby at_35) rfl (feq hc35).2 (by decide) (by decide) k) ?_
      show OGo p e below s _ _ _ (T5.setTop (mkF m 42 #[.val (.long q0), .second, .val (.int p1), .val (.long (((p1 &&& (63 : Int32)) - (16 : Int32)).toInt64)), .second, .val (.int j25_0), .unset] []))
      refine OGo.st (fun _ k => XS.iconst X5.here hx rfl (hb hby at_42) k) ?_
      show OGo p e below s _ _ _ (T5.setTop (mkF m 43 #[.val (.long q0), .second, .val (.int p1), .val (.long (((p1 &&& (63 : Int32)) - (16 : Int32)).toInt64)), .second, .val (.int j25_0), .unset] [(.int (0 : Int32))]))
      exact hj43 (0 : Int32) (hf25_0.trans (by unfold f0_25; exact if_neg hc35))
  by_cases hc17 : (f1 q0) = (f2 q0)
  · refine OGo.st (fun _ k => XS.icmpNo X2.here hx rfl (hb hby at_17) rfl (teq hc17).2 k) ?_
    show OGo p e below s _ _ _ (T2.setTop (mkF m 20 #[.val (.long q0), .second, .val (.int p1), .val (.long (((p1 &&& (63 : Int32)) - (16 : Int32)).toInt64)), .second, .unset, .unset] []))
    refine OGo.st (fun _ k => XS.iconst X2.here hx rfl (hb hby at_20) k) ?_
    show OGo p e below s _ _ _ (T2.setTop (mkF m 21 #[.val (.long q0), .second, .val (.int p1), .val (.long (((p1 &&& (63 : Int32)) - (16 : Int32)).toInt64)), .second, .unset, .unset] [(.int (1 : Int32))]))
    refine OGo.st (fun _ k => XS.goto X2.here hx rfl (pc0 := 21) (pc' := 25) rfl (hb hby at_21) (by decide) (by decide) k) ?_
    show OGo p e below s _ _ _ (T2.setTop (mkF m 25 #[.val (.long q0), .second, .val (.int p1), .val (.long (((p1 &&& (63 : Int32)) - (16 : Int32)).toInt64)), .second, .unset, .unset] [(.int (1 : Int32))]))
    exact hj25 (1 : Int32) (by unfold f0; exact if_pos hc17)
  · refine OGo.st (fun _ k => XS.icmpYes X2.here hx rfl (pc0 := 17) (pc' := 24) rfl (hb hby at_17) rfl (feq hc17).2 (by decide) (by decide) k) ?_
    show OGo p e below s _ _ _ (T2.setTop (mkF m 24 #[.val (.long q0), .second, .val (.int p1), .val (.long (((p1 &&& (63 : Int32)) - (16 : Int32)).toInt64)), .second, .unset, .unset] []))
    refine OGo.st (fun _ k => XS.iconst X2.here hx rfl (hb hby at_24) k) ?_
    show OGo p e below s _ _ _ (T2.setTop (mkF m 25 #[.val (.long q0), .second, .val (.int p1), .val (.long (((p1 &&& (63 : Int32)) - (16 : Int32)).toInt64)), .second, .unset, .unset] [(.int (0 : Int32))]))
    exact hj25 (0 : Int32) (by unfold f0; exact if_neg hc17)
theorem own_c0 : (0 : Int64).toInt = 0 := by decide
theorem own_c1 : (1 : Int64).toInt = 1 := by decide
theorem own_c31 : (31 : Int64).toInt = 31 := by decide
theorem own_parts (x : Int64) : x = (x &&& (-32 : Int64)) ||| (x &&& (31 : Int64)) := by
  apply Int64.toBitVec_inj.mp
  rw [Int64.toBitVec_or, Int64.toBitVec_and, Int64.toBitVec_and, ← BitVec.and_or_distrib_left]
  have q : ((-32 : Int64).toBitVec ||| (31 : Int64).toBitVec) = BitVec.allOnes 64 := by decide
  rw [q, BitVec.and_allOnes]
theorem own_eq (x : Int64) : f1 x = f2 x := by
  have m := Jvm.Kit.i64_mask x 31 (k := 5) (by decide) (by decide)
  unfold f1 f2
  simp only [Int64.lt_iff_toInt_lt, own_c1, own_c31]
  by_cases h : (x &&& (-32 : Int64)) = 0
  · have e := own_parts x
    rw [h, Int64.zero_or] at e
    have m' : x.toInt = x.toInt % 2 ^ 5 := (congrArg Int64.toInt e).trans m
    rw [if_pos h]
    by_cases z : x = 0
    · rw [if_pos z]; subst z; rfl
    · rw [if_neg z]
      have z' : x.toInt ≠ 0 := fun q => z (Int64.toInt_inj.mp (q.trans own_c0.symm))
      rw [if_neg (by omega), if_neg (by omega)]
  · rw [if_neg h, ite_self]
    have q : ¬ (0 ≤ x.toInt ∧ x.toInt ≤ 31) := fun hb => h (by
      have e : x &&& (31 : Int64) = x := Int64.toInt_inj.mp (by rw [m]; omega)
      have r : (31 : Int64) &&& (-32 : Int64) = 0 := by decide
      rw [← e, Int64.and_assoc, r, Int64.and_zero])
    by_cases a : x.toInt < 1
    · rw [if_pos a]
    · rw [if_neg a, if_pos (by omega)]
theorem own_plain (q0 : Int64) (p1 : Int32) : f0 q0 p1 = 1 := by
  unfold f0 f0_25 f0_43
  simp [own_eq]
set_option maxRecDepth 65536 in
set_option maxHeartbeats 40000000 in
theorem comes_1 {Post : Tables → Env → Array Value → State → Outcome → State → Prop} (hpost : ∀ tb e args s v u, (limb_1_1.after args s (.returned v) u = true ∧ limb_1_2.after args s (.returned v) u = true ∧ True) → FrameEnd s (.returned v) u (Jvm.fieldLocs frame_1_writes args s ++ Jvm.arrayLocs frame_1_arrays args s ++ Jvm.staticLocs frame_1_statics s) 0 0 → Post tb e args s (.returned v) u) :
    ArmFor flags0 classFile x code maxLocals ret World_1 tables_1 room_1 Calls_1 rest_1 Pre_1 Post := by
  intro l hfl _ _ p e ha hc hk s m args below hf hA hF happ hP
  obtain ⟨hcalls, hrest, hpre⟩ := hP
  obtain ⟨-, -, -, hnamed, -, -, -, hat⟩ := (Spec.applies_iff hf).mp happ
  obtain ⟨hg, hn⟩ := and_e (Cond.before_iff.mp (show (Jvm.Cond.and given_1 narrow_1).before args s = true from hpre))
  obtain ⟨gv1, gv2⟩ := and_e hg
  obtain ⟨gv3, gv4⟩ := and_e gv2
  obtain ⟨w0, w1, rfl⟩ : ∃ w0 w1 : Value, args = #[w0, w1] := by
    have hs : args.size = 2 := by simpa [Cond.value, given_1] using gv1
    obtain ⟨L⟩ := args
    match L, hs with
    | [w0, w1], _ => exact ⟨w0, w1, rfl⟩
  have hw := fun d (hd : d ∈ tables_1) => atoms_spec (ws := Jvm.Cond.code x code maxLocals ret :: tables_1) hat d (List.mem_cons_of_mem _ hd)
  have hfit : Fit s := fun {y c} hc i hi => by
    obtain ⟨ha, rfl⟩ := Array.getElem?_eq_some_iff.mp hc
    have q := List.all_eq_true.mp ((Array.all_eq_true_iff_forall_mem.mp hF) _ (Array.getElem_mem ha)) i (List.mem_range.mpr hi)
    simpa [Array.getElem?_eq_getElem hi] using q
  obtain ⟨i0, ei0⟩ := isL_v gv3
  obtain rfl : w0 = (.long i0) := Option.some.inj ei0
  obtain ⟨i1, ei1⟩ := is_v gv4
  obtain rfl : w1 = (.int i1) := Option.some.inj ei1
  have hpl := own_plain i0 i1
  obtain ⟨n, o, h1, h2, h3, _, L, rfl, ⟨rfl, N⟩, hq⟩ := rm0 l s _ hw tables_1 i0 i1 s.heap s.heap.size (Nat.le_refl _) p e ha hc hk s m _ below hf ((Spec.applies_iff_loose hf).mp happ).1 ⟨rfl, State.Warmed39.refl s, rfl⟩ trivial
  refine ⟨n, _, h1, h2, h3, hpost _ _ _ _ _ _ ⟨Cond.after_iff.mpr rfl, Cond.after_iff.mpr (eq_i res_at (Term.int_eval (1)) (congrArg Value.int hpl)), trivial⟩ ⟨hq.1, hq.2.1, (hq.2.2.sift fun y hy => Or.inr (N y hy)).mono (by decide) (by decide)⟩⟩
theorem main_1_1 : Claimed_1_1 := comes_1 fun _ _ _ _ _ _ h hF => ⟨h.1, hF⟩
theorem main_1_2 : Claimed_1_2 := comes_1 fun _ _ _ _ _ _ h hF => ⟨h.2.1, hF⟩
end Jvm.Pilot.@@N@@
namespace Jvm.Pilot.@@N@@
open Jvm Jvm.ClassFile Sem Op Lib Jvm.Free Jvm.Stand Jvm.Pilot.@@N@@.Jvm.D
/-! MADE BY PROGRAM (witnessworld.py) out of the Statement's table words and the real class files: 9 classes; the members and pool entries that the words name. The judged class is class 1, her method 2. -/
namespace start1
open Jvm.ClassFile
def u (s : String) : CpInfo := .utf8 (stringToUtf16 s)
/-- a pool by its gaps: so many unusable entries, then the entry; so many at the end -/
def gap : Nat → List CpInfo → List CpInfo
  | 0, r => r
  | n + 1, r => .unusable :: gap n r
def poolList (es : List (Nat × CpInfo)) (last : Nat) : List CpInfo := es.foldr (fun e r => gap e.1 (e.2 :: r)) (gap last [])
def pool (es : List (Nat × CpInfo)) (last : Nat) : Array CpInfo := ⟨poolList es last⟩
def fileOf (pool : Array CpInfo) (this : Nat) (attrs : Array Attribute := #[]) (ms : Array MethodInfo := #[]) (fl : Nat := 33) (sup : Nat := 0) (ifs : Array Nat := #[]) (fds : Array FieldInfo := #[]) : ClassFile where
  minorVersion := 0
  majorVersion := 65
  constantPool := pool
  accessFlags := fl
  thisClass := this
  superClass := sup
  interfaces := ifs
  fields := fds
  methods := ms
  attributes := attrs
def plain (name : String) (sup : Option ClassId) : Class where
  name := name
  kind := .ordinary
  loader := none
  accessFlags := 33
  super := sup
  interfaces := #[]
  cf := none
  fields := #[]
  methods := #[]
  instanceTypes := #[]
  staticTypes := #[]
  resolved := #[]
  callSites := []
  init := .initialized
  statics := none
  mirror := none

def pool0 : Array CpInfo := pool [(5, u "<init>"), (0, u "()V"), (1, .class_ 10), (1, u "java/lang/Object")] 113

def k0m0 : Method := { name := "<init>", desc := "()V", sig := { parameters := [], returnType := none }, accessFlags := 1, code := none }
/-- java/lang/Object -/
def k0 : Class := { plain "java/lang/Object" none with
  accessFlags := 33
  interfaces := #[]
  cf := some (fileOf pool0 8 #[] #[{ accessFlags := 1, nameIndex := 5, descriptorIndex := 6, attributes := #[] }] 33 0 #[] #[])
  fields := #[]
  methods := #[k0m0]
  instanceTypes := #[]
  staticTypes := #[]
  resolved := Array.replicate 124 none
  statics := none }

def pool1 : Array CpInfo := pool [(2, .class_ 4), (1, u "java/lang/Object"), (0, u "<init>"), (0, u "()V"), (0, .long 18446744073709551584), (1, .methodref 10 11), (0, .class_ 12), (0, .nameAndType 13 14), (0, u "com/example/sealwright/sealwright/cmw/Indicator"), (0, u "valid"), (0, u "(J)Z"), (0, .methodref 16 17), (0, .class_ 18), (0, .nameAndType 19 14), (0, u "com/example/sealwright/sealwright/cmw/IndicatorValidPinLaw"), (0, u "expected"), (3, u "law"), (0, u "(JI)Z")] 2

def k1m0 : Method := { name := "<init>", desc := "()V", sig := { parameters := [], returnType := none }, accessFlags := 2, code := none }
def k1c1 : Code := { maxStack := 4, maxLocals := 2, code := method_2_code, exceptionTable := #[], attributes := #[] }
def k1m1 : Method := { name := "expected", desc := "(J)Z", sig := { parameters := [.long], returnType := some .boolean }, accessFlags := 10, code := some k1c1 }
def k1c2 : Code := { maxStack := 3, maxLocals := 7, code := code, exceptionTable := #[], attributes := #[] }
def k1m2 : Method := { name := "law", desc := "(JI)Z", sig := { parameters := [.long, .int], returnType := some .boolean }, accessFlags := 9, code := some k1c2 }
/-- com/example/sealwright/sealwright/cmw/IndicatorValidPinLaw -/
def k1 : Class := { plain "com/example/sealwright/sealwright/cmw/IndicatorValidPinLaw" (some 0) with
  accessFlags := 49
  interfaces := #[]
  cf := some (fileOf pool1 16 #[] #[{ accessFlags := 2, nameIndex := 5, descriptorIndex := 6, attributes := #[] }, { accessFlags := 10, nameIndex := 19, descriptorIndex := 14, attributes := #[] }, { accessFlags := 9, nameIndex := 23, descriptorIndex := 24, attributes := #[] }] 49 2 #[] #[])
  fields := #[]
  methods := #[k1m0, k1m1, k1m2]
  instanceTypes := #[]
  staticTypes := #[]
  resolved := Array.replicate 27 none
  statics := none }

def pool2 : Array CpInfo := pool [(2, .class_ 4), (1, u "java/lang/Object"), (0, u "<init>"), (0, u "()V"), (0, .class_ 8), (0, u "com/example/sealwright/sealwright/cmw/Indicator"), (0, .long 31), (6, u "NAMES"), (0, u "Ljava/util/List;"), (30, u "HIGHEST"), (0, u "I"), (6, u "valid"), (0, u "(J)Z")] 7

def k2m0 : Method := { name := "<init>", desc := "()V", sig := { parameters := [], returnType := none }, accessFlags := 2, code := none }
def k2c1 : Code := { maxStack := 4, maxLocals := 2, code := prog_9_method_2_code, exceptionTable := #[], attributes := #[] }
def k2m1 : Method := { name := "valid", desc := "(J)Z", sig := { parameters := [.long], returnType := some .boolean }, accessFlags := 9, code := some k2c1 }
/-- com/example/sealwright/sealwright/cmw/Indicator -/
def k2 : Class := { plain "com/example/sealwright/sealwright/cmw/Indicator" (some 0) with
  accessFlags := 49
  interfaces := #[]
  cf := some (fileOf pool2 7 #[] #[{ accessFlags := 2, nameIndex := 5, descriptorIndex := 6, attributes := #[] }, { accessFlags := 9, nameIndex := 56, descriptorIndex := 57, attributes := #[] }] 49 2 #[] #[{ accessFlags := 25, nameIndex := 48, descriptorIndex := 49, attributes := #[] }, { accessFlags := 26, nameIndex := 16, descriptorIndex := 17, attributes := #[] }])
  fields := #[{ name := "HIGHEST", type := .int, accessFlags := 25, slot := 0, constantValue := 0 }, { name := "NAMES", type := (.object "java/util/List"), accessFlags := 26, slot := 1, constantValue := 0 }]
  methods := #[k2m0, k2m1]
  instanceTypes := #[]
  staticTypes := #[.int, (.object "java/util/List")]
  resolved := Array.replicate 65 none
  statics := none }

def pool3 : Array CpInfo := pool [(1, u "java/lang/Cloneable"), (0, .class_ 1), (0, u "java/lang/Object"), (0, .class_ 3)] 3

/-- java/lang/Cloneable -/
def k3 : Class := { plain "java/lang/Cloneable" (some 0) with
  accessFlags := 1537
  interfaces := #[]
  cf := some (fileOf pool3 2 #[] #[] 1537 4 #[] #[])
  fields := #[]
  methods := #[]
  instanceTypes := #[]
  staticTypes := #[]
  resolved := Array.replicate 8 none
  statics := none }

def pool4 : Array CpInfo := pool [(1, u "java/io/Serializable"), (0, .class_ 1), (0, u "java/lang/Object"), (0, .class_ 3)] 3

/-- java/io/Serializable -/
def k4 : Class := { plain "java/io/Serializable" (some 0) with
  accessFlags := 1537
  interfaces := #[]
  cf := some (fileOf pool4 2 #[] #[] 1537 4 #[] #[])
  fields := #[]
  methods := #[]
  instanceTypes := #[]
  staticTypes := #[]
  resolved := Array.replicate 8 none
  statics := none }

/-- the primitive byte -/
def k5 : Class := { plain "byte" none with kind := .primitive 'B', accessFlags := 0x411 }
/-- [B -/
def k6 : Class := { plain "[B" (some 0) with kind := .array 5 .byte, interfaces := #[3, 4], accessFlags := 1041 }

/-- the primitive int -/
def k7 : Class := { plain "int" none with kind := .primitive 'I', accessFlags := 0x411 }
/-- [I -/
def k8 : Class := { plain "[I" (some 0) with kind := .array 7 .int, interfaces := #[3, 4], accessFlags := 1041 }

def heap : Heap := #[]
def classes : Array Class := #[k0, k1, k2, k3, k4, k5, k6, k7, k8]
def interned : List (Array UInt16 × Addr) := []
def slotsUsed : Nat := 0
def theMethod : MethodId := ⟨1, 2⟩
def args0 : Array Value := #[.long 5, .int 7]
def aboutOver (below : List Frame) : State where
  vm := { classes := classes, interned := interned.toArray }
  heap := heap
  slotsUsed := slotsUsed
  threads := #[{ frames := .invoking theMethod args0 :: below }]
def below0 : List Frame := [.native { method := ⟨0, 0⟩, args := #[] }]
def about1 : State := aboutOver below0
def p0 : Program := .bare "" "" ""
def e0 : Env := launch0.env 0 0 0
theorem w_frames : about1.frames = Frame.invoking theMethod args0 :: below0 := rfl
set_option maxRecDepth 65536 in
theorem w_args : argsFit about1.vm theMethod args0 = true := by decide +kernel
set_option maxRecDepth 65536 in
theorem w_heap : heapFits about1 = true := by decide +kernel
set_option maxRecDepth 65536 in
theorem w_runnable : about1.curStatus? = some .runnable := by decide +kernel
set_option maxRecDepth 65536 in
theorem w_alone : about1.alone = true := by decide +kernel
set_option maxRecDepth 65536 in
theorem w_named : about1.methodNamed? x = some theMethod := by decide +kernel
set_option maxRecDepth 65536 in
theorem w_hears : about1.hears theMethod below0 = true := by decide +kernel
set_option maxRecDepth 65536 in
theorem w_ripe : about1.ripe theMethod args0 below0 = true := by decide +kernel
theorem w_running : about1.status = .running := rfl
set_option maxRecDepth 65536 in
theorem w_room : about1.hasRoom e0.platform room_1 = true :=
  launch0.hasRoom_least _ room_1 (by decide +kernel) (by decide +kernel) (by decide +kernel) (by decide +kernel) (by decide +kernel) (by decide +kernel)
theorem allAtoms_all (ts : List Jvm.Cond) (a : Array Jvm.Value) (st : Jvm.State) : (allAtoms ts).before a st = ts.all (fun c => c.before a st) := by
  induction ts with
  | nil => rfl
  | cons c t ih =>
    show (Jvm.Cond.and c (allAtoms t)).before a st = _
    rw [Jvm.Cond.before_and, ih, List.all_cons]
def words1 : List Jvm.Cond := Jvm.Cond.code x code maxLocals ret :: tables_1
/-- a 'code' word, met by the world's own term for the bytes: nothing is compared byte by byte -/
theorem code_word {y : MethodName} {bytes : ByteArray} {mx : Nat} {rt : Option FieldType} {a : Array Value} {s : State} {m : MethodId} {meth : Method} {c : Code} (h1 : s.methodNamed? y = some m) (h2 : s.vm.method? m = some meth) (h3 : meth.code = some c) (h4 : c.code = bytes)
    (h5 : (c.maxLocals == mx && c.exceptionTable.isEmpty && decide (c.maxStack ≤ mostOperands) && decide (meth.sig.returnType = rt) && !meth.locks && decide (parseMethodDescriptor y.desc = some meth.sig)) = true) : (Jvm.Cond.code y bytes mx rt).before a s = true := by
  simp only [Bool.and_eq_true, beq_iff_eq, Bool.not_eq_true', decide_eq_true_eq] at h5
  obtain ⟨⟨⟨⟨⟨g1, g2⟩, g3⟩, g4⟩, g5⟩, g6⟩ := h5
  simp [Cond.before, Cond.holds, Cond.value, h1, h2, h3, h4, g1, g2, g3, g4, g5, g6]
def isCode : Jvm.Cond → Bool
  | .code _ _ _ _ => true
  | _ => false
theorem all_split {L : List Jvm.Cond} {P : Jvm.Cond → Bool} (h1 : L.all (fun c => isCode c || P c) = true) (h2 : ∀ c ∈ L.filter isCode, P c = true) : L.all P = true := by
  refine List.all_eq_true.mpr fun c hc => ?_
  have h := List.all_eq_true.mp h1 c hc
  rcases Bool.eq_false_or_eq_true (isCode c) with hi | hi
  · exact h2 c (List.mem_filter.mpr ⟨hc, hi⟩)
  · simpa [hi] using h
set_option maxRecDepth 65536 in
theorem w_c0 : (Jvm.Cond.code x code maxLocals ret).before args0 about1 = true := code_word (m := ⟨1, 2⟩) (meth := k1m2) (c := k1c2) (by decide +kernel) rfl rfl rfl (by decide +kernel)
set_option maxRecDepth 65536 in
theorem w_c1 : (Jvm.Cond.code ({ cls := "com/example/sealwright/sealwright/cmw/Indicator", name := "valid", desc := "(J)Z" } : Jvm.MethodName) prog_9_method_2_code (2 : Nat) (Option.some Jvm.ClassFile.FieldType.boolean)).before args0 about1 = true := code_word (m := ⟨2, 1⟩) (meth := k2m1) (c := k2c1) (by decide +kernel) rfl rfl rfl (by decide +kernel)
set_option maxRecDepth 65536 in
theorem w_c2 : (Jvm.Cond.code ({ cls := "com/example/sealwright/sealwright/cmw/IndicatorValidPinLaw", name := "expected", desc := "(J)Z" } : Jvm.MethodName) method_2_code (2 : Nat) (Option.some Jvm.ClassFile.FieldType.boolean)).before args0 about1 = true := code_word (m := ⟨1, 1⟩) (meth := k1m1) (c := k1c1) (by decide +kernel) rfl rfl rfl (by decide +kernel)
def codes1 : List Jvm.Cond := [Jvm.Cond.code x code maxLocals ret, Jvm.Cond.code ({ cls := "com/example/sealwright/sealwright/cmw/Indicator", name := "valid", desc := "(J)Z" } : Jvm.MethodName) prog_9_method_2_code (2 : Nat) (Option.some Jvm.ClassFile.FieldType.boolean), Jvm.Cond.code ({ cls := "com/example/sealwright/sealwright/cmw/IndicatorValidPinLaw", name := "expected", desc := "(J)Z" } : Jvm.MethodName) method_2_code (2 : Nat) (Option.some Jvm.ClassFile.FieldType.boolean)]
set_option maxRecDepth 65536 in
theorem codes_eq : words1.filter isCode = codes1 := rfl
theorem w_codes : ∀ c ∈ words1.filter isCode, c.before args0 about1 = true := by
  rw [codes_eq]
  intro c hc
  simp only [codes1, List.mem_cons, List.not_mem_nil, or_false] at hc
  rcases hc with rfl | rfl | rfl
  · exact w_c0
  · exact w_c1
  · exact w_c2
set_option maxRecDepth 65536 in
theorem w_t1 : words1.all (fun c => isCode c || c.before args0 about1) = true := by decide +kernel
theorem w_tables : (allAtoms (Jvm.Cond.code x code maxLocals ret :: tables_1)).before args0 about1 = true := by
  rw [allAtoms_all]
  show words1.all (fun c => c.before args0 about1) = true
  refine all_split ?_ w_codes
  rw [w_t1]
set_option maxRecDepth 65536 in
theorem w_case : (Jvm.Cond.and given_1 narrow_1).before args0 about1 = true := by decide +kernel
theorem w_applies : (headSpec (Jvm.Cond.code x code maxLocals ret :: tables_1) room_1).applies x e0.platform about1 = true :=
  (Spec.applies_iff w_frames).mpr ⟨w_running, w_runnable, w_alone, w_named, w_hears, w_ripe, w_room, w_tables⟩
theorem atStart : AtStart classFile x code maxLocals ret World_1 tables_1 room_1 Calls_1 rest_1 Pre_1 launch0 p0 e0 about1 theMethod args0 below0 :=
  ⟨lists_1, trivial, launch0.admits_env _ _ _, launch0.least_env, fairChoices_fair.cas, fairChoices_fair.clock, w_frames, w_args, w_heap, w_applies, trivial, trivial, w_case⟩
end start1
theorem witness_1 : WitnessClaimed_1 := ⟨start1.p0, start1.e0, start1.about1, start1.theMethod, start1.args0, start1.below0, start1.atStart⟩
end Jvm.Pilot.@@N@@
