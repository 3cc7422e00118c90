import JvmDerived
import JvmDerived.Pilot.@@N@@Statement
import JvmDerived.Pilot.@@N@@Code
set_option linter.unusedVariables false
set_option linter.unusedSimpArgs false
@@BLOCK:NumsL.lean.txt@@
namespace Jvm.RoadKit
open Sem ClassFile Op Lib Jvm.Stand Jvm.Free Jvm.LawKit
section Own
variable {p : Program} {l : Launch} {e : Env} {R : Room} {s : State} {m : MethodId} {args : Array Value} {below : List Frame} {meth : Method} {c : Code} {T : State} {locs : List Loc} {cells slots : Nat}
/-- from t the run ends in a return of which Q holds -/
def OGo (p : Program) (e : Env) (below : List Frame) (s : State) (Q : Option Value → Heap → List Loc → Prop) (C N : Nat) (t : State) : Prop :=
  ∃ s₂ o, Steps p.tables e below t s₂ ∧ s₂.status = .running ∧ Ended s₂ below o ∧ ∃ v L, o = .returned v ∧ Q v s₂.heap L ∧ FrameEnd s o s₂ L C N
theorem OGo.st {Q : Option Value → Heap → List Loc → Prop} {C N : Nat} {t t' : State} (k : ∀ target, Steps p.tables e below t' target → Steps p.tables e below t target) (h : OGo p e below s Q C N t') : OGo p e below s Q C N t := by
  obtain ⟨s₂, o, a, r⟩ := h; exact ⟨s₂, o, k _ a, r⟩
theorem oretW {Q : Option Value → Heap → List Loc → Prop} {C N : Nat} (X : Stand p l e R s m args below meth c T locs cells slots) (hx : p.tables.exec = Jvm.exec) (hlk : meth.locks = false) {pc : Nat} {Ls : Array Slot} {w : Value} {t : FieldType} {i : Instr} {rest : List Value} (hret : meth.sig.returnType = some t) (hn : narrow t w = w)
    (hi : (i = .ireturn ∧ (t = .int ∨ t = .boolean ∨ t = .byte ∨ t = .char ∨ t = .short) ∧ ∃ z, w = .int z) ∨ (i = .lreturn ∧ t = .long ∧ ∃ z, w = .long z) ∨ (i = .dreturn ∧ t = .double ∧ ∃ z, w = .double z) ∨ (i = .freturn ∧ t = .float ∧ ∃ z, w = .float z) ∨ (i = .areturn ∧ t.isReference = true ∧ w.isRef = true))
    (hd : decode c.code pc = .ok (i, 1)) {h : Heap} (hh : T.heap = h) (hq : Q (some w) h locs) (hC : cells ≤ C) (hN : slots ≤ N) : OGo p e below s Q C N (T.setTop (mkF m pc Ls (w :: rest))) := by
  obtain ⟨fs, hr, hrun, hended, hW, hsame⟩ := X.leave (v := some w) (fun h => by rw [hret] at h; cases h) hlk
  exact ⟨_, _, retOut X hx hret hn hi hd hr, hrun, hended, _, _, rfl, hh ▸ hq, ⟨_, rfl⟩, hW, hsame.mono hC hN⟩
theorem oretI {Q : Option Value → Heap → List Loc → Prop} {C N : Nat} (X : Stand p l e R s m args below meth c T locs cells slots) (hx : p.tables.exec = Jvm.exec) (hlk : meth.locks = false) {pc : Nat} {Ls : Array Slot} {z : Int32} {rest : List Value} (hret : meth.sig.returnType = some .int)
    (hd : decode c.code pc = .ok (.ireturn, 1)) {h : Heap} (hh : T.heap = h) (hq : Q (some (.int z)) h locs) (hC : cells ≤ C) (hN : slots ≤ N) : OGo p e below s Q C N (T.setTop (mkF m pc Ls (.int z :: rest))) :=
  oretW X hx hlk hret rfl (Or.inl ⟨rfl, Or.inl rfl, _, rfl⟩) hd hh hq hC hN
theorem oretJ {Q : Option Value → Heap → List Loc → Prop} {C N : Nat} (X : Stand p l e R s m args below meth c T locs cells slots) (hx : p.tables.exec = Jvm.exec) (hlk : meth.locks = false) {pc : Nat} {Ls : Array Slot} {z : Int64} {rest : List Value} (hret : meth.sig.returnType = some .long)
    (hd : decode c.code pc = .ok (.lreturn, 1)) {h : Heap} (hh : T.heap = h) (hq : Q (some (.long z)) h locs) (hC : cells ≤ C) (hN : slots ≤ N) : OGo p e below s Q C N (T.setTop (mkF m pc Ls (.long z :: rest))) :=
  oretW X hx hlk hret rfl (Or.inr (Or.inl ⟨rfl, rfl, _, rfl⟩)) hd hh hq hC hN
theorem onarR {t : FieldType} {w : Value} (ht : t.isReference = true) (hw : w.isRef = true) : narrow t w = w := by
  cases t <;> first | (cases ht; done) | (cases w <;> first | rfl | (cases hw; done))
theorem ofitR {t : FieldType} {w : Value} (ht : t.isReference = true) (hw : w.isRef = true) : fits t w = true := by
  cases t <;> first | (cases ht; done) | (cases w <;> first | rfl | (cases hw; done))
theorem oretA {Q : Option Value → Heap → List Loc → Prop} {C N : Nat} (X : Stand p l e R s m args below meth c T locs cells slots) (hx : p.tables.exec = Jvm.exec) (hlk : meth.locks = false) {pc : Nat} {Ls : Array Slot} {w : Value} {t : FieldType} {rest : List Value} (hret : meth.sig.returnType = some t) (ht : t.isReference = true) (hw : w.isRef = true)
    (hd : decode c.code pc = .ok (.areturn, 1)) {h : Heap} (hh : T.heap = h) (hq : Q (some w) h locs) (hC : cells ≤ C) (hN : slots ≤ N) : OGo p e below s Q C N (T.setTop (mkF m pc Ls (w :: rest))) :=
  oretW X hx hlk hret (onarR ht hw) (Or.inr (Or.inr (Or.inr (Or.inr ⟨rfl, ht, hw⟩)))) hd hh hq hC hN
theorem oretN {Q : Option Value → Heap → List Loc → Prop} {C N : Nat} (X : Stand p l e R s m args below meth c T locs cells slots) (hx : p.tables.exec = Jvm.exec) (hlk : meth.locks = false) {pc : Nat} {Ls : Array Slot} {z z' : Int32} {t : FieldType} {rest : List Value} (hret : meth.sig.returnType = some t) (ht : t = .boolean ∨ t = .byte ∨ t = .char ∨ t = .short)
    (hd : decode c.code pc = .ok (.ireturn, 1)) (hz : nar t z = z') {h : Heap} (hh : T.heap = h) (hq : Q (some (.int z')) h locs) (hC : cells ≤ C) (hN : slots ≤ N) : OGo p e below s Q C N (T.setTop (mkF m pc Ls (.int z :: rest))) := by
  subst hz
  obtain ⟨fs, hr, hrun, hended, hW, hsame⟩ := X.leave (v := some (.int (nar t z))) (fun h => by rw [hret] at h; cases h) hlk
  exact ⟨_, _, retN X hx hret ht hd hr, hrun, hended, _, _, rfl, hh ▸ hq, ⟨_, rfl⟩, hW, hsame.mono hC hN⟩
theorem oret0 {Q : Option Value → Heap → List Loc → Prop} {C N : Nat} (X : Stand p l e R s m args below meth c T locs cells slots) (hx : p.tables.exec = Jvm.exec) (hlk : meth.locks = false) {pc : Nat} {Ls : Array Slot} (hret : meth.sig.returnType = none)
    (hd : decode c.code pc = .ok (.return_, 1)) {h : Heap} (hh : T.heap = h) (hq : Q none h locs) (hC : cells ≤ C) (hN : slots ≤ N) : OGo p e below s Q C N (T.setTop (mkF m pc Ls [])) := by
  obtain ⟨fs, hr, hrun, hended, hW, hsame⟩ := X.leave (v := none) (fun _ => rfl) hlk
  exact ⟨_, _, X.returnOut hx hret hd hr, hrun, hended, _, _, rfl, hh ▸ hq, ⟨_, rfl⟩, hW, hsame.mono hC hN⟩
theorem olrem {tb : Tables} [Ours tb] {target : State} {g : JFrame} (h : At T m c below) (hx : tb.exec = Jvm.exec) (hg : g.method = m) {x y : Int64} {rest : List Value} (hd : decode c.code g.pc = .ok (.lrem, 1)) (hs : g.stack = .long y :: .long x :: rest) (hy : y ≠ 0)
    (hr : Steps tb e below (T.setTop { g with pc := g.pc + 1, stack := .long (x % y) :: rest }) target) : Steps tb e below (T.setTop g) target :=
  XS.lrem h hx hg hd hs hy (by rw [lrem_mod]; exact hr)
theorem olc_lt (x y : Int64) : lcmpW x y < 0 ↔ x < y := by rw [lcW]; exact lc_lt x y
theorem olc_gt (x y : Int64) : 0 < lcmpW x y ↔ y < x := by rw [lcW]; exact lc_gt x y
theorem olc_eq (x y : Int64) : lcmpW x y = 0 ↔ x = y := by rw [lcW]; exact lc_eq x y
theorem onilP {v : Int} : ∀ q ∈ ([] : List (Int × Int)), q.1 ≠ v := fun _ q => nomatch q
theorem oconsP {v a b : Int} {l : List (Int × Int)} (h : a ≠ v) (t : ∀ q ∈ l, q.1 ≠ v) : ∀ q ∈ (a, b) :: l, q.1 ≠ v := fun q hq => (List.mem_cons.mp hq).elim (fun u => by rw [u]; exact h) (t q)
theorem oint_ne {z k : Int32} {K : Int} (h : ¬ z = k) (hk : k.toInt = K) : K ≠ z.toInt := fun q => h (Int32.toInt_inj.mp (by rw [hk, q]))
theorem ofld_eq {Z : State} {t : Term} {C n d : String} {a : Addr} {k : Int32} (h : (Cond.eq (Term.field t C n d) (Term.int k)).value args Z none Z [] = some true) (ev : t.eval args Z none [] Z = some (.ref a)) : Fld Z Z.heap a C n d (.int k) := by
  apply Fld.start
  have q := fld_at (args := args) (first := Z) (o := none) (idx := []) (s := Z) (C := C) (n := n) (dd := d) ev
  simp only [Cond.value, q, Term.int_eval] at h
  cases hv : Z.fieldOf? a C n d with
  | none => simp [hv] at h
  | some v => cases v <;> simp [hv] at h <;> simp [h]
section Imp
variable {E a b : Int32}
theorem oLL (h : E < a) (k : a.toInt ≤ b.toInt) : E < b := by rw [Int32.lt_iff_toInt_lt] at *; omega
theorem oLnG (h : E < a) (k : a.toInt ≤ b.toInt + 1) : ¬ b < E := by rw [Int32.lt_iff_toInt_lt] at *; omega
theorem oLnE (h : E < a) (k : a.toInt ≤ b.toInt) : ¬ E = b := fun q => by subst q; rw [Int32.lt_iff_toInt_lt] at h; omega
theorem oGG (h : a < E) (k : b.toInt ≤ a.toInt) : b < E := by rw [Int32.lt_iff_toInt_lt] at *; omega
theorem oGnL (h : a < E) (k : b.toInt ≤ a.toInt + 1) : ¬ E < b := by rw [Int32.lt_iff_toInt_lt] at *; omega
theorem oGnE (h : a < E) (k : b.toInt ≤ a.toInt) : ¬ E = b := fun q => by subst q; rw [Int32.lt_iff_toInt_lt] at h; omega
theorem onLnL (h : ¬ E < a) (k : b.toInt ≤ a.toInt) : ¬ E < b := by rw [Int32.lt_iff_toInt_lt] at *; omega
theorem onLG (h : ¬ E < a) (k : b.toInt < a.toInt) : b < E := by rw [Int32.lt_iff_toInt_lt] at *; omega
theorem onLnE (h : ¬ E < a) (k : b.toInt < a.toInt) : ¬ E = b := fun q => by subst q; rw [Int32.lt_iff_toInt_lt] at h; omega
theorem onGnG (h : ¬ a < E) (k : a.toInt ≤ b.toInt) : ¬ b < E := by rw [Int32.lt_iff_toInt_lt] at *; omega
theorem onGL (h : ¬ a < E) (k : a.toInt < b.toInt) : E < b := by rw [Int32.lt_iff_toInt_lt] at *; omega
theorem onGnE (h : ¬ a < E) (k : a.toInt < b.toInt) : ¬ E = b := fun q => by subst q; rw [Int32.lt_iff_toInt_lt] at h; omega
end Imp
end Own
end Jvm.RoadKit
namespace Jvm.Pilot.@@N@@
open Jvm Jvm.ClassFile Sem Op Lib Jvm.Free Jvm.Stand Jvm.LawKit Jvm.RoadKit Bundle Jvm.Pilot.@@N@@.Jvm.D

theorem d1_0 : decode prog_72_method_4_code 0 = .ok (.aload_n 0, 1) := by decide +kernel
theorem d1_1 : decode prog_72_method_4_code 1 = .ok (.getstatic 3, 3) := by decide +kernel
theorem d1_4 : decode prog_72_method_4_code 4 = .ok (.if_acmp .ne 9, 3) := by decide +kernel
theorem d1_7 : decode prog_72_method_4_code 7 = .ok (.iload_n 1, 1) := by decide +kernel
theorem d1_8 : decode prog_72_method_4_code 8 = .ok (.iload_n 2, 1) := by decide +kernel
theorem d1_9 : decode prog_72_method_4_code 9 = .ok (.iadd, 1) := by decide +kernel
theorem d1_10 : decode prog_72_method_4_code 10 = .ok (.goto 4, 3) := by decide +kernel
theorem d1_13 : decode prog_72_method_4_code 13 = .ok (.iload_n 1, 1) := by decide +kernel
theorem d1_14 : decode prog_72_method_4_code 14 = .ok (.sipush 255, 3) := by decide +kernel
theorem d1_17 : decode prog_72_method_4_code 17 = .ok (.iand, 1) := by decide +kernel
theorem d1_18 : decode prog_72_method_4_code 18 = .ok (.ireturn, 1) := by decide +kernel
theorem pn_1 : plainName "com/example/assaywire/assaywire/protocol/AstmChecksum" = true := by first | (simp [plainName, overriddenIn]; done) | decide +kernel
theorem ef_1 (m : MethodId) (o0 : Addr) (p1 : Int32) (p2 : Int32) : entryFrame m #[(.ref o0), (.int p1), (.int p2)] 3 = mkF m 0 #[.val (.ref o0), .val (.int p1), .val (.int p2)] [] := by first | (simp [entryFrame, mkF, argsToLocals, Value.category]; done) | rfl
def f1 (o0 : Addr) (p1 : Int32) (p2 : Int32) (w_STANDARD : Addr) : Int32 := (if o0 = w_STANDARD then ((p1 + p2) &&& (255 : Int32)) else (p1 &&& (255 : Int32)))
def Q1 (Z : State) (o0 : Addr) (p1 : Int32) (p2 : Int32) (w_STANDARD : Addr) (h0 : Heap) (n0 : Nat) (v : Option Value) (h : Heap) (L : List Loc) : Prop := v = some (.int (f1 o0 p1 p2 w_STANDARD)) ∧ Fr n0 L ∧ h = h0
set_option maxRecDepth 65536 in
set_option maxHeartbeats 40000000 in
theorem rm1 (l : Launch) (Z : State) (a0 : Array Value) (hw : ∀ d ∈ tables_1, d.before a0 Z = true) (ws : List Jvm.Cond) (o0 : Addr) (p1 : Int32) (p2 : Int32) (w_STANDARD : Addr) (h0 : Heap) (n0 : Nat) (Z0 : n0 ≤ h0.size) (S_STANDARD : Sta Z h0 "com/example/assaywire/assaywire/protocol/AstmChecksum" "STANDARD" "Lcom/example/assaywire/assaywire/protocol/AstmChecksum;" (.ref w_STANDARD)) :
    MetFree l (⟨"com/example/assaywire/assaywire/protocol/AstmChecksum", "of", "(IB)I"⟩ : MethodName) (head1 (Jvm.Cond.code (⟨"com/example/assaywire/assaywire/protocol/AstmChecksum", "of", "(IB)I"⟩ : MethodName) prog_72_method_4_code 3 (some .int) :: ws) ({ frames := 0, cells := 0, slots := 0, locals := 0 } : Room)) (fun a U => a = #[(.ref o0), (.int p1), (.int p2)] ∧ Z.Warmed39 U.vm ∧ U.heap = h0) (fun _ _ _ _ _ => True) (fun _ U o U' => ∃ v L, o = .returned v ∧ Q1 Z o0 p1 p2 w_STANDARD h0 n0 v U'.heap L ∧ FrameEnd U o U' L ({ frames := 0, cells := 0, slots := 0, locals := 0 } : Room).cells ({ frames := 0, cells := 0, slots := 0, locals := 0 } : Room).slots) := by
  refine MetFree.of_bodySF (plainFor_of_name pn_1) hisR ?_
  intro p e s m args below meth c s₁ Bd hml0 hP hK
  obtain ⟨rfl, hZ, hh⟩ := hP
  have hx := Bd.exec
  have hby := Bd.bytes
  have hml : c.maxLocals = 3 := hml0
  have hown : s.vm.findClass "com/example/assaywire/assaywire/protocol/AstmChecksum" = some m.cls := findClass_of_methodNamed Bd.named
  have hnm := (name_of_methodNamed Bd.named Bd.method).1
  have X0 : Stand p l e ({ frames := 0, cells := 0, slots := 0, locals := 0 } : Room) s m #[(.ref o0), (.int p1), (.int p2)] below meth c s₁ [] 0 0 := Stand.of_body Bd
  have e0 : s₁.heap = h0 := by rw [← hh, Bd.state]; rfl
  have N0 := Fr.nil n0
  show OGo p e below s (Q1 Z o0 p1 p2 w_STANDARD h0 n0) ({ frames := 0, cells := 0, slots := 0, locals := 0 } : Room).cells ({ frames := 0, cells := 0, slots := 0, locals := 0 } : Room).slots _
  refine OGo.st (fun _ k => castTop (ef_1 m o0 p1 p2) k) ?_
  show OGo p e below s _ _ _ (s₁.setTop (mkF m 0 #[.val (.ref o0), .val (.int p1), .val (.int p2)] []))
  refine OGo.st (fun _ k => XS.aloadN X0.here hx rfl (hb hby d1_0) rfl rfl k) ?_
  show OGo p e below s _ _ _ (s₁.setTop (mkF m 1 #[.val (.ref o0), .val (.int p1), .val (.int p2)] [(.ref o0)]))
  obtain ⟨T1, X1, e1, st1⟩ := getS2 X0 hx hZ hown (host := "") (Or.inl (hw _ (List.mem_of_getElem? (i := 8) rfl))) Via.refl e0 S_STANDARD (g := (mkF m 1 #[.val (.ref o0), .val (.int p1), .val (.int p2)] [(.ref o0)])) rfl (hb hby d1_1)
  refine OGo.st st1 ?_
  show OGo p e below s _ _ _ (T1.setTop (mkF m 4 #[.val (.ref o0), .val (.int p1), .val (.int p2)] [(.ref w_STANDARD), (.ref o0)]))
  by_cases hc4 : o0 = w_STANDARD
  · refine OGo.st (fun _ k => Jvm.RoadKit.acmp (g := (mkF m 4 #[.val (.ref o0), .val (.int p1), .val (.int p2)] [(.ref w_STANDARD), (.ref o0)])) X1 hx rfl rfl rfl (pc0 := 4) (pc' := 7) (same := true) rfl (hb hby d1_4) rfl (decide_eq_true (congrArg Value.ref hc4)) (by decide) (by decide) k) ?_
    show OGo p e below s _ _ _ (T1.setTop (mkF m 7 #[.val (.ref o0), .val (.int p1), .val (.int p2)] []))
    refine OGo.st (fun _ k => XS.iloadN X1.here hx rfl (hb hby d1_7) rfl k) ?_
    show OGo p e below s _ _ _ (T1.setTop (mkF m 8 #[.val (.ref o0), .val (.int p1), .val (.int p2)] [(.int p1)]))
    refine OGo.st (fun _ k => XS.iloadN X1.here hx rfl (hb hby d1_8) rfl k) ?_
    show OGo p e below s _ _ _ (T1.setTop (mkF m 9 #[.val (.ref o0), .val (.int p1), .val (.int p2)] [(.int p2), (.int p1)]))
    refine OGo.st (fun _ k => XS.iadd X1.here hx rfl (hb hby d1_9) rfl k) ?_
    show OGo p e below s _ _ _ (T1.setTop (mkF m 10 #[.val (.ref o0), .val (.int p1), .val (.int p2)] [(.int (p1 + p2))]))
    refine OGo.st (fun _ k => XS.goto X1.here hx rfl (pc0 := 10) (pc' := 14) rfl (hb hby d1_10) (by decide) (by decide) k) ?_
    show OGo p e below s _ _ _ (T1.setTop (mkF m 14 #[.val (.ref o0), .val (.int p1), .val (.int p2)] [(.int (p1 + p2))]))
    refine OGo.st (fun _ k => XS.sipush X1.here hx rfl (hb hby d1_14) k) ?_
    show OGo p e below s _ _ _ (T1.setTop (mkF m 17 #[.val (.ref o0), .val (.int p1), .val (.int p2)] [(.int (255 : Int32)), (.int (p1 + p2))]))
    refine OGo.st (fun _ k => XS.iand X1.here hx rfl (hb hby d1_17) rfl k) ?_
    show OGo p e below s _ _ _ (T1.setTop (mkF m 18 #[.val (.ref o0), .val (.int p1), .val (.int p2)] [(.int ((p1 + p2) &&& (255 : Int32)))]))
    exact oretI X1 hx Bd.notSynchronized Bd.returns (hb hby d1_18) e1 ⟨(congrArg (fun z => some (Value.int z)) (show ((p1 + p2) &&& (255 : Int32)) = f1 o0 p1 p2 w_STANDARD from Eq.symm (by unfold f1; exact if_pos hc4))), N0, rfl⟩ (by decide) (by decide)
  · refine OGo.st (fun _ k => Jvm.RoadKit.acmp (g := (mkF m 4 #[.val (.ref o0), .val (.int p1), .val (.int p2)] [(.ref w_STANDARD), (.ref o0)])) X1 hx rfl rfl rfl (pc0 := 4) (pc' := 13) (same := false) rfl (hb hby d1_4) rfl (decide_eq_false fun q => hc4 (Value.ref.inj q)) (by decide) (by decide) k) ?_
    show OGo p e below s _ _ _ (T1.setTop (mkF m 13 #[.val (.ref o0), .val (.int p1), .val (.int p2)] []))
    refine OGo.st (fun _ k => XS.iloadN X1.here hx rfl (hb hby d1_13) rfl k) ?_
    show OGo p e below s _ _ _ (T1.setTop (mkF m 14 #[.val (.ref o0), .val (.int p1), .val (.int p2)] [(.int p1)]))
    refine OGo.st (fun _ k => XS.sipush X1.here hx rfl (hb hby d1_14) k) ?_
    show OGo p e below s _ _ _ (T1.setTop (mkF m 17 #[.val (.ref o0), .val (.int p1), .val (.int p2)] [(.int (255 : Int32)), (.int p1)]))
    refine OGo.st (fun _ k => XS.iand X1.here hx rfl (hb hby d1_17) rfl k) ?_
    show OGo p e below s _ _ _ (T1.setTop (mkF m 18 #[.val (.ref o0), .val (.int p1), .val (.int p2)] [(.int (p1 &&& (255 : Int32)))]))
    exact oretI X1 hx Bd.notSynchronized Bd.returns (hb hby d1_18) e1 ⟨(congrArg (fun z => some (Value.int z)) (show (p1 &&& (255 : Int32)) = f1 o0 p1 p2 w_STANDARD from Eq.symm (by unfold f1; exact if_neg hc4))), N0, rfl⟩ (by decide) (by decide)
theorem d2_0 : decode method_2_code 0 = .ok (.lload_n 0, 1) := by decide +kernel
theorem d2_1 : decode method_2_code 1 = .ok (.ldc2_w 7, 3) := by decide +kernel
theorem d2_4 : decode method_2_code 4 = .ok (.lrem, 1) := by decide +kernel
theorem d2_5 : decode method_2_code 5 = .ok (.ldc2_w 7, 3) := by decide +kernel
theorem d2_8 : decode method_2_code 8 = .ok (.ladd, 1) := by decide +kernel
theorem d2_9 : decode method_2_code 9 = .ok (.ldc2_w 7, 3) := by decide +kernel
theorem d2_12 : decode method_2_code 12 = .ok (.lrem, 1) := by decide +kernel
theorem d2_13 : decode method_2_code 13 = .ok (.l2i, 1) := by decide +kernel
theorem d2_14 : decode method_2_code 14 = .ok (.ireturn, 1) := by decide +kernel
theorem pn_2 : plainName "com/example/assaywire/assaywire/protocol/AstmChecksumOfPinLaw" = true := by first | (simp [plainName, overriddenIn]; done) | decide +kernel
theorem ef_2 (m : MethodId) (q0 : Int64) : entryFrame m #[(.long q0)] 2 = mkF m 0 #[.val (.long q0), .second] [] := by first | (simp [entryFrame, mkF, argsToLocals, Value.category]; done) | rfl
def f2 (q0 : Int64) : Int32 := ((((q0 % (256 : Int64)) + (256 : Int64)) % (256 : Int64)).toInt32)
def Q2 (Z : State) (q0 : Int64) (h0 : Heap) (n0 : Nat) (v : Option Value) (h : Heap) (L : List Loc) : Prop := v = some (.int (f2 q0)) ∧ Fr n0 L ∧ h = h0
set_option maxRecDepth 65536 in
set_option maxHeartbeats 40000000 in
theorem rm2 (l : Launch) (Z : State) (a0 : Array Value) (hw : ∀ d ∈ tables_1, d.before a0 Z = true) (ws : List Jvm.Cond) (q0 : Int64) (h0 : Heap) (n0 : Nat) (Z0 : n0 ≤ h0.size) :
    MetFree l (⟨"com/example/assaywire/assaywire/protocol/AstmChecksumOfPinLaw", "mod256", "(J)I"⟩ : MethodName) (head1 (Jvm.Cond.code (⟨"com/example/assaywire/assaywire/protocol/AstmChecksumOfPinLaw", "mod256", "(J)I"⟩ : MethodName) method_2_code 2 (some .int) :: ws) ({ frames := 0, cells := 0, slots := 0, locals := 0 } : Room)) (fun a U => a = #[(.long q0)] ∧ Z.Warmed39 U.vm ∧ U.heap = h0) (fun _ _ _ _ _ => True) (fun _ U o U' => ∃ v L, o = .returned v ∧ Q2 Z q0 h0 n0 v U'.heap L ∧ FrameEnd U o U' L ({ frames := 0, cells := 0, slots := 0, locals := 0 } : Room).cells ({ frames := 0, cells := 0, slots := 0, locals := 0 } : Room).slots) := by
  refine MetFree.of_bodySF (plainFor_of_name pn_2) hisR ?_
  intro p e s m args below meth c s₁ Bd hml0 hP hK
  obtain ⟨rfl, hZ, hh⟩ := hP
  have hx := Bd.exec
  have hby := Bd.bytes
  have hml : c.maxLocals = 2 := hml0
  have hown : s.vm.findClass "com/example/assaywire/assaywire/protocol/AstmChecksumOfPinLaw" = some m.cls := findClass_of_methodNamed Bd.named
  have hnm := (name_of_methodNamed Bd.named Bd.method).1
  have X0 : Stand p l e ({ frames := 0, cells := 0, slots := 0, locals := 0 } : Room) s m #[(.long q0)] below meth c s₁ [] 0 0 := Stand.of_body Bd
  have e0 : s₁.heap = h0 := by rw [← hh, Bd.state]; rfl
  have N0 := Fr.nil n0
  show OGo p e below s (Q2 Z q0 h0 n0) ({ frames := 0, cells := 0, slots := 0, locals := 0 } : Room).cells ({ frames := 0, cells := 0, slots := 0, locals := 0 } : Room).slots _
  refine OGo.st (fun _ k => castTop (ef_2 m q0) k) ?_
  show OGo p e below s _ _ _ (s₁.setTop (mkF m 0 #[.val (.long q0), .second] []))
  refine OGo.st (fun _ k => XS.lloadN X0.here hx rfl (hb hby d2_0) rfl k) ?_
  show OGo p e below s _ _ _ (s₁.setTop (mkF m 1 #[.val (.long q0), .second] [(.long q0)]))
  refine OGo.st (fun _ k => X0.ldc2Long hx hown (mvT hZ (hw _ (List.mem_of_getElem? (i := 14) rfl))) (g := (mkF m 1 #[.val (.long q0), .second] [(.long q0)])) rfl (hb hby d2_1) _ k) ?_
  show OGo p e below s _ _ _ (s₁.setTop (mkF m 4 #[.val (.long q0), .second] [(.long (256 : Int64)), (.long q0)]))
  refine OGo.st (fun _ k => olrem X0.here hx rfl (hb hby d2_4) rfl (by decide) k) ?_
  show OGo p e below s _ _ _ (s₁.setTop (mkF m 5 #[.val (.long q0), .second] [(.long (q0 % (256 : Int64)))]))
  refine OGo.st (fun _ k => X0.ldc2Long hx hown (mvT hZ (hw _ (List.mem_of_getElem? (i := 14) rfl))) (g := (mkF m 5 #[.val (.long q0), .second] [(.long (q0 % (256 : Int64)))])) rfl (hb hby d2_5) _ k) ?_
  show OGo p e below s _ _ _ (s₁.setTop (mkF m 8 #[.val (.long q0), .second] [(.long (256 : Int64)), (.long (q0 % (256 : Int64)))]))
  refine OGo.st (fun _ k => XS.ladd X0.here hx rfl (hb hby d2_8) rfl k) ?_
  show OGo p e below s _ _ _ (s₁.setTop (mkF m 9 #[.val (.long q0), .second] [(.long ((q0 % (256 : Int64)) + (256 : Int64)))]))
  refine OGo.st (fun _ k => X0.ldc2Long hx hown (mvT hZ (hw _ (List.mem_of_getElem? (i := 14) rfl))) (g := (mkF m 9 #[.val (.long q0), .second] [(.long ((q0 % (256 : Int64)) + (256 : Int64)))])) rfl (hb hby d2_9) _ k) ?_
  show OGo p e below s _ _ _ (s₁.setTop (mkF m 12 #[.val (.long q0), .second] [(.long (256 : Int64)), (.long ((q0 % (256 : Int64)) + (256 : Int64)))]))
  refine OGo.st (fun _ k => olrem X0.here hx rfl (hb hby d2_12) rfl (by decide) k) ?_
  show OGo p e below s _ _ _ (s₁.setTop (mkF m 13 #[.val (.long q0), .second] [(.long (((q0 % (256 : Int64)) + (256 : Int64)) % (256 : Int64)))]))
  refine OGo.st (fun _ k => XS.l2i X0.here hx rfl (hb hby d2_13) rfl k) ?_
  show OGo p e below s _ _ _ (s₁.setTop (mkF m 14 #[.val (.long q0), .second] [(.int ((((q0 % (256 : Int64)) + (256 : Int64)) % (256 : Int64)).toInt32))]))
  exact oretI X0 hx Bd.notSynchronized Bd.returns (hb hby d2_14) e0 ⟨(congrArg (fun z => some (Value.int z)) (show ((((q0 % (256 : Int64)) + (256 : Int64)) % (256 : Int64)).toInt32) = f2 q0 from Eq.symm (by unfold f2; exact rfl))), N0, rfl⟩ (by decide) (by decide)
theorem pn_0 : plainName "com/example/assaywire/assaywire/protocol/AstmChecksumOfPinLaw" = true := by first | (simp [plainName, overriddenIn]; done) | decide +kernel
theorem pd_0_0 : parseMethodDescriptor "(IB)I" = some ⟨[.int, .byte], some .int⟩ := by decide +kernel
theorem pd_0_1 : parseMethodDescriptor "(J)I" = some ⟨[.long], some .int⟩ := by decide +kernel
theorem ef_0 (m : MethodId) (p0 : Int32) (p1 : Int32) (p2 : Int32) : entryFrame m #[(.int p0), (.int p1), (.int p2)] maxLocals = mkF m 0 #[.val (.int p0), .val (.int p1), .val (.int p2), .unset, .unset, .unset, .unset, .unset, .unset, .unset] [] := by first | (simp [entryFrame, mkF, argsToLocals, Value.category, maxLocals]; done) | rfl
def f0 (p0 : Int32) (p1 : Int32) (p2 : Int32) (w_STANDARD : Addr) (w_WITHOUT_END : Addr) : Int32 := (if (p2 &&& (1 : Int32)) = (0 : Int32) then (if (f1 w_WITHOUT_END p0 (p1.toInt8.toInt32) w_STANDARD) = (f2 (p0.toInt64)) then (1 : Int32) else (0 : Int32)) else (if (f1 w_STANDARD p0 (p1.toInt8.toInt32) w_STANDARD) = (f2 ((p0.toInt64) + ((p1.toInt8.toInt32).toInt64))) then (1 : Int32) else (0 : Int32)))
def Q0 (Z : State) (p0 : Int32) (p1 : Int32) (p2 : Int32) (w_STANDARD : Addr) (w_WITHOUT_END : Addr) (h0 : Heap) (n0 : Nat) (v : Option Value) (h : Heap) (L : List Loc) : Prop := v = some (.int (f0 p0 p1 p2 w_STANDARD w_WITHOUT_END)) ∧ Fr n0 L
set_option maxRecDepth 65536 in
set_option maxHeartbeats 40000000 in
theorem rm0 (l : Launch) (Z : State) (a0 : Array Value) (hw : ∀ d ∈ tables_1, d.before a0 Z = true) (ws : List Jvm.Cond) (p0 : Int32) (p1 : Int32) (p2 : Int32) (w_STANDARD : Addr) (w_WITHOUT_END : Addr) (h0 : Heap) (n0 : Nat) (Z0 : n0 ≤ h0.size) (S_STANDARD : Sta Z h0 "com/example/assaywire/assaywire/protocol/AstmChecksum" "STANDARD" "Lcom/example/assaywire/assaywire/protocol/AstmChecksum;" (.ref w_STANDARD)) (S_WITHOUT_END : Sta Z h0 "com/example/assaywire/assaywire/protocol/AstmChecksum" "WITHOUT_END" "Lcom/example/assaywire/assaywire/protocol/AstmChecksum;" (.ref w_WITHOUT_END)) (E_STANDARD : Exa Z h0 w_STANDARD "com/example/assaywire/assaywire/protocol/AstmChecksum") (E_WITHOUT_END : Exa Z h0 w_WITHOUT_END "com/example/assaywire/assaywire/protocol/AstmChecksum") :
    MetFree l x (head1 (Jvm.Cond.code x code maxLocals ret :: ws) room_1) (fun a U => a = #[(.int p0), (.int p1), (.int p2)] ∧ Z.Warmed39 U.vm ∧ U.heap = h0) (fun _ _ _ _ _ => True) (fun _ U o U' => ∃ v L, o = .returned v ∧ Q0 Z p0 p1 p2 w_STANDARD w_WITHOUT_END h0 n0 v U'.heap L ∧ FrameEnd U o U' L room_1.cells room_1.slots) := by
  refine MetFree.of_bodySF (plainFor_of_name pn_0) hisR ?_
  intro p e s m args below meth c s₁ Bd hml0 hP hK
  obtain ⟨rfl, hZ, hh⟩ := hP
  have hx := Bd.exec
  have hby := Bd.bytes
  have hml : c.maxLocals = 10 := hml0
  have hown : s.vm.findClass "com/example/assaywire/assaywire/protocol/AstmChecksumOfPinLaw" = some m.cls := findClass_of_methodNamed Bd.named
  have hnm := (name_of_methodNamed Bd.named Bd.method).1
  have X0 : Stand p l e room_1 s m #[(.int p0), (.int p1), (.int p2)] below meth c s₁ [] 0 0 := Stand.of_body Bd
  have e0 : s₁.heap = h0 := by rw [← hh, Bd.state]; rfl
  have N0 := Fr.nil n0
  show OGo p e below s (Q0 Z p0 p1 p2 w_STANDARD w_WITHOUT_END h0 n0) room_1.cells room_1.slots _
  refine OGo.st (fun _ k => castTop (ef_0 m p0 p1 p2) k) ?_
  show OGo p e below s _ _ _ (s₁.setTop (mkF m 0 #[.val (.int p0), .val (.int p1), .val (.int p2), .unset, .unset, .unset, .unset, .unset, .unset, .unset] []))
  refine OGo.st (fun _ k => XS.iloadN X0.here hx rfl (hb hby at_0) rfl k) ?_
  show OGo p e below s _ _ _ (s₁.setTop (mkF m 1 #[.val (.int p0), .val (.int p1), .val (.int p2), .unset, .unset, .unset, .unset, .unset, .unset, .unset] [(.int p1)]))
  refine OGo.st (fun _ k => XS.i2b X0.here hx rfl (hb hby at_1) rfl k) ?_
  show OGo p e below s _ _ _ (s₁.setTop (mkF m 2 #[.val (.int p0), .val (.int p1), .val (.int p2), .unset, .unset, .unset, .unset, .unset, .unset, .unset] [(.int (p1.toInt8.toInt32))]))
  refine OGo.st (fun _ k => XS.istoreN X0.here hx rfl (hb hby at_2) rfl (l' := #[.val (.int p0), .val (.int p1), .val (.int p2), .val (.int (p1.toInt8.toInt32)), .unset, .unset, .unset, .unset, .unset, .unset]) rfl k) ?_
  show OGo p e below s _ _ _ (s₁.setTop (mkF m 3 #[.val (.int p0), .val (.int p1), .val (.int p2), .val (.int (p1.toInt8.toInt32)), .unset, .unset, .unset, .unset, .unset, .unset] []))
  refine OGo.st (fun _ k => XS.iloadN X0.here hx rfl (hb hby at_3) rfl k) ?_
  show OGo p e below s _ _ _ (s₁.setTop (mkF m 4 #[.val (.int p0), .val (.int p1), .val (.int p2), .val (.int (p1.toInt8.toInt32)), .unset, .unset, .unset, .unset, .unset, .unset] [(.int p2)]))
  refine OGo.st (fun _ k => XS.iconst X0.here hx rfl (hb hby at_4) k) ?_
  show OGo p e below s _ _ _ (s₁.setTop (mkF m 5 #[.val (.int p0), .val (.int p1), .val (.int p2), .val (.int (p1.toInt8.toInt32)), .unset, .unset, .unset, .unset, .unset, .unset] [(.int (1 : Int32)), (.int p2)]))
  refine OGo.st (fun _ k => XS.iand X0.here hx rfl (hb hby at_5) rfl k) ?_
  show OGo p e below s _ _ _ (s₁.setTop (mkF m 6 #[.val (.int p0), .val (.int p1), .val (.int p2), .val (.int (p1.toInt8.toInt32)), .unset, .unset, .unset, .unset, .unset, .unset] [(.int (p2 &&& (1 : Int32)))]))
  by_cases hc6 : (p2 &&& (1 : Int32)) = (0 : Int32)
  · refine OGo.st (fun _ k => XS.ifYes X0.here hx rfl (pc0 := 6) (pc' := 13) rfl (hb hby at_6) rfl ((if0 _ _).trans (teq hc6).1) (by decide) (by decide) k) ?_
    show OGo p e below s _ _ _ (s₁.setTop (mkF m 13 #[.val (.int p0), .val (.int p1), .val (.int p2), .val (.int (p1.toInt8.toInt32)), .unset, .unset, .unset, .unset, .unset, .unset] []))
    refine OGo.st (fun _ k => XS.iconst X0.here hx rfl (hb hby at_13) k) ?_
    show OGo p e below s _ _ _ (s₁.setTop (mkF m 14 #[.val (.int p0), .val (.int p1), .val (.int p2), .val (.int (p1.toInt8.toInt32)), .unset, .unset, .unset, .unset, .unset, .unset] [(.int (0 : Int32))]))
    refine OGo.st (fun _ k => XS.istore X0.here hx rfl (hb hby at_14) rfl (l' := #[.val (.int p0), .val (.int p1), .val (.int p2), .val (.int (p1.toInt8.toInt32)), .val (.int (0 : Int32)), .unset, .unset, .unset, .unset, .unset]) rfl k) ?_
    show OGo p e below s _ _ _ (s₁.setTop (mkF m 16 #[.val (.int p0), .val (.int p1), .val (.int p2), .val (.int (p1.toInt8.toInt32)), .val (.int (0 : Int32)), .unset, .unset, .unset, .unset, .unset] []))
    refine OGo.st (fun _ k => XS.iload X0.here hx rfl (hb hby at_16) rfl k) ?_
    show OGo p e below s _ _ _ (s₁.setTop (mkF m 18 #[.val (.int p0), .val (.int p1), .val (.int p2), .val (.int (p1.toInt8.toInt32)), .val (.int (0 : Int32)), .unset, .unset, .unset, .unset, .unset] [(.int (0 : Int32))]))
    refine OGo.st (fun _ k => XS.ifYes X0.here hx rfl (pc0 := 18) (pc' := 27) rfl (hb hby at_18) rfl ((if0 _ _).trans (teq (by decide : (0 : Int32) = (0 : Int32))).1) (by decide) (by decide) k) ?_
    show OGo p e below s _ _ _ (s₁.setTop (mkF m 27 #[.val (.int p0), .val (.int p1), .val (.int p2), .val (.int (p1.toInt8.toInt32)), .val (.int (0 : Int32)), .unset, .unset, .unset, .unset, .unset] []))
    obtain ⟨T1, X1, e1, st1⟩ := getS2 X0 hx hZ hown (host := "") (Or.inl (hw _ (List.mem_of_getElem? (i := 0) rfl))) Via.refl e0 S_WITHOUT_END (g := (mkF m 27 #[.val (.int p0), .val (.int p1), .val (.int p2), .val (.int (p1.toInt8.toInt32)), .val (.int (0 : Int32)), .unset, .unset, .unset, .unset, .unset] [])) rfl (hb hby at_27)
    refine OGo.st st1 ?_
    show OGo p e below s _ _ _ (T1.setTop (mkF m 30 #[.val (.int p0), .val (.int p1), .val (.int p2), .val (.int (p1.toInt8.toInt32)), .val (.int (0 : Int32)), .unset, .unset, .unset, .unset, .unset] [(.ref w_WITHOUT_END)]))
    refine OGo.st (fun _ k => XS.astore X1.here hx rfl (hb hby at_30) rfl rfl (l' := #[.val (.int p0), .val (.int p1), .val (.int p2), .val (.int (p1.toInt8.toInt32)), .val (.int (0 : Int32)), .val (.ref w_WITHOUT_END), .unset, .unset, .unset, .unset]) rfl k) ?_
    show OGo p e below s _ _ _ (T1.setTop (mkF m 32 #[.val (.int p0), .val (.int p1), .val (.int p2), .val (.int (p1.toInt8.toInt32)), .val (.int (0 : Int32)), .val (.ref w_WITHOUT_END), .unset, .unset, .unset, .unset] []))
    refine OGo.st (fun _ k => XS.aload X1.here hx rfl (hb hby at_32) rfl rfl k) ?_
    show OGo p e below s _ _ _ (T1.setTop (mkF m 34 #[.val (.int p0), .val (.int p1), .val (.int p2), .val (.int (p1.toInt8.toInt32)), .val (.int (0 : Int32)), .val (.ref w_WITHOUT_END), .unset, .unset, .unset, .unset] [(.ref w_WITHOUT_END)]))
    refine OGo.st (fun _ k => XS.iloadN X1.here hx rfl (hb hby at_34) rfl k) ?_
    show OGo p e below s _ _ _ (T1.setTop (mkF m 35 #[.val (.int p0), .val (.int p1), .val (.int p2), .val (.int (p1.toInt8.toInt32)), .val (.int (0 : Int32)), .val (.ref w_WITHOUT_END), .unset, .unset, .unset, .unset] [(.int p0), (.ref w_WITHOUT_END)]))
    refine OGo.st (fun _ k => XS.iloadN X1.here hx rfl (hb hby at_35) rfl k) ?_
    show OGo p e below s _ _ _ (T1.setTop (mkF m 36 #[.val (.int p0), .val (.int p1), .val (.int p2), .val (.int (p1.toInt8.toInt32)), .val (.int (0 : Int32)), .val (.ref w_WITHOUT_END), .unset, .unset, .unset, .unset] [(.int (p1.toInt8.toInt32)), (.int p0), (.ref w_WITHOUT_END)]))
    obtain ⟨cq2, kq2, q2a, q2b, q2c⟩ := isOf hZ e1 E_WITHOUT_END
    obtain ⟨_, _, ⟨T2, L2, k2, n2⟩, -, X2, ⟨Lc2, hQ2, l2, y2, z2⟩, st2⟩ := X1.virtualBack hx (y := (⟨"com/example/assaywire/assaywire/protocol/AstmChecksum", "of", "(IB)I"⟩ : MethodName)) (z := (⟨"com/example/assaywire/assaywire/protocol/AstmChecksum", "of", "(IB)I"⟩ : MethodName)) hown (mvT hZ (hw _ (List.mem_of_getElem? (i := 3) rfl))) (mvT hZ (hw _ (List.mem_of_getElem? (i := 4) rfl))) (notFace_of_selects (args := #[]) (mvT hZ (hw _ (List.mem_of_getElem? (i := 6) rfl)))) (mvT hZ (hw _ (List.mem_of_getElem? (i := 6) rfl))) (mvT hZ (hw _ (List.mem_of_getElem? (i := 5) rfl))) (by decide) (backOf (W := 0) (rm1 l Z a0 hw [] w_WITHOUT_END p0 (p1.toInt8.toInt32) w_STANDARD h0 n0 Z0 S_STANDARD) hZ (hw _ (List.mem_of_getElem? (i := 7) rfl)) (hw _ (List.mem_of_getElem? (i := 1) rfl)) (by decide) (by decide)) q2a q2c (g := (mkF m 36 #[.val (.int p0), .val (.int p1), .val (.int p2), .val (.int (p1.toInt8.toInt32)), .val (.int (0 : Int32)), .val (.ref w_WITHOUT_END), .unset, .unset, .unset, .unset] [(.int (p1.toInt8.toInt32)), (.int p0), (.ref w_WITHOUT_END)])) rfl (by rw [hml]; rfl) (Steps.refl _) (argsL := [(.int p0), (.int (p1.toInt8.toInt32))]) (rest := []) (lenOf pd_0_0 rfl) rfl (by show 2 * 0 + _ ≤ _; exact Nat.le_of_eq rfl) (hb hby at_36) (fun _ _ => ⟨rfl, e1, (by decide : 0 + 0 ≤ _), (by decide : 0 + 0 ≤ _)⟩)
    dsimp only [Pt.U, Pt.locs, Pt.cells, Pt.slots] at X2 l2 y2 z2 st2 hQ2
    subst l2 y2 z2
    obtain ⟨rfl, N2q, e2⟩ := hQ2
    have N2 := Fr.app N0 N2q
    refine OGo.st (fun _ k => st2.trans k) ?_
    show OGo p e below s _ _ _ (T2.setTop (mkF m 39 #[.val (.int p0), .val (.int p1), .val (.int p2), .val (.int (p1.toInt8.toInt32)), .val (.int (0 : Int32)), .val (.ref w_WITHOUT_END), .unset, .unset, .unset, .unset] [(.int (f1 w_WITHOUT_END p0 (p1.toInt8.toInt32) w_STANDARD))]))
    refine OGo.st (fun _ k => XS.istore X2.here hx rfl (hb hby at_39) rfl (l' := #[.val (.int p0), .val (.int p1), .val (.int p2), .val (.int (p1.toInt8.toInt32)), .val (.int (0 : Int32)), .val (.ref w_WITHOUT_END), .val (.int (f1 w_WITHOUT_END p0 (p1.toInt8.toInt32) w_STANDARD)), .unset, .unset, .unset]) rfl k) ?_
    show OGo p e below s _ _ _ (T2.setTop (mkF m 41 #[.val (.int p0), .val (.int p1), .val (.int p2), .val (.int (p1.toInt8.toInt32)), .val (.int (0 : Int32)), .val (.ref w_WITHOUT_END), .val (.int (f1 w_WITHOUT_END p0 (p1.toInt8.toInt32) w_STANDARD)), .unset, .unset, .unset] []))
    refine OGo.st (fun _ k => XS.iload X2.here hx rfl (hb hby at_41) rfl k) ?_
    show OGo p e below s _ _ _ (T2.setTop (mkF m 43 #[.val (.int p0), .val (.int p1), .val (.int p2), .val (.int (p1.toInt8.toInt32)), .val (.int (0 : Int32)), .val (.ref w_WITHOUT_END), .val (.int (f1 w_WITHOUT_END p0 (p1.toInt8.toInt32) w_STANDARD)), .unset, .unset, .unset] [(.int (0 : Int32))]))
    refine OGo.st (fun _ k => XS.ifYes X2.here hx rfl (pc0 := 43) (pc' := 54) rfl (hb hby at_43) rfl ((if0 _ _).trans (teq (by decide : (0 : Int32) = (0 : Int32))).1) (by decide) (by decide) k) ?_
    show OGo p e below s _ _ _ (T2.setTop (mkF m 54 #[.val (.int p0), .val (.int p1), .val (.int p2), .val (.int (p1.toInt8.toInt32)), .val (.int (0 : Int32)), .val (.ref w_WITHOUT_END), .val (.int (f1 w_WITHOUT_END p0 (p1.toInt8.toInt32) w_STANDARD)), .unset, .unset, .unset] []))
    refine OGo.st (fun _ k => XS.iloadN X2.here hx rfl (hb hby at_54) rfl k) ?_
    show OGo p e below s _ _ _ (T2.setTop (mkF m 55 #[.val (.int p0), .val (.int p1), .val (.int p2), .val (.int (p1.toInt8.toInt32)), .val (.int (0 : Int32)), .val (.ref w_WITHOUT_END), .val (.int (f1 w_WITHOUT_END p0 (p1.toInt8.toInt32) w_STANDARD)), .unset, .unset, .unset] [(.int p0)]))
    refine OGo.st (fun _ k => XS.i2l X2.here hx rfl (hb hby at_55) rfl k) ?_
    show OGo p e below s _ _ _ (T2.setTop (mkF m 56 #[.val (.int p0), .val (.int p1), .val (.int p2), .val (.int (p1.toInt8.toInt32)), .val (.int (0 : Int32)), .val (.ref w_WITHOUT_END), .val (.int (f1 w_WITHOUT_END p0 (p1.toInt8.toInt32) w_STANDARD)), .unset, .unset, .unset] [(.long (p0.toInt64))]))
    refine OGo.st (fun _ k => XS.lstore X2.here hx rfl (hb hby at_56) rfl (l' := #[.val (.int p0), .val (.int p1), .val (.int p2), .val (.int (p1.toInt8.toInt32)), .val (.int (0 : Int32)), .val (.ref w_WITHOUT_END), .val (.int (f1 w_WITHOUT_END p0 (p1.toInt8.toInt32) w_STANDARD)), .val (.long (p0.toInt64)), .second, .unset]) rfl k) ?_
    show OGo p e below s _ _ _ (T2.setTop (mkF m 58 #[.val (.int p0), .val (.int p1), .val (.int p2), .val (.int (p1.toInt8.toInt32)), .val (.int (0 : Int32)), .val (.ref w_WITHOUT_END), .val (.int (f1 w_WITHOUT_END p0 (p1.toInt8.toInt32) w_STANDARD)), .val (.long (p0.toInt64)), .second, .unset] []))
    refine OGo.st (fun _ k => XS.lload X2.here hx rfl (hb hby at_58) rfl k) ?_
    show OGo p e below s _ _ _ (T2.setTop (mkF m 60 #[.val (.int p0), .val (.int p1), .val (.int p2), .val (.int (p1.toInt8.toInt32)), .val (.int (0 : Int32)), .val (.ref w_WITHOUT_END), .val (.int (f1 w_WITHOUT_END p0 (p1.toInt8.toInt32) w_STANDARD)), .val (.long (p0.toInt64)), .second, .unset] [(.long (p0.toInt64))]))
    obtain ⟨_, _, ⟨T3, L3, k3, n3⟩, -, X3, ⟨Lc3, hQ3, l3, y3, z3⟩, st3⟩ := Jvm.LawKit.callS X2 hx (y := (⟨"com/example/assaywire/assaywire/protocol/AstmChecksumOfPinLaw", "mod256", "(J)I"⟩ : MethodName)) hown (mvT hZ (hw _ (List.mem_of_getElem? (i := 10) rfl))) (mvT hZ (hw _ (List.mem_of_getElem? (i := 11) rfl))) (mvT hZ (hw _ (List.mem_of_getElem? (i := 12) rfl))) (mvT hZ (hw _ (List.mem_of_getElem? (i := 13) rfl))) (by decide) (backOf (W := 0) (rm2 l Z a0 hw [] (p0.toInt64) h0 n0 Z0) hZ (hw _ (List.mem_of_getElem? (i := 13) rfl)) (hw _ (List.mem_of_getElem? (i := 12) rfl)) (by decide) (by decide)) (g := (mkF m 60 #[.val (.int p0), .val (.int p1), .val (.int p2), .val (.int (p1.toInt8.toInt32)), .val (.int (0 : Int32)), .val (.ref w_WITHOUT_END), .val (.int (f1 w_WITHOUT_END p0 (p1.toInt8.toInt32) w_STANDARD)), .val (.long (p0.toInt64)), .second, .unset] [(.long (p0.toInt64))])) rfl (by rw [hml]; rfl) (argsL := [(.long (p0.toInt64))]) (rest := []) (lenOf pd_0_1 rfl) rfl (by show 2 * 0 + _ ≤ _; exact Nat.le_of_eq rfl) (hb hby at_60) (fun _ _ => ⟨rfl, e2, (by decide : 0 + 0 ≤ _), (by decide : 0 + 0 ≤ _)⟩)
    dsimp only [Pt.U, Pt.locs, Pt.cells, Pt.slots] at X3 l3 y3 z3 st3 hQ3
    subst l3 y3 z3
    obtain ⟨rfl, N3q, e3⟩ := hQ3
    have N3 := Fr.app N2 N3q
    refine OGo.st st3 ?_
    show OGo p e below s _ _ _ (T3.setTop (mkF m 63 #[.val (.int p0), .val (.int p1), .val (.int p2), .val (.int (p1.toInt8.toInt32)), .val (.int (0 : Int32)), .val (.ref w_WITHOUT_END), .val (.int (f1 w_WITHOUT_END p0 (p1.toInt8.toInt32) w_STANDARD)), .val (.long (p0.toInt64)), .second, .unset] [(.int (f2 (p0.toInt64)))]))
    refine OGo.st (fun _ k => XS.istore X3.here hx rfl (hb hby at_63) rfl (l' := #[.val (.int p0), .val (.int p1), .val (.int p2), .val (.int (p1.toInt8.toInt32)), .val (.int (0 : Int32)), .val (.ref w_WITHOUT_END), .val (.int (f1 w_WITHOUT_END p0 (p1.toInt8.toInt32) w_STANDARD)), .val (.long (p0.toInt64)), .second, .val (.int (f2 (p0.toInt64)))]) rfl k) ?_
    show OGo p e below s _ _ _ (T3.setTop (mkF m 65 #[.val (.int p0), .val (.int p1), .val (.int p2), .val (.int (p1.toInt8.toInt32)), .val (.int (0 : Int32)), .val (.ref w_WITHOUT_END), .val (.int (f1 w_WITHOUT_END p0 (p1.toInt8.toInt32) w_STANDARD)), .val (.long (p0.toInt64)), .second, .val (.int (f2 (p0.toInt64)))] []))
    refine OGo.st (fun _ k => XS.iload X3.here hx rfl (hb hby at_65) rfl k) ?_
    show OGo p e below s _ _ _ (T3.setTop (mkF m 67 #[.val (.int p0), .val (.int p1), .val (.int p2), .val (.int (p1.toInt8.toInt32)), .val (.int (0 : Int32)), .val (.ref w_WITHOUT_END), .val (.int (f1 w_WITHOUT_END p0 (p1.toInt8.toInt32) w_STANDARD)), .val (.long (p0.toInt64)), .second, .val (.int (f2 (p0.toInt64)))] [(.int (f1 w_WITHOUT_END p0 (p1.toInt8.toInt32) w_STANDARD))]))
    refine OGo.st (fun _ k => XS.iload X3.here hx rfl (hb hby at_67) rfl k) ?_
    show OGo p e below s _ _ _ (T3.setTop (mkF m 69 #[.val (.int p0), .val (.int p1), .val (.int p2), .val (.int (p1.toInt8.toInt32)), .val (.int (0 : Int32)), .val (.ref w_WITHOUT_END), .val (.int (f1 w_WITHOUT_END p0 (p1.toInt8.toInt32) w_STANDARD)), .val (.long (p0.toInt64)), .second, .val (.int (f2 (p0.toInt64)))] [(.int (f2 (p0.toInt64))), (.int (f1 w_WITHOUT_END p0 (p1.toInt8.toInt32) w_STANDARD))]))
    by_cases hc69 : (f1 w_WITHOUT_END p0 (p1.toInt8.toInt32) w_STANDARD) = (f2 (p0.toInt64))
    · refine OGo.st (fun _ k => XS.icmpNo X3.here hx rfl (hb hby at_69) rfl (teq hc69).2 k) ?_
      show OGo p e below s _ _ _ (T3.setTop (mkF m 72 #[.val (.int p0), .val (.int p1), .val (.int p2), .val (.int (p1.toInt8.toInt32)), .val (.int (0 : Int32)), .val (.ref w_WITHOUT_END), .val (.int (f1 w_WITHOUT_END p0 (p1.toInt8.toInt32) w_STANDARD)), .val (.long (p0.toInt64)), .second, .val (.int (f2 (p0.toInt64)))] []))
      refine OGo.st (fun _ k => XS.iconst X3.here hx rfl (hb hby at_72) k) ?_
      show OGo p e below s _ _ _ (T3.setTop (mkF m 73 #[.val (.int p0), .val (.int p1), .val (.int p2), .val (.int (p1.toInt8.toInt32)), .val (.int (0 : Int32)), .val (.ref w_WITHOUT_END), .val (.int (f1 w_WITHOUT_END p0 (p1.toInt8.toInt32) w_STANDARD)), .val (.long (p0.toInt64)), .second, .val (.int (f2 (p0.toInt64)))] [(.int (1 : Int32))]))
      refine OGo.st (fun _ k => XS.goto X3.here hx rfl (pc0 := 73) (pc' := 77) rfl (hb hby at_73) (by decide) (by decide) k) ?_
      show OGo p e below s _ _ _ (T3.setTop (mkF m 77 #[.val (.int p0), .val (.int p1), .val (.int p2), .val (.int (p1.toInt8.toInt32)), .val (.int (0 : Int32)), .val (.ref w_WITHOUT_END), .val (.int (f1 w_WITHOUT_END p0 (p1.toInt8.toInt32) w_STANDARD)), .val (.long (p0.toInt64)), .second, .val (.int (f2 (p0.toInt64)))] [(.int (1 : Int32))]))
      exact oretN X3 hx Bd.notSynchronized (t := .boolean) Bd.returns (by simp) (hb hby at_77) (z' := (1 : Int32)) (by decide) e3 ⟨(congrArg (fun z => some (Value.int z)) (show (1 : Int32) = f0 p0 p1 p2 w_STANDARD w_WITHOUT_END from Eq.symm (by unfold f0; exact (if_pos hc6).trans (if_pos hc69)))), N3⟩ (by decide) (by decide)
    · refine OGo.st (fun _ k => XS.icmpYes X3.here hx rfl (pc0 := 69) (pc' := 76) rfl (hb hby at_69) rfl (feq hc69).2 (by decide) (by decide) k) ?_
      show OGo p e below s _ _ _ (T3.setTop (mkF m 76 #[.val (.int p0), .val (.int p1), .val (.int p2), .val (.int (p1.toInt8.toInt32)), .val (.int (0 : Int32)), .val (.ref w_WITHOUT_END), .val (.int (f1 w_WITHOUT_END p0 (p1.toInt8.toInt32) w_STANDARD)), .val (.long (p0.toInt64)), .second, .val (.int (f2 (p0.toInt64)))] []))
      refine OGo.st (fun _ k => XS.iconst X3.here hx rfl (hb hby at_76) k) ?_
      show OGo p e below s _ _ _ (T3.setTop (mkF m 77 #[.val (.int p0), .val (.int p1), .val (.int p2), .val (.int (p1.toInt8.toInt32)), .val (.int (0 : Int32)), .val (.ref w_WITHOUT_END), .val (.int (f1 w_WITHOUT_END p0 (p1.toInt8.toInt32) w_STANDARD)), .val (.long (p0.toInt64)), .second, .val (.int (f2 (p0.toInt64)))] [(.int (0 : Int32))]))
      exact oretN X3 hx Bd.notSynchronized (t := .boolean) Bd.returns (by simp) (hb hby at_77) (z' := (0 : Int32)) (by decide) e3 ⟨(congrArg (fun z => some (Value.int z)) (show (0 : Int32) = f0 p0 p1 p2 w_STANDARD w_WITHOUT_END from Eq.symm (by unfold f0; exact (if_pos hc6).trans (if_neg hc69)))), N3⟩ (by decide) (by decide)
  · refine OGo.st (fun _ k => XS.ifNo X0.here hx rfl (hb hby at_6) rfl ((if0 _ _).trans (feq hc6).1) k) ?_
    show OGo p e below s _ _ _ (s₁.setTop (mkF m 9 #[.val (.int p0), .val (.int p1), .val (.int p2), .val (.int (p1.toInt8.toInt32)), .unset, .unset, .unset, .unset, .unset, .unset] []))
    refine OGo.st (fun _ k => XS.iconst X0.here hx rfl (hb hby at_9) k) ?_
    show OGo p e below s _ _ _ (s₁.setTop (mkF m 10 #[.val (.int p0), .val (.int p1), .val (.int p2), .val (.int (p1.toInt8.toInt32)), .unset, .unset, .unset, .unset, .unset, .unset] [(.int (1 : Int32))]))
    refine OGo.st (fun _ k => XS.goto X0.here hx rfl (pc0 := 10) (pc' := 14) rfl (hb hby at_10) (by decide) (by decide) k) ?_
    show OGo p e below s _ _ _ (s₁.setTop (mkF m 14 #[.val (.int p0), .val (.int p1), .val (.int p2), .val (.int (p1.toInt8.toInt32)), .unset, .unset, .unset, .unset, .unset, .unset] [(.int (1 : Int32))]))
    refine OGo.st (fun _ k => XS.istore X0.here hx rfl (hb hby at_14) rfl (l' := #[.val (.int p0), .val (.int p1), .val (.int p2), .val (.int (p1.toInt8.toInt32)), .val (.int (1 : Int32)), .unset, .unset, .unset, .unset, .unset]) rfl k) ?_
    show OGo p e below s _ _ _ (s₁.setTop (mkF m 16 #[.val (.int p0), .val (.int p1), .val (.int p2), .val (.int (p1.toInt8.toInt32)), .val (.int (1 : Int32)), .unset, .unset, .unset, .unset, .unset] []))
    refine OGo.st (fun _ k => XS.iload X0.here hx rfl (hb hby at_16) rfl k) ?_
    show OGo p e below s _ _ _ (s₁.setTop (mkF m 18 #[.val (.int p0), .val (.int p1), .val (.int p2), .val (.int (p1.toInt8.toInt32)), .val (.int (1 : Int32)), .unset, .unset, .unset, .unset, .unset] [(.int (1 : Int32))]))
    refine OGo.st (fun _ k => XS.ifNo X0.here hx rfl (hb hby at_18) rfl ((if0 _ _).trans (feq (by decide : ¬ ((1 : Int32) = (0 : Int32)))).1) k) ?_
    show OGo p e below s _ _ _ (s₁.setTop (mkF m 21 #[.val (.int p0), .val (.int p1), .val (.int p2), .val (.int (p1.toInt8.toInt32)), .val (.int (1 : Int32)), .unset, .unset, .unset, .unset, .unset] []))
    obtain ⟨T4, X4, e4, st4⟩ := getS2 X0 hx hZ hown (host := "") (Or.inl (hw _ (List.mem_of_getElem? (i := 15) rfl))) Via.refl e0 S_STANDARD (g := (mkF m 21 #[.val (.int p0), .val (.int p1), .val (.int p2), .val (.int (p1.toInt8.toInt32)), .val (.int (1 : Int32)), .unset, .unset, .unset, .unset, .unset] [])) rfl (hb hby at_21)
    refine OGo.st st4 ?_
    show OGo p e below s _ _ _ (T4.setTop (mkF m 24 #[.val (.int p0), .val (.int p1), .val (.int p2), .val (.int (p1.toInt8.toInt32)), .val (.int (1 : Int32)), .unset, .unset, .unset, .unset, .unset] [(.ref w_STANDARD)]))
    refine OGo.st (fun _ k => XS.goto X4.here hx rfl (pc0 := 24) (pc' := 30) rfl (hb hby at_24) (by decide) (by decide) k) ?_
    show OGo p e below s _ _ _ (T4.setTop (mkF m 30 #[.val (.int p0), .val (.int p1), .val (.int p2), .val (.int (p1.toInt8.toInt32)), .val (.int (1 : Int32)), .unset, .unset, .unset, .unset, .unset] [(.ref w_STANDARD)]))
    refine OGo.st (fun _ k => XS.astore X4.here hx rfl (hb hby at_30) rfl rfl (l' := #[.val (.int p0), .val (.int p1), .val (.int p2), .val (.int (p1.toInt8.toInt32)), .val (.int (1 : Int32)), .val (.ref w_STANDARD), .unset, .unset, .unset, .unset]) rfl k) ?_
    show OGo p e below s _ _ _ (T4.setTop (mkF m 32 #[.val (.int p0), .val (.int p1), .val (.int p2), .val (.int (p1.toInt8.toInt32)), .val (.int (1 : Int32)), .val (.ref w_STANDARD), .unset, .unset, .unset, .unset] []))
    refine OGo.st (fun _ k => XS.aload X4.here hx rfl (hb hby at_32) rfl rfl k) ?_
    show OGo p e below s _ _ _ (T4.setTop (mkF m 34 #[.val (.int p0), .val (.int p1), .val (.int p2), .val (.int (p1.toInt8.toInt32)), .val (.int (1 : Int32)), .val (.ref w_STANDARD), .unset, .unset, .unset, .unset] [(.ref w_STANDARD)]))
    refine OGo.st (fun _ k => XS.iloadN X4.here hx rfl (hb hby at_34) rfl k) ?_
    show OGo p e below s _ _ _ (T4.setTop (mkF m 35 #[.val (.int p0), .val (.int p1), .val (.int p2), .val (.int (p1.toInt8.toInt32)), .val (.int (1 : Int32)), .val (.ref w_STANDARD), .unset, .unset, .unset, .unset] [(.int p0), (.ref w_STANDARD)]))
    refine OGo.st (fun _ k => XS.iloadN X4.here hx rfl (hb hby at_35) rfl k) ?_
    show OGo p e below s _ _ _ (T4.setTop (mkF m 36 #[.val (.int p0), .val (.int p1), .val (.int p2), .val (.int (p1.toInt8.toInt32)), .val (.int (1 : Int32)), .val (.ref w_STANDARD), .unset, .unset, .unset, .unset] [(.int (p1.toInt8.toInt32)), (.int p0), (.ref w_STANDARD)]))
    obtain ⟨cq5, kq5, q5a, q5b, q5c⟩ := isOf hZ e4 E_STANDARD
    obtain ⟨_, _, ⟨T5, L5, k5, n5⟩, -, X5, ⟨Lc5, hQ5, l5, y5, z5⟩, st5⟩ := X4.virtualBack hx (y := (⟨"com/example/assaywire/assaywire/protocol/AstmChecksum", "of", "(IB)I"⟩ : MethodName)) (z := (⟨"com/example/assaywire/assaywire/protocol/AstmChecksum", "of", "(IB)I"⟩ : MethodName)) hown (mvT hZ (hw _ (List.mem_of_getElem? (i := 3) rfl))) (mvT hZ (hw _ (List.mem_of_getElem? (i := 4) rfl))) (notFace_of_selects (args := #[]) (mvT hZ (hw _ (List.mem_of_getElem? (i := 6) rfl)))) (mvT hZ (hw _ (List.mem_of_getElem? (i := 6) rfl))) (mvT hZ (hw _ (List.mem_of_getElem? (i := 5) rfl))) (by decide) (backOf (W := 0) (rm1 l Z a0 hw [] w_STANDARD p0 (p1.toInt8.toInt32) w_STANDARD h0 n0 Z0 S_STANDARD) hZ (hw _ (List.mem_of_getElem? (i := 7) rfl)) (hw _ (List.mem_of_getElem? (i := 1) rfl)) (by decide) (by decide)) q5a q5c (g := (mkF m 36 #[.val (.int p0), .val (.int p1), .val (.int p2), .val (.int (p1.toInt8.toInt32)), .val (.int (1 : Int32)), .val (.ref w_STANDARD), .unset, .unset, .unset, .unset] [(.int (p1.toInt8.toInt32)), (.int p0), (.ref w_STANDARD)])) rfl (by rw [hml]; rfl) (Steps.refl _) (argsL := [(.int p0), (.int (p1.toInt8.toInt32))]) (rest := []) (lenOf pd_0_0 rfl) rfl (by show 2 * 0 + _ ≤ _; exact Nat.le_of_eq rfl) (hb hby at_36) (fun _ _ => ⟨rfl, e4, (by decide : 0 + 0 ≤ _), (by decide : 0 + 0 ≤ _)⟩)
    dsimp only [Pt.U, Pt.locs, Pt.cells, Pt.slots] at X5 l5 y5 z5 st5 hQ5
    subst l5 y5 z5
    obtain ⟨rfl, N5q, e5⟩ := hQ5
    have N5 := Fr.app N0 N5q
    refine OGo.st (fun _ k => st5.trans k) ?_
    show OGo p e below s _ _ _ (T5.setTop (mkF m 39 #[.val (.int p0), .val (.int p1), .val (.int p2), .val (.int (p1.toInt8.toInt32)), .val (.int (1 : Int32)), .val (.ref w_STANDARD), .unset, .unset, .unset, .unset] [(.int (f1 w_STANDARD p0 (p1.toInt8.toInt32) w_STANDARD))]))
    refine OGo.st (fun _ k => XS.istore X5.here hx rfl (hb hby at_39) rfl (l' := #[.val (.int p0), .val (.int p1), .val (.int p2), .val (.int (p1.toInt8.toInt32)), .val (.int (1 : Int32)), .val (.ref w_STANDARD), .val (.int (f1 w_STANDARD p0 (p1.toInt8.toInt32) w_STANDARD)), .unset, .unset, .unset]) rfl k) ?_
    show OGo p e below s _ _ _ (T5.setTop (mkF m 41 #[.val (.int p0), .val (.int p1), .val (.int p2), .val (.int (p1.toInt8.toInt32)), .val (.int (1 : Int32)), .val (.ref w_STANDARD), .val (.int (f1 w_STANDARD p0 (p1.toInt8.toInt32) w_STANDARD)), .unset, .unset, .unset] []))
    refine OGo.st (fun _ k => XS.iload X5.here hx rfl (hb hby at_41) rfl k) ?_
    show OGo p e below s _ _ _ (T5.setTop (mkF m 43 #[.val (.int p0), .val (.int p1), .val (.int p2), .val (.int (p1.toInt8.toInt32)), .val (.int (1 : Int32)), .val (.ref w_STANDARD), .val (.int (f1 w_STANDARD p0 (p1.toInt8.toInt32) w_STANDARD)), .unset, .unset, .unset] [(.int (1 : Int32))]))
    refine OGo.st (fun _ k => XS.ifNo X5.here hx rfl (hb hby at_43) rfl ((if0 _ _).trans (feq (by decide : ¬ ((1 : Int32) = (0 : Int32)))).1) k) ?_
    show OGo p e below s _ _ _ (T5.setTop (mkF m 46 #[.val (.int p0), .val (.int p1), .val (.int p2), .val (.int (p1.toInt8.toInt32)), .val (.int (1 : Int32)), .val (.ref w_STANDARD), .val (.int (f1 w_STANDARD p0 (p1.toInt8.toInt32) w_STANDARD)), .unset, .unset, .unset] []))
    refine OGo.st (fun _ k => XS.iloadN X5.here hx rfl (hb hby at_46) rfl k) ?_
    show OGo p e below s _ _ _ (T5.setTop (mkF m 47 #[.val (.int p0), .val (.int p1), .val (.int p2), .val (.int (p1.toInt8.toInt32)), .val (.int (1 : Int32)), .val (.ref w_STANDARD), .val (.int (f1 w_STANDARD p0 (p1.toInt8.toInt32) w_STANDARD)), .unset, .unset, .unset] [(.int p0)]))
    refine OGo.st (fun _ k => XS.i2l X5.here hx rfl (hb hby at_47) rfl k) ?_
    show OGo p e below s _ _ _ (T5.setTop (mkF m 48 #[.val (.int p0), .val (.int p1), .val (.int p2), .val (.int (p1.toInt8.toInt32)), .val (.int (1 : Int32)), .val (.ref w_STANDARD), .val (.int (f1 w_STANDARD p0 (p1.toInt8.toInt32) w_STANDARD)), .unset, .unset, .unset] [(.long (p0.toInt64))]))
    refine OGo.st (fun _ k => XS.iloadN X5.here hx rfl (hb hby at_48) rfl k) ?_
    show OGo p e below s _ _ _ (T5.setTop (mkF m 49 #[.val (.int p0), .val (.int p1), .val (.int p2), .val (.int (p1.toInt8.toInt32)), .val (.int (1 : Int32)), .val (.ref w_STANDARD), .val (.int (f1 w_STANDARD p0 (p1.toInt8.toInt32) w_STANDARD)), .unset, .unset, .unset] [(.int (p1.toInt8.toInt32)), (.long (p0.toInt64))]))
    refine OGo.st (fun _ k => XS.i2l X5.here hx rfl (hb hby at_49) rfl k) ?_
    show OGo p e below s _ _ _ (T5.setTop (mkF m 50 #[.val (.int p0), .val (.int p1), .val (.int p2), .val (.int (p1.toInt8.toInt32)), .val (.int (1 : Int32)), .val (.ref w_STANDARD), .val (.int (f1 w_STANDARD p0 (p1.toInt8.toInt32) w_STANDARD)), .unset, .unset, .unset] [(.long ((p1.toInt8.toInt32).toInt64)), (.long (p0.toInt64))]))
    refine OGo.st (fun _ k => XS.ladd X5.here hx rfl (hb hby at_50) rfl k) ?_
    show OGo p e below s _ _ _ (T5.setTop (mkF m 51 #[.val (.int p0), .val (.int p1), .val (.int p2), .val (.int (p1.toInt8.toInt32)), .val (.int (1 : Int32)), .val (.ref w_STANDARD), .val (.int (f1 w_STANDARD p0 (p1.toInt8.toInt32) w_STANDARD)), .unset, .unset, .unset] [(.long ((p0.toInt64) + ((p1.toInt8.toInt32).toInt64)))]))
    refine OGo.st (fun _ k => XS.goto X5.here hx rfl (pc0 := 51) (pc' := 56) rfl (hb hby at_51) (by decide) (by decide) k) ?_
    show OGo p e below s _ _ _ (T5.setTop (mkF m 56 #[.val (.int p0), .val (.int p1), .val (.int p2), .val (.int (p1.toInt8.toInt32)), .val (.int (1 : Int32)), .val (.ref w_STANDARD), .val (.int (f1 w_STANDARD p0 (p1.toInt8.toInt32) w_STANDARD)), .unset, .unset, .unset] [(.long ((p0.toInt64) + ((p1.toInt8.toInt32).toInt64)))]))
    refine OGo.st (fun _ k => XS.lstore X5.here hx rfl (hb hby at_56) rfl (l' := #[.val (.int p0), .val (.int p1), .val (.int p2), .val (.int (p1.toInt8.toInt32)), .val (.int (1 : Int32)), .val (.ref w_STANDARD), .val (.int (f1 w_STANDARD p0 (p1.toInt8.toInt32) w_STANDARD)), .val (.long ((p0.toInt64) + ((p1.toInt8.toInt32).toInt64))), .second, .unset]) rfl k) ?_
    show OGo p e below s _ _ _ (T5.setTop (mkF m 58 #[.val (.int p0), .val (.int p1), .val (.int p2), .val (.int (p1.toInt8.toInt32)), .val (.int (1 : Int32)), .val (.ref w_STANDARD), .val (.int (f1 w_STANDARD p0 (p1.toInt8.toInt32) w_STANDARD)), .val (.long ((p0.toInt64) + ((p1.toInt8.toInt32).toInt64))), .second, .unset] []))
    refine OGo.st (fun _ k => XS.lload X5.here hx rfl (hb hby at_58) rfl k) ?_
    show OGo p e below s _ _ _ (T5.setTop (mkF m 60 #[.val (.int p0), .val (.int p1), .val (.int p2), .val (.int (p1.toInt8.toInt32)), .val (.int (1 : Int32)), .val (.ref w_STANDARD), .val (.int (f1 w_STANDARD p0 (p1.toInt8.toInt32) w_STANDARD)), .val (.long ((p0.toInt64) + ((p1.toInt8.toInt32).toInt64))), .second, .unset] [(.long ((p0.toInt64) + ((p1.toInt8.toInt32).toInt64)))]))
    obtain ⟨_, _, ⟨T6, L6, k6, n6⟩, -, X6, ⟨Lc6, hQ6, l6, y6, z6⟩, st6⟩ := Jvm.LawKit.callS X5 hx (y := (⟨"com/example/assaywire/assaywire/protocol/AstmChecksumOfPinLaw", "mod256", "(J)I"⟩ : MethodName)) hown (mvT hZ (hw _ (List.mem_of_getElem? (i := 10) rfl))) (mvT hZ (hw _ (List.mem_of_getElem? (i := 11) rfl))) (mvT hZ (hw _ (List.mem_of_getElem? (i := 12) rfl))) (mvT hZ (hw _ (List.mem_of_getElem? (i := 13) rfl))) (by decide) (backOf (W := 0) (rm2 l Z a0 hw [] ((p0.toInt64) + ((p1.toInt8.toInt32).toInt64)) h0 n0 Z0) hZ (hw _ (List.mem_of_getElem? (i := 13) rfl)) (hw _ (List.mem_of_getElem? (i := 12) rfl)) (by decide) (by decide)) (g := (mkF m 60 #[.val (.int p0), .val (.int p1), .val (.int p2), .val (.int (p1.toInt8.toInt32)), .val (.int (1 : Int32)), .val (.ref w_STANDARD), .val (.int (f1 w_STANDARD p0 (p1.toInt8.toInt32) w_STANDARD)), .val (.long ((p0.toInt64) + ((p1.toInt8.toInt32).toInt64))), .second, .unset] [(.long ((p0.toInt64) + ((p1.toInt8.toInt32).toInt64)))])) rfl (by rw [hml]; rfl) (argsL := [(.long ((p0.toInt64) + ((p1.toInt8.toInt32).toInt64)))]) (rest := []) (lenOf pd_0_1 rfl) rfl (by show 2 * 0 + _ ≤ _; exact Nat.le_of_eq rfl) (hb hby at_60) (fun _ _ => ⟨rfl, e5, (by decide : 0 + 0 ≤ _), (by decide : 0 + 0 ≤ _)⟩)
    dsimp only [Pt.U, Pt.locs, Pt.cells, Pt.slots] at X6 l6 y6 z6 st6 hQ6
    subst l6 y6 z6
    obtain ⟨rfl, N6q, e6⟩ := hQ6
    have N6 := Fr.app N5 N6q
    refine OGo.st st6 ?_
    show OGo p e below s _ _ _ (T6.setTop (mkF m 63 #[.val (.int p0), .val (.int p1), .val (.int p2), .val (.int (p1.toInt8.toInt32)), .val (.int (1 : Int32)), .val (.ref w_STANDARD), .val (.int (f1 w_STANDARD p0 (p1.toInt8.toInt32) w_STANDARD)), .val (.long ((p0.toInt64) + ((p1.toInt8.toInt32).toInt64))), .second, .unset] [(.int (f2 ((p0.toInt64) + ((p1.toInt8.toInt32).toInt64))))]))
    refine OGo.st (fun _ k => XS.istore X6.here hx rfl (hb hby at_63) rfl (l' := #[.val (.int p0), .val (.int p1), .val (.int p2), .val (.int (p1.toInt8.toInt32)), .val (.int (1 : Int32)), .val (.ref w_STANDARD), .val (.int (f1 w_STANDARD p0 (p1.toInt8.toInt32) w_STANDARD)), .val (.long ((p0.toInt64) + ((p1.toInt8.toInt32).toInt64))), .second, .val (.int (f2 ((p0.toInt64) + ((p1.toInt8.toInt32).toInt64))))]) rfl k) ?_
    show OGo p e below s _ _ _ (T6.setTop (mkF m 65 #[.val (.int p0), .val (.int p1), .val (.int p2), .val (.int (p1.toInt8.toInt32)), .val (.int (1 : Int32)), .val (.ref w_STANDARD), .val (.int (f1 w_STANDARD p0 (p1.toInt8.toInt32) w_STANDARD)), .val (.long ((p0.toInt64) + ((p1.toInt8.toInt32).toInt64))), .second, .val (.int (f2 ((p0.toInt64) + ((p1.toInt8.toInt32).toInt64))))] []))
    refine OGo.st (fun _ k => XS.iload X6.here hx rfl (hb hby at_65) rfl k) ?_
    show OGo p e below s _ _ _ (T6.setTop (mkF m 67 #[.val (.int p0), .val (.int p1), .val (.int p2), .val (.int (p1.toInt8.toInt32)), .val (.int (1 : Int32)), .val (.ref w_STANDARD), .val (.int (f1 w_STANDARD p0 (p1.toInt8.toInt32) w_STANDARD)), .val (.long ((p0.toInt64) + ((p1.toInt8.toInt32).toInt64))), .second, .val (.int (f2 ((p0.toInt64) + ((p1.toInt8.toInt32).toInt64))))] [(.int (f1 w_STANDARD p0 (p1.toInt8.toInt32) w_STANDARD))]))
    refine OGo.st (fun _ k => XS.iload X6.here hx rfl (hb hby at_67) rfl k) ?_
    show OGo p e below s _ _ _ (T6.setTop (mkF m 69 #[.val (.int p0), .val (.int p1), .val (.int p2), .val (.int (p1.toInt8.toInt32)), .val (.int (1 : Int32)), .val (.ref w_STANDARD), .val (.int (f1 w_STANDARD p0 (p1.toInt8.toInt32) w_STANDARD)), .val (.long ((p0.toInt64) + ((p1.toInt8.toInt32).toInt64))), .second, .val (.int (f2 ((p0.toInt64) + ((p1.toInt8.toInt32).toInt64))))] [(.int (f2 ((p0.toInt64) + ((p1.toInt8.toInt32).toInt64)))), (.int (f1 w_STANDARD p0 (p1.toInt8.toInt32) w_STANDARD))]))
    by_cases hc69 : (f1 w_STANDARD p0 (p1.toInt8.toInt32) w_STANDARD) = (f2 ((p0.toInt64) + ((p1.toInt8.toInt32).toInt64)))
    · refine OGo.st (fun _ k => XS.icmpNo X6.here hx rfl (hb hby at_69) rfl (teq hc69).2 k) ?_
      show OGo p e below s _ _ _ (T6.setTop (mkF m 72 #[.val (.int p0), .val (.int p1), .val (.int p2), .val (.int (p1.toInt8.toInt32)), .val (.int (1 : Int32)), .val (.ref w_STANDARD), .val (.int (f1 w_STANDARD p0 (p1.toInt8.toInt32) w_STANDARD)), .val (.long ((p0.toInt64) + ((p1.toInt8.toInt32).toInt64))), .second, .val (.int (f2 ((p0.toInt64) + ((p1.toInt8.toInt32).toInt64))))] []))
      refine OGo.st (fun _ k => XS.iconst X6.here hx rfl (hb hby at_72) k) ?_
      show OGo p e below s _ _ _ (T6.setTop (mkF m 73 #[.val (.int p0), .val (.int p1), .val (.int p2), .val (.int (p1.toInt8.toInt32)), .val (.int (1 : Int32)), .val (.ref w_STANDARD), .val (.int (f1 w_STANDARD p0 (p1.toInt8.toInt32) w_STANDARD)), .val (.long ((p0.toInt64) + ((p1.toInt8.toInt32).toInt64))), .second, .val (.int (f2 ((p0.toInt64) + ((p1.toInt8.toInt32).toInt64))))] [(.int (1 : Int32))]))
      refine OGo.st (fun _ k => XS.goto X6.here hx rfl (pc0 := 73) (pc' := 77) rfl (hb hby at_73) (by decide) (by decide) k) ?_
      show OGo p e below s _ _ _ (T6.setTop (mkF m 77 #[.val (.int p0), .val (.int p1), .val (.int p2), .val (.int (p1.toInt8.toInt32)), .val (.int (1 : Int32)), .val (.ref w_STANDARD), .val (.int (f1 w_STANDARD p0 (p1.toInt8.toInt32) w_STANDARD)), .val (.long ((p0.toInt64) + ((p1.toInt8.toInt32).toInt64))), .second, .val (.int (f2 ((p0.toInt64) + ((p1.toInt8.toInt32).toInt64))))] [(.int (1 : Int32))]))
      exact oretN X6 hx Bd.notSynchronized (t := .boolean) Bd.returns (by simp) (hb hby at_77) (z' := (1 : Int32)) (by decide) e6 ⟨(congrArg (fun z => some (Value.int z)) (show (1 : Int32) = f0 p0 p1 p2 w_STANDARD w_WITHOUT_END from Eq.symm (by unfold f0; exact (if_neg hc6).trans (if_pos hc69)))), N6⟩ (by decide) (by decide)
    · refine OGo.st (fun _ k => XS.icmpYes X6.here hx rfl (pc0 := 69) (pc' := 76) rfl (hb hby at_69) rfl (feq hc69).2 (by decide) (by decide) k) ?_
      show OGo p e below s _ _ _ (T6.setTop (mkF m 76 #[.val (.int p0), .val (.int p1), .val (.int p2), .val (.int (p1.toInt8.toInt32)), .val (.int (1 : Int32)), .val (.ref w_STANDARD), .val (.int (f1 w_STANDARD p0 (p1.toInt8.toInt32) w_STANDARD)), .val (.long ((p0.toInt64) + ((p1.toInt8.toInt32).toInt64))), .second, .val (.int (f2 ((p0.toInt64) + ((p1.toInt8.toInt32).toInt64))))] []))
      refine OGo.st (fun _ k => XS.iconst X6.here hx rfl (hb hby at_76) k) ?_
      show OGo p e below s _ _ _ (T6.setTop (mkF m 77 #[.val (.int p0), .val (.int p1), .val (.int p2), .val (.int (p1.toInt8.toInt32)), .val (.int (1 : Int32)), .val (.ref w_STANDARD), .val (.int (f1 w_STANDARD p0 (p1.toInt8.toInt32) w_STANDARD)), .val (.long ((p0.toInt64) + ((p1.toInt8.toInt32).toInt64))), .second, .val (.int (f2 ((p0.toInt64) + ((p1.toInt8.toInt32).toInt64))))] [(.int (0 : Int32))]))
      exact oretN X6 hx Bd.notSynchronized (t := .boolean) Bd.returns (by simp) (hb hby at_77) (z' := (0 : Int32)) (by decide) e6 ⟨(congrArg (fun z => some (Value.int z)) (show (0 : Int32) = f0 p0 p1 p2 w_STANDARD w_WITHOUT_END from Eq.symm (by unfold f0; exact (if_neg hc6).trans (if_neg hc69)))), N6⟩ (by decide) (by decide)
theorem own_tm (a : Int) : (a.tmod 256 + 256).tmod 256 = a % 256 ∧ -256 < a.tmod 256 ∧ a.tmod 256 < 256 := by
  rcases Int.le_total 0 a with h | h
  · rw [Int.tmod_eq_emod_of_nonneg h, Int.tmod_eq_emod_of_nonneg (by omega)]; omega
  · obtain ⟨b, rfl⟩ : ∃ b, a = -b := ⟨-a, by omega⟩
    rw [Int.neg_tmod, Int.tmod_eq_emod_of_nonneg (by omega : 0 ≤ b), Int.tmod_eq_emod_of_nonneg (by omega)]; omega
theorem own_f2 (q : Int64) : (f2 q).toInt = q.toInt % 256 := by
  have k : (256 : Int64).toInt = 256 := by decide
  obtain ⟨t1, t2, t3⟩ := own_tm q.toInt
  have e1 : (q % (256 : Int64)).toInt = q.toInt.tmod 256 := by rw [Int64.toInt_mod, k]
  have e2 : (q % (256 : Int64) + (256 : Int64)).toInt = q.toInt.tmod 256 + 256 := by rw [Jvm.Kit.i64_add (by rw [e1, k]; omega) (by rw [e1, k]; omega), e1, k]
  have e3 : ((q % (256 : Int64) + (256 : Int64)) % (256 : Int64)).toInt = q.toInt % 256 := by rw [Int64.toInt_mod, k, e2, t1]
  unfold f2
  rw [Jvm.Kit.i32_of_i64 (by rw [e3]; omega) (by rw [e3]; omega), e3]
theorem own_bm (a : Int) : (a.bmod (2 ^ 32)) % 256 = a % 256 := by
  unfold Int.bmod; dsimp only; split <;> omega
theorem own_plain (p0 p1 p2 : Int32) (w_STANDARD w_WITHOUT_END : Addr) (hne : w_STANDARD ≠ w_WITHOUT_END) : f0 p0 p1 p2 w_STANDARD w_WITHOUT_END = 1 := by
  have m (x : Int32) : (x &&& (255 : Int32)).toInt = x.toInt % 2 ^ 8 := Jvm.Kit.i32_mask x 255 (by decide) (by decide)
  have a1 : f1 w_WITHOUT_END p0 (p1.toInt8.toInt32) w_STANDARD = f2 p0.toInt64 := by
    unfold f1; rw [if_neg (Ne.symm hne)]
    apply Int32.toInt_inj.mp
    rw [m, own_f2, Int32.toInt_toInt64]; rfl
  have a2 : f1 w_STANDARD p0 (p1.toInt8.toInt32) w_STANDARD = f2 (p0.toInt64 + (p1.toInt8.toInt32).toInt64) := by
    unfold f1; rw [if_pos rfl]
    apply Int32.toInt_inj.mp
    generalize p1.toInt8.toInt32 = b
    have h1 := p0.le_toInt; have h2 := p0.toInt_lt; have h3 := b.le_toInt; have h4 := b.toInt_lt
    rw [m, own_f2, Jvm.Kit.i64_add (by rw [Int32.toInt_toInt64, Int32.toInt_toInt64]; omega) (by rw [Int32.toInt_toInt64, Int32.toInt_toInt64]; omega), Int32.toInt_toInt64, Int32.toInt_toInt64, Int32.toInt_add]
    exact own_bm _
  unfold f0
  rw [if_pos a1, if_pos a2, ite_self]
set_option maxRecDepth 65536 in
set_option maxHeartbeats 40000000 in
theorem comes_1 {Post : Tables → Env → Array Value → State → Outcome → State → Prop} (hpost : ∀ tb e args s v u, (limb_1_1.after args s (.returned v) u = true ∧ limb_1_2.after args s (.returned v) u = true ∧ True) → FrameEnd s (.returned v) u (Jvm.fieldLocs frame_1_writes args s ++ Jvm.arrayLocs frame_1_arrays args s ++ Jvm.staticLocs frame_1_statics s) 0 0 → Post tb e args s (.returned v) u) :
    ArmFor flags0 classFile x code maxLocals ret World_1 tables_1 room_1 Calls_1 rest_1 Pre_1 Post := by
  intro l hfl _ _ p e ha hc hk s m args below hf hA hF happ hP
  obtain ⟨hcalls, hrest, hpre⟩ := hP
  obtain ⟨-, -, -, hnamed, -, -, -, hat⟩ := (Spec.applies_iff hf).mp happ
  obtain ⟨hg, hn⟩ := and_e (Cond.before_iff.mp (show (Jvm.Cond.and given_1 narrow_1).before args s = true from hpre))
  obtain ⟨gv1, gv2⟩ := and_e hg
  obtain ⟨gv3, gv4⟩ := and_e gv2
  obtain ⟨gv5, gv6⟩ := and_e gv4
  obtain ⟨w0, w1, w2, rfl⟩ : ∃ w0 w1 w2 : Value, args = #[w0, w1, w2] := by
    have hs : args.size = 3 := by simpa [Cond.value, given_1] using gv1
    obtain ⟨L⟩ := args
    match L, hs with
    | [w0, w1, w2], _ => exact ⟨w0, w1, w2, rfl⟩
  have hw := fun d (hd : d ∈ tables_1) => atoms_spec (ws := Jvm.Cond.code x code maxLocals ret :: tables_1) hat d (List.mem_cons_of_mem _ hd)
  have hfit : Fit s := fun {y c} hc i hi => by
    obtain ⟨ha, rfl⟩ := Array.getElem?_eq_some_iff.mp hc
    have q := List.all_eq_true.mp ((Array.all_eq_true_iff_forall_mem.mp hF) _ (Array.getElem_mem ha)) i (List.mem_range.mpr hi)
    simpa [Array.getElem?_eq_getElem hi] using q
  obtain ⟨i0, ei0⟩ := is_v gv3
  obtain rfl : w0 = (.int i0) := Option.some.inj ei0
  obtain ⟨i1, ei1⟩ := is_v gv5
  obtain rfl : w1 = (.int i1) := Option.some.inj ei1
  obtain ⟨i2, ei2⟩ := is_v gv6
  obtain rfl : w2 = (.int i2) := Option.some.inj ei2
  obtain ⟨nv1, nv2⟩ := and_e hn
  obtain ⟨nv3, nv4⟩ := and_e nv2
  obtain ⟨nv5, nv6⟩ := and_e nv4
  obtain ⟨w_WITHOUT_END, ev_WITHOUT_END⟩ := exa_v nv1
  have S_WITHOUT_END : Sta s s.heap "com/example/assaywire/assaywire/protocol/AstmChecksum" "WITHOUT_END" "Lcom/example/assaywire/assaywire/protocol/AstmChecksum;" (.ref w_WITHOUT_END) := Sta.start ev_WITHOUT_END (Or.inr ⟨(hw _ (List.mem_of_getElem? (i := 1) rfl)), (hw _ (List.mem_of_getElem? (i := 2) rfl))⟩)
  have E_WITHOUT_END : Exa s s.heap w_WITHOUT_END "com/example/assaywire/assaywire/protocol/AstmChecksum" := Exa.start ev_WITHOUT_END nv1
  obtain ⟨w_STANDARD, ev_STANDARD⟩ := exa_v nv3
  have S_STANDARD : Sta s s.heap "com/example/assaywire/assaywire/protocol/AstmChecksum" "STANDARD" "Lcom/example/assaywire/assaywire/protocol/AstmChecksum;" (.ref w_STANDARD) := Sta.start ev_STANDARD (Or.inr ⟨(hw _ (List.mem_of_getElem? (i := 1) rfl)), (hw _ (List.mem_of_getElem? (i := 9) rfl))⟩)
  have E_STANDARD : Exa s s.heap w_STANDARD "com/example/assaywire/assaywire/protocol/AstmChecksum" := Exa.start ev_STANDARD nv3
  have O_WITHOUT_END_ordinal : Fld s s.heap w_WITHOUT_END "java/lang/Enum" "ordinal" "I" (.int (1 : Int32)) := ofld_eq nv5 ev_WITHOUT_END
  have O_STANDARD_ordinal : Fld s s.heap w_STANDARD "java/lang/Enum" "ordinal" "I" (.int (0 : Int32)) := ofld_eq nv6 ev_STANDARD
  have ne_STANDARD_WITHOUT_END : w_STANDARD ≠ w_WITHOUT_END := O_STANDARD_ordinal.ne O_WITHOUT_END_ordinal (by decide)
  have hpl := own_plain i0 i1 i2 w_STANDARD w_WITHOUT_END ne_STANDARD_WITHOUT_END
  obtain ⟨n, o, h1, h2, h3, _, L, rfl, ⟨rfl, N⟩, hq⟩ := rm0 l s _ hw tables_1 i0 i1 i2 w_STANDARD w_WITHOUT_END s.heap s.heap.size (Nat.le_refl _) S_STANDARD S_WITHOUT_END E_STANDARD E_WITHOUT_END p e ha hc hk s m _ below hf ((Spec.applies_iff_loose hf).mp happ).1 ⟨rfl, State.Warmed39.refl s, rfl⟩ trivial
  refine ⟨n, _, h1, h2, h3, hpost _ _ _ _ _ _ ⟨Cond.after_iff.mpr rfl, Cond.after_iff.mpr (eq_i res_at (Term.int_eval (1)) (congrArg Value.int hpl)), trivial⟩ ⟨hq.1, hq.2.1, (hq.2.2.sift fun y hy => Or.inr (N y hy)).mono (by decide) (by decide)⟩⟩
theorem main_1_1 : Claimed_1_1 := comes_1 fun _ _ _ _ _ _ h hF => ⟨h.1, hF⟩
theorem main_1_2 : Claimed_1_2 := comes_1 fun _ _ _ _ _ _ h hF => ⟨h.2.1, hF⟩
end Jvm.Pilot.@@N@@
namespace Jvm.Pilot.@@N@@
open Jvm Jvm.ClassFile Sem Op Lib Jvm.Free Jvm.Stand Jvm.Pilot.@@N@@.Jvm.D
/-! MADE BY PROGRAM (witnessworld.py) out of the Statement's table words and the real class files: 12 classes; the members and pool entries that the words name. The judged class is class 1, her method 2. -/
namespace start1
open Jvm.ClassFile
def u (s : String) : CpInfo := .utf8 (stringToUtf16 s)
/-- a pool by its gaps: so many unusable entries, then the entry; so many at the end -/
def gap : Nat → List CpInfo → List CpInfo
  | 0, r => r
  | n + 1, r => .unusable :: gap n r
def poolList (es : List (Nat × CpInfo)) (last : Nat) : List CpInfo := es.foldr (fun e r => gap e.1 (e.2 :: r)) (gap last [])
def pool (es : List (Nat × CpInfo)) (last : Nat) : Array CpInfo := ⟨poolList es last⟩
def fileOf (pool : Array CpInfo) (this : Nat) (attrs : Array Attribute := #[]) (ms : Array MethodInfo := #[]) (fl : Nat := 33) (sup : Nat := 0) (ifs : Array Nat := #[]) (fds : Array FieldInfo := #[]) : ClassFile where
  minorVersion := 0
  majorVersion := 65
  constantPool := pool
  accessFlags := fl
  thisClass := this
  superClass := sup
  interfaces := ifs
  fields := fds
  methods := ms
  attributes := attrs
def plain (name : String) (sup : Option ClassId) : Class where
  name := name
  kind := .ordinary
  loader := none
  accessFlags := 33
  super := sup
  interfaces := #[]
  cf := none
  fields := #[]
  methods := #[]
  instanceTypes := #[]
  staticTypes := #[]
  resolved := #[]
  callSites := []
  init := .initialized
  statics := none
  mirror := none

def pool0 : Array CpInfo := pool [(5, u "<init>"), (0, u "()V"), (1, .class_ 10), (1, u "java/lang/Object")] 113

def k0m0 : Method := { name := "<init>", desc := "()V", sig := { parameters := [], returnType := none }, accessFlags := 1, code := none }
/-- java/lang/Object -/
def k0 : Class := { plain "java/lang/Object" none with
  accessFlags := 33
  interfaces := #[]
  cf := some (fileOf pool0 8 #[] #[{ accessFlags := 1, nameIndex := 5, descriptorIndex := 6, attributes := #[] }] 33 0 #[] #[])
  fields := #[]
  methods := #[k0m0]
  instanceTypes := #[]
  staticTypes := #[]
  resolved := Array.replicate 124 none
  statics := none }

def pool1 : Array CpInfo := pool [(2, .class_ 4), (1, u "java/lang/Object"), (0, u "<init>"), (0, u "()V"), (0, .long 256), (1, .fieldref 10 11), (0, .class_ 12), (0, .nameAndType 13 14), (0, u "com/example/assaywire/assaywire/protocol/AstmChecksum"), (0, u "STANDARD"), (0, u "Lcom/example/assaywire/assaywire/protocol/AstmChecksum;"), (0, .fieldref 10 16), (0, .nameAndType 17 14), (0, u "WITHOUT_END"), (0, .methodref 10 19), (0, .nameAndType 20 21), (0, u "of"), (0, u "(IB)I"), (0, .methodref 23 24), (0, .class_ 25), (0, .nameAndType 26 27), (0, u "com/example/assaywire/assaywire/protocol/AstmChecksumOfPinLaw"), (0, u "mod256"), (0, u "(J)I"), (2, u "law"), (0, u "(III)Z")] 3

def k1m0 : Method := { name := "<init>", desc := "()V", sig := { parameters := [], returnType := none }, accessFlags := 1, code := none }
def k1c1 : Code := { maxStack := 4, maxLocals := 2, code := method_2_code, exceptionTable := #[], attributes := #[] }
def k1m1 : Method := { name := "mod256", desc := "(J)I", sig := { parameters := [.long], returnType := some .int }, accessFlags := 10, code := some k1c1 }
def k1c2 : Code := { maxStack := 4, maxLocals := 10, code := code, exceptionTable := #[], attributes := #[] }
def k1m2 : Method := { name := "law", desc := "(III)Z", sig := { parameters := [.int, .int, .int], returnType := some .boolean }, accessFlags := 9, code := some k1c2 }
/-- com/example/assaywire/assaywire/protocol/AstmChecksumOfPinLaw -/
def k1 : Class := { plain "com/example/assaywire/assaywire/protocol/AstmChecksumOfPinLaw" (some 0) with
  accessFlags := 49
  interfaces := #[]
  cf := some (fileOf pool1 23 #[] #[{ accessFlags := 1, nameIndex := 5, descriptorIndex := 6, attributes := #[] }, { accessFlags := 10, nameIndex := 26, descriptorIndex := 27, attributes := #[] }, { accessFlags := 9, nameIndex := 30, descriptorIndex := 31, attributes := #[] }] 49 2 #[] #[])
  fields := #[]
  methods := #[k1m0, k1m1, k1m2]
  instanceTypes := #[]
  staticTypes := #[]
  resolved := Array.replicate 35 none
  statics := none }

def pool2 : Array CpInfo := pool [(1, .class_ 2), (0, u "java/lang/constant/Constable"), (0, .class_ 4), (0, u "java/lang/Object")] 6

/-- java/lang/constant/Constable -/
def k2 : Class := { plain "java/lang/constant/Constable" (some 0) with
  accessFlags := 1537
  interfaces := #[]
  cf := some (fileOf pool2 1 #[] #[] 1537 3 #[] #[])
  fields := #[]
  methods := #[]
  instanceTypes := #[]
  staticTypes := #[]
  resolved := Array.replicate 11 none
  statics := none }

def pool3 : Array CpInfo := pool [(1, .class_ 2), (0, u "java/lang/Comparable"), (0, .class_ 4), (0, u "java/lang/Object")] 7

/-- java/lang/Comparable -/
def k3 : Class := { plain "java/lang/Comparable" (some 0) with
  accessFlags := 1537
  interfaces := #[]
  cf := some (fileOf pool3 1 #[] #[] 1537 3 #[] #[])
  fields := #[]
  methods := #[]
  instanceTypes := #[]
  staticTypes := #[]
  resolved := Array.replicate 12 none
  statics := none }

def pool4 : Array CpInfo := pool [(1, .class_ 2), (0, u "java/io/Serializable"), (0, .class_ 4), (0, u "java/lang/Object")] 2

/-- java/io/Serializable -/
def k4 : Class := { plain "java/io/Serializable" (some 0) with
  accessFlags := 1537
  interfaces := #[]
  cf := some (fileOf pool4 1 #[] #[] 1537 3 #[] #[])
  fields := #[]
  methods := #[]
  instanceTypes := #[]
  staticTypes := #[]
  resolved := Array.replicate 7 none
  statics := none }

def pool5 : Array CpInfo := pool [(2, .class_ 4), (1, u "java/lang/Enum"), (0, u "name"), (0, u "Ljava/lang/String;"), (2, u "ordinal"), (0, u "I"), (1, .class_ 14), (1, u "java/lang/Object"), (4, u "hash"), (86, .class_ 108), (1, u "java/lang/Enum$EnumDesc"), (2, .class_ 112), (0, u "java/lang/constant/Constable"), (0, .class_ 114), (0, u "java/lang/Comparable"), (0, .class_ 116), (0, u "java/io/Serializable")] 87

/-- java/lang/Enum -/
def k5 : Class := { plain "java/lang/Enum" (some 0) with
  accessFlags := 1057
  interfaces := #[2, 3, 4]
  cf := some (fileOf pool5 2 #[.nestMembers #[106]] #[] 1057 12 #[111, 113, 115] #[{ accessFlags := 18, nameIndex := 5, descriptorIndex := 6, attributes := #[] }, { accessFlags := 18, nameIndex := 9, descriptorIndex := 10, attributes := #[] }, { accessFlags := 2, nameIndex := 19, descriptorIndex := 10, attributes := #[] }])
  fields := #[{ name := "name", type := (.object "java/lang/String"), accessFlags := 18, slot := 0, constantValue := 0 }, { name := "ordinal", type := .int, accessFlags := 18, slot := 1, constantValue := 0 }, { name := "hash", type := .int, accessFlags := 2, slot := 2, constantValue := 0 }]
  methods := #[]
  instanceTypes := #[(.object "java/lang/String"), .int, .int]
  staticTypes := #[]
  resolved := Array.replicate 204 none
  statics := none }

def pool6 : Array CpInfo := pool [(1, .class_ 2), (0, u "com/example/assaywire/assaywire/protocol/AstmChecksum"), (0, .fieldref 1 4), (0, .nameAndType 5 6), (0, u "STANDARD"), (0, u "Lcom/example/assaywire/assaywire/protocol/AstmChecksum;"), (2, u "WITHOUT_END"), (2, u "$VALUES"), (0, u "[Lcom/example/assaywire/assaywire/protocol/AstmChecksum;"), (6, .class_ 22), (1, u "java/lang/Enum"), (20, u "of"), (0, u "(IB)I")] 5

def k6c0 : Code := { maxStack := 2, maxLocals := 3, code := prog_72_method_4_code, exceptionTable := #[], attributes := #[] }
def k6m0 : Method := { name := "of", desc := "(IB)I", sig := { parameters := [.int, .byte], returnType := some .int }, accessFlags := 0, code := some k6c0 }
/-- com/example/assaywire/assaywire/protocol/AstmChecksum -/
def k6 : Class := { plain "com/example/assaywire/assaywire/protocol/AstmChecksum" (some 5) with
  accessFlags := 16433
  interfaces := #[]
  cf := some (fileOf pool6 1 #[] #[{ accessFlags := 0, nameIndex := 43, descriptorIndex := 44, attributes := #[] }] 16433 20 #[] #[{ accessFlags := 16409, nameIndex := 5, descriptorIndex := 6, attributes := #[] }, { accessFlags := 16409, nameIndex := 9, descriptorIndex := 6, attributes := #[] }, { accessFlags := 4122, nameIndex := 12, descriptorIndex := 13, attributes := #[] }])
  fields := #[{ name := "STANDARD", type := (.object "com/example/assaywire/assaywire/protocol/AstmChecksum"), accessFlags := 16409, slot := 0, constantValue := 0 }, { name := "WITHOUT_END", type := (.object "com/example/assaywire/assaywire/protocol/AstmChecksum"), accessFlags := 16409, slot := 1, constantValue := 0 }, { name := "$VALUES", type := (.array (.object "com/example/assaywire/assaywire/protocol/AstmChecksum")), accessFlags := 4122, slot := 2, constantValue := 0 }]
  methods := #[k6m0]
  instanceTypes := #[(.object "java/lang/String"), .int, .int]
  staticTypes := #[(.object "com/example/assaywire/assaywire/protocol/AstmChecksum"), (.object "com/example/assaywire/assaywire/protocol/AstmChecksum"), (.array (.object "com/example/assaywire/assaywire/protocol/AstmChecksum"))]
  resolved := Array.replicate 50 none
  statics := some 0 }

def pool7 : Array CpInfo := pool [(1, u "java/lang/Cloneable"), (0, .class_ 1), (0, u "java/lang/Object"), (0, .class_ 3)] 3

/-- java/lang/Cloneable -/
def k7 : Class := { plain "java/lang/Cloneable" (some 0) with
  accessFlags := 1537
  interfaces := #[]
  cf := some (fileOf pool7 2 #[] #[] 1537 4 #[] #[])
  fields := #[]
  methods := #[]
  instanceTypes := #[]
  staticTypes := #[]
  resolved := Array.replicate 8 none
  statics := none }

/-- the primitive byte -/
def k8 : Class := { plain "byte" none with kind := .primitive 'B', accessFlags := 0x411 }
/-- [B -/
def k9 : Class := { plain "[B" (some 0) with kind := .array 8 .byte, interfaces := #[7, 4], accessFlags := 1041 }

/-- the primitive int -/
def k10 : Class := { plain "int" none with kind := .primitive 'I', accessFlags := 0x411 }
/-- [I -/
def k11 : Class := { plain "[I" (some 0) with kind := .array 10 .int, interfaces := #[7, 4], accessFlags := 1041 }

def heap : Heap := #[{ cls := 6, slots := #[.ref 1, .ref 2, .null], vm := .statics 6 },
  { cls := 6, slots := #[.null, .int 0, .int 0], vm := .none },
  { cls := 6, slots := #[.null, .int 1, .int 0], vm := .none }]
def classes : Array Class := #[k0, k1, k2, k3, k4, k5, k6, k7, k8, k9, k10, k11]
def interned : List (Array UInt16 × Addr) := []
def slotsUsed : Nat := 9
def theMethod : MethodId := ⟨1, 2⟩
def args0 : Array Value := #[.int 7, .int 7, .int 7]
def aboutOver (below : List Frame) : State where
  vm := { classes := classes, interned := interned.toArray }
  heap := heap
  slotsUsed := slotsUsed
  threads := #[{ frames := .invoking theMethod args0 :: below }]
def below0 : List Frame := [.native { method := ⟨0, 0⟩, args := #[] }]
def about1 : State := aboutOver below0
def p0 : Program := .bare "" "" ""
def e0 : Env := launch0.env 0 0 0
theorem w_frames : about1.frames = Frame.invoking theMethod args0 :: below0 := rfl
set_option maxRecDepth 65536 in
theorem w_args : argsFit about1.vm theMethod args0 = true := by decide +kernel
set_option maxRecDepth 65536 in
theorem w_heap : heapFits about1 = true := by decide +kernel
set_option maxRecDepth 65536 in
theorem w_runnable : about1.curStatus? = some .runnable := by decide +kernel
set_option maxRecDepth 65536 in
theorem w_alone : about1.alone = true := by decide +kernel
set_option maxRecDepth 65536 in
theorem w_named : about1.methodNamed? x = some theMethod := by decide +kernel
set_option maxRecDepth 65536 in
theorem w_hears : about1.hears theMethod below0 = true := by decide +kernel
set_option maxRecDepth 65536 in
theorem w_ripe : about1.ripe theMethod args0 below0 = true := by decide +kernel
theorem w_running : about1.status = .running := rfl
set_option maxRecDepth 65536 in
theorem w_room : about1.hasRoom e0.platform room_1 = true :=
  launch0.hasRoom_least _ room_1 (by decide +kernel) (by decide +kernel) (by decide +kernel) (by decide +kernel) (by decide +kernel) (by decide +kernel)
theorem allAtoms_all (ts : List Jvm.Cond) (a : Array Jvm.Value) (st : Jvm.State) : (allAtoms ts).before a st = ts.all (fun c => c.before a st) := by
  induction ts with
  | nil => rfl
  | cons c t ih =>
    show (Jvm.Cond.and c (allAtoms t)).before a st = _
    rw [Jvm.Cond.before_and, ih, List.all_cons]
def words1 : List Jvm.Cond := Jvm.Cond.code x code maxLocals ret :: tables_1
/-- a 'code' word, met by the world's own term for the bytes: nothing is compared byte by byte -/
theorem code_word {y : MethodName} {bytes : ByteArray} {mx : Nat} {rt : Option FieldType} {a : Array Value} {s : State} {m : MethodId} {meth : Method} {c : Code} (h1 : s.methodNamed? y = some m) (h2 : s.vm.method? m = some meth) (h3 : meth.code = some c) (h4 : c.code = bytes)
    (h5 : (c.maxLocals == mx && c.exceptionTable.isEmpty && decide (c.maxStack ≤ mostOperands) && decide (meth.sig.returnType = rt) && !meth.locks && decide (parseMethodDescriptor y.desc = some meth.sig)) = true) : (Jvm.Cond.code y bytes mx rt).before a s = true := by
  simp only [Bool.and_eq_true, beq_iff_eq, Bool.not_eq_true', decide_eq_true_eq] at h5
  obtain ⟨⟨⟨⟨⟨g1, g2⟩, g3⟩, g4⟩, g5⟩, g6⟩ := h5
  simp [Cond.before, Cond.holds, Cond.value, h1, h2, h3, h4, g1, g2, g3, g4, g5, g6]
def isCode : Jvm.Cond → Bool
  | .code _ _ _ _ => true
  | _ => false
theorem all_split {L : List Jvm.Cond} {P : Jvm.Cond → Bool} (h1 : L.all (fun c => isCode c || P c) = true) (h2 : ∀ c ∈ L.filter isCode, P c = true) : L.all P = true := by
  refine List.all_eq_true.mpr fun c hc => ?_
  have h := List.all_eq_true.mp h1 c hc
  rcases Bool.eq_false_or_eq_true (isCode c) with hi | hi
  · exact h2 c (List.mem_filter.mpr ⟨hc, hi⟩)
  · simpa [hi] using h
set_option maxRecDepth 65536 in
theorem w_c0 : (Jvm.Cond.code x code maxLocals ret).before args0 about1 = true := code_word (m := ⟨1, 2⟩) (meth := k1m2) (c := k1c2) (by decide +kernel) rfl rfl rfl (by decide +kernel)
set_option maxRecDepth 65536 in
theorem w_c1 : (Jvm.Cond.code ({ cls := "com/example/assaywire/assaywire/protocol/AstmChecksum", name := "of", desc := "(IB)I" } : Jvm.MethodName) prog_72_method_4_code (3 : Nat) (Option.some Jvm.ClassFile.FieldType.int)).before args0 about1 = true := code_word (m := ⟨6, 0⟩) (meth := k6m0) (c := k6c0) (by decide +kernel) rfl rfl rfl (by decide +kernel)
set_option maxRecDepth 65536 in
theorem w_c2 : (Jvm.Cond.code ({ cls := "com/example/assaywire/assaywire/protocol/AstmChecksumOfPinLaw", name := "mod256", desc := "(J)I" } : Jvm.MethodName) method_2_code (2 : Nat) (Option.some Jvm.ClassFile.FieldType.int)).before args0 about1 = true := code_word (m := ⟨1, 1⟩) (meth := k1m1) (c := k1c1) (by decide +kernel) rfl rfl rfl (by decide +kernel)
def codes1 : List Jvm.Cond := [Jvm.Cond.code x code maxLocals ret, Jvm.Cond.code ({ cls := "com/example/assaywire/assaywire/protocol/AstmChecksum", name := "of", desc := "(IB)I" } : Jvm.MethodName) prog_72_method_4_code (3 : Nat) (Option.some Jvm.ClassFile.FieldType.int), Jvm.Cond.code ({ cls := "com/example/assaywire/assaywire/protocol/AstmChecksumOfPinLaw", name := "mod256", desc := "(J)I" } : Jvm.MethodName) method_2_code (2 : Nat) (Option.some Jvm.ClassFile.FieldType.int)]
set_option maxRecDepth 65536 in
theorem codes_eq : words1.filter isCode = codes1 := rfl
theorem w_codes : ∀ c ∈ words1.filter isCode, c.before args0 about1 = true := by
  rw [codes_eq]
  intro c hc
  simp only [codes1, List.mem_cons, List.not_mem_nil, or_false] at hc
  rcases hc with rfl | rfl | rfl
  · exact w_c0
  · exact w_c1
  · exact w_c2
set_option maxRecDepth 65536 in
theorem w_t1 : words1.all (fun c => isCode c || c.before args0 about1) = true := by decide +kernel
theorem w_tables : (allAtoms (Jvm.Cond.code x code maxLocals ret :: tables_1)).before args0 about1 = true := by
  rw [allAtoms_all]
  show words1.all (fun c => c.before args0 about1) = true
  refine all_split ?_ w_codes
  rw [w_t1]
set_option maxRecDepth 65536 in
theorem w_case : (Jvm.Cond.and given_1 narrow_1).before args0 about1 = true := by decide +kernel
theorem w_applies : (headSpec (Jvm.Cond.code x code maxLocals ret :: tables_1) room_1).applies x e0.platform about1 = true :=
  (Spec.applies_iff w_frames).mpr ⟨w_running, w_runnable, w_alone, w_named, w_hears, w_ripe, w_room, w_tables⟩
theorem atStart : AtStart classFile x code maxLocals ret World_1 tables_1 room_1 Calls_1 rest_1 Pre_1 launch0 p0 e0 about1 theMethod args0 below0 :=
  ⟨lists_1, trivial, launch0.admits_env _ _ _, launch0.least_env, fairChoices_fair.cas, fairChoices_fair.clock, w_frames, w_args, w_heap, w_applies, trivial, trivial, w_case⟩
end start1
theorem witness_1 : WitnessClaimed_1 := ⟨start1.p0, start1.e0, start1.about1, start1.theMethod, start1.args0, start1.below0, start1.atStart⟩
end Jvm.Pilot.@@N@@
